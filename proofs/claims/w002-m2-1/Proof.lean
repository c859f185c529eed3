import JvmDerived
import JvmDerived.Pilot.@@N@@Statement
import JvmDerived.Pilot.@@N@@Code
set_option linter.unusedVariables false
set_option linter.unusedSimpArgs false
/- laws to paste: Road.lenW, pair_says, shr1, shr0, wide_lo, wide_hi, Road.codOf (cut by pick.py; bodies as the Statement names them) -/
namespace Jvm.Pilot.@@N@@
namespace StrChars
open Jvm Sem ClassFile Op Lib Jvm.Stand Jvm.Free.XT Jvm.Free.ALB Jvm.Free.JM Jvm.Free
open Jvm.Lib.Cold (StaticIs)
/-- a char array whose places are chars -/
def Ch (a : Addr) (A : Cell) (U : State) : Prop := Arr .char a A U ∧ Typed .char A
theorem Ch.mv {a : Addr} {A : Cell} {U U' : State} (h : Ch a A U) (hal : U.vm.Alike U'.vm) (hh : U'.heap = U.heap) : Ch a A U' := ⟨h.1.mv hal hh, h.2⟩
theorem Ch.keep {a : Addr} {A : Cell} {U U' : State} (h : Ch a A U) (hal : U.vm.Alike U'.vm) (hk : U'.heap[a]? = some A) : Ch a A U' := ⟨h.1.keep hal hk, h.2⟩
/-- what place i of a char[]'s cell holds -/
def cv (A : Cell) (i : Nat) : Int32 := match A.slots[i]? with | some (.int x) => x | _ => 0
theorem Ch.get {a : Addr} {A : Cell} {U : State} (h : Ch a A U) {i : Nat} (hi : i < A.slots.size) : A.slots[i]? = some (.int (cv A i)) := by
  have e := Array.getElem?_eq_getElem hi
  have f := h.2 i _ e
  unfold cv; rw [e]
  generalize A.slots[i] = v at f
  cases v <;> simp [fits] at f ⊢
/-- the byte that i2b leaves of a char -/
def lo8 (x : Int32) : Int32 := x.toInt8.toInt32
theorem fits_lo8 (y : Int32) : fits .byte (.int (lo8 y)) = true := by
  have h1 := y.toInt8.le_toInt
  have h2 := y.toInt8.toInt_lt
  simp only [lo8, fits, Bool.and_eq_true, decide_eq_true_eq, Int32.le_iff_toInt_le, Int8.toInt_toInt32, show (-128 : Int32).toInt = -128 from by decide, show (127 : Int32).toInt = 127 from by decide]
  omega
/-- A' is A but that each place j of lo .. hi - 1 holds f j -/
def Laid (A A' : Cell) (lo hi : Nat) (f : Nat → Value) : Prop := A'.cls = A.cls ∧ A'.vm = A.vm ∧ A'.slots.size = A.slots.size ∧ ∀ i, A'.slots[i]? = if lo ≤ i ∧ i < hi then some (f i) else A.slots[i]?
theorem Laid.zero (A : Cell) (lo : Nat) (f : Nat → Value) : Laid A A lo (lo + 0) f := ⟨rfl, rfl, rfl, fun i => by rw [if_neg (by omega)]⟩
theorem Laid.step {A Ak : Cell} {lo k : Nat} {f : Nat → Value} {v : Value} (h : Laid A Ak lo k f) (hlo : lo ≤ k) (hk : k < Ak.slots.size) (hv : v = f k) : Laid A (Ak.setSlot k v) lo (k + 1) f := by
  refine ⟨h.1, h.2.1, by simpa [Cell.setSlot] using h.2.2.1, fun i => ?_⟩
  by_cases e : k = i
  · subst e; rw [Cell.slots_setSlot_self v hk, if_pos (by omega), hv]
  · rw [Cell.slots_setSlot_ne v e, h.2.2.2 i]
    by_cases q : lo ≤ i ∧ i < k
    · rw [if_pos q, if_pos (by omega)]
    · rw [if_neg q, if_neg (by omega)]
def U16 : String := "java/lang/StringUTF16"
namespace Cmp5
def yN : MethodName := ⟨"java/lang/StringUTF16", "compress", "([CI[BII)I"⟩
abbrev yB : ByteArray := jdk_52_method_21_code
theorem d0 : decode yB 0 = .ok (.iconst 0, 1) := by decide +kernel
theorem d1 : decode yB 1 = .ok (.istore 5, 2) := by decide +kernel
theorem d3 : decode yB 3 = .ok (.iload 5, 2) := by decide +kernel
theorem d5 : decode yB 5 = .ok (.iload 4, 2) := by decide +kernel
theorem d7 : decode yB 7 = .ok (.if_icmp (.ge) 37, 3) := by decide +kernel
theorem d10 : decode yB 10 = .ok (.aload_n 0, 1) := by decide +kernel
theorem d11 : decode yB 11 = .ok (.iload_n 1, 1) := by decide +kernel
theorem d12 : decode yB 12 = .ok (.caload, 1) := by decide +kernel
theorem d13 : decode yB 13 = .ok (.istore 6, 2) := by decide +kernel
theorem d15 : decode yB 15 = .ok (.iload 6, 2) := by decide +kernel
theorem d17 : decode yB 17 = .ok (.sipush 255, 3) := by decide +kernel
theorem d20 : decode yB 20 = .ok (.if_icmp (.le) 6, 3) := by decide +kernel
theorem d26 : decode yB 26 = .ok (.aload_n 2, 1) := by decide +kernel
theorem d27 : decode yB 27 = .ok (.iload_n 3, 1) := by decide +kernel
theorem d28 : decode yB 28 = .ok (.iload 6, 2) := by decide +kernel
theorem d30 : decode yB 30 = .ok (.i2b, 1) := by decide +kernel
theorem d31 : decode yB 31 = .ok (.bastore, 1) := by decide +kernel
theorem d32 : decode yB 32 = .ok (.iinc 1 1, 3) := by decide +kernel
theorem d35 : decode yB 35 = .ok (.iinc 3 1, 3) := by decide +kernel
theorem d38 : decode yB 38 = .ok (.iinc 5 1, 3) := by decide +kernel
theorem d41 : decode yB 41 = .ok (.goto (-38), 3) := by decide +kernel
theorem d44 : decode yB 44 = .ok (.iload 4, 2) := by decide +kernel
theorem d46 : decode yB 46 = .ok (.ireturn, 1) := by decide +kernel
def site : List Cond := []
def tab : Cond := tabOf yN yB 7 (some .int) site
def P (b : Addr) (A : Cell) (d : Addr) (B : Cell) (o q len : Nat) (args : Array Value) (s : State) : Prop := args = #[.ref b, .int (Int32.ofNat o), .ref d, .int (Int32.ofNat q), .int (Int32.ofNat len)] ∧ Ch b A s ∧ Arr .byte d B s ∧ b ≠ d ∧ o + len ≤ A.slots.size ∧ q + len ≤ B.slots.size ∧ ∀ i, i < len → ¬ 255 < cv A (o + i)
def E (b : Addr) (A : Cell) (d : Addr) (B : Cell) (o q len : Nat) (r : Option Value) (s u : State) : Prop := r = some (.int (Int32.ofNat len)) ∧ ∃ B', Put d B' s u ∧ Laid B B' q (q + len) (fun j => Value.int (lo8 (cv A (o + (j - q)))))
/-- no char of the range above 255: len; the places written hold each char's low byte -/
theorem law (l : Launch) (b : Addr) (A : Cell) (d : Addr) (B : Cell) (o q len : Nat) : Law l yN 5 5 0 0 yB 7 (some .int) site (P b A d B o q len) (E b A d B o q len) (copyLocs d q len) 0 0 := by
  refine Law.of_walk (plainFor_of_name (by decide +kernel)) (by decide +kernel) (by decide +kernel) (by decide) (fun _ _ h => by rw [h.1]; rfl) (fun _ U U' hal hh h => ⟨h.1, h.2.1.mv hal hh, h.2.2.1.mv hal hh, h.2.2.2⟩) (fun r U U' V V' h1 hal h2 h => ⟨h.1, h.2.elim fun B' q => ⟨B', q.1.mv h1 h2, q.2⟩⟩) ?_
  intro p e s m args below meth c s₁ X0 hexec hbytes hml hret hlk hnm hown hh0 W hP
  obtain ⟨rfl, hA, hB, hne, l1, l2, hp⟩ := hP
  have c1 : Steps p.tables e below (s₁.setTop (entryFrame m #[.ref b, .int (Int32.ofNat o), .ref d, .int (Int32.ofNat q), .int (Int32.ofNat len)] 7)) (s₁.setTop (mkF m 0 #[.val (.ref b), .val (.int (Int32.ofNat o)), .val (.ref d), .val (.int (Int32.ofNat q)), .val (.int (Int32.ofNat len)), .unset, .unset] [])) := entry rfl
  have hA0 := hA.1.mv X0.warmed.alike hh0
  have hB0 := hB.mv X0.warmed.alike hh0
  have a31 := hA.1.2.2.2
  have c2 : Steps p.tables e below (s₁.setTop (entryFrame m #[.ref b, .int (Int32.ofNat o), .ref d, .int (Int32.ofNat q), .int (Int32.ofNat len)] 7)) (s₁.setTop (mkF m 3 #[.val (.ref b), .val (.int (Int32.ofNat o)), .val (.ref d), .val (.int (Int32.ofNat q)), .val (.int (Int32.ofNat len)), .val (.int 0), .unset] [])) := c1.trans (by
    refine iconstV X0.here hexec rfl 0 (hb hbytes d0) (by decide) ?_
    refine XS.istore X0.here hexec rfl (hb hbytes d1) rfl rfl ?_
    exact Steps.refl _)
  have loop : ∀ (r i : Nat), i + r = len → ∀ (z : Slot), (z = .unset ∨ ∃ w, z = .val w ∧ w.category = 1) → ∀ (Tl : State) (Bk : Cell), Stand p l e { frames := 0, locals := 0, cells := 0, slots := 0 } s m #[.ref b, .int (Int32.ofNat o), .ref d, .int (Int32.ofNat q), .int (Int32.ofNat len)] below meth c Tl ([] ++ copyLocs d q i) 0 0 → Put d Bk s₁ Tl → Laid B Bk q (q + i) (fun j => Value.int (lo8 (cv A (o + (j - q))))) →
      Steps p.tables e below (s₁.setTop (entryFrame m #[.ref b, .int (Int32.ofNat o), .ref d, .int (Int32.ofNat q), .int (Int32.ofNat len)] 7)) (Tl.setTop (mkF m 3 #[.val (.ref b), .val (.int (Int32.ofNat (o + i))), .val (.ref d), .val (.int (Int32.ofNat (q + i))), .val (.int (Int32.ofNat len)), .val (.int (Int32.ofNat i)), z] [])) → ∃ (T' : State) (B' : Cell) (z' : Slot), Stand p l e { frames := 0, locals := 0, cells := 0, slots := 0 } s m #[.ref b, .int (Int32.ofNat o), .ref d, .int (Int32.ofNat q), .int (Int32.ofNat len)] below meth c T' ([] ++ copyLocs d q len) 0 0 ∧ Put d B' s₁ T' ∧ Laid B B' q (q + len) (fun j => Value.int (lo8 (cv A (o + (j - q))))) ∧
      Steps p.tables e below (s₁.setTop (entryFrame m #[.ref b, .int (Int32.ofNat o), .ref d, .int (Int32.ofNat q), .int (Int32.ofNat len)] 7)) (T'.setTop (mkF m 3 #[.val (.ref b), .val (.int (Int32.ofNat (o + len))), .val (.ref d), .val (.int (Int32.ofNat (q + len))), .val (.int (Int32.ofNat len)), .val (.int (Int32.ofNat len)), z'] [])) := by
    intro r
    induction r with
    | zero =>
      intro i hi z hz Tl Bk Xl pl fl cl
      have hil : i = len := by omega
      rw [hil] at Xl fl cl
      exact ⟨Tl, Bk, z, Xl, pl, fl, cl⟩
    | succ r ih =>
      intro i hi z hz Tl Bk Xl pl fl cl
      have all := X0.warmed.alike.symm.trans Xl.warmed.alike
      have hAl := hA0.keep all (pl.other hne hA0.1)
      have hBk := hB0.like all pl.1 fl.1 fl.2.1 fl.2.2.1
      have hlt : q + i < Bk.slots.size := by rw [fl.2.2.1]; omega
      have c3 : Steps p.tables e below (s₁.setTop (entryFrame m #[.ref b, .int (Int32.ofNat o), .ref d, .int (Int32.ofNat q), .int (Int32.ofNat len)] 7)) (Tl.setTop (mkF m 12 #[.val (.ref b), .val (.int (Int32.ofNat (o + i))), .val (.ref d), .val (.int (Int32.ofNat (q + i))), .val (.int (Int32.ofNat len)), .val (.int (Int32.ofNat i)), z] [.int (Int32.ofNat (o + i)), .ref b])) := cl.trans (by
        refine XS.iload Xl.here hexec rfl (hb hbytes d3) rfl ?_
        refine XS.iload Xl.here hexec rfl (hb hbytes d5) rfl ?_
        refine XS.icmpNo Xl.here hexec rfl (hb hbytes d7) rfl (ii_ge_f (lt32 (by omega) (by omega))) ?_
        refine XS.aloadN Xl.here hexec rfl (hb hbytes d10) rfl rfl ?_
        refine XS.iloadN Xl.here hexec rfl (hb hbytes d11) rfl ?_
        exact Steps.refl _)
      have c4 : Steps p.tables e below (s₁.setTop (entryFrame m #[.ref b, .int (Int32.ofNat o), .ref d, .int (Int32.ofNat q), .int (Int32.ofNat len)] 7)) (Tl.setTop (mkF m 13 #[.val (.ref b), .val (.int (Int32.ofNat (o + i))), .val (.ref d), .val (.int (Int32.ofNat (q + i))), .val (.int (Int32.ofNat len)), .val (.int (Int32.ofNat i)), z] [.int (cv A (o + i))])) := c3.trans (by
        refine Xl.aget hexec hAl rfl (hA.get (i := o + i) (by omega)) rfl rfl (hb hbytes d12) ?_
        exact Steps.refl _)
      have c5 : Steps p.tables e below (s₁.setTop (entryFrame m #[.ref b, .int (Int32.ofNat o), .ref d, .int (Int32.ofNat q), .int (Int32.ofNat len)] 7)) (Tl.setTop (mkF m 15 #[.val (.ref b), .val (.int (Int32.ofNat (o + i))), .val (.ref d), .val (.int (Int32.ofNat (q + i))), .val (.int (Int32.ofNat len)), .val (.int (Int32.ofNat i)), .val (.int (cv A (o + i)))] [])) := c4.trans (by
        refine XS.istoreS Xl.here hexec rfl (hb hbytes d13) rfl rfl hz ?_
        exact Steps.refl _)
      have c6 : Steps p.tables e below (s₁.setTop (entryFrame m #[.ref b, .int (Int32.ofNat o), .ref d, .int (Int32.ofNat q), .int (Int32.ofNat len)] 7)) (Tl.setTop (mkF m 31 #[.val (.ref b), .val (.int (Int32.ofNat (o + i))), .val (.ref d), .val (.int (Int32.ofNat (q + i))), .val (.int (Int32.ofNat len)), .val (.int (Int32.ofNat i)), .val (.int (cv A (o + i)))] [.int (lo8 (cv A (o + i))), .int (Int32.ofNat (q + i)), .ref d])) := c5.trans (by
        refine XS.iload Xl.here hexec rfl (hb hbytes d15) rfl ?_
        refine sipushV Xl.here hexec rfl 255 (hb hbytes d17) (by decide) ?_
        refine XS.icmpYes Xl.here hexec rfl (pc0 := 20) rfl (hb hbytes d20) rfl (ii_le_t (hp i (by omega))) (by decide) rfl ?_
        refine XS.aloadN Xl.here hexec rfl (hb hbytes d26) rfl rfl ?_
        refine XS.iloadN Xl.here hexec rfl (hb hbytes d27) rfl ?_
        refine XS.iload Xl.here hexec rfl (hb hbytes d28) rfl ?_
        refine i2b Xl.here hexec rfl (hb hbytes d30) rfl ?_
        exact Steps.refl _)
      obtain ⟨T7, X7, p7, st7⟩ := Xl.aput hexec hBk rfl hlt rfl (fits_lo8 (cv A (o + i))) (g := (mkF m 31 #[.val (.ref b), .val (.int (Int32.ofNat (o + i))), .val (.ref d), .val (.int (Int32.ofNat (q + i))), .val (.int (Int32.ofNat len)), .val (.int (Int32.ofNat i)), .val (.int (cv A (o + i)))] [.int (lo8 (cv A (o + i))), .int (Int32.ofNat (q + i)), .ref d])) rfl (rest := []) rfl (hb hbytes d31)
      have c8 : Steps p.tables e below (s₁.setTop (entryFrame m #[.ref b, .int (Int32.ofNat o), .ref d, .int (Int32.ofNat q), .int (Int32.ofNat len)] 7)) (T7.setTop (mkF m 32 #[.val (.ref b), .val (.int (Int32.ofNat (o + i))), .val (.ref d), .val (.int (Int32.ofNat (q + i))), .val (.int (Int32.ofNat len)), .val (.int (Int32.ofNat i)), .val (.int (cv A (o + i)))] [])) := c6.trans (st7 _ (Steps.refl _))
      have c9 : Steps p.tables e below (s₁.setTop (entryFrame m #[.ref b, .int (Int32.ofNat o), .ref d, .int (Int32.ofNat q), .int (Int32.ofNat len)] 7)) (T7.setTop (mkF m 3 #[.val (.ref b), .val (.int (Int32.ofNat (o + i) + 1)), .val (.ref d), .val (.int (Int32.ofNat (q + i) + 1)), .val (.int (Int32.ofNat len)), .val (.int (Int32.ofNat i + 1)), .val (.int (cv A (o + i)))] [])) := c8.trans (by
        refine iincV X7.here hexec rfl 1 (hb hbytes d32) (by decide) rfl rfl ?_
        refine iincV X7.here hexec rfl 1 (hb hbytes d35) (by decide) rfl rfl ?_
        refine iincV X7.here hexec rfl 1 (hb hbytes d38) (by decide) rfl rfl ?_
        refine XS.goto X7.here hexec rfl (pc0 := 41) rfl (hb hbytes d41) (by decide) rfl ?_
        exact Steps.refl _)
      have c10 : Steps p.tables e below (s₁.setTop (entryFrame m #[.ref b, .int (Int32.ofNat o), .ref d, .int (Int32.ofNat q), .int (Int32.ofNat len)] 7)) (T7.setTop (mkF m 3 #[.val (.ref b), .val (.int (Int32.ofNat (o + (i + 1)))), .val (.ref d), .val (.int (Int32.ofNat (q + (i + 1)))), .val (.int (Int32.ofNat len)), .val (.int (Int32.ofNat (i + 1))), .val (.int (cv A (o + i)))] [])) := by
        have := c9
        rw [succ32, succ32, succ32] at this
        exact this
      exact ih (i + 1) (by omega) _ (Or.inr ⟨_, rfl, rfl⟩) T7 _ (by rw [copyLocs_step, ← List.append_assoc]; exact X7) (pl.trans p7) (fl.step (by omega) hlt (by simp)) c10
  obtain ⟨T9, B9, z9, X9, p9, f9, g9⟩ := loop len 0 (by omega) .unset (Or.inl rfl) s₁ B (by simpa [copyLocs] using X0) ⟨hB0.1, fun _ _ => rfl, rfl⟩ (Laid.zero _ _ _) c2
  have c11 : Steps p.tables e below (s₁.setTop (entryFrame m #[.ref b, .int (Int32.ofNat o), .ref d, .int (Int32.ofNat q), .int (Int32.ofNat len)] 7)) (T9.setTop (mkF m 46 #[.val (.ref b), .val (.int (Int32.ofNat (o + len))), .val (.ref d), .val (.int (Int32.ofNat (q + len))), .val (.int (Int32.ofNat len)), .val (.int (Int32.ofNat len)), z9] [.int (Int32.ofNat len)])) := g9.trans (by
    refine XS.iload X9.here hexec rfl (hb hbytes d3) rfl ?_
    refine XS.iload X9.here hexec rfl (hb hbytes d5) rfl ?_
    refine XS.icmpYes X9.here hexec rfl (pc0 := 7) rfl (hb hbytes d7) rfl (ii_ge_t (nlt32 (by omega) (Nat.le_refl _))) (by decide) rfl ?_
    refine XS.iload X9.here hexec rfl (hb hbytes d44) rfl ?_
    exact Steps.refl _)
  exact ⟨T9, some (.int (Int32.ofNat len)), _, _, _, X9, by simp, rfl, rfl, (fun h => by cases h), ⟨rfl, B9, p9.from hh0, f9⟩, fun fs hl => c11.trans (X9.ireturnOut hexec hret rfl (Or.inl rfl) (hb hbytes d46) hl)⟩
end Cmp5
namespace Cmp3
def yN : MethodName := ⟨"java/lang/StringUTF16", "compress", "([CII)[B"⟩
abbrev yB : ByteArray := jdk_52_method_16_code
theorem d0 : decode yB 0 = .ok (.iload_n 2, 1) := by decide +kernel
theorem d1 : decode yB 1 = .ok (.newarray .byte, 2) := by decide +kernel
theorem d3 : decode yB 3 = .ok (.astore_n 3, 1) := by decide +kernel
theorem d4 : decode yB 4 = .ok (.aload_n 0, 1) := by decide +kernel
theorem d5 : decode yB 5 = .ok (.iload_n 1, 1) := by decide +kernel
theorem d6 : decode yB 6 = .ok (.aload_n 3, 1) := by decide +kernel
theorem d7 : decode yB 7 = .ok (.iconst 0, 1) := by decide +kernel
theorem d8 : decode yB 8 = .ok (.iload_n 2, 1) := by decide +kernel
theorem d9 : decode yB 9 = .ok (.invokestatic 115, 3) := by decide +kernel
theorem d12 : decode yB 12 = .ok (.istore 4, 2) := by decide +kernel
theorem d14 : decode yB 14 = .ok (.iload 4, 2) := by decide +kernel
theorem d16 : decode yB 16 = .ok (.iload_n 2, 1) := by decide +kernel
theorem d17 : decode yB 17 = .ok (.if_icmp (.eq) 40, 3) := by decide +kernel
theorem d57 : decode yB 57 = .ok (.aload_n 3, 1) := by decide +kernel
theorem d58 : decode yB 58 = .ok (.areturn, 1) := by decide +kernel
def site : List Cond := [.arrayClass .byte, Cmp5.tab] ++ staticW U16 115 Cmp5.yN
def tab : Cond := tabOf yN yB 6 (some (.array .byte)) site
def P (b : Addr) (A : Cell) (o len : Nat) (args : Array Value) (s : State) : Prop := args = #[.ref b, .int (Int32.ofNat o), .int (Int32.ofNat len)] ∧ Ch b A s ∧ o + len ≤ A.slots.size ∧ len ≤ 536870912 ∧ ∀ i, i < len → ¬ 255 < cv A (o + i)
def E (b : Addr) (A : Cell) (o len : Nat) (r : Option Value) (s u : State) : Prop := NewArr .byte "[B" len (fun j => .int (lo8 (cv A (o + j)))) r s u ∧ u.heap.size = s.heap.size + 1
/-- no char of the range above 255: a new byte[] of their low bytes -/
theorem law (l : Launch) (b : Addr) (A : Cell) (o len : Nat) : Law l yN 3 3 1 18 yB 6 (some (.array .byte)) site (P b A o len) (E b A o len) [] 1 len := by
  refine Law.of_walk (plainFor_of_name (by decide +kernel)) (by decide +kernel) (by decide +kernel) (by decide) (fun _ _ h => by rw [h.1]; rfl) (fun _ U U' hal hh h => ⟨h.1, h.2.1.mv hal hh, h.2.2⟩) (fun r U U' V V' h1 hal h2 h => ⟨NewArr.mv r U U' V V' h1 hal h2 h.1, by rw [h1, h2]; exact h.2⟩) ?_
  intro p e s m args below meth c s₁ X0 hexec hbytes hml hret hlk hnm hown hh0 W hP
  obtain ⟨rfl, hA, l1, l2, hp⟩ := hP
  have a31 := hA.1.2.2.2
  have c1 : Steps p.tables e below (s₁.setTop (entryFrame m #[.ref b, .int (Int32.ofNat o), .int (Int32.ofNat len)] 6)) (s₁.setTop (mkF m 0 #[.val (.ref b), .val (.int (Int32.ofNat o)), .val (.int (Int32.ofNat len)), .unset, .unset, .unset] [])) := entry rfl
  have c2 : Steps p.tables e below (s₁.setTop (entryFrame m #[.ref b, .int (Int32.ofNat o), .int (Int32.ofNat len)] 6)) (s₁.setTop (mkF m 1 #[.val (.ref b), .val (.int (Int32.ofNat o)), .val (.int (Int32.ofNat len)), .unset, .unset, .unset] [.int (Int32.ofNat len)])) := c1.trans (by
    refine XS.iloadN X0.here hexec rfl (hb hbytes d0) rfl ?_
    exact Steps.refl _)
  obtain ⟨T3, B3, X3, ba3, bs3, bv3, bh3, bf3, st3⟩ := X0.anew hexec (atype := .byte) (wk W (.arrayClass .byte)) rfl (by show len * 1 ≤ _; omega) (by omega) (g := (mkF m 1 #[.val (.ref b), .val (.int (Int32.ofNat o)), .val (.int (Int32.ofNat len)), .unset, .unset, .unset] [.int (Int32.ofNat len)])) rfl (hb hbytes d1) (rest := []) rfl (Nat.le_refl _) (by show 0 + len ≤ len; omega)
  rw [hh0] at ba3 st3
  have kp3 : XT.Kept s T3 := (XT.Kept.of_eq hh0).push bh3
  have hA3 := hA.keep X3.warmed.alike (kp3 _ _ hA.1.1)
  have hne : b ≠ s.heap.size := hA.1.ne
  have c4 : Steps p.tables e below (s₁.setTop (entryFrame m #[.ref b, .int (Int32.ofNat o), .int (Int32.ofNat len)] 6)) (T3.setTop (mkF m 3 #[.val (.ref b), .val (.int (Int32.ofNat o)), .val (.int (Int32.ofNat len)), .unset, .unset, .unset] [.ref s.heap.size])) := c2.trans (st3 _ (Steps.refl _))
  have c5 : Steps p.tables e below (s₁.setTop (entryFrame m #[.ref b, .int (Int32.ofNat o), .int (Int32.ofNat len)] 6)) (T3.setTop (mkF m 9 #[.val (.ref b), .val (.int (Int32.ofNat o)), .val (.int (Int32.ofNat len)), .val (.ref s.heap.size), .unset, .unset] [.int (Int32.ofNat len), .int 0, .ref s.heap.size, .int (Int32.ofNat o), .ref b])) := c4.trans (by
    refine XS.astoreN X3.here hexec rfl (hb hbytes d3) rfl rfl rfl ?_
    refine XS.aloadN X3.here hexec rfl (hb hbytes d4) rfl rfl ?_
    refine XS.iloadN X3.here hexec rfl (hb hbytes d5) rfl ?_
    refine XS.aloadN X3.here hexec rfl (hb hbytes d6) rfl rfl ?_
    refine iconstV X3.here hexec rfl 0 (hb hbytes d7) (by decide) ?_
    refine XS.iloadN X3.here hexec rfl (hb hbytes d8) rfl ?_
    exact Steps.refl _)
  obtain ⟨v6, T6, X6, E6, g6⟩ := X3.callS hexec (Cmp5.law l b A s.heap.size B3 o 0 len) hown (wks W (staticW U16 115 Cmp5.yN)) (wk W Cmp5.tab) (W := 0) (Nat.le_of_ble_eq_true rfl) (Nat.le_of_ble_eq_true rfl) (Nat.le_refl _) (by show 0 + len + 0 ≤ len; omega) (g := (mkF m 9 #[.val (.ref b), .val (.int (Int32.ofNat o)), .val (.int (Int32.ofNat len)), .val (.ref s.heap.size), .unset, .unset] [.int (Int32.ofNat len), .int (Int32.ofNat 0), .ref s.heap.size, .int (Int32.ofNat o), .ref b])) rfl (by rw [hml]; rfl) c5 (argsL := [.ref b, .int (Int32.ofNat o), .ref s.heap.size, .int (Int32.ofNat 0), .int (Int32.ofNat len)]) (rest := []) rfl rfl (by show 2 * 0 + 0 ≤ _; decide) (hb hbytes d9) (⟨rfl, hA3, ba3, hne, l1, by rw [bs3]; simp, hp⟩)
  obtain ⟨rfl, B6, p6, f6⟩ := E6
  have c7 : Steps p.tables e below (s₁.setTop (entryFrame m #[.ref b, .int (Int32.ofNat o), .int (Int32.ofNat len)] 6)) (T6.setTop (mkF m 12 #[.val (.ref b), .val (.int (Int32.ofNat o)), .val (.int (Int32.ofNat len)), .val (.ref s.heap.size), .unset, .unset] [.int (Int32.ofNat len)])) := g6
  have c8 : Steps p.tables e below (s₁.setTop (entryFrame m #[.ref b, .int (Int32.ofNat o), .int (Int32.ofNat len)] 6)) (T6.setTop (mkF m 58 #[.val (.ref b), .val (.int (Int32.ofNat o)), .val (.int (Int32.ofNat len)), .val (.ref s.heap.size), .val (.int (Int32.ofNat len)), .unset] [.ref s.heap.size])) := c7.trans (by
    refine XS.istore X6.here hexec rfl (hb hbytes d12) rfl rfl ?_
    refine XS.iload X6.here hexec rfl (hb hbytes d14) rfl ?_
    refine XS.iloadN X6.here hexec rfl (hb hbytes d16) rfl ?_
    refine XS.icmpYes X6.here hexec rfl (pc0 := 17) rfl (hb hbytes d17) rfl (ii_eq_t rfl) (by decide) rfl ?_
    refine XS.aloadN X6.here hexec rfl (hb hbytes d57) rfl rfl ?_
    exact Steps.refl _)
  have X8 := X6.wide (L' := []) (cells' := 1) (slots' := len) (fun x hx hlt => by
    simp only [List.nil_append, copyLocs, List.mem_map, List.mem_range] at hx
    obtain ⟨i, -, rfl⟩ := hx
    exact absurd hlt (Nat.lt_irrefl _)) (Nat.le_refl _) (by omega)
  exact ⟨T6, some (.ref s.heap.size), _, _, _, X8, rfl, rfl, rfl, (fun h => by cases h), ⟨⟨rfl, B6, ba3.like (X3.warmed.alike.symm.trans X6.warmed.alike) p6.1 f6.1 f6.2.1 f6.2.2.1, f6.2.1.trans bv3, by rw [X6.warmed.alike.findClass, f6.1]; exact bf3, by rw [f6.2.2.1, bs3]; simp, fun j hj => by rw [f6.2.2.2 j, if_pos (by omega)]; rfl, kp3.put p6 (Nat.le_refl _)⟩, by rw [p6.2.2, bh3, hh0]; simp⟩, fun fs hl => c8.trans (X8.areturnOut hexec rfl hret rfl (hb hbytes d58) hl)⟩
end Cmp3
namespace CodL
def yN : MethodName := ⟨"java/lang/StringUTF16", "coderFromArrayLen", "([BI)B"⟩
abbrev yB : ByteArray := jdk_52_method_15_code
theorem d0 : decode yB 0 = .ok (.iload_n 1, 1) := by decide +kernel
theorem d1 : decode yB 1 = .ok (.aload_n 0, 1) := by decide +kernel
theorem d2 : decode yB 2 = .ok (.arraylength, 1) := by decide +kernel
theorem d3 : decode yB 3 = .ok (.isub, 1) := by decide +kernel
theorem d4 : decode yB 4 = .ok (.bipush 31, 2) := by decide +kernel
theorem d6 : decode yB 6 = .ok (.iushr, 1) := by decide +kernel
theorem d7 : decode yB 7 = .ok (.i2b, 1) := by decide +kernel
theorem d8 : decode yB 8 = .ok (.ireturn, 1) := by decide +kernel
def site : List Cond := []
def tab : Cond := tabOf yN yB 2 (some .byte) site
def P (d : Addr) (B : Cell) (args : Array Value) (s : State) : Prop := args = #[.ref d, .int (Int32.ofNat B.slots.size)] ∧ Arr .byte d B s
def E (r : Option Value) (s u : State) : Prop := XT.PureE (some (.int 0)) r s u
/-- an array as long as the number of chars: LATIN1 -/
theorem law (l : Launch) (d : Addr) (B : Cell) : Law l yN 2 2 0 0 yB 2 (some .byte) site (P d B) E [] 0 0 := by
  refine Law.of_walk (plainFor_of_name (by decide +kernel)) (by decide +kernel) (by decide +kernel) (by decide) (fun _ _ h => by rw [h.1]; rfl) (fun _ U U' hal hh h => ⟨h.1, h.2.mv hal hh⟩) (fun r U U' V V' h1 hal h2 h => XT.PureE.mv r U U' V V' h1 hal h2 h) ?_
  intro p e s m args below meth c s₁ X0 hexec hbytes hml hret hlk hnm hown hh0 W hP
  obtain ⟨rfl, hB⟩ := hP
  have hB0 := hB.mv X0.warmed.alike hh0
  have c1 : Steps p.tables e below (s₁.setTop (entryFrame m #[.ref d, .int (Int32.ofNat B.slots.size)] 2)) (s₁.setTop (mkF m 0 #[.val (.ref d), .val (.int (Int32.ofNat B.slots.size))] [])) := entry rfl
  have c2 : Steps p.tables e below (s₁.setTop (entryFrame m #[.ref d, .int (Int32.ofNat B.slots.size)] 2)) (s₁.setTop (mkF m 2 #[.val (.ref d), .val (.int (Int32.ofNat B.slots.size))] [.ref d, .int (Int32.ofNat B.slots.size)])) := c1.trans (by
    refine XS.iloadN X0.here hexec rfl (hb hbytes d0) rfl ?_
    refine XS.aloadN X0.here hexec rfl (hb hbytes d1) rfl rfl ?_
    exact Steps.refl _)
  have c3 : Steps p.tables e below (s₁.setTop (entryFrame m #[.ref d, .int (Int32.ofNat B.slots.size)] 2)) (s₁.setTop (mkF m 8 #[.val (.ref d), .val (.int (Int32.ofNat B.slots.size))] [.int (lo8 (ushr (Int32.ofNat B.slots.size - Int32.ofNat B.slots.size) 31))])) := c2.trans (by
    refine X0.alen hexec hB0 rfl rfl (hb hbytes d2) ?_
    refine XS.isub X0.here hexec rfl (hb hbytes d3) rfl ?_
    refine bipushV X0.here hexec rfl 31 (hb hbytes d4) (by decide) ?_
    refine iushr X0.here hexec rfl (hb hbytes d6) rfl ?_
    refine i2b X0.here hexec rfl (hb hbytes d7) rfl ?_
    exact Steps.refl _)
  have e0 : lo8 (ushr (Int32.ofNat B.slots.size - Int32.ofNat B.slots.size) 31) = 0 := by rw [Int32.sub_self]; decide
  rw [e0] at c3
  exact ⟨s₁, some (.int 0), _, _, _, X0, rfl, rfl, rfl, (fun h => by cases h), ⟨rfl, hh0⟩, fun fs hl => c3.trans (X0.ireturnOut hexec hret rfl (Or.inr (Or.inr (Or.inl rfl))) (hb hbytes d8) hl)⟩
end CodL
/-- the String at a is Latin-1 over a new byte[] (the heap's one new cell): the low bytes of the len chars of A from o on; every cell but a is kept -/
def Got (a : Addr) (D : Cell) (fV fC : Field) (A : Cell) (o len : Nat) (r : Option Value) (s u : State) : Prop := r = none ∧ ∃ D' V : Cell, Blank "java/lang/String" a D' u ∧ Same D D' [fV.slot, fC.slot] ∧ D'.slots[fV.slot]? = some (.ref s.heap.size) ∧ D'.slots[fC.slot]? = some (.int 0) ∧ Arr .byte s.heap.size V u ∧ V.vm = .none ∧ u.vm.findClass "[B" = some V.cls ∧ V.slots.size = len ∧ (∀ j, j < len → V.slots[j]? = some (.int (lo8 (cv A (o + j))))) ∧ (∀ (y : Addr) (c : Cell), y ≠ a → s.heap[y]? = some c → u.heap[y]? = some c) ∧ u.heap.size = s.heap.size + 1
theorem Got.mv {a : Addr} {D A : Cell} {fV fC : Field} {o len : Nat} : ∀ r (U U' V V' : State), U'.heap = U.heap → V.vm.Alike V'.vm → V'.heap = V.heap → Got a D fV fC A o len r U V → Got a D fV fC A o len r U' V' :=
  fun r U U' V V' h1 hal h2 ⟨e0, D', X, a1, a2, a3, a4, a5, a6, a7, a8, a9, a10, a11⟩ => ⟨e0, D', X, a1.mv hal h2, a2, by rw [h1]; exact a3, a4, by rw [h1]; exact a5.mv hal h2, a6, by rw [hal.findClass]; exact a7, a8, a9, by rw [h1, h2]; exact a10, by rw [h1, h2]; exact a11⟩
namespace New4
def yN : MethodName := ⟨"java/lang/String", "<init>", "([CIILjava/lang/Void;)V"⟩
abbrev yB : ByteArray := jdk_42_method_149_code
theorem d0 : decode yB 0 = .ok (.aload_n 0, 1) := by decide +kernel
theorem d1 : decode yB 1 = .ok (.invokespecial 1, 3) := by decide +kernel
theorem d4 : decode yB 4 = .ok (.iload_n 3, 1) := by decide +kernel
theorem d5 : decode yB 5 = .ok (.ifCond (.ne) 22, 3) := by decide +kernel
theorem d27 : decode yB 27 = .ok (.getstatic 38, 3) := by decide +kernel
theorem d30 : decode yB 30 = .ok (.ifCond (.eq) 28, 3) := by decide +kernel
theorem d33 : decode yB 33 = .ok (.aload_n 1, 1) := by decide +kernel
theorem d34 : decode yB 34 = .ok (.iload_n 2, 1) := by decide +kernel
theorem d35 : decode yB 35 = .ok (.iload_n 3, 1) := by decide +kernel
theorem d36 : decode yB 36 = .ok (.invokestatic 177, 3) := by decide +kernel
theorem d39 : decode yB 39 = .ok (.astore 5, 2) := by decide +kernel
theorem d41 : decode yB 41 = .ok (.aload_n 0, 1) := by decide +kernel
theorem d42 : decode yB 42 = .ok (.aload 5, 2) := by decide +kernel
theorem d44 : decode yB 44 = .ok (.iload_n 3, 1) := by decide +kernel
theorem d45 : decode yB 45 = .ok (.invokestatic 47, 3) := by decide +kernel
theorem d48 : decode yB 48 = .ok (.putfield 15, 3) := by decide +kernel
theorem d51 : decode yB 51 = .ok (.aload_n 0, 1) := by decide +kernel
theorem d52 : decode yB 52 = .ok (.aload 5, 2) := by decide +kernel
theorem d54 : decode yB 54 = .ok (.putfield 9, 3) := by decide +kernel
theorem d57 : decode yB 57 = .ok (.return_, 1) := by decide +kernel
def site : List Cond := [.fieldLink "java/lang/String" 38 "java/lang/String" "COMPACT_STRINGS" "Z", Cmp3.tab, CodL.tab, .laysFinal "java/lang/String" "java/lang/String" "value" "[B", .fieldLink "java/lang/String" 9 "java/lang/String" "value" "[B", .laysFinal "java/lang/String" "java/lang/String" "coder" "B", .fieldLink "java/lang/String" 15 "java/lang/String" "coder" "B"] ++ objW "java/lang/String" 1 ++ staticW "java/lang/String" 177 Cmp3.yN ++ staticW "java/lang/String" 47 CodL.yN
def tab : Cond := tabOf yN yB 6 none site
def P (a : Addr) (D : Cell) (fV fC : Field) (b : Addr) (A : Cell) (z : Int32) (o len : Nat) (args : Array Value) (s : State) : Prop := args = #[.ref a, .ref b, .int (Int32.ofNat o), .int (Int32.ofNat len), .null] ∧ Blank "java/lang/String" a D s ∧ Found "java/lang/String" "value" "[B" fV s ∧ Found "java/lang/String" "coder" "B" fC s ∧ Ch b A s ∧ StaticIs s "java/lang/String" "COMPACT_STRINGS" "Z" (.int z) ∧ ¬ z = 0 ∧ 0 < len ∧ o + len ≤ A.slots.size ∧ len ≤ 536870912 ∧ ∀ i, i < len → ¬ 255 < cv A (o + i)
def E (a : Addr) (D : Cell) (fV fC : Field) (A : Cell) (o len : Nat) (r : Option Value) (s u : State) : Prop := Got a D fV fC A o len r s u
/-- len > 0, no char of the range above 255: a Latin-1 String of their low bytes -/
theorem law (l : Launch) (a : Addr) (D : Cell) (fV fC : Field) (b : Addr) (A : Cell) (z : Int32) (o len : Nat) : Law l yN 5 4 2 35 yB 6 none site (P a D fV fC b A z o len) (E a D fV fC A o len) [⟨a, fC.slot⟩, ⟨a, fV.slot⟩] 1 len := by
  refine Law.of_walk (plainFor_of_name (by decide +kernel)) (by decide +kernel) (by decide +kernel) (by decide) (fun _ _ h => by rw [h.1]; rfl) (fun _ U U' hal hh h => ⟨h.1, h.2.1.mv hal hh, h.2.2.1.al hal, h.2.2.2.1.al hal, h.2.2.2.2.1.mv hal hh, h.2.2.2.2.2.1.there hal hh, h.2.2.2.2.2.2⟩) (fun r U U' V V' h1 hal h2 h => Got.mv r U U' V V' h1 hal h2 h) ?_
  intro p e s m args below meth c s₁ X0 hexec hbytes hml hret hlk hnm hown hh0 W hP
  obtain ⟨rfl, hB, f1, f2, hA, s1, hz, l0, l1, l2, hp⟩ := hP
  have a31 := hA.1.2.2.2
  have c1 : Steps p.tables e below (s₁.setTop (entryFrame m #[.ref a, .ref b, .int (Int32.ofNat o), .int (Int32.ofNat len), .null] 6)) (s₁.setTop (mkF m 0 #[.val (.ref a), .val (.ref b), .val (.int (Int32.ofNat o)), .val (.int (Int32.ofNat len)), .val .null, .unset] [])) := entry rfl
  have c2 : Steps p.tables e below (s₁.setTop (entryFrame m #[.ref a, .ref b, .int (Int32.ofNat o), .int (Int32.ofNat len), .null] 6)) (s₁.setTop (mkF m 1 #[.val (.ref a), .val (.ref b), .val (.int (Int32.ofNat o)), .val (.int (Int32.ofNat len)), .val .null, .unset] [.ref a])) := c1.trans (by
    refine XS.aloadN X0.here hexec rfl (hb hbytes d0) rfl rfl ?_
    exact Steps.refl _)
  obtain ⟨T3, X3, q3, st3⟩ := X0.oinit hexec hown (wks W (objW "java/lang/String" 1)) (g := (mkF m 1 #[.val (.ref a), .val (.ref b), .val (.int (Int32.ofNat o)), .val (.int (Int32.ofNat len)), .val .null, .unset] [.ref a])) rfl (by rw [hml]; rfl) (rest := []) rfl (hb hbytes d1) (W := 0) (by show 2 * 0 + 0 ≤ _; decide) (Nat.le_of_ble_eq_true rfl) (Nat.le_of_ble_eq_true rfl)
  have hh3 := q3.trans hh0
  have c4 : Steps p.tables e below (s₁.setTop (entryFrame m #[.ref a, .ref b, .int (Int32.ofNat o), .int (Int32.ofNat len), .null] 6)) (T3.setTop (mkF m 27 #[.val (.ref a), .val (.ref b), .val (.int (Int32.ofNat o)), .val (.int (Int32.ofNat len)), .val .null, .unset] [])) := (c2.trans (st3 _ (Steps.refl _))).trans (by
    refine XS.iloadN X3.here hexec rfl (hb hbytes d4) rfl ?_
    refine XS.ifYes X3.here hexec rfl (pc0 := 5) rfl (hb hbytes d5) rfl (i0_ne_t (nz32 (by omega) l0)) (by decide) rfl ?_
    exact Steps.refl _)
  obtain ⟨T5, X5, q5, st5⟩ := X3.sget hexec hown (wk W (.fieldLink "java/lang/String" 38 "java/lang/String" "COMPACT_STRINGS" "Z")) s1 (fun _ _ h => by rw [hh3]; exact h) (g := (mkF m 27 #[.val (.ref a), .val (.ref b), .val (.int (Int32.ofNat o)), .val (.int (Int32.ofNat len)), .val .null, .unset] [])) rfl (hb hbytes d27)
  have hh5 := q5.trans hh3
  have c6 : Steps p.tables e below (s₁.setTop (entryFrame m #[.ref a, .ref b, .int (Int32.ofNat o), .int (Int32.ofNat len), .null] 6)) (T5.setTop (mkF m 30 #[.val (.ref a), .val (.ref b), .val (.int (Int32.ofNat o)), .val (.int (Int32.ofNat len)), .val .null, .unset] [.int z])) := c4.trans (st5 _ (Steps.refl _))
  have c7 : Steps p.tables e below (s₁.setTop (entryFrame m #[.ref a, .ref b, .int (Int32.ofNat o), .int (Int32.ofNat len), .null] 6)) (T5.setTop (mkF m 36 #[.val (.ref a), .val (.ref b), .val (.int (Int32.ofNat o)), .val (.int (Int32.ofNat len)), .val .null, .unset] [.int (Int32.ofNat len), .int (Int32.ofNat o), .ref b])) := c6.trans (by
    refine XS.ifNo X5.here hexec rfl (hb hbytes d30) rfl (i0_eq_f hz) ?_
    refine XS.aloadN X5.here hexec rfl (hb hbytes d33) rfl rfl ?_
    refine XS.iloadN X5.here hexec rfl (hb hbytes d34) rfl ?_
    refine XS.iloadN X5.here hexec rfl (hb hbytes d35) rfl ?_
    exact Steps.refl _)
  obtain ⟨v8, T8, X8, E8, g8⟩ := X5.callS hexec (Cmp3.law l b A o len) hown (wks W (staticW "java/lang/String" 177 Cmp3.yN)) (wk W Cmp3.tab) (W := 0) (Nat.le_of_ble_eq_true rfl) (Nat.le_of_ble_eq_true rfl) (Nat.le_refl _) (by show 0 + len ≤ len; omega) (g := (mkF m 36 #[.val (.ref a), .val (.ref b), .val (.int (Int32.ofNat o)), .val (.int (Int32.ofNat len)), .val .null, .unset] [.int (Int32.ofNat len), .int (Int32.ofNat o), .ref b])) rfl (by rw [hml]; rfl) c7 (argsL := [.ref b, .int (Int32.ofNat o), .int (Int32.ofNat len)]) (rest := []) rfl rfl (by show 2 * 0 + 0 ≤ _; decide) (hb hbytes d36) (⟨rfl, hA.mv X5.warmed.alike hh5, l1, l2, hp⟩)
  obtain ⟨e8, z8⟩ := E8
  obtain ⟨rfl, N, n1, n2, n3, n4, n5, n6⟩ := NewArr.mv _ T5 s _ _ hh5.symm (Vm.Alike.refl _) rfl e8
  rw [hh5] at z8
  have hB1 := hB.keep X8.warmed.alike (n6 _ _ hB.1)
  have hne : s.heap.size ≠ a := (Nat.ne_of_lt (Array.getElem?_eq_some_iff.mp hB.1).1).symm
  have c9 : Steps p.tables e below (s₁.setTop (entryFrame m #[.ref a, .ref b, .int (Int32.ofNat o), .int (Int32.ofNat len), .null] 6)) (T8.setTop (mkF m 39 #[.val (.ref a), .val (.ref b), .val (.int (Int32.ofNat o)), .val (.int (Int32.ofNat len)), .val .null, .unset] [.ref s.heap.size])) := g8
  have c10 : Steps p.tables e below (s₁.setTop (entryFrame m #[.ref a, .ref b, .int (Int32.ofNat o), .int (Int32.ofNat len), .null] 6)) (T8.setTop (mkF m 45 #[.val (.ref a), .val (.ref b), .val (.int (Int32.ofNat o)), .val (.int (Int32.ofNat len)), .val .null, .val (.ref s.heap.size)] [.int (Int32.ofNat N.slots.size), .ref s.heap.size, .ref a])) := by
    have hc : Steps p.tables e below (s₁.setTop (entryFrame m #[.ref a, .ref b, .int (Int32.ofNat o), .int (Int32.ofNat len), .null] 6)) (T8.setTop (mkF m 45 #[.val (.ref a), .val (.ref b), .val (.int (Int32.ofNat o)), .val (.int (Int32.ofNat len)), .val .null, .val (.ref s.heap.size)] [.int (Int32.ofNat len), .ref s.heap.size, .ref a])) := c9.trans (by
      refine XS.astore X8.here hexec rfl (hb hbytes d39) rfl rfl rfl ?_
      refine XS.aloadN X8.here hexec rfl (hb hbytes d41) rfl rfl ?_
      refine XS.aload X8.here hexec rfl (hb hbytes d42) rfl rfl ?_
      refine XS.iloadN X8.here hexec rfl (hb hbytes d44) rfl ?_
      exact Steps.refl _)
    rw [n4]; exact hc
  obtain ⟨v11, T11, X11, E11, g11⟩ := X8.callS hexec (CodL.law l s.heap.size N) hown (wks W (staticW "java/lang/String" 47 CodL.yN)) (wk W CodL.tab) (W := 1) (Nat.le_of_ble_eq_true rfl) (Nat.le_of_ble_eq_true rfl) (Nat.le_refl _) (by show 0 + len + 0 ≤ len; omega) (g := (mkF m 45 #[.val (.ref a), .val (.ref b), .val (.int (Int32.ofNat o)), .val (.int (Int32.ofNat len)), .val .null, .val (.ref s.heap.size)] [.int (Int32.ofNat N.slots.size), .ref s.heap.size, .ref a])) rfl (by rw [hml]; rfl) c10 (argsL := [.ref s.heap.size, .int (Int32.ofNat N.slots.size)]) (rest := [.ref a]) rfl rfl (by show 2 * 0 + (1 + 0) ≤ _; decide) (hb hbytes d45) (⟨rfl, n1⟩)
  obtain ⟨rfl, q11⟩ := E11
  have hB11 := hB1.mv (X8.warmed.alike.symm.trans X11.warmed.alike) q11
  have c12 : Steps p.tables e below (s₁.setTop (entryFrame m #[.ref a, .ref b, .int (Int32.ofNat o), .int (Int32.ofNat len), .null] 6)) (T11.setTop (mkF m 48 #[.val (.ref a), .val (.ref b), .val (.int (Int32.ofNat o)), .val (.int (Int32.ofNat len)), .val .null, .val (.ref s.heap.size)] [.int 0, .ref a])) := g11
  obtain ⟨T13, X13, p13, bl13, sl13, st13⟩ := X11.finit hexec hown (wk W (.fieldLink "java/lang/String" 15 "java/lang/String" "coder" "B")) (Or.inr ⟨_, (wk W (.laysFinal "java/lang/String" "java/lang/String" "coder" "B"))⟩) (Or.inl ⟨rfl, hnm⟩) f2 (Or.inl rfl) hB11 (t := .byte) (by decide +kernel) rfl (g := (mkF m 48 #[.val (.ref a), .val (.ref b), .val (.int (Int32.ofNat o)), .val (.int (Int32.ofNat len)), .val .null, .val (.ref s.heap.size)] [.int 0, .ref a])) rfl (rest := []) rfl (hb hbytes d48)
  have c14 : Steps p.tables e below (s₁.setTop (entryFrame m #[.ref a, .ref b, .int (Int32.ofNat o), .int (Int32.ofNat len), .null] 6)) (T13.setTop (mkF m 54 #[.val (.ref a), .val (.ref b), .val (.int (Int32.ofNat o)), .val (.int (Int32.ofNat len)), .val .null, .val (.ref s.heap.size)] [.ref s.heap.size, .ref a])) := (c12.trans (st13 _ (Steps.refl _))).trans (by
    refine XS.aloadN X13.here hexec rfl (hb hbytes d51) rfl rfl ?_
    refine XS.aload X13.here hexec rfl (hb hbytes d52) rfl rfl ?_
    exact Steps.refl _)
  obtain ⟨T15, X15, p15, bl15, sl15, st15⟩ := X13.finit hexec hown (wk W (.fieldLink "java/lang/String" 9 "java/lang/String" "value" "[B")) (Or.inr ⟨_, (wk W (.laysFinal "java/lang/String" "java/lang/String" "value" "[B"))⟩) (Or.inl ⟨rfl, hnm⟩) f1 (Or.inl rfl) bl13 (t := (.array .byte)) (by decide +kernel) rfl (g := (mkF m 54 #[.val (.ref a), .val (.ref b), .val (.int (Int32.ofNat o)), .val (.int (Int32.ofNat len)), .val .null, .val (.ref s.heap.size)] [.ref s.heap.size, .ref a])) rfl (rest := []) rfl (hb hbytes d54)
  have c16 : Steps p.tables e below (s₁.setTop (entryFrame m #[.ref a, .ref b, .int (Int32.ofNat o), .int (Int32.ofNat len), .null] 6)) (T15.setTop (mkF m 57 #[.val (.ref a), .val (.ref b), .val (.int (Int32.ofNat o)), .val (.int (Int32.ofNat len)), .val .null, .val (.ref s.heap.size)] [])) := c14.trans (st15 _ (Steps.refl _))
  have ap := apart (Or.inr ⟨_, (wk W (.laysFinal "java/lang/String" "java/lang/String" "value" "[B"))⟩) (Or.inr ⟨_, (wk W (.laysFinal "java/lang/String" "java/lang/String" "coder" "B"))⟩) f1 f2 (t₁ := .array .byte) (t₂ := .byte) (by decide +kernel) (by decide +kernel) (by decide)
  have al := X8.warmed.alike.symm.trans X15.warmed.alike
  have n7 : T11.heap[s.heap.size]? = some N := by rw [q11]; exact n1.1
  exact ⟨T15, none, _, _, _, X15, by simp, rfl, by omega, (fun _ => rfl), ⟨rfl, _, N, bl15, ((Same.refl D _).set _ (by simp)).set _ (by simp), sl15, (Cell.slots_setSlot_ne _ ap).trans sl13, n1.keep al (p15.other hne (p13.other hne n7)), n2, by rw [al.findClass]; exact n3, n4, n5, fun y c h1 h2 => p15.other h1 (p13.other h1 (by rw [q11]; exact n6 y c h2)), by rw [p15.2.2, p13.2.2, q11]; exact z8⟩, fun fs hl => c16.trans (X15.returnOut hexec hret (hb hbytes d57) hl)⟩
end New4
namespace New1
def yN : MethodName := ⟨"java/lang/String", "<init>", "([C)V"⟩
abbrev yB : ByteArray := jdk_42_method_3_code
theorem d0 : decode yB 0 = .ok (.aload_n 0, 1) := by decide +kernel
theorem d1 : decode yB 1 = .ok (.aload_n 1, 1) := by decide +kernel
theorem d2 : decode yB 2 = .ok (.iconst 0, 1) := by decide +kernel
theorem d3 : decode yB 3 = .ok (.aload_n 1, 1) := by decide +kernel
theorem d4 : decode yB 4 = .ok (.arraylength, 1) := by decide +kernel
theorem d5 : decode yB 5 = .ok (.aconst_null, 1) := by decide +kernel
theorem d6 : decode yB 6 = .ok (.invokespecial 27, 3) := by decide +kernel
theorem d9 : decode yB 9 = .ok (.return_, 1) := by decide +kernel
def site : List Cond := [New4.tab] ++ initW "java/lang/String" 27 New4.yN
def tab : Cond := tabOf yN yB 2 none site
def P (a : Addr) (D : Cell) (fV fC : Field) (b : Addr) (A : Cell) (z : Int32) (args : Array Value) (s : State) : Prop := args = #[.ref a, .ref b] ∧ Blank "java/lang/String" a D s ∧ Found "java/lang/String" "value" "[B" fV s ∧ Found "java/lang/String" "coder" "B" fC s ∧ Ch b A s ∧ StaticIs s "java/lang/String" "COMPACT_STRINGS" "Z" (.int z) ∧ ¬ z = 0 ∧ 0 < A.slots.size ∧ A.slots.size ≤ 536870912 ∧ ∀ i, i < A.slots.size → ¬ 255 < cv A i
def E (a : Addr) (D : Cell) (fV fC : Field) (A : Cell) (r : Option Value) (s u : State) : Prop := Got a D fV fC A 0 A.slots.size r s u
/-- new String(chars), not empty, no char above 255: a Latin-1 String of their low bytes -/
theorem law (l : Launch) (a : Addr) (D : Cell) (fV fC : Field) (b : Addr) (A : Cell) (z : Int32) : Law l yN 2 1 3 52 yB 2 none site (P a D fV fC b A z) (E a D fV fC A) [⟨a, fC.slot⟩, ⟨a, fV.slot⟩] 1 A.slots.size := by
  refine Law.of_walk (plainFor_of_name (by decide +kernel)) (by decide +kernel) (by decide +kernel) (by decide) (fun _ _ h => by rw [h.1]; rfl) (fun _ U U' hal hh h => ⟨h.1, h.2.1.mv hal hh, h.2.2.1.al hal, h.2.2.2.1.al hal, h.2.2.2.2.1.mv hal hh, h.2.2.2.2.2.1.there hal hh, h.2.2.2.2.2.2⟩) (fun r U U' V V' h1 hal h2 h => Got.mv r U U' V V' h1 hal h2 h) ?_
  intro p e s m args below meth c s₁ X0 hexec hbytes hml hret hlk hnm hown hh0 W hP
  obtain ⟨rfl, hB, f1, f2, hA, s1, hz, l0, l2, hp⟩ := hP
  have c1 : Steps p.tables e below (s₁.setTop (entryFrame m #[.ref a, .ref b] 2)) (s₁.setTop (mkF m 0 #[.val (.ref a), .val (.ref b)] [])) := entry rfl
  have c2 : Steps p.tables e below (s₁.setTop (entryFrame m #[.ref a, .ref b] 2)) (s₁.setTop (mkF m 6 #[.val (.ref a), .val (.ref b)] [.null, .int (Int32.ofNat A.slots.size), .int 0, .ref b, .ref a])) := c1.trans (by
    refine XS.aloadN X0.here hexec rfl (hb hbytes d0) rfl rfl ?_
    refine XS.aloadN X0.here hexec rfl (hb hbytes d1) rfl rfl ?_
    refine iconstV X0.here hexec rfl 0 (hb hbytes d2) (by decide) ?_
    refine XS.aloadN X0.here hexec rfl (hb hbytes d3) rfl rfl ?_
    refine X0.alen hexec (hA.1.mv X0.warmed.alike hh0) rfl rfl (hb hbytes d4) ?_
    refine XS.aconstNull X0.here hexec rfl (hb hbytes d5) ?_
    exact Steps.refl _)
  obtain ⟨v3, T3, X3, E3, g3⟩ := X0.callN hexec (New4.law l a D fV fC b A z 0 A.slots.size) rfl hown (wks W (initW "java/lang/String" 27 New4.yN)) (W New4.tab (by simp only [site, List.mem_cons, List.mem_append, true_or, or_true])) (W := 0) (Nat.le_of_ble_eq_true rfl) (Nat.le_of_ble_eq_true rfl) (Nat.le_refl _) (by show 0 + A.slots.size ≤ A.slots.size; omega) (g := (mkF m 6 #[.val (.ref a), .val (.ref b)] [.null, .int (Int32.ofNat A.slots.size), .int (Int32.ofNat 0), .ref b, .ref a])) rfl (by rw [hml]; rfl) c2 (argsL := [.ref b, .int (Int32.ofNat 0), .int (Int32.ofNat A.slots.size), .null]) (rest := []) rfl rfl (by show 2 * 0 + 0 ≤ _; decide) (hb hbytes d6) (⟨rfl, hB.mv X0.warmed.alike hh0, f1.al X0.warmed.alike, f2.al X0.warmed.alike, hA.mv X0.warmed.alike hh0, s1.there X0.warmed.alike hh0, hz, l0, by omega, l2, fun i hi => by rw [Nat.zero_add]; exact hp i hi⟩)
  have e0 := Got.mv _ s₁ s _ _ hh0.symm (Vm.Alike.refl _) rfl E3
  obtain rfl := e0.1
  have c4 : Steps p.tables e below (s₁.setTop (entryFrame m #[.ref a, .ref b] 2)) (T3.setTop (mkF m 9 #[.val (.ref a), .val (.ref b)] [])) := g3
  exact ⟨T3, none, _, _, _, X3, by simp, rfl, by omega, (fun _ => rfl), e0, fun fs hl => c4.trans (X3.returnOut hexec hret (hb hbytes d9) hl)⟩
theorem pays {l : Launch} {R : Room} {p : Program} {e : Env} {below : List Frame} {s : State} {sargs : Array Value} {len W : Nat} (a : Addr) (D : Cell) (fV fC : Field) (b : Addr) (A : Cell) (z : Int32) (htab : tab.before sargs s = true) (hfr : 4 ≤ R.frames) (hlo : W + 65 ≤ R.locals) :
    Back l R p e below s sargs yN len W (fun A₁ a₁ => A₁.cells + 1 ≤ R.cells ∧ A₁.slots + A.slots.size ≤ R.slots ∧ P a D fV fC b A z a₁ A₁.U) (fun A₁ _ v₁ B₁ => E a D fV fC A v₁ A₁.U B₁.U ∧ B₁.locs = A₁.locs ++ [⟨a, fC.slot⟩, ⟨a, fV.slot⟩] ∧ B₁.cells = A₁.cells + 1 ∧ B₁.slots = A₁.slots + A.slots.size) :=
  (law l a D fV fC b A z).pays htab hfr (by omega)
end New1
end StrChars
namespace StrChars.Road
open Jvm Sem ClassFile Op Lib Jvm.Stand Jvm.Free Jvm.Free.XT
open Jvm.Lib.Cold (StaticIs)
abbrev ST : String := "java/lang/String"
/-- every table word that New1's law asks, flat -/
abbrev words : List Jvm.Cond := [.code New1.yN New1.yB 2 none, .initialized ST, .methodLink ST 27 New4.yN, .instanceMethod New4.yN,
  .code New4.yN New4.yB 6 none, .fieldLink ST 38 ST "COMPACT_STRINGS" "Z", .laysFinal ST ST "value" "[B", .fieldLink ST 9 ST "value" "[B", .laysFinal ST ST "coder" "B", .fieldLink ST 15 ST "coder" "B",
  .methodLink ST 1 Lib.objectInit, .instanceMethod Lib.objectInit, .code Lib.objectInit ⟨#[0xb1]⟩ 1 none, .methodLink ST 177 Cmp3.yN, .static Cmp3.yN, .methodLink ST 47 CodL.yN, .static CodL.yN,
  .code Cmp3.yN Cmp3.yB 6 (some (.array .byte)), .initialized U16, .arrayClass .byte, .methodLink U16 115 Cmp5.yN, .static Cmp5.yN, .code Cmp5.yN Cmp5.yB 7 (some .int), .code CodL.yN CodL.yB 2 (some .byte)]
theorem tab_of {a : Array Value} {s : State} (h : ∀ w ∈ words, w.before a s = true) : New1.tab.before a s = true := by
  have h5 : Cmp5.tab.before a s = true := unparts (wk h (.code Cmp5.yN Cmp5.yB 7 (some .int))) (wks h (.initialized Cmp5.yN.cls :: Cmp5.site))
  have hc : CodL.tab.before a s = true := unparts (wk h (.code CodL.yN CodL.yB 2 (some .byte))) (wks h (.initialized CodL.yN.cls :: CodL.site))
  have q5 : ∀ w ∈ Cmp5.tab :: words, w.before a s = true := fun w hw => (List.mem_cons.mp hw).elim (fun e => e ▸ h5) (h w)
  have h3 : Cmp3.tab.before a s = true := unparts (wk q5 (.code Cmp3.yN Cmp3.yB 6 (some (.array .byte)))) (wks q5 (.initialized Cmp3.yN.cls :: Cmp3.site))
  have q3 : ∀ w ∈ Cmp3.tab :: CodL.tab :: words, w.before a s = true := fun w hw => (List.mem_cons.mp hw).elim (fun e => e ▸ h3) fun hw => (List.mem_cons.mp hw).elim (fun e => e ▸ hc) (h w)
  have h4 : New4.tab.before a s = true := unparts (wk q3 (.code New4.yN New4.yB 6 none)) (wks q3 (.initialized New4.yN.cls :: New4.site))
  have q4 : ∀ w ∈ New4.tab :: words, w.before a s = true := fun w hw => (List.mem_cons.mp hw).elim (fun e => e ▸ h4) (h w)
  exact unparts (wk q4 (.code New1.yN New1.yB 2 none)) (wks q4 (.initialized New1.yN.cls :: New1.site))
/-- the words ride from the start Z to the walk's own state -/
theorem moved {Z s : State} {a0 args : Array Value} (hZ : Z.Warmed39 s.vm) (hw : ∀ d ∈ words, d.before a0 Z = true) : ∀ d ∈ words, d.before args s = true := fun d hd => by
  have q := hw d hd
  have t : ∀ d ∈ words, d = .arrayClass .byte ∨ (d.onTables && d.keepsFace) = true := by decide +kernel
  rcases t d hd with rfl | t
  · exact RoadKit.mvA hZ q
  · exact RoadKit.mv hZ q t
/-- WHAT COMES BACK, over the tables of the start Z: h the heap at the call, h' behind it -/
def Q (Z : State) (x : Addr) (A : Cell) (h : Heap) (v : Option Value) (h' : Heap) (L : List Loc) : Prop := v = none ∧ (∀ y ∈ L, y.base = x) ∧ RoadKit.Keep h h' [x] ∧ h'.size = h.size + 1 ∧ RoadKit.Exa Z h' x ST ∧ RoadKit.Fld Z h' x ST "value" "[B" (.ref h.size) ∧ RoadKit.Fld Z h' x ST "coder" "B" (.int 0) ∧
  (∃ V : Cell, RoadKit.Arr Z h' h.size V .byte ∧ V.vm = .none ∧ Z.vm.findClass "[B" = some V.cls ∧ V.slots.size = A.slots.size ∧ ∀ j, j < A.slots.size → V.slots[j]? = some (.int (lo8 (cv A j)))) ∧
  ∀ (O n d : String) (w : Value), RoadKit.Fld Z h x O n d w → RoadKit.slotOf Z O n d ≠ RoadKit.slotOf Z ST "value" "[B" → RoadKit.slotOf Z O n d ≠ RoadKit.slotOf Z ST "coder" "B" → RoadKit.Fld Z h' x O n d w
/-- **new String(chars) AT A CALL, IN THE ROAD'S FORM**: for specialBack behind newO: x the fresh String, b the char[] with the cell A -/
theorem back {p : Program} {l : Launch} {e : Env} {R : Room} {s : State} {args : Array Value} {below : List Frame} {len W : Nat} {Z : State} {a0 : Array Value} {h : Heap} (hZ : Z.Warmed39 s.vm) (hw : ∀ d ∈ words, d.before a0 Z = true) {kI : Nat} (wi : (Jvm.Cond.instantiable ST kI).before a0 Z = true)
    {x b : Addr} {A : Cell} {z : Int32} {v0 c0 : Value} (E : RoadKit.Exa Z h x ST) (V : RoadKit.Fld Z h x ST "value" "[B" v0) (C : RoadKit.Fld Z h x ST "coder" "B" c0) (K : RoadKit.Arr Z h b A .char) (hty : Typed .char A) (S : RoadKit.Sta Z h ST "COMPACT_STRINGS" "Z" (.int z)) (hz : ¬ z = 0)
    (l0 : 0 < A.slots.size) (l2 : A.slots.size ≤ 536870912) (hp : ∀ i, i < A.slots.size → ¬ 255 < cv A i) (hfr : 4 ≤ R.frames) (hlo : W + 65 ≤ R.locals) :
    Back l R p e below s args New1.yN len W (fun P a => a = #[.ref x, .ref b] ∧ P.U.heap = h ∧ P.cells + 1 ≤ R.cells ∧ P.slots + A.slots.size ≤ R.slots)
      (fun P _ v B => ∃ L, Q Z x A h v B.U.heap L ∧ B.locs = P.locs ++ L ∧ B.cells = P.cells + 1 ∧ B.slots = P.slots + A.slots.size) := by
  intro m meth c P g ig mk a X hg hsize hdg hW hn hp'
  obtain ⟨rfl, rfl, r1, r2⟩ := hp'
  have al : Z.vm.Alike P.U.vm := hZ.alike.trans X.warmed.alike
  obtain ⟨D, cfV, kV, iV, fV, hD, gV, stV, knV, obV, asV, slV⟩ := id V
  obtain ⟨D', cfC, kC, iC, fC, hD', gC, stC, -, -, asC, slC⟩ := id C
  cases hD.symm.trans hD'
  obtain ⟨D2, kD, e1, e2, e3, e4, e5⟩ := id E
  cases hD.symm.trans e1
  obtain ⟨c2, k2, i1, i2, i3, -⟩ := Cond.instantiable_spec wi
  cases e2.symm.trans i1
  cases e3.symm.trans i2
  obtain ⟨kU, u1, u2⟩ := al.2.2 _ _ e3
  have hB : Blank ST x D P.U := ⟨hD, ⟨knV, fun q hq => by rw [hq] at obV; cases obV⟩, by rw [al.findClass]; exact e2, kU, u1, by rw [u2]; exact i3, by rw [u2]; exact e5 i3⟩
  have F1 : Found ST "value" "[B" fV P.U := ⟨SBG.found_only al ⟨cfV, kV, iV, gV⟩, stV⟩
  have F2 : Found ST "coder" "B" fC P.U := ⟨SBG.found_only al ⟨cfC, kC, iC, gC⟩, stC⟩
  have hA : Ch b A P.U := ⟨⟨K.1, State.isArrayOf_alike al K.2.1, K.2.2, by omega⟩, hty⟩
  have hS : StaticIs P.U ST "COMPACT_STRINGS" "Z" (.int z) := by
    obtain ⟨cfS, iS, kS, fS, st, cS, t1, t2, t3, t4, t5, t6, t7⟩ := S
    exact StaticIs.there (s := { Z with heap := P.U.heap }) ⟨cfS, iS, kS, fS, st, cS, t1, t2, t3, t4, t5, (fun q => by rw [q] at t6; cases t6), t7⟩ al rfl
  obtain ⟨v, B, X', ⟨⟨hv, E', V', q1, q2, q3, q4, q5, q6, q7, q8, q9, q10, q11⟩, hl, hc, hs⟩, st⟩ := New1.pays x D fV fC b A z (tab_of (moved hZ hw)) hfr hlo m meth c P g ig mk _ X hg hsize hdg hW hn ⟨r1, r2, rfl, hB, F1, F2, hA, hS, hz, l0, l2, hp⟩
  have al' : Z.vm.Alike B.U.vm := hZ.alike.trans X'.warmed.alike
  have hsz : E'.slots.size = D.slots.size := by
    obtain ⟨-, -, -, kB, w1, w2, w3⟩ := q1
    obtain ⟨kB', y1, y2⟩ := al'.2.2 _ _ e3
    rw [q2.2.1] at w1
    cases w1.symm.trans y1
    rw [w3, e5 i3, y2]
  refine ⟨v, B, X', ⟨_, ⟨hv, ?_, ⟨by omega, fun y cy hy hn' => q10 y cy (by simpa using hn') hy, fun y cy hy => ?_⟩, q11, ⟨E', _, q1.1, by rw [q2.2.1]; exact e2, by rw [q2.2.1]; exact e3, by rw [q2.1]; exact obV, fun _ => by rw [hsz]; exact e5 i3⟩,
    ⟨E', cfV, kV, iV, fV, q1.1, gV, stV, by rw [q2.1]; exact knV, by rw [q2.1]; exact obV, by rw [q2.2.1]; exact asV, q3⟩, ⟨E', cfC, kC, iC, fC, q1.1, gC, stC, by rw [q2.1]; exact knV, by rw [q2.1]; exact obV, by rw [q2.2.1]; exact asC, q4⟩,
    ⟨V', ⟨q5.1, State.isArrayOf_alike al'.symm q5.2.1, q5.2.2.1⟩, q6, by rw [← al'.findClass]; exact q7, q8, fun j hj => by have := q9 j hj; rwa [Nat.zero_add] at this⟩, fun O n d w F n1 n2 => ?_⟩, hl, hc, hs⟩, st⟩
  · intro y hy
    simp only [List.mem_cons, List.not_mem_nil, or_false] at hy
    rcases hy with rfl | rfl <;> rfl
  · by_cases q : y = x
    · subst q
      cases hD.symm.trans hy
      exact ⟨E', q1.1, q2.2.1, q2.1, hsz⟩
    · exact ⟨cy, q10 y cy q hy, rfl, rfl, rfl⟩
  · obtain ⟨D3, cf, k, i, f, g1, g2, g3, g4, g5, g6, g7⟩ := F
    cases hD.symm.trans g1
    simp only [RoadKit.slotOf, g2, gV, gC, Option.map_some, Option.getD_some] at n1 n2
    exact ⟨E', cf, k, i, f, q1.1, g2, g3, by rw [q2.1]; exact g4, by rw [q2.1]; exact g5, by rw [q2.2.1]; exact g6, by rw [q2.2.2 f.slot (by simp [n1, n2])]; exact g7⟩
end StrChars.Road
namespace StrChars.Road
open Jvm Sem ClassFile Op Lib Jvm.Stand Jvm.Free Jvm.Free.XT
/-- WHAT COMES BACK, the byte[] as a list of values -/
def QA (Z : State) (x : Addr) (zn : Int32) (cs : List Int32) (h : Heap) (v : Option Value) (h' : Heap) (L : List Loc) : Prop := v = none ∧ (∀ y ∈ L, y.base = x) ∧ RoadKit.Keep h h' [x] ∧ h'.size = h.size + 1 ∧ RoadKit.Exa Z h' x ST ∧ RoadKit.Fld Z h' x ST "value" "[B" (.ref h.size) ∧ RoadKit.Fld Z h' x ST "coder" "B" (.int 0) ∧
  (∃ kb, Z.vm.findClass "[B" = some kb ∧ RoadKit.Arv Z h' h.size kb .byte zn (cs.map fun c => .int (lo8 c)) (.int 0)) ∧
  ∀ (O n d : String) (w : Value), RoadKit.Fld Z h x O n d w → RoadKit.slotOf Z O n d ≠ RoadKit.slotOf Z ST "value" "[B" → RoadKit.slotOf Z O n d ≠ RoadKit.slotOf Z ST "coder" "B" → RoadKit.Fld Z h' x O n d w
/-- **new String(chars) AT A CALL, THE ARRAYS AS LISTS**: the char[] at b holds cs, not empty, no char above 255 -/
theorem backArv {p : Program} {l : Launch} {e : Env} {R : Room} {s : State} {args : Array Value} {below : List Frame} {len W : Nat} {Z : State} {a0 : Array Value} {h : Heap} (hZ : Z.Warmed39 s.vm) (hw : ∀ d ∈ words, d.before a0 Z = true) {kI : Nat} (wi : (Jvm.Cond.instantiable ST kI).before a0 Z = true)
    {x b : Addr} {k : ClassId} {zn z : Int32} {cs : List Int32} {dv v0 c0 : Value} (E : RoadKit.Exa Z h x ST) (V : RoadKit.Fld Z h x ST "value" "[B" v0) (C : RoadKit.Fld Z h x ST "coder" "B" c0) (K : RoadKit.Arv Z h b k .char zn (cs.map Value.int) dv) (S : RoadKit.Sta Z h ST "COMPACT_STRINGS" "Z" (.int z)) (hz : ¬ z = 0)
    (hlen : zn.toNatClampNeg = cs.length) (h0 : 0 < cs.length) (hbig : cs.length ≤ 536870912) (hall : ∀ c ∈ cs, ¬ 255 < c) (hfr : 4 ≤ R.frames) (hlo : W + 65 ≤ R.locals) :
    Back l R p e below s args New1.yN len W (fun P a => a = #[.ref x, .ref b] ∧ P.U.heap = h ∧ P.cells + 1 ≤ R.cells ∧ P.slots + cs.length ≤ R.slots)
      (fun P _ v B => ∃ L, QA Z x zn cs h v B.U.heap L ∧ B.locs = P.locs ++ L ∧ B.cells = P.cells + 1 ∧ B.slots = P.slots + cs.length) := by
  obtain ⟨A, K1, K2, K3, K4, K5, K6⟩ := K
  have e : A.slots.size = cs.length := K3.trans hlen
  have hat : ∀ (i : Nat) (hi : i < cs.length), A.slots[i]? = some (.int cs[i]) := fun i hi => by rw [K5 i (by omega)]; simp [List.getD_eq_getElem?_getD, hi]
  have hcv : ∀ (i : Nat) (hi : i < cs.length), cv A i = cs[i] := fun i hi => by unfold cv; rw [hat i hi]
  have hty : Typed .char A := fun i v hv => by
    have hi : i < A.slots.size := (Array.getElem?_eq_some_iff.mp hv).1
    have q := K5 i hi
    rw [hv] at q
    rw [Option.some.inj q]
    exact K6 i hi
  refine Back.mono (back hZ hw wi E V C K1 hty S hz (by omega) (by omega) (fun i hi => by rw [hcv i (by omega)]; exact hall _ (List.getElem_mem _)) hfr hlo) (fun P a hp => ⟨hp.1, hp.2.1, hp.2.2.1, by rw [e]; exact hp.2.2.2⟩) (fun P a v B hp hq => ?_)
  obtain ⟨L, ⟨q1, q2, q3, q4, q5, q6, q7, ⟨V', v1, v2, v3, v4, v5⟩, q9⟩, hl, hc, hs⟩ := hq
  refine ⟨L, ⟨q1, q2, q3, q4, q5, q6, q7, ⟨V'.cls, v3, V', v1, rfl, by rw [v4, e, hlen], K4, fun i hi => ?_, fun i hi => ?_⟩, q9⟩, hl, hc, by rw [hs, e]⟩
  · have hi' : i < cs.length := by omega
    rw [v5 i (by omega), hcv i hi']; simp [List.getD_eq_getElem?_getD, hi']
  · have hi' : i < cs.length := by omega
    simp only [List.getD_eq_getElem?_getD, List.getElem?_map, List.getElem?_eq_getElem hi', Option.map_some, Option.getD_some]
    exact fits_lo8 _
end StrChars.Road
namespace StrChars.Road
open Jvm Sem ClassFile Op Lib Jvm.Stand Jvm.Free Jvm.Free.XT
/-- WHAT COMES BACK, in the writer's own shape -/
def QV (Z : State) (x : Addr) (N : Int32) (bs : List Int32) (h : Heap) (n0 : Nat) (v : Option Value) (h' : Heap) (L : List Loc) : Prop := v = none ∧ RoadKit.Fr n0 L ∧ RoadKit.Keep h h' [x] ∧ RoadKit.Exa Z h' x ST ∧ RoadKit.Fld Z h' x ST "coder" "B" (.int 0) ∧
  ∃ (t : Addr) (kb : ClassId), n0 ≤ t ∧ h.size ≤ t ∧ ¬ t = x ∧ RoadKit.Fld Z h' x ST "value" "[B" (.ref t) ∧ RoadKit.Arv Z h' t kb .byte N (bs.map Value.int) (.int 0)
/-- **new String(chars) AT A CALL, FOR THE WRITER**: a char[] of n known ints, each 0 to 255 -/
theorem backV {p : Program} {l : Launch} {e : Env} {R : Room} {s : State} {args : Array Value} {below : List Frame} {len W : Nat} {Z : State} {a0 : Array Value} {h : Heap} (hZ : Z.Warmed39 s.vm) (hw : ∀ d ∈ words, d.before a0 Z = true) {kI : Nat} (wi : (Jvm.Cond.instantiable ST kI).before a0 Z = true)
    {x b : Addr} {kC : ClassId} {cs bs : List Int32} {d v0 c0 : Value} {z N : Int32} {n n0 : Nat} (hx0 : n0 ≤ x) (hh0 : n0 ≤ h.size) (E : RoadKit.Exa Z h x ST) (V : RoadKit.Fld Z h x ST "value" "[B" v0) (C : RoadKit.Fld Z h x ST "coder" "B" c0) (K : RoadKit.Arv Z h b kC .char N (cs.map Value.int) d) (S : RoadKit.Sta Z h ST "COMPACT_STRINGS" "Z" (.int z)) (hz : ¬ z = 0)
    (hn : cs.length = n) (hN : N = Int32.ofNat n) (l0 : 0 < n) (l2 : n ≤ 4000) (hp : ∀ c ∈ cs, ¬ c < 0 ∧ ¬ (255 : Int32) < c) (hb : bs = cs.map (fun c => c.toInt8.toInt32)) (hfr : 4 ≤ R.frames) (hlo : W + 65 ≤ R.locals) :
    Back l R p e below s args (⟨"java/lang/String", "<init>", "([C)V"⟩ : MethodName) len W (fun P a => a = #[.ref x, .ref b] ∧ P.U.heap = h ∧ P.cells + 1 ≤ R.cells ∧ P.slots + n ≤ R.slots)
      (fun P _ v B => ∃ L, QV Z x N bs h n0 v B.U.heap L ∧ B.locs = P.locs ++ L ∧ B.cells = P.cells + 1 ∧ B.slots = P.slots + n) := by
  subst hn hN hb
  refine Back.mono (backArv hZ hw wi E V C K S hz (n32 (by omega)) l0 (by omega) (fun c hc => (hp c hc).2) hfr hlo) (fun P a hp => hp) (fun P a v B hp hq => ?_)
  obtain ⟨L, ⟨q1, q2, q3, q4, q5, q6, q7, ⟨kb, v1, v2⟩, q9⟩, hl, hc, hs⟩ := hq
  exact ⟨L, ⟨q1, fun y hy => by rw [q2 y hy]; exact hx0, q3, q5, q7, h.size, kb, hh0, Nat.le_refl _, Nat.ne_of_gt E.lt, q6, by rw [List.map_map]; exact v2⟩, hl, hc, hs⟩
end StrChars.Road
namespace StrChars
open Jvm Sem ClassFile Op Lib Jvm.Stand Jvm.Free.XT Jvm.Free.ALB Jvm.Free.JM Jvm.Free
open Jvm.Lib.Cold (StaticIs)
def hi8 (x : Int32) : Int32 := lo8 (x >>> ((8 : Int32) &&& 31))
/-- what StringUTF16.getChar makes of two bytes -/
def pairCh (u v : Int32) : Int32 := (((u &&& 255) <<< ((0 : Int32) &&& 31)) ||| ((v &&& 255) <<< ((8 : Int32) &&& 31))).toUInt32.toUInt16.toUInt32.toInt32
theorem shr0 (c : Int32) : c >>> ((0 : Int32) &&& 31) = c := by
  have e : ((0 : Int32) &&& 31) = 0 := by decide
  rw [e]
  apply Int32.toBitVec_inj.mp
  rw [Int32.toBitVec_shiftRight]
  have e1 : ((0 : Int32).toBitVec.smod 32) = 0#32 := by decide
  rw [e1, BitVec.sshiftRight_eq']
  exact BitVec.sshiftRight_zero
theorem lo8_and (x : Int32) : (lo8 x &&& 255).toBitVec.toNat = x.toBitVec.toNat % 256 := by
  have h : (lo8 x).toBitVec = (x.toBitVec.signExtend 8).signExtend 32 := by rw [lo8, Int8.toBitVec_toInt32, Int32.toBitVec_toInt8]
  rw [Int32.toBitVec_and, BitVec.toNat_and, h]
  have e : ((x.toBitVec.signExtend 8).signExtend 32).toNat % 256 = x.toBitVec.toNat % 256 := by
    rw [BitVec.toNat_signExtend]
    have hlt := x.toBitVec.isLt
    simp only [BitVec.toNat_setWidth, BitVec.toNat_signExtend]
    split <;> split <;> omega
  rw [← e]
  exact Nat.and_two_pow_sub_one_eq_mod _ 8
theorem pair_says {c : Int32} (h0 : ¬ c < 0) (h1 : ¬ 65535 < c) : pairCh (lo8 c) (hi8 c) = c := by
  rw [Int32.lt_iff_toInt_lt] at h0 h1
  have e0 : (0 : Int32).toInt = 0 := rfl
  have e1 : (65535 : Int32).toInt = 65535 := rfl
  have hc : c.toInt = c.toBitVec.toNat := by
    have := c.toBitVec.isLt
    have e : c.toInt = c.toBitVec.toInt := rfl
    rw [e] at h0 h1
    rw [e]
    rw [BitVec.toInt_eq_toNat_cond] at h0 h1 ⊢
    split at h0 <;> split <;> omega
  have hn : c.toBitVec.toNat < 65536 := by omega
  have a1 := lo8_and c
  have a2 : (hi8 c &&& 255).toBitVec.toNat = c.toBitVec.toNat / 256 := by
    rw [hi8, lo8_and]
    have e : ((8 : Int32) &&& 31) = 8 := by decide
    rw [e, Int32.toBitVec_shiftRight]
    have e2 : ((8 : Int32).toBitVec.smod 32) = 8#32 := by decide
    rw [e2, BitVec.sshiftRight_eq', BitVec.toNat_sshiftRight_of_msb_false (by rw [BitVec.msb_eq_false_iff_two_mul_lt]; omega)]
    show c.toBitVec.toNat >>> 8 % 256 = _
    rw [Nat.shiftRight_eq_div_pow]
    omega
  unfold pairCh
  apply Int32.toBitVec_inj.mp
  apply BitVec.eq_of_toNat_eq
  have f0 : ((0 : Int32) &&& 31) = 0 := by decide
  have f8 : ((8 : Int32) &&& 31) = 8 := by decide
  rw [f0, f8]
  have g : (((lo8 c &&& 255) <<< (0 : Int32)) ||| ((hi8 c &&& 255) <<< (8 : Int32))).toBitVec.toNat = c.toBitVec.toNat := by
    rw [Int32.toBitVec_or, Int32.toBitVec_shiftLeft, Int32.toBitVec_shiftLeft]
    have s0 : ((0 : Int32).toBitVec.smod 32) = 0#32 := by decide
    have s8 : ((8 : Int32).toBitVec.smod 32) = 8#32 := by decide
    rw [s0, s8, BitVec.toNat_or]
    simp only [BitVec.shiftLeft_eq', BitVec.toNat_shiftLeft, a1, a2]
    show (c.toBitVec.toNat % 256) <<< 0 % 2 ^ 32 ||| (c.toBitVec.toNat / 256) <<< 8 % 2 ^ 32 = _
    rw [Nat.shiftLeft_zero, Nat.mod_eq_of_lt (show c.toBitVec.toNat % 256 < 2 ^ 32 by omega), Nat.mod_eq_of_lt (show (c.toBitVec.toNat / 256) <<< 8 < 2 ^ 32 by rw [Nat.shiftLeft_eq]; omega), Nat.or_comm, ← Nat.shiftLeft_add_eq_or_of_lt (by omega), Nat.shiftLeft_eq]
    omega
  show BitVec.toNat (((((lo8 c &&& 255) <<< (0 : Int32)) ||| ((hi8 c &&& 255) <<< (8 : Int32))).toBitVec.setWidth 16).setWidth 32) = _
  rw [BitVec.toNat_setWidth, BitVec.toNat_setWidth, g]
  omega
end StrChars
namespace StrChars
open Jvm Sem ClassFile Op Lib Jvm.Stand Jvm.Free.XT Jvm.Free.ALB Jvm.Free.JM Jvm.Free
open Jvm.Lib.Cold (StaticIs)
theorem shr1 {n : Nat} (h : 2 * n < 2 ^ 31) : Int32.ofNat (2 * n) >>> ((1 : Int32) &&& 31) = Int32.ofNat n := by
  have e : ((1 : Int32) &&& 31) = 1 := by decide
  rw [e]
  apply Int32.toBitVec_inj.mp
  rw [Int32.toBitVec_shiftRight]
  have e1 : ((1 : Int32).toBitVec.smod 32) = 1#32 := by decide
  have hm : (BitVec.ofNat 32 (2 * n)).toNat = 2 * n := by rw [BitVec.toNat_ofNat, Nat.mod_eq_of_lt (by omega)]
  rw [e1, BitVec.sshiftRight_eq']
  apply BitVec.eq_of_toNat_eq
  show ((BitVec.ofNat 32 (2 * n)).sshiftRight 1).toNat = (BitVec.ofNat 32 n).toNat
  rw [BitVec.toNat_sshiftRight_of_msb_false (by rw [BitVec.msb_eq_false_iff_two_mul_lt, hm]; omega), hm, BitVec.toNat_ofNat, Nat.shiftRight_eq_div_pow]
  omega
/-- the array's cell V codes the n chars f 0 .. f (n - 1) by the coder cd, as the JDK does: coder 1 just where some char is above 255 -/
def Cod (cd : Int32) (n : Nat) (f : Nat → Int32) (V : Cell) : Prop := (cd = 0 ∧ V.slots.size = n ∧ ∀ j, j < n → V.slots[j]? = some (.int (lo8 (f j))) ∧ ¬ 255 < f j) ∨ (cd = 1 ∧ V.slots.size = 2 * n ∧ (∀ j, j < n → V.slots[2 * j]? = some (.int (lo8 (f j))) ∧ V.slots[2 * j + 1]? = some (.int (hi8 (f j)))) ∧ ∃ j, j < n ∧ 255 < f j)
theorem Cod.cd {cd : Int32} {n : Nat} {f : Nat → Int32} {V : Cell} (h : Cod cd n f V) : cd = 0 ∨ cd = 1 := h.imp (fun q => q.1) fun q => q.1
theorem Cod.len {cd : Int32} {n : Nat} {f : Nat → Int32} {V : Cell} (h : Cod cd n f V) (hs : V.slots.size < 2 ^ 31) : Int32.ofNat V.slots.size >>> (cd &&& 31) = Int32.ofNat n := by
  rcases h with ⟨rfl, h, -⟩ | ⟨rfl, h, -⟩
  · rw [shr0, h]
  · rw [h, shr1 (by omega)]
/-- **x is a String of the n chars f 0 .. f (n - 1)**, Latin-1 or UTF-16; its array at t has the cell V -/
def Txt (x t : Addr) (V : Cell) (cd : Int32) (n : Nat) (f : Nat → Int32) (U : State) : Prop := Exact "java/lang/String" x U ∧ Has x "java/lang/String" "value" "[B" (.ref t) U ∧ Has x "java/lang/String" "coder" "B" (.int cd) U ∧ XT.Arr .byte t V U ∧ Cod cd n f V ∧ ∀ j, j < n → ¬ f j < 0 ∧ ¬ 65535 < f j
theorem Txt.mv {x t : Addr} {V : Cell} {cd : Int32} {n : Nat} {f : Nat → Int32} {U U' : State} (h : Txt x t V cd n f U) (hal : U.vm.Alike U'.vm) (hh : U'.heap = U.heap) : Txt x t V cd n f U' := ⟨h.1.mv hal hh, h.2.1.mv hal hh, h.2.2.1.mv hal hh, h.2.2.2.1.mv hal hh, h.2.2.2.2⟩
namespace Cdr
def yN : MethodName := ⟨"java/lang/String", "coder", "()B"⟩
abbrev yB : ByteArray := jdk_42_method_152_code
theorem d0 : decode yB 0 = .ok (.getstatic 38, 3) := by decide +kernel
theorem d3 : decode yB 3 = .ok (.ifCond (.eq) 10, 3) := by decide +kernel
theorem d6 : decode yB 6 = .ok (.aload_n 0, 1) := by decide +kernel
theorem d7 : decode yB 7 = .ok (.getfield 15, 3) := by decide +kernel
theorem d10 : decode yB 10 = .ok (.goto 4, 3) := by decide +kernel
theorem d14 : decode yB 14 = .ok (.ireturn, 1) := by decide +kernel
def site : List Cond := [.fieldLink "java/lang/String" 38 "java/lang/String" "COMPACT_STRINGS" "Z", .fieldLink "java/lang/String" 15 "java/lang/String" "coder" "B"]
def tab : Cond := tabOf yN yB 1 (some .byte) site
def P (x : Addr) (cd z : Int32) (args : Array Value) (s : State) : Prop := args = #[.ref x] ∧ Has x "java/lang/String" "coder" "B" (.int cd) s ∧ (cd = 0 ∨ cd = 1) ∧ StaticIs s "java/lang/String" "COMPACT_STRINGS" "Z" (.int z) ∧ ¬ z = 0
def E (cd : Int32) (r : Option Value) (s u : State) : Prop := XT.PureE (some (.int cd)) r s u
theorem law (l : Launch) (x : Addr) (cd z : Int32) : Law l yN 1 0 0 0 yB 1 (some .byte) site (P x cd z) (E cd) [] 0 0 := by
  refine Law.of_walk (plainFor_of_name (by decide +kernel)) (by decide +kernel) (by decide +kernel) (by decide) (fun _ _ h => by rw [h.1]; rfl) (fun _ U U' hal hh h => ⟨h.1, h.2.1.mv hal hh, h.2.2.1, h.2.2.2.1.there hal hh, h.2.2.2.2⟩) (fun r U U' V V' h1 hal h2 h => XT.PureE.mv r U U' V V' h1 hal h2 h) ?_
  intro p e s m args below meth c s₁ X0 hexec hbytes hml hret hlk hnm hown hh0 W hP
  obtain ⟨rfl, hx, hc, s1, hz⟩ := hP
  have c1 : Steps p.tables e below (s₁.setTop (entryFrame m #[.ref x] 1)) (s₁.setTop (mkF m 0 #[.val (.ref x)] [])) := entry rfl
  obtain ⟨T2, X2, q2, st2⟩ := X0.sget hexec hown (wk W (.fieldLink "java/lang/String" 38 "java/lang/String" "COMPACT_STRINGS" "Z")) s1 (fun _ _ h => by rw [hh0]; exact h) (g := (mkF m 0 #[.val (.ref x)] [])) rfl (hb hbytes d0)
  have hh2 := q2.trans hh0
  have c3 : Steps p.tables e below (s₁.setTop (entryFrame m #[.ref x] 1)) (T2.setTop (mkF m 7 #[.val (.ref x)] [.ref x])) := (c1.trans (st2 _ (Steps.refl _))).trans (by
    refine XS.ifNo X2.here hexec rfl (hb hbytes d3) rfl (i0_eq_f hz) ?_
    refine XS.aloadN X2.here hexec rfl (hb hbytes d6) rfl rfl ?_
    exact Steps.refl _)
  obtain ⟨T4, X4, q4, st4⟩ := X2.hget hexec hown (wk W (.fieldLink "java/lang/String" 15 "java/lang/String" "coder" "B")) (hx.mv X2.warmed.alike hh2) (g := (mkF m 7 #[.val (.ref x)] [.ref x])) rfl (rest := []) rfl (hb hbytes d7)
  have c5 : Steps p.tables e below (s₁.setTop (entryFrame m #[.ref x] 1)) (T4.setTop (mkF m 14 #[.val (.ref x)] [.int cd])) := (c3.trans (st4 _ (Steps.refl _))).trans (by
    refine XS.goto X4.here hexec rfl (pc0 := 10) rfl (hb hbytes d10) (by decide) rfl ?_
    exact Steps.refl _)
  exact ⟨T4, some (.int cd), _, _, _, X4, rfl, rfl, rfl, (fun h => by cases h), ⟨rfl, q4.trans hh2⟩, fun fs hl => c5.trans (X4.ireturnOut hexec hret (by rcases hc with rfl | rfl <;> rfl) (Or.inr (Or.inr (Or.inl rfl))) (hb hbytes d14) hl)⟩
end Cdr
namespace Len
def yN : MethodName := ⟨"java/lang/String", "length", "()I"⟩
abbrev yB : ByteArray := jdk_42_method_54_code
theorem d0 : decode yB 0 = .ok (.aload_n 0, 1) := by decide +kernel
theorem d1 : decode yB 1 = .ok (.getfield 9, 3) := by decide +kernel
theorem d4 : decode yB 4 = .ok (.arraylength, 1) := by decide +kernel
theorem d5 : decode yB 5 = .ok (.aload_n 0, 1) := by decide +kernel
theorem d6 : decode yB 6 = .ok (.invokevirtual 335, 3) := by decide +kernel
theorem d9 : decode yB 9 = .ok (.ishr, 1) := by decide +kernel
theorem d10 : decode yB 10 = .ok (.ireturn, 1) := by decide +kernel
def site : List Cond := [.fieldLink "java/lang/String" 9 "java/lang/String" "value" "[B", Cdr.tab] ++ virtW "java/lang/String" 335 "java/lang/String" Cdr.yN Cdr.yN
def tab : Cond := tabOf yN yB 1 (some .int) site
def P (x t : Addr) (V : Cell) (cd : Int32) (n : Nat) (f : Nat → Int32) (z : Int32) (args : Array Value) (s : State) : Prop := args = #[.ref x] ∧ Txt x t V cd n f s ∧ StaticIs s "java/lang/String" "COMPACT_STRINGS" "Z" (.int z) ∧ ¬ z = 0
def E (n : Nat) (r : Option Value) (s u : State) : Prop := XT.PureE (some (.int (Int32.ofNat n))) r s u
/-- length() of a String of n chars, in either coding -/
theorem law (l : Launch) (x t : Addr) (V : Cell) (cd : Int32) (n : Nat) (f : Nat → Int32) (z : Int32) : Law l yN 1 0 1 13 yB 1 (some .int) site (P x t V cd n f z) (E n) [] 0 0 := by
  refine Law.of_walk (plainFor_of_name (by decide +kernel)) (by decide +kernel) (by decide +kernel) (by decide) (fun _ _ h => by rw [h.1]; rfl) (fun _ U U' hal hh h => ⟨h.1, h.2.1.mv hal hh, h.2.2.1.there hal hh, h.2.2.2⟩) (fun r U U' V V' h1 hal h2 h => XT.PureE.mv r U U' V V' h1 hal h2 h) ?_
  intro p e s m args below meth c s₁ X0 hexec hbytes hml hret hlk hnm hown hh0 W hP
  obtain ⟨rfl, hx, s1, hz⟩ := hP
  have v31 := hx.2.2.2.1.2.2.2
  have c1 : Steps p.tables e below (s₁.setTop (entryFrame m #[.ref x] 1)) (s₁.setTop (mkF m 1 #[.val (.ref x)] [.ref x])) := Steps.trans (entry rfl) (by
    show Steps p.tables e below (s₁.setTop (mkF m 0 #[.val (.ref x)] [])) _
    refine XS.aloadN X0.here hexec rfl (hb hbytes d0) rfl rfl ?_
    exact Steps.refl _)
  obtain ⟨T2, X2, q2, st2⟩ := X0.hget hexec hown (wk W (.fieldLink "java/lang/String" 9 "java/lang/String" "value" "[B")) (hx.mv X0.warmed.alike hh0).2.1 (g := (mkF m 1 #[.val (.ref x)] [.ref x])) rfl (rest := []) rfl (hb hbytes d1)
  have hh2 := q2.trans hh0
  have hx2 := hx.mv X2.warmed.alike hh2
  have c3 : Steps p.tables e below (s₁.setTop (entryFrame m #[.ref x] 1)) (T2.setTop (mkF m 6 #[.val (.ref x)] [.ref x, .int (Int32.ofNat V.slots.size)])) := (c1.trans (st2 _ (Steps.refl _))).trans (by
    refine X2.alen hexec hx2.2.2.2.1 rfl rfl (hb hbytes d4) ?_
    refine XS.aloadN X2.here hexec rfl (hb hbytes d5) rfl rfl ?_
    exact Steps.refl _)
  obtain ⟨v4, T4, X4, E4, g4⟩ := X2.callV hexec (Cdr.law l x cd z) hown (wks W (virtW "java/lang/String" 335 "java/lang/String" Cdr.yN Cdr.yN)) rfl (by decide) (wk W Cdr.tab) (W := 1) (Nat.le_of_ble_eq_true rfl) (Nat.le_of_ble_eq_true rfl) (Nat.le_refl _) (Nat.le_refl _) (hx2.1.fc X2.warmed.alike) hx2.1.is (g := (mkF m 6 #[.val (.ref x)] [.ref x, .int (Int32.ofNat V.slots.size)])) rfl (by rw [hml]; rfl) c3 (argsL := []) (rest := [.int (Int32.ofNat V.slots.size)]) rfl rfl (by show 2 * 0 + (1 + 0) ≤ _; decide) (hb hbytes d6) (⟨rfl, hx2.2.2.1, hx.2.2.2.2.1.cd, s1.there X2.warmed.alike hh2, hz⟩)
  obtain ⟨rfl, q4⟩ := E4
  have c5 : Steps p.tables e below (s₁.setTop (entryFrame m #[.ref x] 1)) (T4.setTop (mkF m 10 #[.val (.ref x)] [.int (Int32.ofNat V.slots.size >>> (cd &&& 31))])) := Steps.trans g4 (by
    refine ishr X4.here hexec rfl (hb hbytes d9) rfl ?_
    exact Steps.refl _)
  rw [hx.2.2.2.2.1.len v31] at c5
  exact ⟨T4, some (.int (Int32.ofNat n)), _, _, _, X4, rfl, rfl, rfl, (fun h => by cases h), ⟨rfl, q4.trans hh2⟩, fun fs hl => c5.trans (X4.ireturnOut hexec hret rfl (Or.inl rfl) (hb hbytes d10) hl)⟩
theorem pays {l : Launch} {R : Room} {p : Program} {e : Env} {below : List Frame} {s : State} {sargs : Array Value} {len W : Nat} (x t : Addr) (V : Cell) (cd : Int32) (n : Nat) (f : Nat → Int32) (z : Int32) (htab : tab.before sargs s = true) (hfr : 2 ≤ R.frames) (hlo : W + 25 ≤ R.locals) :
    Back l R p e below s sargs yN len W (fun A₁ a₁ => A₁.cells + 0 ≤ R.cells ∧ A₁.slots + 0 ≤ R.slots ∧ P x t V cd n f z a₁ A₁.U) (fun A₁ _ v₁ B₁ => E n v₁ A₁.U B₁.U ∧ B₁.locs = A₁.locs ++ [] ∧ B₁.cells = A₁.cells + 0 ∧ B₁.slots = A₁.slots + 0) :=
  (law l x t V cd n f z).pays htab hfr (by omega)
end Len
end StrChars
namespace StrChars.Road
open Jvm Sem ClassFile Op Lib Jvm.Stand Jvm.Free Jvm.Free.XT
open Jvm.Lib.Cold (StaticIs)
theorem consq {a : Array Value} {s : State} {c : Jvm.Cond} {L : List Jvm.Cond} (h0 : c.before a s = true) (h : ∀ w ∈ L, w.before a s = true) : ∀ w ∈ c :: L, w.before a s = true := fun w hw => (List.mem_cons.mp hw).elim (fun e => e ▸ h0) (h w)
/-- the words of String.length(), either coding -/
abbrev wordsLen : List Jvm.Cond := [.code Len.yN Len.yB 1 (some .int), .initialized ST, .fieldLink ST 9 ST "value" "[B", .fieldLink ST 38 ST "COMPACT_STRINGS" "Z", .fieldLink ST 15 ST "coder" "B", .code Cdr.yN Cdr.yB 1 (some .byte), .methodLink ST 335 Cdr.yN, .declares Cdr.yN, .selects ST Cdr.yN Cdr.yN, .instanceMethod Cdr.yN]
theorem tabLen_of {a : Array Value} {s : State} (h : ∀ w ∈ wordsLen, w.before a s = true) : Len.tab.before a s = true := by
  have hc : Cdr.tab.before a s = true := unparts (wk h (.code Cdr.yN Cdr.yB 1 (some .byte))) (wks h (.initialized Cdr.yN.cls :: Cdr.site))
  have q := consq hc h
  exact unparts (wk q (.code Len.yN Len.yB 1 (some .int))) (wks q (.initialized Len.yN.cls :: Len.site))
theorem movedLen {Z s : State} {a0 args : Array Value} (hZ : Z.Warmed39 s.vm) (hw : ∀ d ∈ wordsLen, d.before a0 Z = true) : ∀ d ∈ wordsLen, d.before args s = true := fun d hd => by
  have q := hw d hd
  have t : ∀ d ∈ wordsLen, d = .arrayClass .byte ∨ (d.onTables && d.keepsFace) = true := by decide +kernel
  rcases t d hd with rfl | t
  · exact RoadKit.mvA hZ q
  · exact RoadKit.mv hZ q t
/-- the bytes of the chars cs, low before high -/
def wideBytes : List Int32 → List Value
  | [] => []
  | c :: cs => .int (lo8 c) :: .int (hi8 c) :: wideBytes cs
theorem wide_lo (d : Value) : ∀ (cs : List Int32) (j : Nat), j < cs.length → (wideBytes cs).getD (2 * j) d = .int (lo8 (cs.getD j 0))
  | [], j, h => absurd h (Nat.not_lt_zero j)
  | c :: cs, 0, _ => rfl
  | c :: cs, j + 1, h => by
    have q := wide_lo d cs j (by simpa using h)
    rw [show 2 * (j + 1) = 2 * j + 1 + 1 from by omega]
    simpa [wideBytes] using q
theorem wide_hi (d : Value) : ∀ (cs : List Int32) (j : Nat), j < cs.length → (wideBytes cs).getD (2 * j + 1) d = .int (hi8 (cs.getD j 0))
  | [], j, h => absurd h (Nat.not_lt_zero j)
  | c :: cs, 0, _ => rfl
  | c :: cs, j + 1, h => by
    have q := wide_hi d cs j (by simpa using h)
    rw [show 2 * (j + 1) + 1 = 2 * j + 1 + 1 + 1 from by omega]
    simpa [wideBytes] using q
theorem low_at (d : Value) (cs : List Int32) (j : Nat) (h : j < cs.length) : (cs.map fun c => Value.int (lo8 c)).getD j d = .int (lo8 (cs.getD j 0)) := by
  simp [List.getD_eq_getElem?_getD, h]
/-- an array of N2 bytes vs codes the chars cs by the coder cd -/
def CodA (cs : List Int32) (cd N2 : Int32) (vs : List Value) : Prop := (cd = 0 ∧ N2 = Int32.ofNat cs.length ∧ vs = (cs.map fun c => Value.int (lo8 c)) ∧ ∀ c ∈ cs, ¬ 255 < c) ∨ (cd = 1 ∧ N2 = Int32.ofNat (2 * cs.length) ∧ vs = wideBytes cs ∧ ∃ c ∈ cs, 255 < c)
theorem CodA.cod {cs : List Int32} {cd N2 : Int32} {vs : List Value} {V : Cell} (h : CodA cs cd N2 vs) (hn : 2 * cs.length < 2 ^ 31) (hs : V.slots.size = N2.toNatClampNeg) (hv : RoadKit.Has V vs (.int 0)) : Cod cd cs.length (fun j => cs.getD j 0) V := by
  rcases h with ⟨rfl, rfl, rfl, h⟩ | ⟨rfl, rfl, rfl, c, hc, hw⟩
  · rw [n32 (by omega)] at hs
    exact Or.inl ⟨rfl, hs, fun j hj => ⟨by rw [hv j (by omega), low_at _ _ _ hj], by
      have e : cs.getD j 0 = cs[j] := by simp [List.getD_eq_getElem?_getD, hj]
      show ¬ 255 < cs.getD j 0
      rw [e]; exact h _ (List.getElem_mem _)⟩⟩
  · rw [n32 (by omega)] at hs
    obtain ⟨j, hj, rfl⟩ := List.getElem_of_mem hc
    exact Or.inr ⟨rfl, hs, fun j hj => ⟨by rw [hv _ (by omega), wide_lo _ _ _ hj], by rw [hv _ (by omega), wide_hi _ _ _ hj]⟩, j, hj, by
      have e : cs.getD j 0 = cs[j] := by simp [List.getD_eq_getElem?_getD, hj]
      show 255 < cs.getD j 0
      rw [e]; exact hw⟩
/-- an object of exactly java/lang/String, its two fields found: as the laws ask it -/
theorem strObj {Z U : State} {a0 : Array Value} {kI : Nat} (wi : (Jvm.Cond.instantiable ST kI).before a0 Z = true) (al : Z.vm.Alike U.vm) {x : Addr} {v0 c0 : Value} (E : RoadKit.Exa Z U.heap x ST) (V : RoadKit.Fld Z U.heap x ST "value" "[B" v0) (C : RoadKit.Fld Z U.heap x ST "coder" "B" c0) :
    ∃ (D : Cell) (fV fC : Field), Blank ST x D U ∧ Found ST "value" "[B" fV U ∧ Found ST "coder" "B" fC U ∧ D.slots[fV.slot]? = some v0 ∧ D.slots[fC.slot]? = some c0 ∧ RoadKit.slotOf Z ST "value" "[B" = fV.slot ∧ RoadKit.slotOf Z ST "coder" "B" = fC.slot := by
  obtain ⟨D, cfV, kV, iV, fV, hD, gV, stV, knV, obV, asV, slV⟩ := V
  obtain ⟨D', cfC, kC, iC, fC, hD', gC, stC, -, -, asC, slC⟩ := C
  cases hD.symm.trans hD'
  obtain ⟨D2, kD, e1, e2, e3, e4, e5⟩ := E
  cases hD.symm.trans e1
  obtain ⟨c2, k2, i1, i2, i3, -⟩ := Cond.instantiable_spec wi
  cases e2.symm.trans i1
  cases e3.symm.trans i2
  obtain ⟨kU, u1, u2⟩ := al.2.2 _ _ e3
  exact ⟨D, fV, fC, ⟨hD, ⟨knV, fun q hq => by rw [hq] at obV; cases obV⟩, by rw [al.findClass]; exact e2, kU, u1, by rw [u2]; exact i3, by rw [u2]; exact e5 i3⟩, ⟨SBG.found_only al ⟨cfV, kV, iV, gV⟩, stV⟩, ⟨SBG.found_only al ⟨cfC, kC, iC, gC⟩, stC⟩, slV, slC, by simp [RoadKit.slotOf, gV], by simp [RoadKit.slotOf, gC]⟩
theorem sta_is {Z U : State} (al : Z.vm.Alike U.vm) {C n d : String} {v : Value} (S : RoadKit.Sta Z U.heap C n d v) : StaticIs U C n d v := by
  obtain ⟨cfS, iS, kS, fS, st, cS, t1, t2, t3, t4, t5, t6, t7⟩ := S
  exact StaticIs.there (s := { Z with heap := U.heap }) ⟨cfS, iS, kS, fS, st, cS, t1, t2, t3, t4, t5, (fun q => by rw [q] at t6; cases t6), t7⟩ al rfl
/-- **length() OF SUCH A STRING** -/
theorem lenW {p : Program} {l : Launch} {e : Env} {R : Room} {s : State} {args : Array Value} {below : List Frame} {len W : Nat} {Z : State} {a0 : Array Value} {h : Heap} (hZ : Z.Warmed39 s.vm) (hw : ∀ d ∈ wordsLen, d.before a0 Z = true) {kI : Nat} (wi : (Jvm.Cond.instantiable ST kI).before a0 Z = true)
    {x t : Addr} {kb : ClassId} {cs : List Int32} {cd N2 z : Int32} {vs : List Value} (E : RoadKit.Exa Z h x ST) (V : RoadKit.Fld Z h x ST "value" "[B" (.ref t)) (C : RoadKit.Fld Z h x ST "coder" "B" (.int cd)) (K : RoadKit.Arv Z h t kb .byte N2 vs (.int 0)) (hc : CodA cs cd N2 vs) (hb : ∀ c ∈ cs, ¬ c < 0 ∧ ¬ (65535 : Int32) < c)
    (S : RoadKit.Sta Z h ST "COMPACT_STRINGS" "Z" (.int z)) (hz : ¬ z = 0) (l2 : cs.length ≤ 4000) (hfr : 2 ≤ R.frames) (hlo : W + 25 ≤ R.locals) :
    Back l R p e below s args (⟨"java/lang/String", "length", "()I"⟩ : MethodName) len W (fun P a => a = #[.ref x] ∧ P.U.heap = h ∧ P.cells + 0 ≤ R.cells ∧ P.slots + 0 ≤ R.slots)
      (fun P _ v B => ∃ L, (v = some (.int (Int32.ofNat cs.length)) ∧ L = [] ∧ B.U.heap = h) ∧ B.locs = P.locs ++ L ∧ B.cells = P.cells + 0 ∧ B.slots = P.slots + 0) := by
  obtain ⟨A, K1, K2, K3, K4, K5, K6⟩ := K
  have hcod := hc.cod (by omega) K3 K5
  intro m meth c P g ig mk a X hg hsize hdg hW hn hp'
  obtain ⟨rfl, rfl, r1, r2⟩ := hp'
  have al : Z.vm.Alike P.U.vm := hZ.alike.trans X.warmed.alike
  obtain ⟨D, fV, fC, hB, F1, F2, g1, g2, -, -⟩ := strObj wi al E V C
  have hx : Txt x t A cd cs.length (fun j => cs.getD j 0) P.U := ⟨⟨_, hB.2.2.1, D, hB.1, rfl, by cases q : D.vm <;> first | rfl | exact absurd q (hB.2.1.2 _)⟩, Has.of hB F1 g1, Has.of hB F2 g2, ⟨K1.1, State.isArrayOf_alike al K1.2.1, K1.2.2, by rcases hcod with ⟨-, q, -⟩ | ⟨-, q, -⟩ <;> omega⟩, hcod, fun j hj => by
    have e : cs.getD j 0 = cs[j] := by simp [List.getD_eq_getElem?_getD, hj]
    show ¬ cs.getD j 0 < 0 ∧ ¬ 65535 < cs.getD j 0
    rw [e]; exact hb _ (List.getElem_mem _)⟩
  obtain ⟨v, B, X', ⟨⟨hv, hh⟩, hl, hk, hs⟩, st⟩ := Len.pays x t A cd cs.length (fun j => cs.getD j 0) z (tabLen_of (movedLen hZ hw)) hfr hlo m meth c P g ig mk _ X hg hsize hdg hW hn ⟨r1, r2, rfl, hx, sta_is al S, hz⟩
  exact ⟨v, B, X', ⟨[], ⟨hv, rfl, hh⟩, hl, hk, hs⟩, st⟩
end StrChars.Road
namespace StrChars.Road
open Jvm Sem ClassFile Op Lib Jvm.Stand Jvm.Free Jvm.Free.XT
open Jvm.Lib.Cold (StaticIs)
/-- what backV says of its String, as the contracts of this text ask it: cs's low bytes, coder 0 -/
theorem codOf {cs : List Int32} {n : Nat} (hn : cs.length = n) (hb : ∀ c ∈ cs, ¬ 255 < c) : CodA cs 0 (Int32.ofNat n) ((cs.map lo8).map Value.int) := Or.inl ⟨rfl, by rw [hn], by simp [List.map_map, Function.comp_def], hb⟩
end StrChars.Road
end Jvm.Pilot.@@N@@
namespace Jvm.Pilot.@@N@@
open Jvm Jvm.ClassFile Sem Op Lib Jvm.Free Jvm.Stand Jvm.LawKit Jvm.RoadKit Bundle Jvm.Pilot.@@N@@.Jvm.D
section OwnKit
variable {p : Program} {l : Launch} {e : Env} {R : Room} {s : State} {m : MethodId} {args : Array Value} {below : List Frame} {meth : Method} {c : Code} {Z : State} {a0 : Array Value} {EL : List (String × Nat)} {own : String} {n0 : Nat} {T : State} {vm0 : Vm} {h : Heap} {cells slots : Nat} {Q : Option Value → Heap → Prop}
theorem own_extRefl (h : Heap) : Ext h h := ⟨Nat.le_refl _, fun _ _ q => q⟩
theorem own_extTrans {h h1 h2 : Heap} (A : Ext h h1) (B : Ext h1 h2) : Ext h h2 := ⟨Nat.le_trans A.1 B.1, fun a c q => B.2 _ _ (A.2 _ _ q)⟩
theorem own_extKeep {h h1 : Heap} (K : Keep h h1 []) : Ext h h1 := ⟨K.1, fun a c q => K.2.1 a c q nin0⟩
theorem own_keepExt {h h1 : Heap} {ws : List Addr} (E : Ext h h1) : Keep h h1 ws := (Keep.refl h ws).ext E
theorem own_extWr {h h1 h2 : Heap} {a : Addr} {sl : Nat} {v : Value} (E : Ext h h1) (W : Wr h1 h2 a sl v) (q : h.size ≤ a) : Ext h h2 := own_extKeep ((own_keepExt E).wr W (Or.inr q))
theorem own_extK {h h1 h2 : Heap} {ws : List Addr} (E : Ext h h1) (K : Keep h1 h2 ws) (q : ∀ x ∈ ws, h.size ≤ x) : Ext h h2 := own_extKeep ((own_keepExt E).trans K (fun x hx => Or.inr (q x hx)))
/-- the walk stands at T: its base tables vm0, its heap h -/
def own_Wk (p : Program) (l : Launch) (e : Env) (R : Room) (s : State) (m : MethodId) (args : Array Value) (below : List Frame) (meth : Method) (c : Code) (Z : State) (EL : List (String × Nat)) (own : String) (n0 : Nat) (T : State) (vm0 : Vm) (h : Heap) (cells slots : Nat) : Prop :=
  ∃ (locs : List Loc) (k0 : Nat), Stand p l e R (s.setVm vm0) m args below meth c T locs cells slots ∧ T.heap = h ∧ s.Since vm0 k0 ∧ k0 ≤ h.size ∧ Z.Warmed39 vm0 ∧ vm0.findClass own = some m.cls ∧ Fr n0 locs ∧ Old Z n0 h ∧ CHr Z EL s.vm s.heap vm0 h
/-- from T with the frame g the run comes to the method's end, with Q -/
def own_WP (p : Program) (e : Env) (R : Room) (below : List Frame) (s : State) (Z : State) (EL : List (String × Nat)) (n0 : Nat) (Q : Option Value → Heap → Prop) (T : State) (g : JFrame) : Prop :=
  ∃ s₂ o, Steps p.tables e below (T.setTop g) s₂ ∧ s₂.status = .running ∧ Ended s₂ below o ∧ ∃ v L, o = Outcome.returned v ∧ (Q v s₂.heap ∧ Fr n0 L ∧ Old Z n0 s₂.heap) ∧ CHr Z EL s.vm s.heap s₂.vm s₂.heap ∧ ReturnedEndW s o s₂ L R.cells R.slots
/-- a method's contract at given arguments and a given heap -/
def own_Ct (l : Launch) (y : MethodName) (bytes : ByteArray) (maxL : Nat) (ret : Option FieldType) (rm : Room) (Z : State) (EL : List (String × Nat)) (n0 : Nat) (as' : Array Value) (h : Heap) (sf : List Addr) (Q : Option Value → Heap → Prop) : Prop :=
  ∀ ws : List Jvm.Cond, MetFree l y (head1 (Jvm.Cond.code y bytes maxL ret :: ws) rm) (fun a U => a = as' ∧ Z.Warmed39 U.vm ∧ U.heap = h ∧ CHv Z EL U.vm h ∧ ∀ x ∈ sf, Safe Z EL U.vm h x) (fun _ _ _ _ _ => True) (fun _ U o U' => ∃ v L, o = Outcome.returned v ∧ (Q v U'.heap ∧ Fr n0 L ∧ Old Z n0 U'.heap) ∧ CHr Z EL U.vm U.heap U'.vm U'.heap ∧ ReturnedEndW U o U' L rm.cells rm.slots)
/-- what pays a call -/
def own_Pay (l : Launch) (R : Room) (p : Program) (e : Env) (below : List Frame) (s : State) (args : Array Value) (y : MethodName) (len W : Nat) (Z : State) (EL : List (String × Nat)) (n0 : Nat) (vm0 : Vm) (h : Heap) (as' : Array Value) (kc ks : Nat) (Q : Option Value → Heap → Prop) : Prop :=
  BackS l R p e below (s.setVm vm0) args y len W (fun A a => a = as' ∧ A.U.heap = h ∧ A.cells + kc ≤ R.cells ∧ A.slots + ks ≤ R.slots) (fun A _ v B => ∃ L, (Q v B.U.heap ∧ Fr n0 L ∧ Old Z n0 B.U.heap) ∧ B.locs = A.locs ++ L ∧ B.cells = A.cells + kc ∧ B.slots = A.slots + ks ∧ CHr Z EL vm0 h B.U.vm B.U.heap)
theorem own_by {T' : State} {g g' : JFrame} (st : ∀ t, Steps p.tables e below (T'.setTop g') t → Steps p.tables e below (T.setTop g) t) (k : own_WP p e R below s Z EL n0 Q T' g') : own_WP p e R below s Z EL n0 Q T g := by
  obtain ⟨s2, o, h1, r⟩ := k
  exact ⟨s2, o, st _ h1, r⟩
theorem own_at (w : own_Wk p l e R s m args below meth c Z EL own n0 T vm0 h cells slots) : Jvm.At T m c below := by
  obtain ⟨_, _, X, _⟩ := w
  exact X.here
theorem own_hZ (w : own_Wk p l e R s m args below meth c Z EL own n0 T vm0 h cells slots) : Z.Warmed39 vm0 := by
  obtain ⟨_, _, _, _, _, _, hZ, _⟩ := w
  exact hZ
theorem own_old (w : own_Wk p l e R s m args below meth c Z EL own n0 T vm0 h cells slots) : Old Z n0 h := by
  obtain ⟨_, _, _, _, _, _, _, _, _, O, _⟩ := w
  exact O
theorem own_chv (w : own_Wk p l e R s m args below meth c Z EL own n0 T vm0 h cells slots) : CHv Z EL vm0 h := by
  obtain ⟨_, _, _, _, _, _, _, _, _, _, C⟩ := w
  exact C.1
theorem own_n0 (w : own_Wk p l e R s m args below meth c Z EL own n0 T vm0 h cells slots) : n0 ≤ h.size := by
  have O := own_old w
  exact O.1 ▸ O.2.1
theorem own_mono {c' s' : Nat} (w : own_Wk p l e R s m args below meth c Z EL own n0 T vm0 h cells slots) (hc : cells ≤ c') (hs : slots ≤ s') : own_Wk p l e R s m args below meth c Z EL own n0 T vm0 h c' s' := by
  obtain ⟨locs, k0, X, r⟩ := w
  exact ⟨locs, k0, X.mono hc hs, r⟩
theorem own_leave (w : own_Wk p l e R s m args below meth c Z EL own n0 T vm0 h cells slots) (hEL : EW Z a0 EL) (hlk : meth.locks = false) {v : Option Value} (hv : meth.sig.returnType = none → v = none) (hc : cells ≤ R.cells) (hs : slots ≤ R.slots) (q : Q v h) {g : JFrame}
    (st : ∀ (locs : List Loc) (fs : List Frame), Stand p l e R (s.setVm vm0) m args below meth c T locs cells slots → (∀ (f : JFrame) (acts : List Action), f.method = m → f.locked = none → f.entered = [] → (doReturn e (T.setTop f) acts v).1 = T.setFrames fs) → Steps p.tables e below (T.setTop g) (T.setFrames fs)) : own_WP p e R below s Z EL n0 Q T g := by
  obtain ⟨locs, k0, X, rfl, hS, hk, hZ, hown, N, O, C⟩ := w
  obtain ⟨fs, hr, hrun, hended, h1, h2, h3, h4⟩ := X.leaveW hS hk hv hlk
  have D := CHv.at X hZ hEL C.1
  exact ⟨_, _, st locs fs X hr, hrun, hended, v, locs, rfl, ⟨q, N, O⟩, C.trans D, h1, h2, h3, h4.mono hc hs⟩
theorem own_ret (w : own_Wk p l e R s m args below meth c Z EL own n0 T vm0 h cells slots) (hx : p.tables.exec = Jvm.exec) (hEL : EW Z a0 EL) (hlk : meth.locks = false) {t : FieldType} {v : Value} {i : Instr} {pc : Nat} {Ls : Array Slot} {rest : List Value} (hret : meth.sig.returnType = some t) (hn : narrow t v = v)
    (hi : (i = .ireturn ∧ (t = .int ∨ t = .boolean ∨ t = .byte ∨ t = .char ∨ t = .short) ∧ ∃ z, v = .int z) ∨ (i = .lreturn ∧ t = .long ∧ ∃ z, v = .long z) ∨ (i = .dreturn ∧ t = .double ∧ ∃ z, v = .double z) ∨ (i = .freturn ∧ t = .float ∧ ∃ z, v = .float z) ∨ (i = .areturn ∧ t.isReference = true ∧ v.isRef = true))
    (hd : decode c.code pc = .ok (i, 1)) (hc : cells ≤ R.cells) (hs : slots ≤ R.slots) (q : Q (some v) h) : own_WP p e R below s Z EL n0 Q T (mkF m pc Ls (v :: rest)) :=
  own_leave w hEL hlk (fun h => by rw [hret] at h; cases h) hc hs q (fun locs fs X hr => retOut X hx hret hn hi hd hr)
theorem own_retI (w : own_Wk p l e R s m args below meth c Z EL own n0 T vm0 h cells slots) (hx : p.tables.exec = Jvm.exec) (hEL : EW Z a0 EL) (hlk : meth.locks = false) {z : Int32} {pc : Nat} {Ls : Array Slot} {rest : List Value} (hret : meth.sig.returnType = some .int)
    (hd : decode c.code pc = .ok (.ireturn, 1)) (hc : cells ≤ R.cells) (hs : slots ≤ R.slots) (q : Q (some (.int z)) h) : own_WP p e R below s Z EL n0 Q T (mkF m pc Ls (.int z :: rest)) :=
  own_ret w hx hEL hlk hret rfl (Or.inl ⟨rfl, Or.inl rfl, z, rfl⟩) hd hc hs q
theorem own_retZ (w : own_Wk p l e R s m args below meth c Z EL own n0 T vm0 h cells slots) (hx : p.tables.exec = Jvm.exec) (hEL : EW Z a0 EL) (hlk : meth.locks = false) {z : Int32} {pc : Nat} {Ls : Array Slot} {rest : List Value} (hret : meth.sig.returnType = some .boolean) (hz : z = 0 ∨ z = 1)
    (hd : decode c.code pc = .ok (.ireturn, 1)) (hc : cells ≤ R.cells) (hs : slots ≤ R.slots) (q : Q (some (.int z)) h) : own_WP p e R below s Z EL n0 Q T (mkF m pc Ls (.int z :: rest)) :=
  own_ret w hx hEL hlk hret (by rcases hz with rfl | rfl <;> rfl) (Or.inl ⟨rfl, Or.inr (Or.inl rfl), z, rfl⟩) hd hc hs q
theorem own_narC {z : Int32} (h0 : ¬ z < 0) (h1 : ¬ (65535 : Int32) < z) : z.toUInt32.toUInt16.toUInt32.toInt32 = z := by
  rw [Int32.lt_iff_toInt_lt] at h0 h1
  have e1 : (65535 : Int32).toInt = 65535 := rfl
  have e0 : (0 : Int32).toInt = 0 := rfl
  apply Int32.toInt_inj.mp
  have hb : z.toBitVec.toInt = z.toInt := rfl
  rw [e1] at h1
  rw [e0] at h0
  show ((z.toBitVec.setWidth 16).setWidth 32).toInt = z.toBitVec.toInt
  have hlt := z.toBitVec.isLt
  have h2 : z.toBitVec.toInt = z.toBitVec.toNat := by
    rw [BitVec.toInt_eq_toNat_cond] at hb ⊢
    split
    · rfl
    · rename_i q; rw [if_neg q] at hb; omega
  have h3 : z.toBitVec.toNat < 65536 := by omega
  rw [h2, BitVec.toInt_eq_toNat_cond]
  simp only [BitVec.toNat_setWidth]
  rw [Nat.mod_eq_of_lt (show z.toBitVec.toNat < 2 ^ 16 from h3), Nat.mod_eq_of_lt (show z.toBitVec.toNat < 2 ^ 32 by omega)]
  split <;> omega
theorem own_retC (w : own_Wk p l e R s m args below meth c Z EL own n0 T vm0 h cells slots) (hx : p.tables.exec = Jvm.exec) (hEL : EW Z a0 EL) (hlk : meth.locks = false) {z : Int32} {pc : Nat} {Ls : Array Slot} {rest : List Value} (hret : meth.sig.returnType = some .char) (hz : ¬ z < 0 ∧ ¬ (65535 : Int32) < z)
    (hd : decode c.code pc = .ok (.ireturn, 1)) (hc : cells ≤ R.cells) (hs : slots ≤ R.slots) (q : Q (some (.int z)) h) : own_WP p e R below s Z EL n0 Q T (mkF m pc Ls (.int z :: rest)) :=
  own_ret w hx hEL hlk hret (by show Value.int _ = Value.int _; rw [own_narC hz.1 hz.2]) (Or.inl ⟨rfl, Or.inr (Or.inr (Or.inr (Or.inl rfl))), z, rfl⟩) hd hc hs q
theorem own_retB (w : own_Wk p l e R s m args below meth c Z EL own n0 T vm0 h cells slots) (hx : p.tables.exec = Jvm.exec) (hEL : EW Z a0 EL) (hlk : meth.locks = false) {z : Int32} {pc : Nat} {Ls : Array Slot} {rest : List Value} (hret : meth.sig.returnType = some .byte) (hz : narrow .byte (.int z) = .int z)
    (hd : decode c.code pc = .ok (.ireturn, 1)) (hc : cells ≤ R.cells) (hs : slots ≤ R.slots) (q : Q (some (.int z)) h) : own_WP p e R below s Z EL n0 Q T (mkF m pc Ls (.int z :: rest)) :=
  own_ret w hx hEL hlk hret hz (Or.inl ⟨rfl, Or.inr (Or.inr (Or.inl rfl)), z, rfl⟩) hd hc hs q
theorem own_retJ (w : own_Wk p l e R s m args below meth c Z EL own n0 T vm0 h cells slots) (hx : p.tables.exec = Jvm.exec) (hEL : EW Z a0 EL) (hlk : meth.locks = false) {z : Int64} {pc : Nat} {Ls : Array Slot} {rest : List Value} (hret : meth.sig.returnType = some .long)
    (hd : decode c.code pc = .ok (.lreturn, 1)) (hc : cells ≤ R.cells) (hs : slots ≤ R.slots) (q : Q (some (.long z)) h) : own_WP p e R below s Z EL n0 Q T (mkF m pc Ls (.long z :: rest)) :=
  own_ret w hx hEL hlk hret rfl (Or.inr (Or.inl ⟨rfl, rfl, z, rfl⟩)) hd hc hs q
theorem own_retF (w : own_Wk p l e R s m args below meth c Z EL own n0 T vm0 h cells slots) (hx : p.tables.exec = Jvm.exec) (hEL : EW Z a0 EL) (hlk : meth.locks = false) {z : UInt32} {pc : Nat} {Ls : Array Slot} {rest : List Value} (hret : meth.sig.returnType = some .float)
    (hd : decode c.code pc = .ok (.freturn, 1)) (hc : cells ≤ R.cells) (hs : slots ≤ R.slots) (q : Q (some (.float z)) h) : own_WP p e R below s Z EL n0 Q T (mkF m pc Ls (.float z :: rest)) :=
  own_ret w hx hEL hlk hret rfl (Or.inr (Or.inr (Or.inr (Or.inl ⟨rfl, rfl, z, rfl⟩)))) hd hc hs q
theorem own_retA (w : own_Wk p l e R s m args below meth c Z EL own n0 T vm0 h cells slots) (hx : p.tables.exec = Jvm.exec) (hEL : EW Z a0 EL) (hlk : meth.locks = false) {t : FieldType} {v : Value} {pc : Nat} {Ls : Array Slot} {rest : List Value} (hret : meth.sig.returnType = some t) (ht : t.isReference = true) (hv : v.isRef = true)
    (hd : decode c.code pc = .ok (.areturn, 1)) (hc : cells ≤ R.cells) (hs : slots ≤ R.slots) (q : Q (some v) h) : own_WP p e R below s Z EL n0 Q T (mkF m pc Ls (v :: rest)) :=
  own_ret w hx hEL hlk hret (by rcases ref_cases hv with rfl | ⟨a, rfl⟩ <;> cases t <;> first | rfl | (simp [FieldType.isReference] at ht)) (Or.inr (Or.inr (Or.inr (Or.inr ⟨rfl, ht, hv⟩)))) hd hc hs q
theorem own_retV (w : own_Wk p l e R s m args below meth c Z EL own n0 T vm0 h cells slots) (hx : p.tables.exec = Jvm.exec) (hEL : EW Z a0 EL) (hlk : meth.locks = false) {pc : Nat} {Ls : Array Slot} (hret : meth.sig.returnType = none)
    (hd : decode c.code pc = .ok (.return_, 1)) (hc : cells ≤ R.cells) (hs : slots ≤ R.slots) (q : Q none h) : own_WP p e R below s Z EL n0 Q T (mkF m pc Ls []) :=
  own_leave w hEL hlk (fun _ => rfl) hc hs q (fun locs fs X hr => X.returnOut hx hret hd hr)
theorem own_body {y : MethodName} {bytes : ByteArray} {maxL : Nat} {ret : Option FieldType} {rm : Room} {as' : Array Value} {sf : List Addr} (hpl : plainFor y = true) (hO : Old Z n0 h)
    (body : ∀ (p : Program) (e : Env) (s : State) (m : MethodId) (below : List Frame) (meth : Method) (c : Code) (T : State) (vm0 : Vm), p.tables.exec = Jvm.exec → c.code = bytes → c.maxLocals = maxL → meth.sig.returnType = ret → meth.locks = false → meth.name = y.name → (∀ x ∈ sf, Safe Z EL vm0 h x) → own_Wk p l e rm s m as' below meth c Z EL y.cls n0 T vm0 h 0 0 → own_WP p e rm below s Z EL n0 Q T (entryFrame m as' maxL)) :
    own_Ct l y bytes maxL ret rm Z EL n0 as' h sf Q := by
  intro ws
  refine MetFree.of_bodySF hpl hisR ?_
  intro p e s m args below meth c s₁ Bd hml hP hK
  obtain ⟨rfl, hZ, rfl, hC, hSf⟩ := hP
  have hown : s.vm.findClass y.cls = some m.cls := findClass_of_methodNamed Bd.named
  have hnm := (name_of_methodNamed Bd.named Bd.method).1
  have X0 : Stand p l e rm s m args below meth c s₁ [] 0 0 := Stand.of_body Bd
  have e0 : s₁.heap = s.heap := by rw [Bd.state]; rfl
  exact body p e s m below meth c s₁ s.vm Bd.exec Bd.bytes hml Bd.returns Bd.notSynchronized hnm hSf ⟨[], 0, X0, e0, (State.WarmedH.refl s).since _, Nat.zero_le _, hZ, hown, Fr.nil _, hO, CHr.refl hC⟩
theorem own_entry {as' : Array Value} {maxL : Nat} {g : JFrame} (q : entryFrame m as' maxL = g) (k : own_WP p e R below s Z EL n0 Q T g) : own_WP p e R below s Z EL n0 Q T (entryFrame m as' maxL) := q ▸ k
theorem own_payCt {y : MethodName} {bytes : ByteArray} {maxL : Nat} {ret : Option FieldType} {rm : Room} {len W : Nat} {as' : Array Value} {sf : List Addr} (K : own_Ct l y bytes maxL ret rm Z EL n0 as' h sf Q) (w : own_Wk p l e R s m args below meth c Z EL own n0 T vm0 h cells slots) (wc : (Jvm.Cond.code y bytes maxL ret).before a0 Z = true) (wz : (Jvm.Cond.initialized y.cls).before a0 Z = true)
    (hEL : EW Z a0 EL) (hf : rm.frames + 1 ≤ R.frames) (hl : W + (maxL + 11) + rm.locals ≤ R.locals) (hsf : ∀ x ∈ sf, x < h.size ∧ Safe Z EL vm0 h x := by intro x hx; cases hx) : own_Pay l R p e below s args y len W Z EL n0 vm0 h as' rm.cells rm.slots Q := by
  have hZ := own_hZ w
  have H := own_chv w
  exact BackS.of_freeW (bytes := bytes) (maxL := maxL) (ret := ret) (E := fun _ first o t L k n => k = rm.cells ∧ n = rm.slots ∧ (∃ v, o = Outcome.returned v ∧ (Q v t.heap ∧ Fr n0 L ∧ Old Z n0 t.heap)) ∧ CHr Z EL first.vm first.heap t.vm t.heap) (K []) hf hl
    (fun m meth c A a Y hp => have hU : Z.Warmed39 A.U.vm := wtrans (s := s.setVm vm0) hZ Y.warmed
      ⟨by show (Jvm.Cond.and _ .tt).before a A.U = true; rw [Cond.before_and, mv hU wc]; rfl, mv hU wc, mv hU wz, hp.2.2.1, hp.2.2.2⟩)
    (fun m meth c A a g mk Y hp => ⟨hp.1, wtrans (s := s.setVm vm0) hZ Y.warmed, hp.2.1, (CHv.at Y hZ hEL H).1, fun x hx => (CHv.at Y hZ hEL H).safe (hsf x hx).1 (hsf x hx).2⟩) (fun _ _ _ _ _ _ _ _ _ => trivial)
    (fun _ _ _ _ ⟨v, L, h1, h2, h3, h4⟩ => ⟨L, _, _, h4, rfl, rfl, ⟨v, h1, h2⟩, h3⟩)
    (fun m meth c A a g mk v t L k n Y hp _ _ ⟨e1, e2, ⟨v', e3, e4⟩, e5⟩ => by
      cases e3; subst e1 e2
      refine ⟨L, e4, rfl, rfl, rfl, (CHv.at Y hZ hEL H).trans ?_⟩
      rw [← hp.2.1]; exact e5)
theorem own_payBack {y : MethodName} {len W : Nat} {as' : Array Value} {kc ks : Nat} {Q0 : Option Value → Heap → List Loc → Prop} (w : own_Wk p l e R s m args below meth c Z EL own n0 T vm0 h cells slots) (hEL : EW Z a0 EL) {ws : List Addr}
    (K : Back l R p e below (s.setVm vm0) args y len W (fun A a => a = as' ∧ A.U.heap = h ∧ A.cells + kc ≤ R.cells ∧ A.slots + ks ≤ R.slots) (fun A _ v B => ∃ L, Q0 v B.U.heap L ∧ B.locs = A.locs ++ L ∧ B.cells = A.cells + kc ∧ B.slots = A.slots + ks))
    (hq : ∀ v h' L, Q0 v h' L → Q v h' ∧ Fr n0 L ∧ Keep h h' ws) (hn : ∀ x ∈ ws, n0 ≤ x) (hs : ∀ x ∈ ws, Safe Z EL vm0 h x) : own_Pay l R p e below s args y len W Z EL n0 vm0 h as' kc ks Q := by
  intro m' meth' c' A g ig mk a X hg hsize hdg hW hn' hp
  obtain ⟨v, B, X', ⟨L, q, e1, e2, e3⟩, hsteps⟩ := K m' meth' c' A g ig mk a X hg hsize hdg hW hn' hp
  obtain ⟨q1, q2, q3⟩ := hq _ _ _ q
  have H := own_chv w
  have C := CHr.keep q3 hs H
  exact ⟨v, B, X'.retabled X'.warmed.wide, X'.warmed.since _, by rw [hp.2.1]; exact q3.1, ⟨L, ⟨q1, q2, (own_old w).keep q3 hn⟩, e1, e2, e3, C.trans (CHv.at X' (own_hZ w) hEL C.1)⟩, hsteps⟩
theorem own_callS (w : own_Wk p l e R s m args below meth c Z EL own n0 T vm0 h cells slots) (hx : p.tables.exec = Jvm.exec) {index : Nat} {y : MethodName} {bytes : ByteArray} {maxL : Nat} {ret : Option FieldType}
    (w1 : (Jvm.Cond.methodLink own index y).before a0 Z = true) (w2 : (Jvm.Cond.static y).before a0 Z = true) (w3 : (Jvm.Cond.initialized y.cls).before a0 Z = true) (w4 : (Jvm.Cond.code y bytes maxL ret).before a0 Z = true) (hy : y.cls ≠ "java/lang/invoke/MethodHandle" ∧ y.cls ≠ "java/lang/invoke/VarHandle")
    {W kc ks : Nat} {argsL rest : List Value} {Q' : Option Value → Heap → Prop} (K : own_Pay l R p e below s args y 3 W Z EL n0 vm0 h argsL.toArray kc ks Q') {g : JFrame} (hg : g.method = m) (hsize : g.locals.size = c.maxLocals)
    (hlen : ∀ sig, parseMethodDescriptor y.desc = some sig → argsL.length = sig.parameters.length) (hstack : g.stack = argsL.reverse ++ rest) (hW : 2 * g.monitorRoom + (rest.map fun v => v.category).sum ≤ W) (hd : decode c.code g.pc = .ok (.invokestatic index, 3)) (hc : cells + kc ≤ R.cells) (hs : slots + ks ≤ R.slots)
    (k : ∀ (v : Option Value) (T' : State) (vm1 : Vm) (h' : Heap), Q' v h' → CHr Z EL vm0 h vm1 h' → own_Wk p l e R s m args below meth c Z EL own n0 T' vm1 h' (cells + kc) (slots + ks) → own_WP p e R below s Z EL n0 Q T' { g with pc := g.pc + 3, stack := v.toList ++ rest }) : own_WP p e R below s Z EL n0 Q T g := by
  obtain ⟨locs, k0, X, e0, hS, hk, hZ, hown, N, O, C⟩ := w
  obtain ⟨v, vm₁, ⟨U, L', c', s'⟩, hW1, X', hS', hg', ⟨L, ⟨q, N', O'⟩, e1, e2, e3, C'⟩, st⟩ := callSS X hx (own := own) hown (mvT hZ w1) (mvT hZ w2) (mvT hZ w3) (mvT hZ w4) hy K hg hsize hlen hstack hW hd (fun _ _ => ⟨rfl, e0, hc, hs⟩)
  dsimp only [Pt.U, Pt.locs, Pt.cells, Pt.slots] at X' hS' hg' q O' e1 e2 e3 C' st
  subst e1 e2 e3
  rw [e0] at hg'
  exact own_by (fun t => st.trans) (k v U U.vm U.heap q C' ⟨_, U.heap.size, X', rfl, hS.trans hS' (Nat.le_trans hk hg'), Nat.le_refl _, State.Warmed39.trans (t := s.setVm vm0) hZ hS'.1, (hS'.1.alike.findClass _ _).trans hown, N.app N', O', C.trans C'⟩)
theorem own_callC (w : own_Wk p l e R s m args below meth c Z EL own n0 T vm0 h cells slots) (hx : p.tables.exec = Jvm.exec) {index : Nat} {y : MethodName} {bytes : ByteArray} {maxL : Nat}
    (hy1 : y.name = "<init>") (w1 : (Jvm.Cond.methodLink own index y).before a0 Z = true) (w2 : (Jvm.Cond.instanceMethod y).before a0 Z = true) (w4 : (Jvm.Cond.code y bytes maxL none).before a0 Z = true) (hy : y.cls ≠ "java/lang/invoke/MethodHandle" ∧ y.cls ≠ "java/lang/invoke/VarHandle")
    {W kc ks : Nat} {a : Addr} {argsL rest : List Value} {Q' : Option Value → Heap → Prop} (K : own_Pay l R p e below s args y 3 W Z EL n0 vm0 h (.ref a :: argsL).toArray kc ks Q') {g : JFrame} (hg : g.method = m) (hsize : g.locals.size = c.maxLocals)
    (hlen : ∀ sig, parseMethodDescriptor y.desc = some sig → argsL.length = sig.parameters.length) (hstack : g.stack = argsL.reverse ++ .ref a :: rest) (hW : 2 * g.monitorRoom + (rest.map fun v => v.category).sum ≤ W) (hd : decode c.code g.pc = .ok (.invokespecial index, 3)) (hc : cells + kc ≤ R.cells) (hs : slots + ks ≤ R.slots)
    (k : ∀ (v : Option Value) (T' : State) (vm1 : Vm) (h' : Heap), Q' v h' → CHr Z EL vm0 h vm1 h' → own_Wk p l e R s m args below meth c Z EL own n0 T' vm1 h' (cells + kc) (slots + ks) → own_WP p e R below s Z EL n0 Q T' { g with pc := g.pc + 3, stack := v.toList ++ rest }) : own_WP p e R below s Z EL n0 Q T g := by
  obtain ⟨locs, k0, X, e0, hS, hk, hZ, hown, N, O, C⟩ := w
  obtain ⟨v, vm₁, ⟨U, L', c', s'⟩, hW1, X', hS', hg', ⟨L, ⟨q, N', O'⟩, e1, e2, e3, C'⟩, st⟩ := X.specialBackS hx (own := own) hy1 hown (mvT hZ w1) (mvT hZ w2) (mvT hZ w4) hy K hg hsize (Steps.refl _) hlen hstack hW hd (fun _ _ => ⟨rfl, e0, hc, hs⟩)
  dsimp only [Pt.U, Pt.locs, Pt.cells, Pt.slots] at X' hS' hg' q O' e1 e2 e3 C' st
  subst e1 e2 e3
  rw [e0] at hg'
  exact own_by (fun t => st.trans) (k v U U.vm U.heap q C' ⟨_, U.heap.size, X', rfl, hS.trans hS' (Nat.le_trans hk hg'), Nat.le_refl _, State.Warmed39.trans (t := s.setVm vm0) hZ hS'.1, (hS'.1.alike.findClass _ _).trans hown, N.app N', O', C.trans C'⟩)
theorem own_callV (w : own_Wk p l e R s m args below meth c Z EL own n0 T vm0 h cells slots) (hx : p.tables.exec = Jvm.exec) {index : Nat} {y z : MethodName} {Cn : String}
    (w1 : (Jvm.Cond.methodLink own index y).before a0 Z = true) (w2 : (Jvm.Cond.declares y).before a0 Z = true) (nf : ∀ u : State, Z.Warmed39 u.vm → NotFace u y) (w3 : (Jvm.Cond.selects Cn y z).before a0 Z = true) (w4 : (Jvm.Cond.instanceMethod z).before a0 Z = true) (hy : y.cls ≠ "java/lang/invoke/MethodHandle" ∧ y.cls ≠ "java/lang/invoke/VarHandle")
    {W kc ks : Nat} {a : Addr} {argsL rest : List Value} {Q' : Option Value → Heap → Prop} (K : own_Pay l R p e below s args z 3 W Z EL n0 vm0 h (.ref a :: argsL).toArray kc ks Q') (E : Exa Z h a Cn) {g : JFrame} (hg : g.method = m) (hsize : g.locals.size = c.maxLocals)
    (hlen : ∀ sig, parseMethodDescriptor y.desc = some sig → argsL.length = sig.parameters.length) (hstack : g.stack = argsL.reverse ++ .ref a :: rest) (hW : 2 * g.monitorRoom + (rest.map fun v => v.category).sum ≤ W) (hd : decode c.code g.pc = .ok (.invokevirtual index, 3)) (hc : cells + kc ≤ R.cells) (hs : slots + ks ≤ R.slots)
    (k : ∀ (v : Option Value) (T' : State) (vm1 : Vm) (h' : Heap), Q' v h' → CHr Z EL vm0 h vm1 h' → own_Wk p l e R s m args below meth c Z EL own n0 T' vm1 h' (cells + kc) (slots + ks) → own_WP p e R below s Z EL n0 Q T' { g with pc := g.pc + 3, stack := v.toList ++ rest }) : own_WP p e R below s Z EL n0 Q T g := by
  obtain ⟨locs, k0, X, e0, hS, hk, hZ, hown, N, O, C⟩ := w
  obtain ⟨cq, kq, qa, qb, qc⟩ := isOf (s := s.setVm vm0) hZ e0 E
  obtain ⟨v, vm₁, ⟨U, L', c', s'⟩, hW1, X', hS', hg', ⟨L, ⟨q, N', O'⟩, e1, e2, e3, C'⟩, st⟩ := X.virtualBackS hx (own := own) (y := y) (z := z) hown (mvT hZ w1) (mvT hZ w2) (nf _ hZ) (mvT hZ w3) (mvT hZ w4) hy K qa qc hg hsize (Steps.refl _) hlen hstack hW hd (fun _ _ => ⟨rfl, e0, hc, hs⟩)
  dsimp only [Pt.U, Pt.locs, Pt.cells, Pt.slots] at X' hS' hg' q O' e1 e2 e3 C' st
  subst e1 e2 e3
  rw [e0] at hg'
  exact own_by (fun t => st.trans) (k v U U.vm U.heap q C' ⟨_, U.heap.size, X', rfl, hS.trans hS' (Nat.le_trans hk hg'), Nat.le_refl _, State.Warmed39.trans (t := s.setVm vm0) hZ hS'.1, (hS'.1.alike.findClass _ _).trans hown, N.app N', O', C.trans C'⟩)
theorem own_irem {target : State} {g : JFrame} (A : Jvm.At T m c below) (hx : p.tables.exec = Jvm.exec) (hg : g.method = m) {x y : Int32} {rest : List Value} (hd : decode c.code g.pc = .ok (.irem, 1)) (hs : g.stack = .int y :: .int x :: rest) (hy : y ≠ 0)
    (hr : Steps p.tables e below (T.setTop { g with pc := g.pc + 1, stack := .int (x % y) :: rest }) target) : Steps p.tables e below (T.setTop g) target := by
  have q : x - x / y * y = x % y := irem_eq_mod x y
  exact XS.irem A hx hg hd hs hy (by rw [q]; exact hr)
/-- a step that moves neither the heap nor the base -/
theorem own_stay {T' : State} {g g' : JFrame} (w : own_Wk p l e R s m args below meth c Z EL own n0 T vm0 h cells slots)
    (st : ∀ locs, Stand p l e R (s.setVm vm0) m args below meth c T locs cells slots → T.heap = h → Z.Warmed39 (s.setVm vm0).vm → (s.setVm vm0).vm.findClass own = some m.cls → ∃ T', Stand p l e R (s.setVm vm0) m args below meth c T' locs cells slots ∧ T'.heap = h ∧ ∀ target, Steps p.tables e below (T'.setTop g') target → Steps p.tables e below (T.setTop g) target)
    (k : ∀ T', own_Wk p l e R s m args below meth c Z EL own n0 T' vm0 h cells slots → own_WP p e R below s Z EL n0 Q T' g') : own_WP p e R below s Z EL n0 Q T g := by
  obtain ⟨locs, k0, X, e0, hS, hk, hZ, hown, r⟩ := w
  obtain ⟨T', X', e1, st'⟩ := st locs X e0 hZ hown
  exact own_by st' (k T' ⟨locs, k0, X', e1, hS, hk, hZ, hown, r⟩)
/-- a step that makes a cell -/
theorem own_grow {g g' : JFrame} {kc ks : Nat} {P : Heap → Prop} (w : own_Wk p l e R s m args below meth c Z EL own n0 T vm0 h cells slots)
    (st : ∀ locs, Stand p l e R (s.setVm vm0) m args below meth c T locs cells slots → T.heap = h → Z.Warmed39 (s.setVm vm0).vm → (s.setVm vm0).vm.findClass own = some m.cls → ∃ T' h', Stand p l e R (s.setVm vm0) m args below meth c T' locs (cells + kc) (slots + ks) ∧ T'.heap = h' ∧ Ext h h' ∧ P h' ∧ ∀ target, Steps p.tables e below (T'.setTop g') target → Steps p.tables e below (T.setTop g) target)
    (k : ∀ T' h', Ext h h' → P h' → own_Wk p l e R s m args below meth c Z EL own n0 T' vm0 h' (cells + kc) (slots + ks) → own_WP p e R below s Z EL n0 Q T' g') : own_WP p e R below s Z EL n0 Q T g := by
  obtain ⟨locs, k0, X, e0, hS, hk, hZ, hown, N, O, C⟩ := w
  obtain ⟨T', h', X', e1, E, q, st'⟩ := st locs X e0 hZ hown
  exact own_by st' (k T' h' E q ⟨locs, k0, X', e1, hS, Nat.le_trans hk E.1, hZ, hown, N, O.ext E, C.trans (CHr.ext E C.1)⟩)
/-- a step that writes one place of a cell made since the start -/
theorem own_wrote {g g' : JFrame} {a : Addr} {sl : Nat} {v : Value} (w : own_Wk p l e R s m args below meth c Z EL own n0 T vm0 h cells slots) (ha : n0 ≤ a) (hsf : Safe Z EL vm0 h a)
    (st : ∀ locs, Stand p l e R (s.setVm vm0) m args below meth c T locs cells slots → T.heap = h → Z.Warmed39 (s.setVm vm0).vm → (s.setVm vm0).vm.findClass own = some m.cls → ∃ T' h', Stand p l e R (s.setVm vm0) m args below meth c T' (locs ++ [⟨a, sl⟩]) cells slots ∧ T'.heap = h' ∧ Wr h h' a sl v ∧ ∀ target, Steps p.tables e below (T'.setTop g') target → Steps p.tables e below (T.setTop g) target)
    (k : ∀ T' h', Wr h h' a sl v → own_Wk p l e R s m args below meth c Z EL own n0 T' vm0 h' cells slots → own_WP p e R below s Z EL n0 Q T' g') : own_WP p e R below s Z EL n0 Q T g := by
  obtain ⟨locs, k0, X, e0, hS, hk, hZ, hown, N, O, C⟩ := w
  obtain ⟨T', h', X', e1, W, st'⟩ := st locs X e0 hZ hown
  exact own_by st' (k T' h' W ⟨_, k0, X', e1, hS, by rw [W.size]; exact hk, hZ, hown, Fr.snoc X' N ha, O.wr W ha, C.trans (CHr.wr W hsf C.1)⟩)
theorem own_getF (w : own_Wk p l e R s m args below meth c Z EL own n0 T vm0 h cells slots) (hx : p.tables.exec = Jvm.exec) {O f d : String} {index : Nat} (w1 : (Jvm.Cond.fieldLink own index O f d).before a0 Z = true) {a : Addr} {v : Value} (F : Fld Z h a O f d v) {g : JFrame} (hg : g.method = m) {rest : List Value} (hs : g.stack = .ref a :: rest) (hd : decode c.code g.pc = .ok (.getfield index, 3))
    (k : ∀ T', own_Wk p l e R s m args below meth c Z EL own n0 T' vm0 h cells slots → own_WP p e R below s Z EL n0 Q T' { g with pc := g.pc + 3, stack := v :: rest }) : own_WP p e R below s Z EL n0 Q T g :=
  own_stay (T' := T) w (fun locs X e0 hZ hown => getF X hx hZ hown (host := "") (Or.inl w1) Via.refl e0 F hg hs hd) k
theorem own_getS (w : own_Wk p l e R s m args below meth c Z EL own n0 T vm0 h cells slots) (hx : p.tables.exec = Jvm.exec) {O f d : String} {index : Nat} (w1 : (Jvm.Cond.fieldLink own index O f d).before a0 Z = true) {v : Value} (F : Sta Z h O f d v) {g : JFrame} (hg : g.method = m) (hd : decode c.code g.pc = .ok (.getstatic index, 3))
    (k : ∀ T', own_Wk p l e R s m args below meth c Z EL own n0 T' vm0 h cells slots → own_WP p e R below s Z EL n0 Q T' { g with pc := g.pc + 3, stack := v :: g.stack }) : own_WP p e R below s Z EL n0 Q T g :=
  own_stay (T' := T) w (fun locs X e0 hZ hown => getS (host := "") X hx hZ hown w1 Via.refl e0 F hg hd) k
theorem own_cast (w : own_Wk p l e R s m args below meth c Z EL own n0 T vm0 h cells slots) (hx : p.tables.exec = Jvm.exec) {K : String} {index : Nat} (w1 : (Jvm.Cond.classLink own index K).before a0 Z = true) {a : Addr} (F : Ins Z h a K true) {g : JFrame} (hg : g.method = m) {rest : List Value} (hs : g.stack = .ref a :: rest) (hd : decode c.code g.pc = .ok (.checkcast index, 3))
    (k : ∀ T', own_Wk p l e R s m args below meth c Z EL own n0 T' vm0 h cells slots → own_WP p e R below s Z EL n0 Q T' { g with pc := g.pc + 3 }) : own_WP p e R below s Z EL n0 Q T g :=
  own_stay (T' := T) w (fun locs X e0 hZ hown => castY X hx hZ hown w1 e0 F hg hs hd) k
theorem own_instY (w : own_Wk p l e R s m args below meth c Z EL own n0 T vm0 h cells slots) (hx : p.tables.exec = Jvm.exec) {K : String} {index : Nat} (w1 : (Jvm.Cond.classLink own index K).before a0 Z = true) {a : Addr} (F : Ins Z h a K true) {g : JFrame} (hg : g.method = m) {rest : List Value} (hs : g.stack = .ref a :: rest) (hd : decode c.code g.pc = .ok (.instanceof index, 3))
    (k : ∀ T', own_Wk p l e R s m args below meth c Z EL own n0 T' vm0 h cells slots → own_WP p e R below s Z EL n0 Q T' { g with pc := g.pc + 3, stack := .int 1 :: rest }) : own_WP p e R below s Z EL n0 Q T g :=
  own_stay (T' := T) w (fun locs X e0 hZ hown => instY X hx hZ hown w1 e0 F hg hs hd) k
theorem own_initO (w : own_Wk p l e R s m args below meth c Z EL own n0 T vm0 h cells slots) (hx : p.tables.exec = Jvm.exec) {index : Nat} (w1 : (Jvm.Cond.methodLink own index Lib.objectInit).before a0 Z = true) (w2 : (Jvm.Cond.instanceMethod Lib.objectInit).before a0 Z = true) (w3 : (Jvm.Cond.code Lib.objectInit ⟨#[0xb1]⟩ 1 none).before a0 Z = true)
    {a : Addr} {g : JFrame} (hg : g.method = m) (hsize : g.locals.size = c.maxLocals) {rest : List Value} (hs : g.stack = .ref a :: rest) (hd : decode c.code g.pc = .ok (.invokespecial index, 3)) (hf : 1 ≤ R.frames) {W : Nat} (hW : 2 * g.monitorRoom + (rest.map fun v => v.category).sum ≤ W) (hl : W + 12 ≤ R.locals)
    (k : ∀ T', own_Wk p l e R s m args below meth c Z EL own n0 T' vm0 h cells slots → own_WP p e R below s Z EL n0 Q T' { g with pc := g.pc + 3, stack := rest }) : own_WP p e R below s Z EL n0 Q T g :=
  own_stay (T' := T) w (fun locs X e0 hZ hown => initO X hx hZ hown w1 w2 w3 e0 hg hsize hs hd hf hW hl) k
theorem own_new (w : own_Wk p l e R s m args below meth c Z EL own n0 T vm0 h cells slots) (hx : p.tables.exec = Jvm.exec) {Cn : String} {index n : Nat} (w1 : (Jvm.Cond.classLink own index Cn).before a0 Z = true) (w2 : (Jvm.Cond.instantiable Cn n).before a0 Z = true) (w3 : (Jvm.Cond.initialized Cn).before a0 Z = true) {g : JFrame} (hg : g.method = m) (hd : decode c.code g.pc = .ok (.new index, 3)) (hc : cells + 1 ≤ R.cells) (hl : slots + n ≤ R.slots)
    (k : ∀ T' h' a, a = h.size → Ext h h' → (Exa Z h' a Cn ∧ ∀ {O nm d : String} {ty : FieldType}, Laid Z a0 Cn O nm d → parseFieldDescriptor d = some ty → Fld Z h' a O nm d (defaultValue ty)) → own_Wk p l e R s m args below meth c Z EL own n0 T' vm0 h' (cells + 1) (slots + n) → own_WP p e R below s Z EL n0 Q T' { g with pc := g.pc + 3, stack := .ref a :: g.stack }) : own_WP p e R below s Z EL n0 Q T g :=
  own_grow (P := fun h' => Exa Z h' h.size Cn ∧ ∀ {O nm d : String} {ty : FieldType}, Laid Z a0 Cn O nm d → parseFieldDescriptor d = some ty → Fld Z h' h.size O nm d (defaultValue ty)) w (fun locs X e0 hZ hown => by
    obtain ⟨T', h', X', e1, E, A, D, -, st⟩ := newO X hx hZ hown w1 w2 w3 e0 hg hd hc hl
    exact ⟨T', h', X', e1, E, ⟨A, D⟩, st⟩) (fun T' h' E q w' => k T' h' h.size rfl E q w')
theorem own_newP (w : own_Wk p l e R s m args below meth c Z EL own n0 T vm0 h cells slots) (hx : p.tables.exec = Jvm.exec) {aty : ArrayType} (w1 : (Jvm.Cond.arrayClass (newarray.typeOf aty)).before a0 Z = true) {g : JFrame} (hg : g.method = m) (hd : decode c.code g.pc = .ok (.newarray aty, 2)) {n : Int32} {rest : List Value} (hs : g.stack = .int n :: rest)
    (hn : ¬ n < 0) {cap : Nat} (hcap : n.toNatClampNeg ≤ cap) (hb : cap * 8 ≤ 536870912) (hc : cells + 1 ≤ R.cells) (hl : slots + cap ≤ R.slots)
    (k : ∀ T' h' a cA, a = h.size → Ext h h' → Arv Z h' a cA (newarray.typeOf aty) n [] (defaultValue (newarray.typeOf aty)) → own_Wk p l e R s m args below meth c Z EL own n0 T' vm0 h' (cells + 1) (slots + cap) → own_WP p e R below s Z EL n0 Q T' { g with pc := g.pc + 2, stack := .ref a :: rest }) : own_WP p e R below s Z EL n0 Q T g :=
  own_grow (P := fun h' => ∃ cA, Arr Z h' h.size (newA cA (newarray.typeOf aty) n) (newarray.typeOf aty)) w (fun locs X e0 hZ hown => by
    obtain ⟨T', h', cA, X', e1, E, A, st⟩ := newP X hx hZ w1 e0 hg hd hs hn hcap hb hc hl
    exact ⟨T', h', X', e1, E, ⟨cA, A⟩, st⟩) (fun T' h' E ⟨cA, A⟩ w' => k T' h' h.size cA rfl E (Arv.new A hn) w')
theorem own_putF (w : own_Wk p l e R s m args below meth c Z EL own n0 T vm0 h cells slots) (hx : p.tables.exec = Jvm.exec) {O f d Cn : String} {index kk : Nat} {ty : FieldType} (w1 : (Jvm.Cond.fieldLink own index O f d).before a0 Z = true) {a : Addr} {v old : Value} (F : Fld Z h a O f d old) (E : Exa Z h a Cn)
    (L : (Jvm.Cond.lays Cn O f d).before a0 Z = true ∨ ((Jvm.Cond.laysFinal Cn O f d).before a0 Z = true ∧ own = O ∧ meth.name = "<init>")) (wi : (Jvm.Cond.instantiable Cn kk).before a0 Z = true) (hty : parseFieldDescriptor d = some ty) (hn : narrow ty v = v) (hf : fits ty v = true) (ha : n0 ≤ a) (hsf : Safe Z EL vm0 h a)
    {g : JFrame} (hg : g.method = m) {rest : List Value} (hs : g.stack = v :: .ref a :: rest) (hd : decode c.code g.pc = .ok (.putfield index, 3))
    (k : ∀ T' h', Wr h h' a (Jvm.RoadKit.slotOf Z O f d) v → own_Wk p l e R s m args below meth c Z EL own n0 T' vm0 h' cells slots → own_WP p e R below s Z EL n0 Q T' { g with pc := g.pc + 3, stack := rest }) : own_WP p e R below s Z EL n0 Q T g :=
  own_wrote w ha hsf (fun locs X e0 hZ hown => putF X hx hZ hown (host := "") (Or.inl w1) Via.refl e0 F E L wi hty hn hf hg hs hd) k
theorem own_castore (w : own_Wk p l e R s m args below meth c Z EL own n0 T vm0 h cells slots) (hx : p.tables.exec = Jvm.exec) {a : Addr} {kA : ClassId} {z j x : Int32} {vs : List Value} {dv : Value} (V : Arv Z h a kA .char z vs dv) (hj : ¬ j < 0 ∧ j < z) (hx0 : ¬ x < 0 ∧ ¬ (65535 : Int32) < x) {i : Nat} (hi : j.toNatClampNeg = i) (hl : i < vs.length) (ha : n0 ≤ a)
    {g : JFrame} (hg : g.method = m) {rest : List Value} (hs : g.stack = .int x :: .int j :: .ref a :: rest) (hd : decode c.code g.pc = .ok (.castore, 1))
    (k : ∀ T' h', Wr h h' a i (.int x) → Arv Z h' a kA .char z (vs.set i (.int x)) dv → own_Wk p l e R s m args below meth c Z EL own n0 T' vm0 h' cells slots → own_WP p e R below s Z EL n0 Q T' { g with pc := g.pc + 1, stack := rest }) : own_WP p e R below s Z EL n0 Q T g := by
  subst hi
  have hal : Z.vm.Alike vm0 := (own_hZ w).alike
  obtain ⟨cl, A, q, S, N, H, G⟩ := V
  have hnar : nar .char x = x := own_narC hx0.1 hx0.2
  refine own_wrote (v := .int x) w ha (Safe.arr hal A (by decide)) (fun locs X e0 hZ hown => ?_) (fun T' h' W w' => k T' h' W (Arv.set A q S N H G (by have := fits_nar_char x; rw [hnar] at this; exact this) W _ rfl hl) w')
  have := stC X hx hZ e0 A (j := j) (x := x) (inb_of S hj) hg hs hd
  rw [hnar] at this
  exact this
end OwnKit
section OwnKit2
variable {p : Program} {l : Launch} {e : Env} {R : Room} {s : State} {m : MethodId} {args : Array Value} {below : List Frame} {meth : Method} {c : Code} {Z : State} {a0 : Array Value} {EL : List (String × Nat)} {own : String} {n0 : Nat} {T : State} {vm0 : Vm} {h : Heap} {cells slots : Nat} {Q : Option Value → Heap → Prop}
/-- a step at the same state -/
theorem own_via {g g' : JFrame} (w : own_Wk p l e R s m args below meth c Z EL own n0 T vm0 h cells slots)
    (st : ∀ locs, Stand p l e R (s.setVm vm0) m args below meth c T locs cells slots → T.heap = h → Z.Warmed39 (s.setVm vm0).vm → (s.setVm vm0).vm.findClass own = some m.cls → ∀ t, Steps p.tables e below (T.setTop g') t → Steps p.tables e below (T.setTop g) t)
    (k : own_WP p e R below s Z EL n0 Q T g') : own_WP p e R below s Z EL n0 Q T g := by
  obtain ⟨locs, k0, X, e0, hS, hk, hZ, hown, r⟩ := w
  exact own_by (st locs X e0 hZ hown) k
theorem own_ldc2 (w : own_Wk p l e R s m args below meth c Z EL own n0 T vm0 h cells slots) (hx : p.tables.exec = Jvm.exec) {index : Nat} {v : Int64} (w1 : (Jvm.Cond.constantLong own index v).before a0 Z = true) {g : JFrame} (hg : g.method = m) (hd : decode c.code g.pc = .ok (.ldc2_w index, 3))
    (k : own_WP p e R below s Z EL n0 Q T { g with pc := g.pc + 3, stack := .long v :: g.stack }) : own_WP p e R below s Z EL n0 Q T g :=
  own_via w (fun locs X e0 hZ hown => X.ldc2Long hx hown (mvT hZ w1) hg hd) k
theorem own_ldcI (w : own_Wk p l e R s m args below meth c Z EL own n0 T vm0 h cells slots) (hx : p.tables.exec = Jvm.exec) {index : Nat} {v : Int32} (w1 : (Jvm.Cond.constant own index v).before a0 Z = true) {g : JFrame} (hg : g.method = m) (hd : decode c.code g.pc = .ok (.ldc index, 2))
    (k : own_WP p e R below s Z EL n0 Q T { g with pc := g.pc + 2, stack := .int v :: g.stack }) : own_WP p e R below s Z EL n0 Q T g :=
  own_via w (fun locs X e0 hZ hown => X.ldcInt hx hown (mvT hZ w1) hg hd) k
theorem own_acmp (w : own_Wk p l e R s m args below meth c Z EL own n0 T vm0 h cells slots) (hx : p.tables.exec = Jvm.exec) {g g' : JFrame} (hg : g.method = m) {cd : ACond} {x y : Value} {rest : List Value} (hs : g.stack = y :: x :: rest) (h1 : x.isRef = true) (h2 : y.isRef = true) {o : Int} {pc0 pc' : Nat} {same : Bool} (hpc : g.pc = pc0)
    (hd : decode c.code g.pc = .ok (.if_acmp cd o, 3)) (hq : decide (x = y) = same) (ho : 0 ≤ (pc0 : Int) + o) (hp : pc' = if acV cd same = true then ((pc0 : Int) + o).toNat else pc0 + 3) (hg' : g' = { g with pc := pc', stack := rest })
    (k : own_WP p e R below s Z EL n0 Q T g') : own_WP p e R below s Z EL n0 Q T g := by
  subst hg'
  exact own_via w (fun locs X e0 hZ hown t kk => Jvm.RoadKit.acmp X hx hg h1 h2 hpc hd hs hq ho hp kk) k
theorem own_caload (w : own_Wk p l e R s m args below meth c Z EL own n0 T vm0 h cells slots) (hx : p.tables.exec = Jvm.exec) {a : Addr} {kA : ClassId} {z j x : Int32} {vs : List Value} {dv : Value} (V : Arv Z h a kA .char z vs dv) (hj : ¬ j < 0 ∧ j < z) {g : JFrame} (hg : g.method = m) {rest : List Value} (hs : g.stack = .int j :: .ref a :: rest) (hd : decode c.code g.pc = .ok (.caload, 1)) (hv : vs.getD j.toNatClampNeg dv = .int x)
    (k : own_WP p e R below s Z EL n0 Q T { g with pc := g.pc + 1, stack := .int x :: rest }) : own_WP p e R below s Z EL n0 Q T g := by
  obtain ⟨cl, A, q, S, N, H, G⟩ := V
  exact own_via w (fun locs X e0 hZ hown t kk => X.caload hx (by rw [e0]; exact A.1) (State.isArrayOf_alike (T := s.setVm vm0) hZ.alike A.2.1) A.2.2 (inb_of S hj) (H.at (inb_of S hj) hv) hg hs hd t kk) k
theorem own_baload (w : own_Wk p l e R s m args below meth c Z EL own n0 T vm0 h cells slots) (hx : p.tables.exec = Jvm.exec) {a : Addr} {kA : ClassId} {z j x : Int32} {vs : List Value} {dv : Value} (V : Arv Z h a kA .byte z vs dv) (hj : ¬ j < 0 ∧ j < z) {g : JFrame} (hg : g.method = m) {rest : List Value} (hs : g.stack = .int j :: .ref a :: rest) (hd : decode c.code g.pc = .ok (.baload, 1)) (hv : vs.getD j.toNatClampNeg dv = .int x)
    (k : own_WP p e R below s Z EL n0 Q T { g with pc := g.pc + 1, stack := .int x :: rest }) : own_WP p e R below s Z EL n0 Q T g := by
  obtain ⟨cl, A, q, S, N, H, G⟩ := V
  exact own_via w (fun locs X e0 hZ hown t kk => X.baloadBytes hx (by rw [e0]; exact A.1) (State.isArrayOf_alike (T := s.setVm vm0) hZ.alike A.2.1) A.2.2 (inb_of S hj) (H.at (inb_of S hj) hv) hg hs hd t kk) k
theorem own_bastore (w : own_Wk p l e R s m args below meth c Z EL own n0 T vm0 h cells slots) (hx : p.tables.exec = Jvm.exec) {a : Addr} {kA : ClassId} {z j x : Int32} {vs : List Value} {dv : Value} (V : Arv Z h a kA .byte z vs dv) (hj : ¬ j < 0 ∧ j < z) (hx0 : x.toInt8.toInt32 = x) (hsf : Safe Z EL vm0 h a) {i : Nat} (hi : j.toNatClampNeg = i) (hl : i < vs.length) (ha : n0 ≤ a)
    {g : JFrame} (hg : g.method = m) {rest : List Value} (hs : g.stack = .int x :: .int j :: .ref a :: rest) (hd : decode c.code g.pc = .ok (.bastore, 1))
    (k : ∀ T' h', Wr h h' a i (.int x) → Arv Z h' a kA .byte z (vs.set i (.int x)) dv → own_Wk p l e R s m args below meth c Z EL own n0 T' vm0 h' cells slots → own_WP p e R below s Z EL n0 Q T' { g with pc := g.pc + 1, stack := rest }) : own_WP p e R below s Z EL n0 Q T g := by
  subst hi
  have hal : Z.vm.Alike vm0 := (own_hZ w).alike
  obtain ⟨cl, A, q, S, N, H, G⟩ := V
  have hnar : nar .byte x = x := hx0
  refine own_wrote (v := .int x) w ha hsf (fun locs X e0 hZ hown => ?_) (fun T' h' W w' => k T' h' W (Arv.set A q S N H G (by have := fits_nar_byte x; rw [hx0] at this; exact this) W _ rfl hl) w')
  have := stB X hx hZ e0 A (j := j) (x := x) (inb_of S hj) hg hs hd
  rw [hnar] at this
  exact this
theorem own_instNull (w : own_Wk p l e R s m args below meth c Z EL own n0 T vm0 h cells slots) (hx : p.tables.exec = Jvm.exec) {index : Nat} {g : JFrame} (hg : g.method = m) {rest : List Value} (hs : g.stack = .null :: rest) (hd : decode c.code g.pc = .ok (.instanceof index, 3))
    (k : own_WP p e R below s Z EL n0 Q T { g with pc := g.pc + 3, stack := .int 0 :: rest }) : own_WP p e R below s Z EL n0 Q T g :=
  own_via w (fun locs X e0 hZ hown t kk => X.instanceofNull hx hg hs hd t kk) k
theorem own_instN (w : own_Wk p l e R s m args below meth c Z EL own n0 T vm0 h cells slots) (hx : p.tables.exec = Jvm.exec) {K C : String} {index : Nat} (w1 : (Jvm.Cond.classLink own index K).before a0 Z = true) {a : Addr} (F : Ins Z s.heap a K false) (E : Exa Z s.heap a C) {g : JFrame} (hg : g.method = m) {rest : List Value} (hs : g.stack = .ref a :: rest) (hd : decode c.code g.pc = .ok (.instanceof index, 3))
    (k : ∀ T', own_Wk p l e R s m args below meth c Z EL own n0 T' vm0 h cells slots → own_WP p e R below s Z EL n0 Q T' { g with pc := g.pc + 3, stack := .int 0 :: rest }) : own_WP p e R below s Z EL n0 Q T g :=
  own_stay (T' := T) w (fun locs X e0 hZ hown => instN X hx hZ hown w1 e0 F E hg hs hd) k
theorem own_notInst {C K : String} {n : Nat} (w : (Jvm.Cond.superclass C "java/lang/Object").before a0 Z = true) (w0 : (Jvm.Cond.noSuperclass "java/lang/Object").before a0 Z = true) (wk : (Jvm.Cond.instantiable K n).before a0 Z = true) (hn : C ≠ K) (hn2 : "java/lang/Object" ≠ K) : ∃ c t, Z.vm.findClass C = some c ∧ Z.vm.findClass K = some t ∧ Z.vm.assignable c t = false := by
  obtain ⟨t, kt, g0, g2, g5, g7, -⟩ := Cond.instantiable_spec wk
  obtain ⟨o, ko, o1, o2, o3, -, -⟩ := Cond.noSuperclass_spec w0
  obtain ⟨c, h0⟩ := found_sup w
  obtain ⟨q, k, kp, h1, h2, h3, h4, h5, -, h7⟩ := Cond.superclass_spec h0 w
  cases o1.symm.trans h1
  have ne := ids_ne h0 g0 hn
  have ne2 := ids_ne o1 g0 hn2
  have nr : ∀ fuel, Z.vm.isSubclassAux fuel o t = false := fun fuel => by
    cases fuel with
    | zero => rfl
    | succ f => simp [Vm.isSubclassAux, ne2, o2, o3]
  have ns : ∀ fuel, Z.vm.isSubclassAux fuel c t = false := fun fuel => by
    cases fuel with
    | zero => rfl
    | succ f => simp [Vm.isSubclassAux, ne, h2, h4, nr]
  have g8 : kt.isInterface = false := by
    cases hh : kt.isInterface with
    | false => rfl
    | true => rw [hh] at g7; simp at g7
  refine ⟨c, t, h0, g0, ?_⟩
  show Z.vm.assignableAux (255 + 1) c t = false
  simp [Vm.assignableAux, ne, h2, g2, h5, g5, g8, Vm.isSubclass, ns]
theorem own_instNo (w : own_Wk p l e R s m args below meth c Z EL own n0 T vm0 h cells slots) (hx : p.tables.exec = Jvm.exec) {K C : String} {index : Nat} (w1 : (Jvm.Cond.classLink own index K).before a0 Z = true) {a : Addr} (E : Exa Z h a C) (F : ∃ c t, Z.vm.findClass C = some c ∧ Z.vm.findClass K = some t ∧ Z.vm.assignable c t = false) {g : JFrame} (hg : g.method = m) {rest : List Value} (hs : g.stack = .ref a :: rest) (hd : decode c.code g.pc = .ok (.instanceof index, 3))
    (k : ∀ T', own_Wk p l e R s m args below meth c Z EL own n0 T' vm0 h cells slots → own_WP p e R below s Z EL n0 Q T' { g with pc := g.pc + 3, stack := .int 0 :: rest }) : own_WP p e R below s Z EL n0 Q T g :=
  own_stay (T' := T) w (fun locs X e0 hZ hown => instNo X hx hZ hown w1 e0 E F hg hs hd) k
end OwnKit2
section OwnNum
theorem own_toInt_nn {k : Int32} (hk : ¬ k < 0) : k.toInt = (k.toBitVec.toNat : Int) ∧ k.toBitVec.toNat < 2147483648 := by
  rw [Int32.lt_iff_toInt_lt] at hk
  have e0 : (0 : Int32).toInt = 0 := rfl
  have hb : k.toInt = k.toBitVec.toInt := rfl
  have hl := k.toBitVec.isLt
  rw [e0, hb, BitVec.toInt_eq_toNat_cond] at hk
  rw [hb, BitVec.toInt_eq_toNat_cond]
  split at hk
  · rename_i q; rw [if_pos q]; exact ⟨rfl, by omega⟩
  · omega
theorem own_of_nat {k : Int32} {n : Nat} (h : k.toBitVec.toNat ≤ n) (hn : n < 2147483648) : k.toInt = (k.toBitVec.toNat : Int) := by
  have hb : k.toInt = k.toBitVec.toInt := rfl
  rw [hb, BitVec.toInt_eq_toNat_cond, if_pos (by omega)]
theorem own_mask (x k : Int32) (hk : ¬ k < 0) : ¬ (x &&& k) < 0 ∧ ¬ k < (x &&& k) := by
  obtain ⟨e1, l1⟩ := own_toInt_nn hk
  have h : (x &&& k).toBitVec.toNat ≤ k.toBitVec.toNat := by
    rw [Int32.toBitVec_and, BitVec.toNat_and]; exact Nat.and_le_right
  have e2 := own_of_nat h l1
  rw [Int32.lt_iff_toInt_lt, Int32.lt_iff_toInt_lt, e1, e2]
  have e0 : (0 : Int32).toInt = 0 := rfl
  omega
theorem own_rng255 {x : Int32} (h : ¬ x < 0 ∧ ¬ (255 : Int32) < x) : ¬ x < 0 ∧ ¬ (65535 : Int32) < x := by
  refine ⟨h.1, ?_⟩
  have h2 := h.2
  rw [Int32.lt_iff_toInt_lt] at h2 ⊢
  have e1 : (255 : Int32).toInt = 255 := rfl
  have e2 : (65535 : Int32).toInt = 65535 := rfl
  omega
theorem own_eqInt {x y : Int32} (h : x.toInt = y.toInt) : x = y := Int32.toInt_inj.mp h
theorem own_cases8 {n : Int32} (h : ¬ n < 0 ∧ ¬ (7 : Int32) < n) : n = 0 ∨ n = 1 ∨ n = 2 ∨ n = 3 ∨ n = 4 ∨ n = 5 ∨ n = 6 ∨ n = 7 := by
  obtain ⟨h0, h1⟩ := h
  rw [Int32.lt_iff_toInt_lt] at h0 h1
  have e0 : (0 : Int32).toInt = 0 := rfl
  have e7 : (7 : Int32).toInt = 7 := rfl
  rw [e0] at h0; rw [e7] at h1
  have q : n.toInt = 0 ∨ n.toInt = 1 ∨ n.toInt = 2 ∨ n.toInt = 3 ∨ n.toInt = 4 ∨ n.toInt = 5 ∨ n.toInt = 6 ∨ n.toInt = 7 := by omega
  rcases q with q | q | q | q | q | q | q | q
  · exact Or.inl (own_eqInt q)
  · exact Or.inr (Or.inl (own_eqInt q))
  · exact Or.inr (Or.inr (Or.inl (own_eqInt q)))
  · exact Or.inr (Or.inr (Or.inr (Or.inl (own_eqInt q))))
  · exact Or.inr (Or.inr (Or.inr (Or.inr (Or.inl (own_eqInt q)))))
  · exact Or.inr (Or.inr (Or.inr (Or.inr (Or.inr (Or.inl (own_eqInt q))))))
  · exact Or.inr (Or.inr (Or.inr (Or.inr (Or.inr (Or.inr (Or.inl (own_eqInt q)))))))
  · exact Or.inr (Or.inr (Or.inr (Or.inr (Or.inr (Or.inr (Or.inr (own_eqInt q)))))))
theorem own_cases4 {n : Int32} (h : ¬ n < 0 ∧ ¬ (3 : Int32) < n) : n = 0 ∨ n = 1 ∨ n = 2 ∨ n = 3 := by
  obtain ⟨h0, h1⟩ := h
  rw [Int32.lt_iff_toInt_lt] at h0 h1
  have e0 : (0 : Int32).toInt = 0 := rfl
  have e7 : (3 : Int32).toInt = 3 := rfl
  rw [e0] at h0; rw [e7] at h1
  have q : n.toInt = 0 ∨ n.toInt = 1 ∨ n.toInt = 2 ∨ n.toInt = 3 := by omega
  rcases q with q | q | q | q
  · exact Or.inl (own_eqInt q)
  · exact Or.inr (Or.inl (own_eqInt q))
  · exact Or.inr (Or.inr (Or.inl (own_eqInt q)))
  · exact Or.inr (Or.inr (Or.inr (own_eqInt q)))
/-- (char) (x & 255) -/
theorem own_ch255 (x : Int32) : (x &&& (255 : Int32)).toUInt32.toUInt16.toUInt32.toInt32 = x &&& 255 := i2c_mask x
theorem own_r255 (x : Int32) : ¬ (x &&& (255 : Int32)) < 0 ∧ ¬ (255 : Int32) < (x &&& (255 : Int32)) := own_mask x 255 (by decide)
theorem own_l255 (x : Int64) : (x &&& (255 : Int64)).toInt32 = x.toInt32 &&& (255 : Int32) := by
  apply Int32.toBitVec_inj.mp
  rw [Int32.toBitVec_and, Int64.toBitVec_toInt32, Int64.toBitVec_toInt32, Int64.toBitVec_and]
  apply BitVec.eq_of_getLsbD_eq
  intro i hi
  simp [BitVec.getLsbD_signExtend, BitVec.getLsbD_and, hi]
theorem own_cl255 (x : Int64) : ¬ ((x &&& (255 : Int64)).toInt32.toUInt32.toUInt16.toUInt32.toInt32) < 0 ∧ ¬ (255 : Int32) < ((x &&& (255 : Int64)).toInt32.toUInt32.toUInt16.toUInt32.toInt32) := by
  rw [own_l255, own_ch255]; exact own_r255 _
theorem own_rem {x k : Int32} (h : ¬ x < 0) (hk : (0 : Int32) < k) : ¬ (x % k) < 0 ∧ (x % k) < k := by
  rw [Int32.lt_iff_toInt_lt] at h hk
  have e0 : (0 : Int32).toInt = 0 := rfl
  rw [e0] at h hk
  have q : (x % k).toInt = x.toInt.tmod k.toInt := Int32.toInt_mod x k
  have q2 : x.toInt.tmod k.toInt = x.toInt % k.toInt := Int.tmod_eq_emod_of_nonneg (by omega)
  have q3 := Int.emod_nonneg x.toInt (show k.toInt ≠ 0 by omega)
  have q4 := Int.emod_lt_of_pos x.toInt hk
  rw [Int32.lt_iff_toInt_lt, Int32.lt_iff_toInt_lt, q, q2, e0]
  omega
theorem own_cases5 {n : Int32} (h : ¬ n < 0 ∧ n < (5 : Int32)) : n = 0 ∨ n = 1 ∨ n = 2 ∨ n = 3 ∨ n = 4 := by
  obtain ⟨h0, h1⟩ := h
  rw [Int32.lt_iff_toInt_lt] at h0 h1
  have e0 : (0 : Int32).toInt = 0 := rfl
  have e7 : (5 : Int32).toInt = 5 := rfl
  rw [e0] at h0; rw [e7] at h1
  have q : n.toInt = 0 ∨ n.toInt = 1 ∨ n.toInt = 2 ∨ n.toInt = 3 ∨ n.toInt = 4 := by omega
  rcases q with q | q | q | q | q
  · exact Or.inl (own_eqInt q)
  · exact Or.inr (Or.inl (own_eqInt q))
  · exact Or.inr (Or.inr (Or.inl (own_eqInt q)))
  · exact Or.inr (Or.inr (Or.inr (Or.inl (own_eqInt q))))
  · exact Or.inr (Or.inr (Or.inr (Or.inr (own_eqInt q))))
theorem own_cases6 {n : Int32} (h : ¬ n < 0 ∧ n < (6 : Int32)) : n = 0 ∨ n = 1 ∨ n = 2 ∨ n = 3 ∨ n = 4 ∨ n = 5 := by
  obtain ⟨h0, h1⟩ := h
  rw [Int32.lt_iff_toInt_lt] at h0 h1
  have e0 : (0 : Int32).toInt = 0 := rfl
  have e7 : (6 : Int32).toInt = 6 := rfl
  rw [e0] at h0; rw [e7] at h1
  have q : n.toInt = 0 ∨ n.toInt = 1 ∨ n.toInt = 2 ∨ n.toInt = 3 ∨ n.toInt = 4 ∨ n.toInt = 5 := by omega
  rcases q with q | q | q | q | q | q
  · exact Or.inl (own_eqInt q)
  · exact Or.inr (Or.inl (own_eqInt q))
  · exact Or.inr (Or.inr (Or.inl (own_eqInt q)))
  · exact Or.inr (Or.inr (Or.inr (Or.inl (own_eqInt q))))
  · exact Or.inr (Or.inr (Or.inr (Or.inr (Or.inl (own_eqInt q)))))
  · exact Or.inr (Or.inr (Or.inr (Or.inr (Or.inr (own_eqInt q)))))
theorem own_lo8lo8 (x : Int32) : x.toInt8.toInt32.toInt8.toInt32 = x.toInt8.toInt32 := by rw [Int8.toInt8_toInt32]
end OwnNum
section OwnIdx
theorem own_oi {a : Nat} (ha : a ≤ 4000) : (Int32.ofNat a).toInt = (a : Int) := Int32.toInt_ofNat_of_lt (by omega)
theorem own_olt {a b : Nat} (ha : a ≤ 4000) (hb : b ≤ 4000) : Int32.ofNat a < Int32.ofNat b ↔ a < b := by
  rw [Int32.lt_iff_toInt_lt, own_oi ha, own_oi hb]; omega
theorem own_oeq {a b : Nat} (ha : a ≤ 4000) (hb : b ≤ 4000) : Int32.ofNat a = Int32.ofNat b ↔ a = b := by
  rw [← Int32.toInt_inj, own_oi ha, own_oi hb]; omega
theorem own_osucc (a : Nat) : Int32.ofNat a + (1 : Int32) = Int32.ofNat (a + 1) := by
  rw [Int32.ofNat_add]; rfl
theorem own_oadd (a b : Nat) : Int32.ofNat a + Int32.ofNat b = Int32.ofNat (a + b) := by rw [Int32.ofNat_add]
theorem own_osub {a b : Nat} (h : b ≤ a) : Int32.ofNat a - Int32.ofNat b = Int32.ofNat (a - b) := by
  have q : Int32.ofNat a = Int32.ofNat (a - b) + Int32.ofNat b := by rw [← Int32.ofNat_add]; congr 1; omega
  rw [q, Int32.add_sub_cancel]
theorem own_o0 {a : Nat} (ha : a ≤ 4000) : ¬ Int32.ofNat a < 0 := by
  rw [Int32.lt_iff_toInt_lt, own_oi ha]
  show ¬ ((a : Int) < 0)
  omega
theorem own_on {a : Nat} (ha : a ≤ 4000) : (Int32.ofNat a).toNatClampNeg = a := Int32.toNatClampNeg_ofNat_of_lt (by omega)
/-- the place of a sign in a list, counted from i; -1 where it isn't there -/
def own_find (ch : Int32) : List Int32 → Nat → Int32
  | [], _ => -1
  | c :: cs, i => if c = ch then Int32.ofNat i else own_find ch cs (i + 1)
theorem own_lo8_inj {x y : Int32} (h0 : ¬ x < 0 ∧ ¬ (255 : Int32) < x) (k0 : ¬ y < 0 ∧ ¬ (255 : Int32) < y) (h : x.toInt8.toInt32 = y.toInt8.toInt32) : x = y := by
  have r : ∀ {z : Int32}, ¬ z < 0 ∧ ¬ (255 : Int32) < z → z.toInt8.toInt32 &&& 255 = z := fun {z} q => by
    obtain ⟨q0, q1⟩ := q
    rw [Int32.lt_iff_toInt_lt] at q0 q1
    have e0 : (0 : Int32).toInt = 0 := rfl
    have e1 : (255 : Int32).toInt = 255 := rfl
    have hz : z = Int32.ofNat z.toInt.toNat := by
      apply Int32.toInt_inj.mp
      rw [Int32.toInt_ofNat_of_lt (by omega)]; omega
    have t : ∀ k : Fin 256, (Int32.ofNat k.val).toInt8.toInt32 &&& 255 = Int32.ofNat k.val := by decide +kernel
    rw [hz]
    exact t ⟨z.toInt.toNat, by omega⟩
  rw [← r h0, ← r k0, h]
theorem own_find_tw (ch : Int32) : ∀ (cs : List Int32) (i : Nat), (own_find ch cs i = -1 ∧ cs.takeWhile (fun c => !decide (c = ch)) = cs) ∨ ∃ j, j < cs.length ∧ own_find ch cs i = Int32.ofNat (i + j) ∧ cs.takeWhile (fun c => !decide (c = ch)) = cs.take j
  | [], i => Or.inl ⟨rfl, rfl⟩
  | c :: cs, i => by
    by_cases q : c = ch
    · exact Or.inr ⟨0, by simp, by rw [own_find, if_pos q]; rfl, by simp [q]⟩
    · rcases own_find_tw ch cs (i + 1) with ⟨h1, h2⟩ | ⟨j, h1, h2, h3⟩
      · exact Or.inl ⟨by rw [own_find, if_neg q]; exact h1, by rw [List.takeWhile_cons, if_pos (by simp [q]), h2]⟩
      · refine Or.inr ⟨j + 1, by simp; omega, ?_, ?_⟩
        · rw [own_find, if_neg q, h2]; congr 1; omega
        · rw [List.takeWhile_cons, if_pos (by simp [q]), h3]; rfl
theorem own_opred {a : Nat} (h : 1 ≤ a) : Int32.ofNat a - (1 : Int32) = Int32.ofNat (a - 1) := own_osub (b := 1) h
theorem own_opred' {a : Nat} (h : 1 ≤ a) : Int32.ofNat a + (-1 : Int32) = Int32.ofNat (a - 1) := by
  rw [← own_opred h, Int32.sub_eq_add_neg]
end OwnIdx
section OwnStr
variable {p : Program} {l : Launch} {e : Env} {R : Room} {s : State} {m : MethodId} {args : Array Value} {below : List Frame} {meth : Method} {c : Code} {Z : State} {a0 : Array Value} {EL : List (String × Nat)} {own : String} {n0 : Nat} {T : State} {vm0 : Vm} {h h' : Heap} {cells slots : Nat} {Q : Option Value → Heap → Prop} {x a b : Addr} {cs ds : List Int32}
/-- a Latin-1 String that spells cs -/
def own_Str (Z : State) (h : Heap) (a : Addr) (cs : List Int32) : Prop :=
  Exa Z h a "java/lang/String" ∧ Fld Z h a "java/lang/String" "coder" "B" (.int 0) ∧ (∃ (t : Addr) (k : ClassId), Fld Z h a "java/lang/String" "value" "[B" (.ref t) ∧ Arv Z h t k .byte (Int32.ofNat cs.length) ((cs.map fun c => c.toInt8.toInt32).map Value.int) (.int 0)) ∧ (∀ c ∈ cs, ¬ c < 0 ∧ ¬ (255 : Int32) < c) ∧ cs.length ≤ 4000
theorem own_Str.ext (E : Ext h h') (F : own_Str Z h a cs) : own_Str Z h' a cs := by
  obtain ⟨h1, h2, ⟨t, k, h3, h4⟩, r⟩ := F
  exact ⟨h1.ext E, h2.ext E, ⟨t, k, h3.ext E, h4.ext E⟩, r⟩
/-- a String stays where an object of another class alone is written -/
theorem own_strKeep {C : String} {n : Nat} {y : Addr} (F : own_Str Z h a cs) (X : Exa Z h y C) (K : Keep h h' [y]) (wi : (Jvm.Cond.instantiable C n).before a0 Z = true) (hn : C ≠ "java/lang/String") : own_Str Z h' a cs := by
  obtain ⟨h1, h2, ⟨t, k, h3, h4⟩, r⟩ := F
  have n1 : a ≠ y := Exa.ne h1 X (Ne.symm hn)
  have n2 : t ≠ y := Ne.symm (X.neArv h4 wi)
  exact ⟨h1.keep K, h2.keep K (ninS n1 nin0), ⟨t, k, h3.keep K (ninS n1 nin0), h4.keep K (ninS n2 nin0)⟩, r⟩
theorem own_Str.exa (F : own_Str Z h a cs) : Exa Z h a "java/lang/String" := F.1
theorem own_Str.lt (F : own_Str Z h a cs) : a < h.size := F.1.lt
theorem own_Str.rng (F : own_Str Z h a cs) : ∀ c ∈ cs, ¬ c < 0 ∧ ¬ (255 : Int32) < c := F.2.2.2.1
theorem own_Str.len (F : own_Str Z h a cs) : cs.length ≤ 4000 := F.2.2.2.2
/-- a String that its constructor hasn't filled yet -/
def own_Raw (Z : State) (h : Heap) (x : Addr) : Prop := Exa Z h x "java/lang/String" ∧ Fld Z h x "java/lang/String" "value" "[B" .null ∧ Fld Z h x "java/lang/String" "coder" "B" (.int 0)
theorem own_Raw.ext (E : Ext h h') (F : own_Raw Z h x) : own_Raw Z h' x := ⟨F.1.ext E, F.2.1.ext E, F.2.2.ext E⟩
theorem own_Raw.wr {sl : Nat} {v : Value} (W : Wr h h' b sl v) (hne : x ≠ b) (F : own_Raw Z h x) : own_Raw Z h' x := ⟨F.1.wr W, F.2.1.other W (Or.inl hne), F.2.2.other W (Or.inl hne)⟩
theorem own_Raw.lt (F : own_Raw Z h x) : x < h.size := F.1.lt
theorem own_Raw.safe (hal : Z.vm.Alike vm0) (F : own_Raw Z h x) : Safe Z EL vm0 h x := fun B => by
  obtain ⟨⟨cell, k, e1, e2, e3, -, -⟩, ⟨cell2, cf, kf, i, f, f1, f2, f3, f4, f5, f6, f7⟩, -⟩ := F
  cases e1.symm.trans f1
  obtain ⟨p, -, u, a, -, q, -, F, rfl | rfl⟩ := B
  · cases (show h[q.sa]? = some q.sC from F.ha).symm.trans e1
    obtain ⟨cS, ⟨⟨s1, s2, s3, ⟨cv, kv, iv, s4, s4'⟩, s5, s6, s7, s8, -⟩, -, -⟩, -⟩ := F
    obtain ⟨kv', z4⟩ := ff_back (U := Wst Z vm0 h) hal s4
    cases f2.symm.trans z4
    rw [s8] at f7
    cases f7
  · cases (show h[q.sd]? = some q.SA from F.hd).symm.trans e1
    obtain ⟨cS, -, -, ff, -⟩ := F
    have ff' : Z.vm.findClass "[B" = some q.SA.cls := by rw [← hal.findClass]; exact ff
    obtain ⟨k1, q1, q2⟩ := Vm.findClass_spec ff'
    obtain ⟨k2, q3, q4⟩ := Vm.findClass_spec e2
    cases q1.symm.trans q3
    exact absurd (q2.symm.trans q4) (by decide)
theorem own_up {x : Int32} (h : ¬ (255 : Int32) < x) : ¬ (65535 : Int32) < x := by
  rw [Int32.lt_iff_toInt_lt] at h ⊢
  have e1 : (255 : Int32).toInt = 255 := rfl
  have e2 : (65535 : Int32).toInt = 65535 := rfl
  omega
theorem own_rng (F : ∀ c ∈ cs, ¬ c < 0 ∧ ¬ (255 : Int32) < c) : ∀ c ∈ cs, ¬ c < 0 ∧ ¬ (65535 : Int32) < c := fun c hc => ⟨(F c hc).1, own_up (F c hc).2⟩
theorem own_nneg {n : Nat} (hn : n ≤ 4000) : ¬ Int32.ofNat n < 0 := by
  rw [Int32.lt_iff_toInt_lt, Int32.toInt_ofNat_of_lt (by omega)]
  show ¬ ((n : Int) < 0)
  omega
theorem own_nat {n : Nat} (hn : n ≤ 4000) : (Int32.ofNat n).toNatClampNeg = n := Int32.toNatClampNeg_ofNat_of_lt (by omega)
/-- compact strings are on; the formatter is a reference: at the start -/
def own_SC (Z : State) : Prop := ∃ z : Int32, Sta Z Z.heap "java/lang/String" "COMPACT_STRINGS" "Z" (.int z) ∧ ¬ z = 0
def own_SF (Z : State) : Prop := ∃ fm : Value, Sta Z Z.heap "jdk/internal/util/Preconditions" "SIOOBE_FORMATTER" "Ljava/util/function/BiFunction;" fm ∧ fm.isRef = true
theorem own_ldc (w : own_Wk p l e R s m args below meth c Z EL own n0 T vm0 h cells slots) (hx : p.tables.exec = Jvm.exec) {text : String} {index : Nat} (w1 : (Jvm.Cond.stringLink own index text).before a0 Z = true) (wS : ∀ d ∈ Bundle.stringAtoms, d.before a0 Z = true) (hEL : EW Z a0 EL) (hmem : (own, index) ∈ EL) (cs : List Int32)
    (ht : (∀ c ∈ text.toList, c.toNat < 256) ∧ text.toList.map (fun c => Value.int (Jvm.Lit.byteI c.toNat.toUInt16)) = (cs.map fun c => c.toInt8.toInt32).map Value.int) (hcs : ∀ c ∈ cs, ¬ c < 0 ∧ ¬ (255 : Int32) < c) (hlen : cs.length ≤ 4000) {g : JFrame} (hg : g.method = m) (hd : decode c.code g.pc = .ok (.ldc index, 2)) {n : Nat} (hn : 4 * text.toList.length ≤ n) (hbig : n ≤ 536870912) (hc : cells + 2 ≤ R.cells) (hl : slots + (n + 4) ≤ R.slots)
    (k : ∀ (a : Addr) (T' : State) (vm1 : Vm) (h' : Heap), own_Str Z h' a cs → Ext h h' → CHr Z EL vm0 h vm1 h' → own_Wk p l e R s m args below meth c Z EL own n0 T' vm1 h' (cells + 2) (slots + (n + 4)) → own_WP p e R below s Z EL n0 Q T' { g with pc := g.pc + 2, stack := .ref a :: g.stack }) : own_WP p e R below s Z EL n0 Q T g := by
  obtain ⟨locs, k0, X, e0, hS, hk, hZ, hown, N, O, C⟩ := w
  obtain ⟨a, T', h', k1, b, kk, X', e1, E, hS', hk', hZ', hown', x1, x2, x3, x4, -, -, C', -, -, st⟩ := ldcCH X hx hZ hown w1 wS e0 hS hk hEL hmem C.1 (z := Int32.ofNat cs.length) ht (own_nneg hlen) (by rw [own_nat hlen]; simp) hg hd hn hbig hc hl
  exact own_by st (k a T' T'.vm h' ⟨x1, x2, ⟨b, kk, x3, x4⟩, hcs, hlen⟩ E C' ⟨locs, k1, X', e1, hS', hk', hZ', hown', N, O.ext E, C.trans C'⟩)
theorem own_alen (w : own_Wk p l e R s m args below meth c Z EL own n0 T vm0 h cells slots) (hx : p.tables.exec = Jvm.exec) {kA : ClassId} {ty : FieldType} {z : Int32} {vs : List Value} {dv : Value} (V : Arv Z h a kA ty z vs dv) {g : JFrame} (hg : g.method = m) {rest : List Value} (hs : g.stack = .ref a :: rest) (hd : decode c.code g.pc = .ok (.arraylength, 1))
    (k : own_WP p e R below s Z EL n0 Q T { g with pc := g.pc + 1, stack := .int z :: rest }) : own_WP p e R below s Z EL n0 Q T g := by
  obtain ⟨locs, k0, X, e0, hS, hk, hZ, hown, N, O, C⟩ := w
  obtain ⟨cl, A, q, S, N, H, G⟩ := V
  refine own_by (fun t kk => X.arraylength hx (by rw [e0]; exact A.1) (State.isArrayOf_alike (T := s.setVm vm0) hZ.alike A.2.1) hg hs hd _ ?_) k
  rw [len_of S N]
  exact kk
theorem own_payNew {kC : ClassId} {d : Value} {W kI : Nat} (w : own_Wk p l e R s m args below meth c Z EL own n0 T vm0 h cells slots) (hEL : EW Z a0 EL) (hws : ∀ d ∈ StrChars.Road.words, d.before a0 Z = true) (wi : (Jvm.Cond.instantiable "java/lang/String" kI).before a0 Z = true) (SC : own_SC Z) (F : own_Raw Z h x) (K : Arv Z h b kC .char (Int32.ofNat cs.length) (cs.map Value.int) d) (hx0 : n0 ≤ x)
    (h0 : 0 < cs.length) (hl : cs.length ≤ 4000) (hp : ∀ c ∈ cs, ¬ c < 0 ∧ ¬ (255 : Int32) < c) (hfr : 4 ≤ R.frames) (hlo : W + 65 ≤ R.locals) : own_Pay l R p e below s args (⟨"java/lang/String", "<init>", "([C)V"⟩ : MethodName) 3 W Z EL n0 vm0 h #[.ref x, .ref b] 1 cs.length (fun v h' => v = none ∧ Keep h h' [x] ∧ own_Str Z h' x cs) := by
  obtain ⟨z, S, hz⟩ := SC
  refine own_payBack (ws := [x]) (Q0 := StrChars.Road.QV Z x (Int32.ofNat cs.length) (cs.map fun c => c.toInt8.toInt32) h n0) w hEL (StrChars.Road.backV (s := s.setVm vm0) (own_hZ w) hws wi hx0 (own_n0 w) F.1 F.2.1 F.2.2 K (S.ext (own_old w).2) hz rfl rfl h0 hl hp rfl hfr hlo) (fun v h' L q => ?_) (allS hx0 all0) (sfS (F.safe (own_hZ w).alike) sf0)
  obtain ⟨q1, q2, q3, q4, q5, t, kb, q6, q7, q8, q9, q10⟩ := q
  exact ⟨⟨q1, q3, q4, q5, ⟨t, kb, q9, q10⟩, hp, hl⟩, q2, q3⟩
/-- a Back that leaves the heap as it was -/
theorem own_payPure {y : MethodName} {len W : Nat} {as' : Array Value} {P : Option Value → Prop} (w : own_Wk p l e R s m args below meth c Z EL own n0 T vm0 h cells slots) (hEL : EW Z a0 EL)
    (K : Back l R p e below (s.setVm vm0) args y len W (fun A a => a = as' ∧ A.U.heap = h ∧ A.cells + 0 ≤ R.cells ∧ A.slots + 0 ≤ R.slots) (fun A _ v B => ∃ L, (P v ∧ L = [] ∧ B.U.heap = h) ∧ B.locs = A.locs ++ L ∧ B.cells = A.cells + 0 ∧ B.slots = A.slots + 0)) :
    own_Pay l R p e below s args y len W Z EL n0 vm0 h as' 0 0 (fun v h' => P v ∧ h = h') :=
  own_payBack (ws := []) (Q0 := fun v h' L => P v ∧ L = [] ∧ h' = h) w hEL K (fun v h' L q => ⟨⟨q.1, q.2.2.symm⟩, by rw [q.2.1]; exact Fr.nil _, by rw [q.2.2]; exact Keep.refl _ _⟩) all0 sf0
end OwnStr
section OwnLen
variable {p : Program} {l : Launch} {e : Env} {R : Room} {s : State} {m : MethodId} {args : Array Value} {below : List Frame} {meth : Method} {c : Code} {Z : State} {a0 : Array Value} {EL : List (String × Nat)} {own : String} {n0 : Nat} {T : State} {vm0 : Vm} {h h' : Heap} {cells slots : Nat} {x a b : Addr} {cs ds : List Int32}
theorem own_payLen {len W kI : Nat} (w : own_Wk p l e R s m args below meth c Z EL own n0 T vm0 h cells slots) (hEL : EW Z a0 EL) (hws : ∀ d ∈ StrChars.Road.wordsLen, d.before a0 Z = true) (wi : (Jvm.Cond.instantiable "java/lang/String" kI).before a0 Z = true) (SC : own_SC Z) (F : own_Str Z h x cs) (hfr : 2 ≤ R.frames) (hlo : W + 25 ≤ R.locals) :
    own_Pay l R p e below s args (⟨"java/lang/String", "length", "()I"⟩ : MethodName) len W Z EL n0 vm0 h #[.ref x] 0 0 (fun v h' => v = some (.int (Int32.ofNat cs.length)) ∧ h = h') := by
  obtain ⟨z, S, hz⟩ := SC
  obtain ⟨f1, f2, ⟨t, k, f3, f4⟩, f5, f6⟩ := F
  exact own_payPure (P := fun v => v = some (.int (Int32.ofNat cs.length))) w hEL (StrChars.Road.lenW (s := s.setVm vm0) (own_hZ w) hws wi f1 f3 f2 f4 (StrChars.Road.codOf rfl fun c hc => (f5 c hc).2) (own_rng f5) (S.ext (own_old w).2) hz f6 hfr hlo)
end OwnLen
section OwnWide
variable {Z : State} {a0 : Array Value} {vm : Vm} {h h' : Heap} {a : Addr} {cs : List Int32}
/-- a String of coder 1 that spells cs -/
def own_Wid (Z : State) (h : Heap) (a : Addr) (cs : List Int32) : Prop :=
  Exa Z h a "java/lang/String" ∧ Fld Z h a "java/lang/String" "coder" "B" (.int 1) ∧ (∃ (t : Addr) (k : ClassId), Fld Z h a "java/lang/String" "value" "[B" (.ref t) ∧ Arv Z h t k .byte (Int32.ofNat (2 * cs.length)) (StrChars.Road.wideBytes cs) (.int 0)) ∧ (∀ c ∈ cs, ¬ c < 0 ∧ ¬ (65535 : Int32) < c) ∧ cs.length ≤ 1000
theorem own_Wid.ext (E : Ext h h') (F : own_Wid Z h a cs) : own_Wid Z h' a cs := by
  obtain ⟨h1, h2, ⟨t, k, h3, h4⟩, r⟩ := F
  exact ⟨h1.ext E, h2.ext E, ⟨t, k, h3.ext E, h4.ext E⟩, r⟩
theorem own_Wid.exa (F : own_Wid Z h a cs) : Exa Z h a "java/lang/String" := F.1
def own_Any (Z : State) (h : Heap) (a : Addr) (cs : List Int32) : Prop := own_Str Z h a cs ∨ own_Wid Z h a cs
theorem own_Any.ext (E : Ext h h') (F : own_Any Z h a cs) : own_Any Z h' a cs := F.imp (own_Str.ext E) (own_Wid.ext E)
theorem own_Any.exa (F : own_Any Z h a cs) : Exa Z h a "java/lang/String" := F.elim own_Str.exa own_Wid.exa
theorem own_eqI {t : Jvm.Term} {z : Int32} {s : State} {args : Array Value} (hh : (Jvm.Cond.eq t (Jvm.Term.int z)).before args s = true) : t.eval args s none [] s = some (.int z) := eqv_i (Term.int_eval z) (Cond.before_iff.mp hh)
theorem own_i2c (x : Int32) : ¬ x.toUInt32.toUInt16.toUInt32.toInt32 < 0 ∧ ¬ (65535 : Int32) < x.toUInt32.toUInt16.toUInt32.toInt32 := by
  have hb : x.toUInt32.toUInt16.toUInt32.toInt32.toInt = ((x.toBitVec.setWidth 16).setWidth 32).toInt := rfl
  have hn : ((x.toBitVec.setWidth 16).setWidth 32).toNat < 65536 := by
    rw [BitVec.toNat_setWidth, BitVec.toNat_setWidth]
    have := Nat.mod_lt x.toBitVec.toNat (show 0 < 2 ^ 16 by decide)
    exact Nat.lt_of_le_of_lt (Nat.mod_le _ _) this
  have h2 : ((x.toBitVec.setWidth 16).setWidth 32).toInt = ((x.toBitVec.setWidth 16).setWidth 32).toNat := by
    rw [BitVec.toInt_eq_toNat_cond, if_pos (by omega)]
  rw [Int32.lt_iff_toInt_lt, Int32.lt_iff_toInt_lt, hb, h2]
  have e1 : (65535 : Int32).toInt = 65535 := rfl
  have e0 : (0 : Int32).toInt = 0 := rfl
  omega
/-- x mod (n + 1) -/
theorem own_modn (x : Int32) {n : Nat} (hn : n ≤ 1000) : ∃ f : Nat, (x &&& (2147483647 : Int32)) % Int32.ofNat (n + 1) = Int32.ofNat f ∧ f ≤ n := by
  have hk : (0 : Int32) < Int32.ofNat (n + 1) := (own_olt (a := 0) (by omega) (by omega)).mpr (by omega)
  obtain ⟨h0, h1⟩ := own_rem (own_mask x 2147483647 (by decide)).1 hk
  refine ⟨((x &&& (2147483647 : Int32)) % Int32.ofNat (n + 1)).toInt.toNat, ?_, ?_⟩
  · rw [Int32.lt_iff_toInt_lt] at h0 h1
    rw [own_oi (by omega)] at h1
    have e0 : (0 : Int32).toInt = 0 := rfl
    apply Int32.toInt_inj.mp
    rw [Int32.toInt_ofNat_of_lt (by omega)]; omega
  · rw [Int32.lt_iff_toInt_lt] at h0 h1
    rw [own_oi (by omega)] at h1
    have e0 : (0 : Int32).toInt = 0 := rfl
    omega
/-- the statics of StringUTF16 -/
def own_US (Z : State) : Prop := Sta Z Z.heap "java/lang/StringUTF16" "$assertionsDisabled" "Z" (.int 1) ∧ Sta Z Z.heap "java/lang/StringUTF16" "HI_BYTE_SHIFT" "I" (.int 0) ∧ Sta Z Z.heap "java/lang/StringUTF16" "LO_BYTE_SHIFT" "I" (.int 8)
theorem own_one {P : Addr → Prop} (hp : P a) : ∀ x ∈ [a], P x := fun x hx => by rw [List.mem_singleton.mp hx]; exact hp
theorem own_shl1 {i : Nat} (hi : 2 * i ≤ 4000) : Int32.ofNat i <<< ((1 : Int32) &&& 31) = Int32.ofNat (2 * i) := by
  have e : ((1 : Int32) &&& 31) = 1 := by decide
  rw [e]
  apply Int32.toBitVec_inj.mp
  rw [Int32.toBitVec_shiftLeft]
  have e1 : ((1 : Int32).toBitVec.smod 32) = 1#32 := by decide
  rw [e1, BitVec.shiftLeft_eq']
  apply BitVec.eq_of_toNat_eq
  show ((BitVec.ofNat 32 i) <<< 1).toNat = (BitVec.ofNat 32 (2 * i)).toNat
  rw [BitVec.toNat_shiftLeft, BitVec.toNat_ofNat, BitVec.toNat_ofNat, Nat.shiftLeft_eq]
  omega
theorem own_getD {i : Nat} {P : Int32 → Prop} (hcs : ∀ c ∈ cs, P c) (hi : i < cs.length) : P (cs.getD i 0) := by
  rw [List.getD_eq_getElem?_getD, List.getElem?_eq_getElem hi]; exact hcs _ (List.getElem_mem _)
theorem own_units0 {u : Array UInt16} (hu : utf16ToString? u = some "") : (stringBytes u).size = 0 := by
  have e := units_of_text hu (by decide)
  have e2 : u = #[] := by
    apply Array.toList_inj.mp; rw [e]; decide
  subst e2; decide +kernel
/-- where the only String constant is the empty one, an array of bytes with a place isn't its array -/
theorem own_safeB {k : ClassId} {z : Int32} {vs : List Value} {dv : Value} (hZ : Z.Warmed39 vm) (wl : (Jvm.Cond.stringLink "java/lang/String" 7 "").before a0 Z = true) (V : Arv Z h a k .byte z vs dv) (hz : z.toNatClampNeg ≠ 0) : Safe Z [("java/lang/String", 7)] vm h a := fun B => by
  have hal : Z.vm.Alike vm := hZ.alike
  obtain ⟨cl, A, q0, S, -⟩ := V
  obtain ⟨A1, ⟨-, kA, hkA, compA, hkindA⟩, -⟩ := A
  obtain ⟨kA', hkA', ekA⟩ := hal.2.2 _ _ hkA
  obtain ⟨p, hp, u, b, ⟨c, kc, cf, i, hc', hk', hcf', hpool, hu, -⟩, q, -, F, rfl | rfl⟩ := B
  · cases (show h[q.sa]? = some q.sC from F.ha).symm.trans A1
    obtain ⟨cS, ⟨-, -, e⟩, ⟨kS, g1, g2, -⟩, -⟩ := F
    subst e
    cases (show vm.classes[q.sC.cls]? = some kS from g1).symm.trans hkA'
    rw [ekA] at g2
    have := hkindA.symm.trans g2
    cases this
  · cases (show h[q.sd]? = some q.SA from F.hd).symm.trans A1
    obtain ⟨cS, -, -, -, hb⟩ := F
    obtain rfl := List.mem_singleton.mp hp
    have wl' : (Jvm.Cond.stringLink "java/lang/String" 7 "").before a0 (Wst Z vm h) = true := mvS (s := { Z with heap := h }) hZ wl
    obtain ⟨k1, cf1, i1, u1, hk1, hcf1, hp1, hu1, -, htext, -⟩ := Cond.stringLink_spec (s := Wst Z vm h) hc' wl'
    cases hk'.symm.trans hk1
    cases hcf'.symm.trans hcf1
    cases hpool.symm.trans hp1
    cases hu.symm.trans hu1
    apply hz
    rw [← S, hb]
    exact own_units0 htext
end OwnWide
theorem own_EL {Z : State} {a0 : Array Value} (hw : ∀ d ∈ tables_1, d.before a0 Z = true) : EW Z a0 consts_1 := (EW.cons (hw _ (List.mem_of_getElem? (i := 16) rfl)) (by decide) EW.nil)
theorem own_txt_0 : (∀ c ∈ "".toList, c.toNat < 256) ∧ "".toList.map (fun c => Value.int (Jvm.Lit.byteI c.toNat.toUInt16)) = (([] : List Int32).map fun c => c.toInt8.toInt32).map Value.int := ⟨by decide, by decide⟩
theorem own_rng_0 : ∀ c ∈ ([] : List Int32), ¬ c < 0 ∧ ¬ (255 : Int32) < c := by decide
theorem own_len_0 : 4 * "".toList.length ≤ 0 := by decide
theorem own_wS {Z : State} {a0 : Array Value} (hw : ∀ d ∈ tables_1, d.before a0 Z = true) : ∀ d ∈ Bundle.stringAtoms, d.before a0 Z = true := fun d hd => hw d ((by decide +kernel : ∀ d ∈ Bundle.stringAtoms, d ∈ tables_1) d hd)
theorem own_wLen {Z : State} {a0 : Array Value} (hw : ∀ d ∈ tables_1, d.before a0 Z = true) : ∀ d ∈ StrChars.Road.wordsLen, d.before a0 Z = true := fun d hd => hw d ((by decide +kernel : ∀ d ∈ StrChars.Road.wordsLen, d ∈ tables_1) d hd)
theorem d2_0 : decode jdk_42_method_149_code 0 = .ok (.aload_n 0, 1) := by decide +kernel
theorem d2_1 : decode jdk_42_method_149_code 1 = .ok (.invokespecial 1, 3) := by decide +kernel
theorem d2_4 : decode jdk_42_method_149_code 4 = .ok (.iload_n 3, 1) := by decide +kernel
theorem d2_5 : decode jdk_42_method_149_code 5 = .ok (.ifCond .ne 22, 3) := by decide +kernel
theorem d2_8 : decode jdk_42_method_149_code 8 = .ok (.aload_n 0, 1) := by decide +kernel
theorem d2_9 : decode jdk_42_method_149_code 9 = .ok (.ldc 7, 2) := by decide +kernel
theorem d2_11 : decode jdk_42_method_149_code 11 = .ok (.getfield 9, 3) := by decide +kernel
theorem d2_14 : decode jdk_42_method_149_code 14 = .ok (.putfield 9, 3) := by decide +kernel
theorem d2_17 : decode jdk_42_method_149_code 17 = .ok (.aload_n 0, 1) := by decide +kernel
theorem d2_18 : decode jdk_42_method_149_code 18 = .ok (.ldc 7, 2) := by decide +kernel
theorem d2_20 : decode jdk_42_method_149_code 20 = .ok (.getfield 15, 3) := by decide +kernel
theorem d2_23 : decode jdk_42_method_149_code 23 = .ok (.putfield 15, 3) := by decide +kernel
theorem d2_26 : decode jdk_42_method_149_code 26 = .ok (.return_, 1) := by decide +kernel
theorem pn_592151507 : plainFor (⟨"java/lang/String", "<init>", "([CIILjava/lang/Void;)V"⟩ : MethodName) = true := by first | exact plainFor_of_name (by first | (simp [plainName, overriddenIn]; done) | decide +kernel) | decide +kernel
theorem ef_ctNew4e (m : MethodId) (x0 : Addr) (x1 : Addr) (x2 : Int32) (x3 : Int32) : entryFrame m #[(.ref x0), (.ref x1), (.int x2), (.int x3), .null] 6 = mkF m 0 #[.val (.ref x0), .val (.ref x1), .val (.int x2), .val (.int x3), .val .null, .unset] [] := by first | (simp [entryFrame, mkF, argsToLocals, Value.category]; done) | rfl
set_option maxRecDepth 65536 in
set_option maxHeartbeats 40000000 in
theorem ctNew4e (l : Launch) (Z : State) (a0 : Array Value) (hw : ∀ d ∈ tables_1, d.before a0 Z = true) (n0 : Nat) (h0 : Heap) (O0 : Old Z n0 h0) (x b : Addr) (F0 : own_Raw Z h0 x) (gx : n0 ≤ x) :
    own_Ct l (⟨"java/lang/String", "<init>", "([CIILjava/lang/Void;)V"⟩ : MethodName) jdk_42_method_149_code 6 none ({ frames := 1, cells := 4, slots := 8, locals := 12 } : Room) Z consts_1 n0 #[(.ref x), (.ref b), (.int (0 : Int32)), (.int (0 : Int32)), .null] h0 [] (fun v h => v = none ∧ Keep h0 h [x] ∧ own_Str Z h x []) := by
  have hEL := own_EL hw
  refine own_body pn_592151507 O0 (fun p e s m below meth cc_ T0 vm0 hx hby hml0 hret hlk hnm hsf w0 => ?_)
  have hml : cc_.maxLocals = 6 := hml0
  have A_0 := own_at w0
  refine own_entry (ef_ctNew4e m x b (0 : Int32) (0 : Int32)) ?_
  refine own_by (T' := T0) (g' := (mkF m 1 #[.val (.ref x), .val (.ref b), .val (.int (0 : Int32)), .val (.int (0 : Int32)), .val .null, .unset] [(.ref x)])) (fun t_ hr_ => XS.aloadN A_0 hx rfl (Jvm.hb hby d2_0) rfl rfl hr_) ?_
  refine own_initO w0 hx (hw _ (List.mem_of_getElem? (i := 13) rfl)) (hw _ (List.mem_of_getElem? (i := 14) rfl)) (hw _ (List.mem_of_getElem? (i := 15) rfl)) (g := (mkF m 1 #[.val (.ref x), .val (.ref b), .val (.int (0 : Int32)), .val (.int (0 : Int32)), .val .null, .unset] [(.ref x)])) rfl (by rw [hml]; rfl) rfl (Jvm.hb hby d2_1) (by decide) (W := 0) (by show 2 * 0 + _ ≤ _; exact Nat.le_of_eq rfl) (by decide) (fun T1_ w1_ => ?_)
  have A1_ := own_at w1_
  show own_WP p e _ below s Z _ n0 _ T1_ (mkF m 4 #[.val (.ref x), .val (.ref b), .val (.int (0 : Int32)), .val (.int (0 : Int32)), .val .null, .unset] [])
  refine own_by (T' := T1_) (g' := (mkF m 5 #[.val (.ref x), .val (.ref b), .val (.int (0 : Int32)), .val (.int (0 : Int32)), .val .null, .unset] [(.int (0 : Int32))])) (fun t_ hr_ => XS.iloadN A1_ hx rfl (Jvm.hb hby d2_4) rfl hr_) ?_
  refine own_by (T' := T1_) (g' := (mkF m 8 #[.val (.ref x), .val (.ref b), .val (.int (0 : Int32)), .val (.int (0 : Int32)), .val .null, .unset] [])) (fun t_ hr_ => XS.ifNo A1_ hx rfl (Jvm.hb hby d2_5) rfl ((if0 _ _).trans (teq (rfl : (0 : Int32) = 0)).2) hr_) ?_
  refine own_by (T' := T1_) (g' := (mkF m 9 #[.val (.ref x), .val (.ref b), .val (.int (0 : Int32)), .val (.int (0 : Int32)), .val .null, .unset] [(.ref x)])) (fun t_ hr_ => XS.aloadN A1_ hx rfl (Jvm.hb hby d2_8) rfl rfl hr_) ?_
  refine own_ldc w1_ hx (hw _ (List.mem_of_getElem? (i := 16) rfl)) (own_wS hw) hEL (List.mem_of_getElem? (i := 0) rfl) [] own_txt_0 own_rng_0 (by decide) (g := (mkF m 9 #[.val (.ref x), .val (.ref b), .val (.int (0 : Int32)), .val (.int (0 : Int32)), .val .null, .unset] [(.ref x)])) rfl (Jvm.hb hby d2_9) (n := 0) own_len_0 (by decide) (by decide) (by decide) (fun a2_ T2_ vm2_ h2_ S2_ E2_ C2_ w2_ => ?_)
  have A2_ := own_at w2_
  show own_WP p e _ below s Z _ n0 _ T2_ (mkF m 11 #[.val (.ref x), .val (.ref b), .val (.int (0 : Int32)), .val (.int (0 : Int32)), .val .null, .unset] [(.ref a2_), (.ref x)])
  have R2_ := F0.ext E2_
  obtain ⟨b1, b2, ⟨t, kt, b3, b4⟩, b5, b6⟩ := S2_
  refine own_getF w2_ hx (hw _ (List.mem_of_getElem? (i := 22) rfl)) b3 (g := (mkF m 11 #[.val (.ref x), .val (.ref b), .val (.int (0 : Int32)), .val (.int (0 : Int32)), .val .null, .unset] [(.ref a2_), (.ref x)])) rfl rfl (Jvm.hb hby d2_11) (fun T3_ w3_ => ?_)
  have A3_ := own_at w3_
  show own_WP p e _ below s Z _ n0 _ T3_ (mkF m 14 #[.val (.ref x), .val (.ref b), .val (.int (0 : Int32)), .val (.int (0 : Int32)), .val .null, .unset] [(.ref t), (.ref x)])
  have Sf1 : Safe Z consts_1 vm2_ h2_ x := R2_.safe (own_hZ w3_).alike
  have ne1 : x ≠ t := R2_.1.neArv b4 (hw _ (List.mem_of_getElem? (i := 4) rfl))
  refine own_putF w3_ hx (hw _ (List.mem_of_getElem? (i := 22) rfl)) R2_.2.1 R2_.1 (Or.inr ⟨(hw _ (List.mem_of_getElem? (i := 18) rfl)), rfl, hnm⟩) (hw _ (List.mem_of_getElem? (i := 4) rfl)) (ty := (.array .byte)) (by decide) rfl rfl gx Sf1 (g := (mkF m 14 #[.val (.ref x), .val (.ref b), .val (.int (0 : Int32)), .val (.int (0 : Int32)), .val .null, .unset] [(.ref t), (.ref x)])) rfl rfl (Jvm.hb hby d2_14) (fun T4_ h4_ W4_ w4_ => ?_)
  have A4_ := own_at w4_
  show own_WP p e _ below s Z _ n0 _ T4_ (mkF m 17 #[.val (.ref x), .val (.ref b), .val (.int (0 : Int32)), .val (.int (0 : Int32)), .val .null, .unset] [])
  have Sf2 : Safe Z consts_1 vm2_ h4_ x := Safe.wr W4_ Sf1 (own_chv w3_) Sf1
  have X2 := R2_.1.wr W4_
  have V2 := R2_.2.1.same W4_
  have D2 := R2_.2.2.other W4_ (Or.inr (slot_ne (Or.inr (hw _ (List.mem_of_getElem? (i := 19) rfl))) (Or.inr (hw _ (List.mem_of_getElem? (i := 18) rfl))) (by decide) rfl rfl))
  have Y2 := b4.other W4_ (Ne.symm ne1)
  refine own_by (T' := T4_) (g' := (mkF m 18 #[.val (.ref x), .val (.ref b), .val (.int (0 : Int32)), .val (.int (0 : Int32)), .val .null, .unset] [(.ref x)])) (fun t_ hr_ => XS.aloadN A4_ hx rfl (Jvm.hb hby d2_17) rfl rfl hr_) ?_
  refine own_ldc w4_ hx (hw _ (List.mem_of_getElem? (i := 16) rfl)) (own_wS hw) hEL (List.mem_of_getElem? (i := 0) rfl) [] own_txt_0 own_rng_0 (by decide) (g := (mkF m 18 #[.val (.ref x), .val (.ref b), .val (.int (0 : Int32)), .val (.int (0 : Int32)), .val .null, .unset] [(.ref x)])) rfl (Jvm.hb hby d2_18) (n := 0) own_len_0 (by decide) (by decide) (by decide) (fun a5_ T5_ vm5_ h5_ S5_ E5_ C5_ w5_ => ?_)
  have A5_ := own_at w5_
  show own_WP p e _ below s Z _ n0 _ T5_ (mkF m 20 #[.val (.ref x), .val (.ref b), .val (.int (0 : Int32)), .val (.int (0 : Int32)), .val .null, .unset] [(.ref a5_), (.ref x)])
  obtain ⟨c1, c2, -⟩ := S5_
  have Sf3 : Safe Z consts_1 vm5_ h5_ x := C5_.safe X2.lt Sf2
  refine own_getF w5_ hx (hw _ (List.mem_of_getElem? (i := 23) rfl)) c2 (g := (mkF m 20 #[.val (.ref x), .val (.ref b), .val (.int (0 : Int32)), .val (.int (0 : Int32)), .val .null, .unset] [(.ref a5_), (.ref x)])) rfl rfl (Jvm.hb hby d2_20) (fun T6_ w6_ => ?_)
  have A6_ := own_at w6_
  show own_WP p e _ below s Z _ n0 _ T6_ (mkF m 23 #[.val (.ref x), .val (.ref b), .val (.int (0 : Int32)), .val (.int (0 : Int32)), .val .null, .unset] [(.int (0 : Int32)), (.ref x)])
  refine own_putF w6_ hx (hw _ (List.mem_of_getElem? (i := 23) rfl)) (D2.ext E5_) (X2.ext E5_) (Or.inr ⟨(hw _ (List.mem_of_getElem? (i := 19) rfl)), rfl, hnm⟩) (hw _ (List.mem_of_getElem? (i := 4) rfl)) (ty := .byte) (by decide) rfl rfl gx Sf3 (g := (mkF m 23 #[.val (.ref x), .val (.ref b), .val (.int (0 : Int32)), .val (.int (0 : Int32)), .val .null, .unset] [(.int (0 : Int32)), (.ref x)])) rfl rfl (Jvm.hb hby d2_23) (fun T7_ h7_ W7_ w7_ => ?_)
  have A7_ := own_at w7_
  show own_WP p e _ below s Z _ n0 _ T7_ (mkF m 26 #[.val (.ref x), .val (.ref b), .val (.int (0 : Int32)), .val (.int (0 : Int32)), .val .null, .unset] [])
  exact own_retV w7_ hx hEL hlk hret (Jvm.hb hby d2_26) (by decide) (by decide) ⟨rfl, (((((Keep.refl h0 [x]).ext E2_).wr W4_ (Or.inl (List.mem_of_getElem? (i := 0) rfl))).ext E5_).wr W7_ (Or.inl (List.mem_of_getElem? (i := 0) rfl))), (X2.ext E5_).wr W7_, (D2.ext E5_).same W7_, ⟨t, kt, (V2.ext E5_).other W7_ (Or.inr (slot_ne (Or.inr (hw _ (List.mem_of_getElem? (i := 18) rfl))) (Or.inr (hw _ (List.mem_of_getElem? (i := 19) rfl))) (by decide) rfl rfl)), (Y2.ext E5_).other W7_ (Ne.symm ne1)⟩, b5, b6⟩

theorem d1_0 : decode jdk_42_method_3_code 0 = .ok (.aload_n 0, 1) := by decide +kernel
theorem d1_1 : decode jdk_42_method_3_code 1 = .ok (.aload_n 1, 1) := by decide +kernel
theorem d1_2 : decode jdk_42_method_3_code 2 = .ok (.iconst 0, 1) := by decide +kernel
theorem d1_3 : decode jdk_42_method_3_code 3 = .ok (.aload_n 1, 1) := by decide +kernel
theorem d1_4 : decode jdk_42_method_3_code 4 = .ok (.arraylength, 1) := by decide +kernel
theorem d1_5 : decode jdk_42_method_3_code 5 = .ok (.aconst_null, 1) := by decide +kernel
theorem d1_6 : decode jdk_42_method_3_code 6 = .ok (.invokespecial 27, 3) := by decide +kernel
theorem pd_677231080 : parseMethodDescriptor "([CIILjava/lang/Void;)V" = some ⟨[(.array .char), .int, .int, (.object "java/lang/Void")], none⟩ := by decide +kernel
theorem d1_9 : decode jdk_42_method_3_code 9 = .ok (.return_, 1) := by decide +kernel
theorem pn_399269609 : plainFor (⟨"java/lang/String", "<init>", "([C)V"⟩ : MethodName) = true := by first | exact plainFor_of_name (by first | (simp [plainName, overriddenIn]; done) | decide +kernel) | decide +kernel
theorem ef_ctNew1e (m : MethodId) (x0 : Addr) (x1 : Addr) : entryFrame m #[(.ref x0), (.ref x1)] 2 = mkF m 0 #[.val (.ref x0), .val (.ref x1)] [] := by first | (simp [entryFrame, mkF, argsToLocals, Value.category]; done) | rfl
set_option maxRecDepth 65536 in
set_option maxHeartbeats 40000000 in
theorem ctNew1e (l : Launch) (Z : State) (a0 : Array Value) (hw : ∀ d ∈ tables_1, d.before a0 Z = true) (n0 : Nat) (h0 : Heap) (O0 : Old Z n0 h0) (x b : Addr) (kC : ClassId) (vs : List Value) (dv : Value) (F0 : own_Raw Z h0 x) (V0 : Arv Z h0 b kC .char (0 : Int32) vs dv) (gx : n0 ≤ x) :
    own_Ct l (⟨"java/lang/String", "<init>", "([C)V"⟩ : MethodName) jdk_42_method_3_code 2 none ({ frames := 2, cells := 4, slots := 8, locals := 29 } : Room) Z consts_1 n0 #[(.ref x), (.ref b)] h0 [] (fun v h => v = none ∧ Keep h0 h [x] ∧ own_Str Z h x []) := by
  have hEL := own_EL hw
  refine own_body pn_399269609 O0 (fun p e s m below meth cc_ T0 vm0 hx hby hml0 hret hlk hnm hsf w0 => ?_)
  have hml : cc_.maxLocals = 2 := hml0
  have A_0 := own_at w0
  refine own_entry (ef_ctNew1e m x b) ?_
  refine own_by (T' := T0) (g' := (mkF m 1 #[.val (.ref x), .val (.ref b)] [(.ref x)])) (fun t_ hr_ => XS.aloadN A_0 hx rfl (Jvm.hb hby d1_0) rfl rfl hr_) ?_
  refine own_by (T' := T0) (g' := (mkF m 2 #[.val (.ref x), .val (.ref b)] [(.ref b), (.ref x)])) (fun t_ hr_ => XS.aloadN A_0 hx rfl (Jvm.hb hby d1_1) rfl rfl hr_) ?_
  refine own_by (T' := T0) (g' := (mkF m 3 #[.val (.ref x), .val (.ref b)] [(.int (0 : Int32)), (.ref b), (.ref x)])) (fun t_ hr_ => XS.iconst A_0 hx rfl (Jvm.hb hby d1_2) hr_) ?_
  refine own_by (T' := T0) (g' := (mkF m 4 #[.val (.ref x), .val (.ref b)] [(.ref b), (.int (0 : Int32)), (.ref b), (.ref x)])) (fun t_ hr_ => XS.aloadN A_0 hx rfl (Jvm.hb hby d1_3) rfl rfl hr_) ?_
  refine own_alen w0 hx V0 (g := (mkF m 4 #[.val (.ref x), .val (.ref b)] [(.ref b), (.int (0 : Int32)), (.ref b), (.ref x)])) rfl rfl (Jvm.hb hby d1_4) ?_
  show own_WP p e _ below s Z _ n0 _ T0 (mkF m 5 #[.val (.ref x), .val (.ref b)] [(.int (0 : Int32)), (.int (0 : Int32)), (.ref b), (.ref x)])
  refine own_by (T' := T0) (g' := (mkF m 6 #[.val (.ref x), .val (.ref b)] [.null, (.int (0 : Int32)), (.int (0 : Int32)), (.ref b), (.ref x)])) (fun t_ hr_ => XS.aconstNull A_0 hx rfl (Jvm.hb hby d1_5) hr_) ?_
  refine own_callC w0 hx (y := (⟨"java/lang/String", "<init>", "([CIILjava/lang/Void;)V"⟩ : MethodName)) rfl (hw _ (List.mem_of_getElem? (i := 9) rfl)) (hw _ (List.mem_of_getElem? (i := 10) rfl)) (hw _ (List.mem_of_getElem? (i := 12) rfl)) (by decide) (kc := 4) (ks := 8) (a := x) (argsL := [(.ref b), (.int (0 : Int32)), (.int (0 : Int32)), .null]) (rest := []) (own_payCt (W := 0) (ctNew4e l Z a0 hw n0 h0 O0 x b F0 gx) w0 (hw _ (List.mem_of_getElem? (i := 12) rfl)) (hw _ (List.mem_of_getElem? (i := 5) rfl)) hEL (by decide) (by decide)) (g := (mkF m 6 #[.val (.ref x), .val (.ref b)] [.null, (.int (0 : Int32)), (.int (0 : Int32)), (.ref b), (.ref x)])) rfl (by rw [hml]; rfl) (lenOf pd_677231080 rfl) rfl (by show 2 * 0 + _ ≤ _; exact Nat.le_of_eq rfl) (Jvm.hb hby d1_6) (by decide) (by decide) (fun v1_ T1_ vm1_ h1_ q1_ C1_ w1_ => ?_)
  obtain ⟨rfl, K1, S1⟩ := q1_
  have A1_ := own_at w1_
  show own_WP p e _ below s Z _ n0 _ T1_ (mkF m 9 #[.val (.ref x), .val (.ref b)] [])
  exact own_retV w1_ hx hEL hlk hret (Jvm.hb hby d1_9) (by decide) (by decide) ⟨rfl, K1, S1⟩

theorem d21_0 : decode jdk_52_method_4_code 0 = .ok (.getstatic 44, 3) := by decide +kernel
theorem d21_3 : decode jdk_52_method_4_code 3 = .ok (.ifCond .ne 25, 3) := by decide +kernel
theorem d21_28 : decode jdk_52_method_4_code 28 = .ok (.iload_n 1, 1) := by decide +kernel
theorem d21_29 : decode jdk_52_method_4_code 29 = .ok (.iconst 1, 1) := by decide +kernel
theorem d21_30 : decode jdk_52_method_4_code 30 = .ok (.ishl, 1) := by decide +kernel
theorem d21_31 : decode jdk_52_method_4_code 31 = .ok (.istore_n 1, 1) := by decide +kernel
theorem d21_32 : decode jdk_52_method_4_code 32 = .ok (.aload_n 0, 1) := by decide +kernel
theorem d21_33 : decode jdk_52_method_4_code 33 = .ok (.iload_n 1, 1) := by decide +kernel
theorem d21_34 : decode jdk_52_method_4_code 34 = .ok (.iinc 1 1, 3) := by decide +kernel
theorem d21_37 : decode jdk_52_method_4_code 37 = .ok (.iload_n 2, 1) := by decide +kernel
theorem d21_38 : decode jdk_52_method_4_code 38 = .ok (.getstatic 59, 3) := by decide +kernel
theorem d21_41 : decode jdk_52_method_4_code 41 = .ok (.ishr, 1) := by decide +kernel
theorem d21_42 : decode jdk_52_method_4_code 42 = .ok (.i2b, 1) := by decide +kernel
theorem d21_43 : decode jdk_52_method_4_code 43 = .ok (.bastore, 1) := by decide +kernel
theorem d21_44 : decode jdk_52_method_4_code 44 = .ok (.aload_n 0, 1) := by decide +kernel
theorem d21_45 : decode jdk_52_method_4_code 45 = .ok (.iload_n 1, 1) := by decide +kernel
theorem d21_46 : decode jdk_52_method_4_code 46 = .ok (.iload_n 2, 1) := by decide +kernel
theorem d21_47 : decode jdk_52_method_4_code 47 = .ok (.getstatic 63, 3) := by decide +kernel
theorem d21_50 : decode jdk_52_method_4_code 50 = .ok (.ishr, 1) := by decide +kernel
theorem d21_51 : decode jdk_52_method_4_code 51 = .ok (.i2b, 1) := by decide +kernel
theorem d21_52 : decode jdk_52_method_4_code 52 = .ok (.bastore, 1) := by decide +kernel
theorem d21_53 : decode jdk_52_method_4_code 53 = .ok (.return_, 1) := by decide +kernel
theorem pn_991197723 : plainFor (⟨"java/lang/StringUTF16", "putChar", "([BII)V"⟩ : MethodName) = true := by first | exact plainFor_of_name (by first | (simp [plainName, overriddenIn]; done) | decide +kernel) | decide +kernel
theorem ef_ctPut (m : MethodId) (x0 : Addr) (x1 : Int32) (x2 : Int32) : entryFrame m #[(.ref x0), (.int x1), (.int x2)] 3 = mkF m 0 #[.val (.ref x0), .val (.int x1), .val (.int x2)] [] := by first | (simp [entryFrame, mkF, argsToLocals, Value.category]; done) | rfl
set_option maxRecDepth 65536 in
set_option maxHeartbeats 40000000 in
theorem ctPut (l : Launch) (Z : State) (a0 : Array Value) (hw : ∀ d ∈ tables_1, d.before a0 Z = true) (US : own_US Z) (n0 : Nat) (h0 : Heap) (O0 : Old Z n0 h0) (t : Addr) (i : Nat) (c : Int32) (k : ClassId) (z : Int32) (vs : List Value) (K : Arv Z h0 t k .byte z vs (.int 0)) (hz : z = Int32.ofNat vs.length) (hi : 2 * i + 1 < vs.length) (hl : vs.length ≤ 4000) (ga : n0 ≤ t) :
    own_Ct l (⟨"java/lang/StringUTF16", "putChar", "([BII)V"⟩ : MethodName) jdk_52_method_4_code 3 none ({ frames := 0, cells := 0, slots := 0, locals := 0 } : Room) Z consts_1 n0 #[(.ref t), (.int (Int32.ofNat i)), (.int c)] h0 [t] (fun v h => v = none ∧ Keep h0 h [t] ∧ Arv Z h t k .byte z ((vs.set (2 * i) (.int (c.toInt8.toInt32))).set (2 * i + 1) (.int ((c >>> ((8 : Int32) &&& 31)).toInt8.toInt32))) (.int 0)) := by
  have hEL := own_EL hw
  refine own_body pn_991197723 O0 (fun p e s m below meth cc_ T0 vm0 hx hby hml0 hret hlk hnm hsf w0 => ?_)
  have hml : cc_.maxLocals = 3 := hml0
  have A_0 := own_at w0
  refine own_entry (ef_ctPut m t (Int32.ofNat i) c) ?_
  obtain ⟨U0, U1, U2⟩ := US
  refine own_getS w0 hx (hw _ (List.mem_of_getElem? (i := 94) rfl)) (U0.ext O0.2) (g := (mkF m 0 #[.val (.ref t), .val (.int (Int32.ofNat i)), .val (.int c)] [])) rfl (Jvm.hb hby d21_0) (fun T1_ w1_ => ?_)
  have A1_ := own_at w1_
  show own_WP p e _ below s Z _ n0 _ T1_ (mkF m 3 #[.val (.ref t), .val (.int (Int32.ofNat i)), .val (.int c)] [(.int (1 : Int32))])
  refine own_by (T' := T1_) (g' := (mkF m 28 #[.val (.ref t), .val (.int (Int32.ofNat i)), .val (.int c)] [])) (fun t_ hr_ => XS.ifYes A1_ hx rfl (pc0 := 3) (pc' := 28) rfl (Jvm.hb hby d21_3) rfl ((if0 _ _).trans (feq (by decide : ¬ (1 : Int32) = 0)).2) (by decide) (by decide) hr_) ?_
  refine own_by (T' := T1_) (g' := (mkF m 29 #[.val (.ref t), .val (.int (Int32.ofNat i)), .val (.int c)] [(.int (Int32.ofNat i))])) (fun t_ hr_ => XS.iloadN A1_ hx rfl (Jvm.hb hby d21_28) rfl hr_) ?_
  refine own_by (T' := T1_) (g' := (mkF m 30 #[.val (.ref t), .val (.int (Int32.ofNat i)), .val (.int c)] [(.int (1 : Int32)), (.int (Int32.ofNat i))])) (fun t_ hr_ => XS.iconst A1_ hx rfl (Jvm.hb hby d21_29) hr_) ?_
  refine own_by (T' := T1_) (g' := (mkF m 31 #[.val (.ref t), .val (.int (Int32.ofNat i)), .val (.int c)] [(.int ((Int32.ofNat i) <<< ((1 : Int32) &&& 31)))])) (fun t_ hr_ => XS.ishl A1_ hx rfl (Jvm.hb hby d21_30) rfl hr_) ?_
  rw [show (Int32.ofNat i) <<< ((1 : Int32) &&& 31) = (Int32.ofNat (2 * i)) from own_shl1 (by omega)]
  show own_WP p e _ below s Z _ n0 _ T1_ (mkF m 31 #[.val (.ref t), .val (.int (Int32.ofNat i)), .val (.int c)] [(.int (Int32.ofNat (2 * i)))])
  refine own_by (T' := T1_) (g' := (mkF m 32 #[.val (.ref t), .val (.int (Int32.ofNat (2 * i))), .val (.int c)] [])) (fun t_ hr_ => XS.istoreN A1_ hx rfl (Jvm.hb hby d21_31) rfl (l' := #[.val (.ref t), .val (.int (Int32.ofNat (2 * i))), .val (.int c)]) rfl hr_) ?_
  refine own_by (T' := T1_) (g' := (mkF m 33 #[.val (.ref t), .val (.int (Int32.ofNat (2 * i))), .val (.int c)] [(.ref t)])) (fun t_ hr_ => XS.aloadN A1_ hx rfl (Jvm.hb hby d21_32) rfl rfl hr_) ?_
  refine own_by (T' := T1_) (g' := (mkF m 34 #[.val (.ref t), .val (.int (Int32.ofNat (2 * i))), .val (.int c)] [(.int (Int32.ofNat (2 * i))), (.ref t)])) (fun t_ hr_ => XS.iloadN A1_ hx rfl (Jvm.hb hby d21_33) rfl hr_) ?_
  refine own_by (T' := T1_) (g' := (mkF m 37 #[.val (.ref t), .val (.int ((Int32.ofNat (2 * i)) + (1 : Int32))), .val (.int c)] [(.int (Int32.ofNat (2 * i))), (.ref t)])) (fun t_ hr_ => XS.iinc A1_ hx rfl (Jvm.hb hby d21_34) rfl (l' := #[.val (.ref t), .val (.int ((Int32.ofNat (2 * i)) + (1 : Int32))), .val (.int c)]) rfl hr_) ?_
  rw [show (Int32.ofNat (2 * i)) + (1 : Int32) = (Int32.ofNat (2 * i + 1)) from own_osucc _]
  show own_WP p e _ below s Z _ n0 _ T1_ (mkF m 37 #[.val (.ref t), .val (.int (Int32.ofNat (2 * i + 1))), .val (.int c)] [(.int (Int32.ofNat (2 * i))), (.ref t)])
  refine own_by (T' := T1_) (g' := (mkF m 38 #[.val (.ref t), .val (.int (Int32.ofNat (2 * i + 1))), .val (.int c)] [(.int c), (.int (Int32.ofNat (2 * i))), (.ref t)])) (fun t_ hr_ => XS.iloadN A1_ hx rfl (Jvm.hb hby d21_37) rfl hr_) ?_
  refine own_getS w1_ hx (hw _ (List.mem_of_getElem? (i := 95) rfl)) (U1.ext O0.2) (g := (mkF m 38 #[.val (.ref t), .val (.int (Int32.ofNat (2 * i + 1))), .val (.int c)] [(.int c), (.int (Int32.ofNat (2 * i))), (.ref t)])) rfl (Jvm.hb hby d21_38) (fun T2_ w2_ => ?_)
  have A2_ := own_at w2_
  show own_WP p e _ below s Z _ n0 _ T2_ (mkF m 41 #[.val (.ref t), .val (.int (Int32.ofNat (2 * i + 1))), .val (.int c)] [(.int (0 : Int32)), (.int c), (.int (Int32.ofNat (2 * i))), (.ref t)])
  refine own_by (T' := T2_) (g' := (mkF m 42 #[.val (.ref t), .val (.int (Int32.ofNat (2 * i + 1))), .val (.int c)] [(.int (c >>> ((0 : Int32) &&& 31))), (.int (Int32.ofNat (2 * i))), (.ref t)])) (fun t_ hr_ => XS.ishr A2_ hx rfl (Jvm.hb hby d21_41) rfl hr_) ?_
  rw [show (c >>> ((0 : Int32) &&& 31)) = c from StrChars.shr0 c]
  show own_WP p e _ below s Z _ n0 _ T2_ (mkF m 42 #[.val (.ref t), .val (.int (Int32.ofNat (2 * i + 1))), .val (.int c)] [(.int c), (.int (Int32.ofNat (2 * i))), (.ref t)])
  refine own_by (T' := T2_) (g' := (mkF m 43 #[.val (.ref t), .val (.int (Int32.ofNat (2 * i + 1))), .val (.int c)] [(.int (c.toInt8.toInt32)), (.int (Int32.ofNat (2 * i))), (.ref t)])) (fun t_ hr_ => XS.i2b A2_ hx rfl (Jvm.hb hby d21_42) rfl hr_) ?_
  refine own_bastore w2_ hx K ⟨own_o0 (by omega), by rw [hz]; exact (own_olt (by omega) (by omega)).mpr (by omega)⟩ (own_lo8lo8 c) (hsf t (List.mem_of_getElem? (i := 0) rfl)) (i := (2 * i)) (own_on (by omega)) (by first | omega | (simp; omega)) ga (g := (mkF m 43 #[.val (.ref t), .val (.int (Int32.ofNat (2 * i + 1))), .val (.int c)] [(.int (c.toInt8.toInt32)), (.int (Int32.ofNat (2 * i))), (.ref t)])) rfl rfl (Jvm.hb hby d21_43) (fun T3_ h3_ W3_ V3_ w3_ => ?_)
  have A3_ := own_at w3_
  show own_WP p e _ below s Z _ n0 _ T3_ (mkF m 44 #[.val (.ref t), .val (.int (Int32.ofNat (2 * i + 1))), .val (.int c)] [])
  refine own_by (T' := T3_) (g' := (mkF m 45 #[.val (.ref t), .val (.int (Int32.ofNat (2 * i + 1))), .val (.int c)] [(.ref t)])) (fun t_ hr_ => XS.aloadN A3_ hx rfl (Jvm.hb hby d21_44) rfl rfl hr_) ?_
  refine own_by (T' := T3_) (g' := (mkF m 46 #[.val (.ref t), .val (.int (Int32.ofNat (2 * i + 1))), .val (.int c)] [(.int (Int32.ofNat (2 * i + 1))), (.ref t)])) (fun t_ hr_ => XS.iloadN A3_ hx rfl (Jvm.hb hby d21_45) rfl hr_) ?_
  refine own_by (T' := T3_) (g' := (mkF m 47 #[.val (.ref t), .val (.int (Int32.ofNat (2 * i + 1))), .val (.int c)] [(.int c), (.int (Int32.ofNat (2 * i + 1))), (.ref t)])) (fun t_ hr_ => XS.iloadN A3_ hx rfl (Jvm.hb hby d21_46) rfl hr_) ?_
  refine own_getS w3_ hx (hw _ (List.mem_of_getElem? (i := 96) rfl)) (U2.ext (own_old w3_).2) (g := (mkF m 47 #[.val (.ref t), .val (.int (Int32.ofNat (2 * i + 1))), .val (.int c)] [(.int c), (.int (Int32.ofNat (2 * i + 1))), (.ref t)])) rfl (Jvm.hb hby d21_47) (fun T4_ w4_ => ?_)
  have A4_ := own_at w4_
  show own_WP p e _ below s Z _ n0 _ T4_ (mkF m 50 #[.val (.ref t), .val (.int (Int32.ofNat (2 * i + 1))), .val (.int c)] [(.int (8 : Int32)), (.int c), (.int (Int32.ofNat (2 * i + 1))), (.ref t)])
  refine own_by (T' := T4_) (g' := (mkF m 51 #[.val (.ref t), .val (.int (Int32.ofNat (2 * i + 1))), .val (.int c)] [(.int (c >>> ((8 : Int32) &&& 31))), (.int (Int32.ofNat (2 * i + 1))), (.ref t)])) (fun t_ hr_ => XS.ishr A4_ hx rfl (Jvm.hb hby d21_50) rfl hr_) ?_
  refine own_by (T' := T4_) (g' := (mkF m 52 #[.val (.ref t), .val (.int (Int32.ofNat (2 * i + 1))), .val (.int c)] [(.int ((c >>> ((8 : Int32) &&& 31)).toInt8.toInt32)), (.int (Int32.ofNat (2 * i + 1))), (.ref t)])) (fun t_ hr_ => XS.i2b A4_ hx rfl (Jvm.hb hby d21_51) rfl hr_) ?_
  refine own_bastore w4_ hx V3_ ⟨own_o0 (by omega), by rw [hz]; exact (own_olt (by omega) (by omega)).mpr (by omega)⟩ (own_lo8lo8 (c >>> ((8 : Int32) &&& 31))) (Safe.wr W3_ (hsf t (List.mem_of_getElem? (i := 0) rfl)) (own_chv w2_) (hsf t (List.mem_of_getElem? (i := 0) rfl))) (i := (2 * i + 1)) (own_on (by omega)) (by first | omega | (simp; omega)) ga (g := (mkF m 52 #[.val (.ref t), .val (.int (Int32.ofNat (2 * i + 1))), .val (.int c)] [(.int ((c >>> ((8 : Int32) &&& 31)).toInt8.toInt32)), (.int (Int32.ofNat (2 * i + 1))), (.ref t)])) rfl rfl (Jvm.hb hby d21_52) (fun T5_ h5_ W5_ V5_ w5_ => ?_)
  have A5_ := own_at w5_
  show own_WP p e _ below s Z _ n0 _ T5_ (mkF m 53 #[.val (.ref t), .val (.int (Int32.ofNat (2 * i + 1))), .val (.int c)] [])
  exact own_retV w5_ hx hEL hlk hret (Jvm.hb hby d21_53) (by decide) (by decide) ⟨rfl, (((Keep.refl h0 [t]).wr W3_ (Or.inl (List.mem_of_getElem? (i := 0) rfl))).wr W5_ (Or.inl (List.mem_of_getElem? (i := 0) rfl))), V5_⟩

theorem d22_0 : decode jdk_52_method_5_code 0 = .ok (.getstatic 44, 3) := by decide +kernel
theorem d22_3 : decode jdk_52_method_5_code 3 = .ok (.ifCond .ne 25, 3) := by decide +kernel
theorem d22_28 : decode jdk_52_method_5_code 28 = .ok (.iload_n 1, 1) := by decide +kernel
theorem d22_29 : decode jdk_52_method_5_code 29 = .ok (.iconst 1, 1) := by decide +kernel
theorem d22_30 : decode jdk_52_method_5_code 30 = .ok (.ishl, 1) := by decide +kernel
theorem d22_31 : decode jdk_52_method_5_code 31 = .ok (.istore_n 1, 1) := by decide +kernel
theorem d22_32 : decode jdk_52_method_5_code 32 = .ok (.aload_n 0, 1) := by decide +kernel
theorem d22_33 : decode jdk_52_method_5_code 33 = .ok (.iload_n 1, 1) := by decide +kernel
theorem d22_34 : decode jdk_52_method_5_code 34 = .ok (.iinc 1 1, 3) := by decide +kernel
theorem d22_37 : decode jdk_52_method_5_code 37 = .ok (.baload, 1) := by decide +kernel
theorem d22_38 : decode jdk_52_method_5_code 38 = .ok (.sipush 255, 3) := by decide +kernel
theorem d22_41 : decode jdk_52_method_5_code 41 = .ok (.iand, 1) := by decide +kernel
theorem d22_42 : decode jdk_52_method_5_code 42 = .ok (.getstatic 59, 3) := by decide +kernel
theorem d22_45 : decode jdk_52_method_5_code 45 = .ok (.ishl, 1) := by decide +kernel
theorem d22_46 : decode jdk_52_method_5_code 46 = .ok (.aload_n 0, 1) := by decide +kernel
theorem d22_47 : decode jdk_52_method_5_code 47 = .ok (.iload_n 1, 1) := by decide +kernel
theorem d22_48 : decode jdk_52_method_5_code 48 = .ok (.baload, 1) := by decide +kernel
theorem d22_49 : decode jdk_52_method_5_code 49 = .ok (.sipush 255, 3) := by decide +kernel
theorem d22_52 : decode jdk_52_method_5_code 52 = .ok (.iand, 1) := by decide +kernel
theorem d22_53 : decode jdk_52_method_5_code 53 = .ok (.getstatic 63, 3) := by decide +kernel
theorem d22_56 : decode jdk_52_method_5_code 56 = .ok (.ishl, 1) := by decide +kernel
theorem d22_57 : decode jdk_52_method_5_code 57 = .ok (.ior, 1) := by decide +kernel
theorem d22_58 : decode jdk_52_method_5_code 58 = .ok (.i2c, 1) := by decide +kernel
theorem d22_59 : decode jdk_52_method_5_code 59 = .ok (.ireturn, 1) := by decide +kernel
theorem pn_469305701 : plainFor (⟨"java/lang/StringUTF16", "getChar", "([BI)C"⟩ : MethodName) = true := by first | exact plainFor_of_name (by first | (simp [plainName, overriddenIn]; done) | decide +kernel) | decide +kernel
theorem ef_ctGet (m : MethodId) (x0 : Addr) (x1 : Int32) : entryFrame m #[(.ref x0), (.int x1)] 2 = mkF m 0 #[.val (.ref x0), .val (.int x1)] [] := by first | (simp [entryFrame, mkF, argsToLocals, Value.category]; done) | rfl
set_option maxRecDepth 65536 in
set_option maxHeartbeats 40000000 in
theorem ctGet (l : Launch) (Z : State) (a0 : Array Value) (hw : ∀ d ∈ tables_1, d.before a0 Z = true) (US : own_US Z) (n0 : Nat) (h0 : Heap) (O0 : Old Z n0 h0) (t : Addr) (i : Nat) (k : ClassId) (cs : List Int32) (K : Arv Z h0 t k .byte (Int32.ofNat (2 * cs.length)) (StrChars.Road.wideBytes cs) (.int 0)) (hcs : ∀ c ∈ cs, ¬ c < 0 ∧ ¬ (65535 : Int32) < c) (hi : i < cs.length) (hl : cs.length ≤ 1000) :
    own_Ct l (⟨"java/lang/StringUTF16", "getChar", "([BI)C"⟩ : MethodName) jdk_52_method_5_code 2 (some .char) ({ frames := 0, cells := 0, slots := 0, locals := 0 } : Room) Z consts_1 n0 #[(.ref t), (.int (Int32.ofNat i))] h0 [] (fun v h => v = some (.int (cs.getD i 0)) ∧ h0 = h) := by
  have hEL := own_EL hw
  refine own_body pn_469305701 O0 (fun p e s m below meth cc_ T0 vm0 hx hby hml0 hret hlk hnm hsf w0 => ?_)
  have hml : cc_.maxLocals = 2 := hml0
  have A_0 := own_at w0
  refine own_entry (ef_ctGet m t (Int32.ofNat i)) ?_
  obtain ⟨U0, U1, U2⟩ := US
  refine own_getS w0 hx (hw _ (List.mem_of_getElem? (i := 94) rfl)) (U0.ext O0.2) (g := (mkF m 0 #[.val (.ref t), .val (.int (Int32.ofNat i))] [])) rfl (Jvm.hb hby d22_0) (fun T1_ w1_ => ?_)
  have A1_ := own_at w1_
  show own_WP p e _ below s Z _ n0 _ T1_ (mkF m 3 #[.val (.ref t), .val (.int (Int32.ofNat i))] [(.int (1 : Int32))])
  refine own_by (T' := T1_) (g' := (mkF m 28 #[.val (.ref t), .val (.int (Int32.ofNat i))] [])) (fun t_ hr_ => XS.ifYes A1_ hx rfl (pc0 := 3) (pc' := 28) rfl (Jvm.hb hby d22_3) rfl ((if0 _ _).trans (feq (by decide : ¬ (1 : Int32) = 0)).2) (by decide) (by decide) hr_) ?_
  refine own_by (T' := T1_) (g' := (mkF m 29 #[.val (.ref t), .val (.int (Int32.ofNat i))] [(.int (Int32.ofNat i))])) (fun t_ hr_ => XS.iloadN A1_ hx rfl (Jvm.hb hby d22_28) rfl hr_) ?_
  refine own_by (T' := T1_) (g' := (mkF m 30 #[.val (.ref t), .val (.int (Int32.ofNat i))] [(.int (1 : Int32)), (.int (Int32.ofNat i))])) (fun t_ hr_ => XS.iconst A1_ hx rfl (Jvm.hb hby d22_29) hr_) ?_
  refine own_by (T' := T1_) (g' := (mkF m 31 #[.val (.ref t), .val (.int (Int32.ofNat i))] [(.int ((Int32.ofNat i) <<< ((1 : Int32) &&& 31)))])) (fun t_ hr_ => XS.ishl A1_ hx rfl (Jvm.hb hby d22_30) rfl hr_) ?_
  rw [show (Int32.ofNat i) <<< ((1 : Int32) &&& 31) = (Int32.ofNat (2 * i)) from own_shl1 (by omega)]
  show own_WP p e _ below s Z _ n0 _ T1_ (mkF m 31 #[.val (.ref t), .val (.int (Int32.ofNat i))] [(.int (Int32.ofNat (2 * i)))])
  refine own_by (T' := T1_) (g' := (mkF m 32 #[.val (.ref t), .val (.int (Int32.ofNat (2 * i)))] [])) (fun t_ hr_ => XS.istoreN A1_ hx rfl (Jvm.hb hby d22_31) rfl (l' := #[.val (.ref t), .val (.int (Int32.ofNat (2 * i)))]) rfl hr_) ?_
  refine own_by (T' := T1_) (g' := (mkF m 33 #[.val (.ref t), .val (.int (Int32.ofNat (2 * i)))] [(.ref t)])) (fun t_ hr_ => XS.aloadN A1_ hx rfl (Jvm.hb hby d22_32) rfl rfl hr_) ?_
  refine own_by (T' := T1_) (g' := (mkF m 34 #[.val (.ref t), .val (.int (Int32.ofNat (2 * i)))] [(.int (Int32.ofNat (2 * i))), (.ref t)])) (fun t_ hr_ => XS.iloadN A1_ hx rfl (Jvm.hb hby d22_33) rfl hr_) ?_
  refine own_by (T' := T1_) (g' := (mkF m 37 #[.val (.ref t), .val (.int ((Int32.ofNat (2 * i)) + (1 : Int32)))] [(.int (Int32.ofNat (2 * i))), (.ref t)])) (fun t_ hr_ => XS.iinc A1_ hx rfl (Jvm.hb hby d22_34) rfl (l' := #[.val (.ref t), .val (.int ((Int32.ofNat (2 * i)) + (1 : Int32)))]) rfl hr_) ?_
  rw [show (Int32.ofNat (2 * i)) + (1 : Int32) = (Int32.ofNat (2 * i + 1)) from own_osucc _]
  show own_WP p e _ below s Z _ n0 _ T1_ (mkF m 37 #[.val (.ref t), .val (.int (Int32.ofNat (2 * i + 1)))] [(.int (Int32.ofNat (2 * i))), (.ref t)])
  have hc := own_getD hcs hi
  refine own_baload w1_ hx (x := (StrChars.lo8 (cs.getD i 0))) K ⟨own_o0 (by omega), (own_olt (by omega) (by omega)).mpr (by omega)⟩ (g := (mkF m 37 #[.val (.ref t), .val (.int (Int32.ofNat (2 * i + 1)))] [(.int (Int32.ofNat (2 * i))), (.ref t)])) rfl rfl (Jvm.hb hby d22_37) (by rw [own_on (by omega)]; exact StrChars.Road.wide_lo _ _ _ hi) ?_
  show own_WP p e _ below s Z _ n0 _ T1_ (mkF m 38 #[.val (.ref t), .val (.int (Int32.ofNat (2 * i + 1)))] [(.int (StrChars.lo8 (cs.getD i 0)))])
  refine own_by (T' := T1_) (g' := (mkF m 41 #[.val (.ref t), .val (.int (Int32.ofNat (2 * i + 1)))] [(.int (255 : Int32)), (.int (StrChars.lo8 (cs.getD i 0)))])) (fun t_ hr_ => XS.sipush A1_ hx rfl (Jvm.hb hby d22_38) hr_) ?_
  refine own_by (T' := T1_) (g' := (mkF m 42 #[.val (.ref t), .val (.int (Int32.ofNat (2 * i + 1)))] [(.int ((StrChars.lo8 (cs.getD i 0)) &&& (255 : Int32)))])) (fun t_ hr_ => XS.iand A1_ hx rfl (Jvm.hb hby d22_41) rfl hr_) ?_
  refine own_getS w1_ hx (hw _ (List.mem_of_getElem? (i := 95) rfl)) (U1.ext O0.2) (g := (mkF m 42 #[.val (.ref t), .val (.int (Int32.ofNat (2 * i + 1)))] [(.int ((StrChars.lo8 (cs.getD i 0)) &&& (255 : Int32)))])) rfl (Jvm.hb hby d22_42) (fun T2_ w2_ => ?_)
  have A2_ := own_at w2_
  show own_WP p e _ below s Z _ n0 _ T2_ (mkF m 45 #[.val (.ref t), .val (.int (Int32.ofNat (2 * i + 1)))] [(.int (0 : Int32)), (.int ((StrChars.lo8 (cs.getD i 0)) &&& (255 : Int32)))])
  refine own_by (T' := T2_) (g' := (mkF m 46 #[.val (.ref t), .val (.int (Int32.ofNat (2 * i + 1)))] [(.int (((StrChars.lo8 (cs.getD i 0)) &&& (255 : Int32)) <<< ((0 : Int32) &&& 31)))])) (fun t_ hr_ => XS.ishl A2_ hx rfl (Jvm.hb hby d22_45) rfl hr_) ?_
  refine own_by (T' := T2_) (g' := (mkF m 47 #[.val (.ref t), .val (.int (Int32.ofNat (2 * i + 1)))] [(.ref t), (.int (((StrChars.lo8 (cs.getD i 0)) &&& (255 : Int32)) <<< ((0 : Int32) &&& 31)))])) (fun t_ hr_ => XS.aloadN A2_ hx rfl (Jvm.hb hby d22_46) rfl rfl hr_) ?_
  refine own_by (T' := T2_) (g' := (mkF m 48 #[.val (.ref t), .val (.int (Int32.ofNat (2 * i + 1)))] [(.int (Int32.ofNat (2 * i + 1))), (.ref t), (.int (((StrChars.lo8 (cs.getD i 0)) &&& (255 : Int32)) <<< ((0 : Int32) &&& 31)))])) (fun t_ hr_ => XS.iloadN A2_ hx rfl (Jvm.hb hby d22_47) rfl hr_) ?_
  refine own_baload w2_ hx (x := (StrChars.hi8 (cs.getD i 0))) K ⟨own_o0 (by omega), (own_olt (by omega) (by omega)).mpr (by omega)⟩ (g := (mkF m 48 #[.val (.ref t), .val (.int (Int32.ofNat (2 * i + 1)))] [(.int (Int32.ofNat (2 * i + 1))), (.ref t), (.int (((StrChars.lo8 (cs.getD i 0)) &&& (255 : Int32)) <<< ((0 : Int32) &&& 31)))])) rfl rfl (Jvm.hb hby d22_48) (by rw [own_on (by omega)]; exact StrChars.Road.wide_hi _ _ _ hi) ?_
  show own_WP p e _ below s Z _ n0 _ T2_ (mkF m 49 #[.val (.ref t), .val (.int (Int32.ofNat (2 * i + 1)))] [(.int (StrChars.hi8 (cs.getD i 0))), (.int (((StrChars.lo8 (cs.getD i 0)) &&& (255 : Int32)) <<< ((0 : Int32) &&& 31)))])
  refine own_by (T' := T2_) (g' := (mkF m 52 #[.val (.ref t), .val (.int (Int32.ofNat (2 * i + 1)))] [(.int (255 : Int32)), (.int (StrChars.hi8 (cs.getD i 0))), (.int (((StrChars.lo8 (cs.getD i 0)) &&& (255 : Int32)) <<< ((0 : Int32) &&& 31)))])) (fun t_ hr_ => XS.sipush A2_ hx rfl (Jvm.hb hby d22_49) hr_) ?_
  refine own_by (T' := T2_) (g' := (mkF m 53 #[.val (.ref t), .val (.int (Int32.ofNat (2 * i + 1)))] [(.int ((StrChars.hi8 (cs.getD i 0)) &&& (255 : Int32))), (.int (((StrChars.lo8 (cs.getD i 0)) &&& (255 : Int32)) <<< ((0 : Int32) &&& 31)))])) (fun t_ hr_ => XS.iand A2_ hx rfl (Jvm.hb hby d22_52) rfl hr_) ?_
  refine own_getS w2_ hx (hw _ (List.mem_of_getElem? (i := 96) rfl)) (U2.ext O0.2) (g := (mkF m 53 #[.val (.ref t), .val (.int (Int32.ofNat (2 * i + 1)))] [(.int ((StrChars.hi8 (cs.getD i 0)) &&& (255 : Int32))), (.int (((StrChars.lo8 (cs.getD i 0)) &&& (255 : Int32)) <<< ((0 : Int32) &&& 31)))])) rfl (Jvm.hb hby d22_53) (fun T3_ w3_ => ?_)
  have A3_ := own_at w3_
  show own_WP p e _ below s Z _ n0 _ T3_ (mkF m 56 #[.val (.ref t), .val (.int (Int32.ofNat (2 * i + 1)))] [(.int (8 : Int32)), (.int ((StrChars.hi8 (cs.getD i 0)) &&& (255 : Int32))), (.int (((StrChars.lo8 (cs.getD i 0)) &&& (255 : Int32)) <<< ((0 : Int32) &&& 31)))])
  refine own_by (T' := T3_) (g' := (mkF m 57 #[.val (.ref t), .val (.int (Int32.ofNat (2 * i + 1)))] [(.int (((StrChars.hi8 (cs.getD i 0)) &&& (255 : Int32)) <<< ((8 : Int32) &&& 31))), (.int (((StrChars.lo8 (cs.getD i 0)) &&& (255 : Int32)) <<< ((0 : Int32) &&& 31)))])) (fun t_ hr_ => XS.ishl A3_ hx rfl (Jvm.hb hby d22_56) rfl hr_) ?_
  refine own_by (T' := T3_) (g' := (mkF m 58 #[.val (.ref t), .val (.int (Int32.ofNat (2 * i + 1)))] [(.int ((((StrChars.lo8 (cs.getD i 0)) &&& (255 : Int32)) <<< ((0 : Int32) &&& 31)) ||| (((StrChars.hi8 (cs.getD i 0)) &&& (255 : Int32)) <<< ((8 : Int32) &&& 31))))])) (fun t_ hr_ => XS.ior A3_ hx rfl (Jvm.hb hby d22_57) rfl hr_) ?_
  refine own_by (T' := T3_) (g' := (mkF m 59 #[.val (.ref t), .val (.int (Int32.ofNat (2 * i + 1)))] [(.int (((((StrChars.lo8 (cs.getD i 0)) &&& (255 : Int32)) <<< ((0 : Int32) &&& 31)) ||| (((StrChars.hi8 (cs.getD i 0)) &&& (255 : Int32)) <<< ((8 : Int32) &&& 31))).toUInt32.toUInt16.toUInt32.toInt32))])) (fun t_ hr_ => XS.i2c A3_ hx rfl (Jvm.hb hby d22_58) rfl hr_) ?_
  rw [show (((((StrChars.lo8 (cs.getD i 0)) &&& (255 : Int32)) <<< ((0 : Int32) &&& 31)) ||| (((StrChars.hi8 (cs.getD i 0)) &&& (255 : Int32)) <<< ((8 : Int32) &&& 31))).toUInt32.toUInt16.toUInt32.toInt32) = (cs.getD i 0) from StrChars.pair_says hc.1 hc.2]
  show own_WP p e _ below s Z _ n0 _ T3_ (mkF m 59 #[.val (.ref t), .val (.int (Int32.ofNat (2 * i + 1)))] [(.int (cs.getD i 0))])
  exact own_retC w3_ hx hEL hlk hret hc (Jvm.hb hby d22_59) (by decide) (by decide) ⟨rfl, rfl⟩

theorem d20_0 : decode jdk_52_method_3_code 0 = .ok (.iload_n 0, 1) := by decide +kernel
theorem d20_1 : decode jdk_52_method_3_code 1 = .ok (.ifCond .ge 11, 3) := by decide +kernel
theorem d20_12 : decode jdk_52_method_3_code 12 = .ok (.iload_n 0, 1) := by decide +kernel
theorem d20_13 : decode jdk_52_method_3_code 13 = .ok (.ldc 20, 2) := by decide +kernel
theorem d20_15 : decode jdk_52_method_3_code 15 = .ok (.if_icmp .lt 40, 3) := by decide +kernel
theorem d20_55 : decode jdk_52_method_3_code 55 = .ok (.iload_n 0, 1) := by decide +kernel
theorem d20_56 : decode jdk_52_method_3_code 56 = .ok (.iconst 1, 1) := by decide +kernel
theorem d20_57 : decode jdk_52_method_3_code 57 = .ok (.ishl, 1) := by decide +kernel
theorem d20_58 : decode jdk_52_method_3_code 58 = .ok (.ireturn, 1) := by decide +kernel
theorem pn_150479481 : plainFor (⟨"java/lang/StringUTF16", "newBytesLength", "(I)I"⟩ : MethodName) = true := by first | exact plainFor_of_name (by first | (simp [plainName, overriddenIn]; done) | decide +kernel) | decide +kernel
theorem ef_ctNBL1 (m : MethodId) (x0 : Int32) : entryFrame m #[(.int x0)] 1 = mkF m 0 #[.val (.int x0)] [] := by first | (simp [entryFrame, mkF, argsToLocals, Value.category]; done) | rfl
set_option maxRecDepth 65536 in
set_option maxHeartbeats 40000000 in
theorem ctNBL1 (l : Launch) (Z : State) (a0 : Array Value) (hw : ∀ d ∈ tables_1, d.before a0 Z = true) (n0 : Nat) (h0 : Heap) (O0 : Old Z n0 h0)   :
    own_Ct l (⟨"java/lang/StringUTF16", "newBytesLength", "(I)I"⟩ : MethodName) jdk_52_method_3_code 1 (some .int) ({ frames := 0, cells := 0, slots := 0, locals := 0 } : Room) Z consts_1 n0 #[(.int (1 : Int32))] h0 [] (fun v h => v = some (.int 2) ∧ h0 = h) := by
  have hEL := own_EL hw
  refine own_body pn_150479481 O0 (fun p e s m below meth cc_ T0 vm0 hx hby hml0 hret hlk hnm hsf w0 => ?_)
  have hml : cc_.maxLocals = 1 := hml0
  have A_0 := own_at w0
  refine own_entry (ef_ctNBL1 m (1 : Int32)) ?_
  refine own_by (T' := T0) (g' := (mkF m 1 #[.val (.int (1 : Int32))] [(.int (1 : Int32))])) (fun t_ hr_ => XS.iloadN A_0 hx rfl (Jvm.hb hby d20_0) rfl hr_) ?_
  refine own_by (T' := T0) (g' := (mkF m 12 #[.val (.int (1 : Int32))] [])) (fun t_ hr_ => XS.ifYes A_0 hx rfl (pc0 := 1) (pc' := 12) rfl (Jvm.hb hby d20_1) rfl ((if0 _ _).trans (flt (by decide)).2.1) (by decide) (by decide) hr_) ?_
  refine own_by (T' := T0) (g' := (mkF m 13 #[.val (.int (1 : Int32))] [(.int (1 : Int32))])) (fun t_ hr_ => XS.iloadN A_0 hx rfl (Jvm.hb hby d20_12) rfl hr_) ?_
  refine own_ldcI w0 hx (hw _ (List.mem_of_getElem? (i := 90) rfl)) (g := (mkF m 13 #[.val (.int (1 : Int32))] [(.int (1 : Int32))])) rfl (Jvm.hb hby d20_13) ?_
  show own_WP p e _ below s Z _ n0 _ T0 (mkF m 15 #[.val (.int (1 : Int32))] [(.int (1073741823 : Int32)), (.int (1 : Int32))])
  refine own_by (T' := T0) (g' := (mkF m 55 #[.val (.int (1 : Int32))] [])) (fun t_ hr_ => XS.icmpYes A_0 hx rfl (pc0 := 15) (pc' := 55) rfl (Jvm.hb hby d20_15) rfl (tlt (by decide)).1 (by decide) (by decide) hr_) ?_
  refine own_by (T' := T0) (g' := (mkF m 56 #[.val (.int (1 : Int32))] [(.int (1 : Int32))])) (fun t_ hr_ => XS.iloadN A_0 hx rfl (Jvm.hb hby d20_55) rfl hr_) ?_
  refine own_by (T' := T0) (g' := (mkF m 57 #[.val (.int (1 : Int32))] [(.int (1 : Int32)), (.int (1 : Int32))])) (fun t_ hr_ => XS.iconst A_0 hx rfl (Jvm.hb hby d20_56) hr_) ?_
  refine own_by (T' := T0) (g' := (mkF m 58 #[.val (.int (1 : Int32))] [(.int ((1 : Int32) <<< ((1 : Int32) &&& 31)))])) (fun t_ hr_ => XS.ishl A_0 hx rfl (Jvm.hb hby d20_57) rfl hr_) ?_
  rw [show ((1 : Int32) <<< ((1 : Int32) &&& 31)) = (2 : Int32) from (by decide)]
  show own_WP p e _ below s Z _ n0 _ T0 (mkF m 58 #[.val (.int (1 : Int32))] [(.int (2 : Int32))])
  exact own_retI w0 hx hEL hlk hret (Jvm.hb hby d20_58) (by decide) (by decide) ⟨rfl, rfl⟩

theorem d19_0 : decode jdk_52_method_2_code 0 = .ok (.iload_n 0, 1) := by decide +kernel
theorem d19_1 : decode jdk_52_method_2_code 1 = .ok (.invokestatic 11, 3) := by decide +kernel
theorem pd_91181837 : parseMethodDescriptor "(I)I" = some ⟨[.int], some .int⟩ := by decide +kernel
theorem d19_4 : decode jdk_52_method_2_code 4 = .ok (.newarray .byte, 2) := by decide +kernel
theorem d19_6 : decode jdk_52_method_2_code 6 = .ok (.areturn, 1) := by decide +kernel
theorem pn_400072370 : plainFor (⟨"java/lang/StringUTF16", "newBytesFor", "(I)[B"⟩ : MethodName) = true := by first | exact plainFor_of_name (by first | (simp [plainName, overriddenIn]; done) | decide +kernel) | decide +kernel
theorem ef_ctNBF1 (m : MethodId) (x0 : Int32) : entryFrame m #[(.int x0)] 1 = mkF m 0 #[.val (.int x0)] [] := by first | (simp [entryFrame, mkF, argsToLocals, Value.category]; done) | rfl
set_option maxRecDepth 65536 in
set_option maxHeartbeats 40000000 in
theorem ctNBF1 (l : Launch) (Z : State) (a0 : Array Value) (hw : ∀ d ∈ tables_1, d.before a0 Z = true) (n0 : Nat) (h0 : Heap) (O0 : Old Z n0 h0)   :
    own_Ct l (⟨"java/lang/StringUTF16", "newBytesFor", "(I)[B"⟩ : MethodName) jdk_52_method_2_code 1 (some (.array .byte)) ({ frames := 1, cells := 1, slots := 2, locals := 12 } : Room) Z consts_1 n0 #[(.int (1 : Int32))] h0 [] (fun v h => ∃ a k, v = some (.ref a) ∧ h0.size ≤ a ∧ Ext h0 h ∧ Arv Z h a k .byte (2 : Int32) [(.int (0 : Int32)), (.int (0 : Int32))] (.int 0)) := by
  have hEL := own_EL hw
  refine own_body pn_400072370 O0 (fun p e s m below meth cc_ T0 vm0 hx hby hml0 hret hlk hnm hsf w0 => ?_)
  have hml : cc_.maxLocals = 1 := hml0
  have A_0 := own_at w0
  refine own_entry (ef_ctNBF1 m (1 : Int32)) ?_
  refine own_by (T' := T0) (g' := (mkF m 1 #[.val (.int (1 : Int32))] [(.int (1 : Int32))])) (fun t_ hr_ => XS.iloadN A_0 hx rfl (Jvm.hb hby d19_0) rfl hr_) ?_
  refine own_callS w0 hx (y := (⟨"java/lang/StringUTF16", "newBytesLength", "(I)I"⟩ : MethodName)) (hw _ (List.mem_of_getElem? (i := 87) rfl)) (hw _ (List.mem_of_getElem? (i := 88) rfl)) (hw _ (List.mem_of_getElem? (i := 70) rfl)) (hw _ (List.mem_of_getElem? (i := 89) rfl)) (by decide) (kc := 0) (ks := 0) (argsL := [(.int (1 : Int32))]) (rest := []) (own_payCt (W := 0) (ctNBL1 l Z a0 hw n0 h0 (own_old w0)) w0 (hw _ (List.mem_of_getElem? (i := 89) rfl)) (hw _ (List.mem_of_getElem? (i := 70) rfl)) hEL (by decide) (by decide)) (g := (mkF m 1 #[.val (.int (1 : Int32))] [(.int (1 : Int32))])) rfl (by rw [hml]; rfl) (lenOf pd_91181837 rfl) rfl (by show 2 * 0 + _ ≤ _; exact Nat.le_of_eq rfl) (Jvm.hb hby d19_1) (by decide) (by decide) (fun v1_ T1_ vm1_ h1_ q1_ C1_ w1_ => ?_)
  obtain ⟨rfl, rfl⟩ := q1_
  have A1_ := own_at w1_
  show own_WP p e _ below s Z _ n0 _ T1_ (mkF m 4 #[.val (.int (1 : Int32))] [(.int (2 : Int32))])
  refine own_newP w1_ hx (hw _ (List.mem_of_getElem? (i := 17) rfl)) (g := (mkF m 4 #[.val (.int (1 : Int32))] [(.int (2 : Int32))])) rfl (Jvm.hb hby d19_4) rfl (by decide) (cap := 2) (by decide) (by decide) (by decide) (by decide) (fun T2_ h2_ a2_ k2_ g2_ E2_ V2_ w2_ => ?_)
  have A2_ := own_at w2_
  show own_WP p e _ below s Z _ n0 _ T2_ (mkF m 6 #[.val (.int (1 : Int32))] [(.ref a2_)])
  have U1 : Arv Z h2_ a2_ k2_ .byte (2 : Int32) [(.int (0 : Int32)), (.int (0 : Int32))] (.int 0) := V2_.pad (vs' := [(.int (0 : Int32)), (.int (0 : Int32))]) (fun i => pad_rep [] (.int (0 : Int32)) 2 i)
  exact own_retA w2_ hx hEL hlk hret rfl rfl (Jvm.hb hby d19_6) (by decide) (by decide) ⟨_, _, rfl, by rw [g2_]; exact Nat.le_refl _, E2_, U1⟩

theorem d18_0 : decode jdk_52_method_14_code 0 = .ok (.iload_n 2, 1) := by decide +kernel
theorem d18_1 : decode jdk_52_method_14_code 1 = .ok (.invokestatic 107, 3) := by decide +kernel
theorem pd_944822994 : parseMethodDescriptor "(I)[B" = some ⟨[.int], some (.array .byte)⟩ := by decide +kernel
theorem d18_4 : decode jdk_52_method_14_code 4 = .ok (.astore_n 3, 1) := by decide +kernel
theorem d18_5 : decode jdk_52_method_14_code 5 = .ok (.iconst 0, 1) := by decide +kernel
theorem d18_6 : decode jdk_52_method_14_code 6 = .ok (.istore 4, 2) := by decide +kernel
theorem d18_8 : decode jdk_52_method_14_code 8 = .ok (.iload 4, 2) := by decide +kernel
theorem d18_10 : decode jdk_52_method_14_code 10 = .ok (.iload_n 2, 1) := by decide +kernel
theorem d18_11 : decode jdk_52_method_14_code 11 = .ok (.if_icmp .ge 21, 3) := by decide +kernel
theorem d18_14 : decode jdk_52_method_14_code 14 = .ok (.aload_n 3, 1) := by decide +kernel
theorem d18_15 : decode jdk_52_method_14_code 15 = .ok (.iload 4, 2) := by decide +kernel
theorem d18_17 : decode jdk_52_method_14_code 17 = .ok (.aload_n 0, 1) := by decide +kernel
theorem d18_18 : decode jdk_52_method_14_code 18 = .ok (.iload_n 1, 1) := by decide +kernel
theorem d18_19 : decode jdk_52_method_14_code 19 = .ok (.caload, 1) := by decide +kernel
theorem d18_20 : decode jdk_52_method_14_code 20 = .ok (.invokestatic 111, 3) := by decide +kernel
theorem pd_860253318 : parseMethodDescriptor "([BII)V" = some ⟨[(.array .byte), .int, .int], none⟩ := by decide +kernel
theorem d18_23 : decode jdk_52_method_14_code 23 = .ok (.iinc 1 1, 3) := by decide +kernel
theorem d18_26 : decode jdk_52_method_14_code 26 = .ok (.iinc 4 1, 3) := by decide +kernel
theorem d18_29 : decode jdk_52_method_14_code 29 = .ok (.goto (-21), 3) := by decide +kernel
theorem d18_32 : decode jdk_52_method_14_code 32 = .ok (.aload_n 3, 1) := by decide +kernel
theorem d18_33 : decode jdk_52_method_14_code 33 = .ok (.areturn, 1) := by decide +kernel
theorem pn_435542604 : plainFor (⟨"java/lang/StringUTF16", "toBytes", "([CII)[B"⟩ : MethodName) = true := by first | exact plainFor_of_name (by first | (simp [plainName, overriddenIn]; done) | decide +kernel) | decide +kernel
theorem ef_ctTB1 (m : MethodId) (x0 : Addr) (x1 : Int32) (x2 : Int32) : entryFrame m #[(.ref x0), (.int x1), (.int x2)] 5 = mkF m 0 #[.val (.ref x0), .val (.int x1), .val (.int x2), .unset, .unset] [] := by first | (simp [entryFrame, mkF, argsToLocals, Value.category]; done) | rfl
set_option maxRecDepth 65536 in
set_option maxHeartbeats 40000000 in
theorem ctTB1 (l : Launch) (Z : State) (a0 : Array Value) (hw : ∀ d ∈ tables_1, d.before a0 Z = true) (US : own_US Z) (n0 : Nat) (h0 : Heap) (O0 : Old Z n0 h0) (ca : Addr) (kC : ClassId) (c0 : Int32) (VC : Arv Z h0 ca kC .char (1 : Int32) [(.int c0)] (.int 0)) :
    own_Ct l (⟨"java/lang/StringUTF16", "toBytes", "([CII)[B"⟩ : MethodName) jdk_52_method_14_code 5 (some (.array .byte)) ({ frames := 2, cells := 1, slots := 2, locals := 24 } : Room) Z consts_1 n0 #[(.ref ca), (.int (0 : Int32)), (.int (1 : Int32))] h0 [] (fun v h => ∃ a k, v = some (.ref a) ∧ Ext h0 h ∧ Arv Z h a k .byte (2 : Int32) [(.int (c0.toInt8.toInt32)), (.int ((c0 >>> ((8 : Int32) &&& 31)).toInt8.toInt32))] (.int 0)) := by
  have hEL := own_EL hw
  refine own_body pn_435542604 O0 (fun p e s m below meth cc_ T0 vm0 hx hby hml0 hret hlk hnm hsf w0 => ?_)
  have hml : cc_.maxLocals = 5 := hml0
  have A_0 := own_at w0
  refine own_entry (ef_ctTB1 m ca (0 : Int32) (1 : Int32)) ?_
  refine own_by (T' := T0) (g' := (mkF m 1 #[.val (.ref ca), .val (.int (0 : Int32)), .val (.int (1 : Int32)), .unset, .unset] [(.int (1 : Int32))])) (fun t_ hr_ => XS.iloadN A_0 hx rfl (Jvm.hb hby d18_0) rfl hr_) ?_
  refine own_callS w0 hx (y := (⟨"java/lang/StringUTF16", "newBytesFor", "(I)[B"⟩ : MethodName)) (hw _ (List.mem_of_getElem? (i := 84) rfl)) (hw _ (List.mem_of_getElem? (i := 85) rfl)) (hw _ (List.mem_of_getElem? (i := 70) rfl)) (hw _ (List.mem_of_getElem? (i := 86) rfl)) (by decide) (kc := 1) (ks := 2) (argsL := [(.int (1 : Int32))]) (rest := []) (own_payCt (W := 0) (ctNBF1 l Z a0 hw n0 h0 (own_old w0)) w0 (hw _ (List.mem_of_getElem? (i := 86) rfl)) (hw _ (List.mem_of_getElem? (i := 70) rfl)) hEL (by decide) (by decide)) (g := (mkF m 1 #[.val (.ref ca), .val (.int (0 : Int32)), .val (.int (1 : Int32)), .unset, .unset] [(.int (1 : Int32))])) rfl (by rw [hml]; rfl) (lenOf pd_944822994 rfl) rfl (by show 2 * 0 + _ ≤ _; exact Nat.le_of_eq rfl) (Jvm.hb hby d18_1) (by decide) (by decide) (fun v1_ T1_ vm1_ h1_ q1_ C1_ w1_ => ?_)
  obtain ⟨a, k, rfl, ga0, E0, V0⟩ := q1_
  have A1_ := own_at w1_
  show own_WP p e _ below s Z _ n0 _ T1_ (mkF m 4 #[.val (.ref ca), .val (.int (0 : Int32)), .val (.int (1 : Int32)), .unset, .unset] [(.ref a)])
  have ga : n0 ≤ a := Nat.le_trans (own_n0 w0) ga0
  have nca : ca ≠ a := Nat.ne_of_lt (Nat.lt_of_lt_of_le VC.lt ga0)
  have VC0 := VC.ext E0
  refine own_by (T' := T1_) (g' := (mkF m 5 #[.val (.ref ca), .val (.int (0 : Int32)), .val (.int (1 : Int32)), .val (.ref a), .unset] [])) (fun t_ hr_ => XS.astoreN A1_ hx rfl (Jvm.hb hby d18_4) rfl rfl (l' := #[.val (.ref ca), .val (.int (0 : Int32)), .val (.int (1 : Int32)), .val (.ref a), .unset]) rfl hr_) ?_
  refine own_by (T' := T1_) (g' := (mkF m 6 #[.val (.ref ca), .val (.int (0 : Int32)), .val (.int (1 : Int32)), .val (.ref a), .unset] [(.int (0 : Int32))])) (fun t_ hr_ => XS.iconst A1_ hx rfl (Jvm.hb hby d18_5) hr_) ?_
  refine own_by (T' := T1_) (g' := (mkF m 8 #[.val (.ref ca), .val (.int (0 : Int32)), .val (.int (1 : Int32)), .val (.ref a), .val (.int (0 : Int32))] [])) (fun t_ hr_ => XS.istore A1_ hx rfl (Jvm.hb hby d18_6) rfl (l' := #[.val (.ref ca), .val (.int (0 : Int32)), .val (.int (1 : Int32)), .val (.ref a), .val (.int (0 : Int32))]) rfl hr_) ?_
  refine own_by (T' := T1_) (g' := (mkF m 10 #[.val (.ref ca), .val (.int (0 : Int32)), .val (.int (1 : Int32)), .val (.ref a), .val (.int (0 : Int32))] [(.int (0 : Int32))])) (fun t_ hr_ => XS.iload A1_ hx rfl (Jvm.hb hby d18_8) rfl hr_) ?_
  refine own_by (T' := T1_) (g' := (mkF m 11 #[.val (.ref ca), .val (.int (0 : Int32)), .val (.int (1 : Int32)), .val (.ref a), .val (.int (0 : Int32))] [(.int (1 : Int32)), (.int (0 : Int32))])) (fun t_ hr_ => XS.iloadN A1_ hx rfl (Jvm.hb hby d18_10) rfl hr_) ?_
  refine own_by (T' := T1_) (g' := (mkF m 14 #[.val (.ref ca), .val (.int (0 : Int32)), .val (.int (1 : Int32)), .val (.ref a), .val (.int (0 : Int32))] [])) (fun t_ hr_ => XS.icmpNo A1_ hx rfl (Jvm.hb hby d18_11) rfl (tlt (by decide)).2.1 hr_) ?_
  refine own_by (T' := T1_) (g' := (mkF m 15 #[.val (.ref ca), .val (.int (0 : Int32)), .val (.int (1 : Int32)), .val (.ref a), .val (.int (0 : Int32))] [(.ref a)])) (fun t_ hr_ => XS.aloadN A1_ hx rfl (Jvm.hb hby d18_14) rfl rfl hr_) ?_
  refine own_by (T' := T1_) (g' := (mkF m 17 #[.val (.ref ca), .val (.int (0 : Int32)), .val (.int (1 : Int32)), .val (.ref a), .val (.int (0 : Int32))] [(.int (0 : Int32)), (.ref a)])) (fun t_ hr_ => XS.iload A1_ hx rfl (Jvm.hb hby d18_15) rfl hr_) ?_
  refine own_by (T' := T1_) (g' := (mkF m 18 #[.val (.ref ca), .val (.int (0 : Int32)), .val (.int (1 : Int32)), .val (.ref a), .val (.int (0 : Int32))] [(.ref ca), (.int (0 : Int32)), (.ref a)])) (fun t_ hr_ => XS.aloadN A1_ hx rfl (Jvm.hb hby d18_17) rfl rfl hr_) ?_
  refine own_by (T' := T1_) (g' := (mkF m 19 #[.val (.ref ca), .val (.int (0 : Int32)), .val (.int (1 : Int32)), .val (.ref a), .val (.int (0 : Int32))] [(.int (0 : Int32)), (.ref ca), (.int (0 : Int32)), (.ref a)])) (fun t_ hr_ => XS.iloadN A1_ hx rfl (Jvm.hb hby d18_18) rfl hr_) ?_
  refine own_caload w1_ hx (x := c0) VC0 (by decide) (g := (mkF m 19 #[.val (.ref ca), .val (.int (0 : Int32)), .val (.int (1 : Int32)), .val (.ref a), .val (.int (0 : Int32))] [(.int (0 : Int32)), (.ref ca), (.int (0 : Int32)), (.ref a)])) rfl rfl (Jvm.hb hby d18_19) rfl ?_
  show own_WP p e _ below s Z _ n0 _ T1_ (mkF m 20 #[.val (.ref ca), .val (.int (0 : Int32)), .val (.int (1 : Int32)), .val (.ref a), .val (.int (0 : Int32))] [(.int c0), (.int (0 : Int32)), (.ref a)])
  refine own_callS w1_ hx (y := (⟨"java/lang/StringUTF16", "putChar", "([BII)V"⟩ : MethodName)) (hw _ (List.mem_of_getElem? (i := 91) rfl)) (hw _ (List.mem_of_getElem? (i := 92) rfl)) (hw _ (List.mem_of_getElem? (i := 70) rfl)) (hw _ (List.mem_of_getElem? (i := 93) rfl)) (by decide) (kc := 0) (ks := 0) (argsL := [(.ref a), (.int (0 : Int32)), (.int c0)]) (rest := []) (own_payCt (W := 0) (ctPut l Z a0 hw US n0 h1_ (own_old w1_) a 0 c0 k (2 : Int32) _ V0 rfl (by simp) (by simp) ga) w1_ (hw _ (List.mem_of_getElem? (i := 93) rfl)) (hw _ (List.mem_of_getElem? (i := 70) rfl)) hEL (by decide) (by decide) (own_one ⟨V0.lt, own_safeB (own_hZ w1_) (hw _ (List.mem_of_getElem? (i := 16) rfl)) V0 (by decide)⟩)) (g := (mkF m 20 #[.val (.ref ca), .val (.int (0 : Int32)), .val (.int (1 : Int32)), .val (.ref a), .val (.int (0 : Int32))] [(.int c0), (.int (0 : Int32)), (.ref a)])) rfl (by rw [hml]; rfl) (lenOf pd_860253318 rfl) rfl (by show 2 * 0 + _ ≤ _; exact Nat.le_of_eq rfl) (Jvm.hb hby d18_20) (by decide) (by decide) (fun v2_ T2_ vm2_ h2_ q2_ C2_ w2_ => ?_)
  obtain ⟨rfl, KP0, VP0⟩ := q2_
  have A2_ := own_at w2_
  show own_WP p e _ below s Z _ n0 _ T2_ (mkF m 23 #[.val (.ref ca), .val (.int (0 : Int32)), .val (.int (1 : Int32)), .val (.ref a), .val (.int (0 : Int32))] [])
  have VD0 := VC0.keep KP0 (ninS nca nin0)
  have EP0 := own_extK E0 KP0 (allS ga0 all0)
  refine own_by (T' := T2_) (g' := (mkF m 26 #[.val (.ref ca), .val (.int ((0 : Int32) + (1 : Int32))), .val (.int (1 : Int32)), .val (.ref a), .val (.int (0 : Int32))] [])) (fun t_ hr_ => XS.iinc A2_ hx rfl (Jvm.hb hby d18_23) rfl (l' := #[.val (.ref ca), .val (.int ((0 : Int32) + (1 : Int32))), .val (.int (1 : Int32)), .val (.ref a), .val (.int (0 : Int32))]) rfl hr_) ?_
  refine own_by (T' := T2_) (g' := (mkF m 29 #[.val (.ref ca), .val (.int ((0 : Int32) + (1 : Int32))), .val (.int (1 : Int32)), .val (.ref a), .val (.int ((0 : Int32) + (1 : Int32)))] [])) (fun t_ hr_ => XS.iinc A2_ hx rfl (Jvm.hb hby d18_26) rfl (l' := #[.val (.ref ca), .val (.int ((0 : Int32) + (1 : Int32))), .val (.int (1 : Int32)), .val (.ref a), .val (.int ((0 : Int32) + (1 : Int32)))]) rfl hr_) ?_
  rw [show ((0 : Int32) + (1 : Int32)) = (1 : Int32) from (by decide)]
  show own_WP p e _ below s Z _ n0 _ T2_ (mkF m 29 #[.val (.ref ca), .val (.int (1 : Int32)), .val (.int (1 : Int32)), .val (.ref a), .val (.int (1 : Int32))] [])
  refine own_by (T' := T2_) (g' := (mkF m 8 #[.val (.ref ca), .val (.int (1 : Int32)), .val (.int (1 : Int32)), .val (.ref a), .val (.int (1 : Int32))] [])) (fun t_ hr_ => XS.goto A2_ hx rfl (pc0 := 29) (pc' := 8) rfl (Jvm.hb hby d18_29) (by decide) (by decide) hr_) ?_
  refine own_by (T' := T2_) (g' := (mkF m 10 #[.val (.ref ca), .val (.int (1 : Int32)), .val (.int (1 : Int32)), .val (.ref a), .val (.int (1 : Int32))] [(.int (1 : Int32))])) (fun t_ hr_ => XS.iload A2_ hx rfl (Jvm.hb hby d18_8) rfl hr_) ?_
  refine own_by (T' := T2_) (g' := (mkF m 11 #[.val (.ref ca), .val (.int (1 : Int32)), .val (.int (1 : Int32)), .val (.ref a), .val (.int (1 : Int32))] [(.int (1 : Int32)), (.int (1 : Int32))])) (fun t_ hr_ => XS.iloadN A2_ hx rfl (Jvm.hb hby d18_10) rfl hr_) ?_
  refine own_by (T' := T2_) (g' := (mkF m 32 #[.val (.ref ca), .val (.int (1 : Int32)), .val (.int (1 : Int32)), .val (.ref a), .val (.int (1 : Int32))] [])) (fun t_ hr_ => XS.icmpYes A2_ hx rfl (pc0 := 11) (pc' := 32) rfl (Jvm.hb hby d18_11) rfl (flt (by decide)).2.1 (by decide) (by decide) hr_) ?_
  refine own_by (T' := T2_) (g' := (mkF m 33 #[.val (.ref ca), .val (.int (1 : Int32)), .val (.int (1 : Int32)), .val (.ref a), .val (.int (1 : Int32))] [(.ref a)])) (fun t_ hr_ => XS.aloadN A2_ hx rfl (Jvm.hb hby d18_32) rfl rfl hr_) ?_
  exact own_retA w2_ hx hEL hlk hret rfl rfl (Jvm.hb hby d18_33) (by decide) (by decide) ⟨_, _, rfl, EP0, VP0⟩

theorem d15_0 : decode jdk_52_method_21_code 0 = .ok (.iconst 0, 1) := by decide +kernel
theorem d15_1 : decode jdk_52_method_21_code 1 = .ok (.istore 5, 2) := by decide +kernel
theorem d15_3 : decode jdk_52_method_21_code 3 = .ok (.iload 5, 2) := by decide +kernel
theorem d15_5 : decode jdk_52_method_21_code 5 = .ok (.iload 4, 2) := by decide +kernel
theorem d15_7 : decode jdk_52_method_21_code 7 = .ok (.if_icmp .ge 37, 3) := by decide +kernel
theorem d15_10 : decode jdk_52_method_21_code 10 = .ok (.aload_n 0, 1) := by decide +kernel
theorem d15_11 : decode jdk_52_method_21_code 11 = .ok (.iload_n 1, 1) := by decide +kernel
theorem d15_12 : decode jdk_52_method_21_code 12 = .ok (.caload, 1) := by decide +kernel
theorem d15_13 : decode jdk_52_method_21_code 13 = .ok (.istore 6, 2) := by decide +kernel
theorem d15_15 : decode jdk_52_method_21_code 15 = .ok (.iload 6, 2) := by decide +kernel
theorem d15_17 : decode jdk_52_method_21_code 17 = .ok (.sipush 255, 3) := by decide +kernel
theorem d15_20 : decode jdk_52_method_21_code 20 = .ok (.if_icmp .le 6, 3) := by decide +kernel
theorem d15_23 : decode jdk_52_method_21_code 23 = .ok (.iload 5, 2) := by decide +kernel
theorem d15_25 : decode jdk_52_method_21_code 25 = .ok (.ireturn, 1) := by decide +kernel
theorem d15_26 : decode jdk_52_method_21_code 26 = .ok (.aload_n 2, 1) := by decide +kernel
theorem d15_27 : decode jdk_52_method_21_code 27 = .ok (.iload_n 3, 1) := by decide +kernel
theorem d15_28 : decode jdk_52_method_21_code 28 = .ok (.iload 6, 2) := by decide +kernel
theorem d15_30 : decode jdk_52_method_21_code 30 = .ok (.i2b, 1) := by decide +kernel
theorem d15_31 : decode jdk_52_method_21_code 31 = .ok (.bastore, 1) := by decide +kernel
theorem d15_32 : decode jdk_52_method_21_code 32 = .ok (.iinc 1 1, 3) := by decide +kernel
theorem d15_35 : decode jdk_52_method_21_code 35 = .ok (.iinc 3 1, 3) := by decide +kernel
theorem d15_38 : decode jdk_52_method_21_code 38 = .ok (.iinc 5 1, 3) := by decide +kernel
theorem d15_41 : decode jdk_52_method_21_code 41 = .ok (.goto (-38), 3) := by decide +kernel
theorem d15_44 : decode jdk_52_method_21_code 44 = .ok (.iload 4, 2) := by decide +kernel
theorem d15_46 : decode jdk_52_method_21_code 46 = .ok (.ireturn, 1) := by decide +kernel
theorem pn_269384959 : plainFor (⟨"java/lang/StringUTF16", "compress", "([CI[BII)I"⟩ : MethodName) = true := by first | exact plainFor_of_name (by first | (simp [plainName, overriddenIn]; done) | decide +kernel) | decide +kernel
theorem ef_ctC51 (m : MethodId) (x0 : Addr) (x1 : Int32) (x2 : Addr) (x3 : Int32) (x4 : Int32) : entryFrame m #[(.ref x0), (.int x1), (.ref x2), (.int x3), (.int x4)] 7 = mkF m 0 #[.val (.ref x0), .val (.int x1), .val (.ref x2), .val (.int x3), .val (.int x4), .unset, .unset] [] := by first | (simp [entryFrame, mkF, argsToLocals, Value.category]; done) | rfl
set_option maxRecDepth 65536 in
set_option maxHeartbeats 40000000 in
theorem ctC51 (l : Launch) (Z : State) (a0 : Array Value) (hw : ∀ d ∈ tables_1, d.before a0 Z = true) (n0 : Nat) (h0 : Heap) (O0 : Old Z n0 h0) (ca ba : Addr) (kC kB : ClassId) (c0 : Int32) (VC : Arv Z h0 ca kC .char (1 : Int32) [(.int c0)] (.int 0)) (VB : Arv Z h0 ba kB .byte (1 : Int32) [(.int (0 : Int32))] (.int 0)) (hne : ca ≠ ba) (gb : n0 ≤ ba) :
    own_Ct l (⟨"java/lang/StringUTF16", "compress", "([CI[BII)I"⟩ : MethodName) jdk_52_method_21_code 7 (some .int) ({ frames := 0, cells := 0, slots := 0, locals := 0 } : Room) Z consts_1 n0 #[(.ref ca), (.int (0 : Int32)), (.ref ba), (.int (0 : Int32)), (.int (1 : Int32))] h0 [ba] (fun v h => (v = some (.int 0) ∧ (255 : Int32) < c0 ∧ Keep h0 h [ba]) ∨ (v = some (.int 1) ∧ (¬ (255 : Int32) < c0) ∧ Keep h0 h [ba] ∧ Arv Z h ba kB .byte (1 : Int32) [(.int (c0.toInt8.toInt32))] (.int 0))) := by
  have hEL := own_EL hw
  refine own_body pn_269384959 O0 (fun p e s m below meth cc_ T0 vm0 hx hby hml0 hret hlk hnm hsf w0 => ?_)
  have hml : cc_.maxLocals = 7 := hml0
  have A_0 := own_at w0
  refine own_entry (ef_ctC51 m ca (0 : Int32) ba (0 : Int32) (1 : Int32)) ?_
  refine own_by (T' := T0) (g' := (mkF m 1 #[.val (.ref ca), .val (.int (0 : Int32)), .val (.ref ba), .val (.int (0 : Int32)), .val (.int (1 : Int32)), .unset, .unset] [(.int (0 : Int32))])) (fun t_ hr_ => XS.iconst A_0 hx rfl (Jvm.hb hby d15_0) hr_) ?_
  refine own_by (T' := T0) (g' := (mkF m 3 #[.val (.ref ca), .val (.int (0 : Int32)), .val (.ref ba), .val (.int (0 : Int32)), .val (.int (1 : Int32)), .val (.int (0 : Int32)), .unset] [])) (fun t_ hr_ => XS.istore A_0 hx rfl (Jvm.hb hby d15_1) rfl (l' := #[.val (.ref ca), .val (.int (0 : Int32)), .val (.ref ba), .val (.int (0 : Int32)), .val (.int (1 : Int32)), .val (.int (0 : Int32)), .unset]) rfl hr_) ?_
  refine own_by (T' := T0) (g' := (mkF m 5 #[.val (.ref ca), .val (.int (0 : Int32)), .val (.ref ba), .val (.int (0 : Int32)), .val (.int (1 : Int32)), .val (.int (0 : Int32)), .unset] [(.int (0 : Int32))])) (fun t_ hr_ => XS.iload A_0 hx rfl (Jvm.hb hby d15_3) rfl hr_) ?_
  refine own_by (T' := T0) (g' := (mkF m 7 #[.val (.ref ca), .val (.int (0 : Int32)), .val (.ref ba), .val (.int (0 : Int32)), .val (.int (1 : Int32)), .val (.int (0 : Int32)), .unset] [(.int (1 : Int32)), (.int (0 : Int32))])) (fun t_ hr_ => XS.iload A_0 hx rfl (Jvm.hb hby d15_5) rfl hr_) ?_
  refine own_by (T' := T0) (g' := (mkF m 10 #[.val (.ref ca), .val (.int (0 : Int32)), .val (.ref ba), .val (.int (0 : Int32)), .val (.int (1 : Int32)), .val (.int (0 : Int32)), .unset] [])) (fun t_ hr_ => XS.icmpNo A_0 hx rfl (Jvm.hb hby d15_7) rfl (tlt (by decide)).2.1 hr_) ?_
  refine own_by (T' := T0) (g' := (mkF m 11 #[.val (.ref ca), .val (.int (0 : Int32)), .val (.ref ba), .val (.int (0 : Int32)), .val (.int (1 : Int32)), .val (.int (0 : Int32)), .unset] [(.ref ca)])) (fun t_ hr_ => XS.aloadN A_0 hx rfl (Jvm.hb hby d15_10) rfl rfl hr_) ?_
  refine own_by (T' := T0) (g' := (mkF m 12 #[.val (.ref ca), .val (.int (0 : Int32)), .val (.ref ba), .val (.int (0 : Int32)), .val (.int (1 : Int32)), .val (.int (0 : Int32)), .unset] [(.int (0 : Int32)), (.ref ca)])) (fun t_ hr_ => XS.iloadN A_0 hx rfl (Jvm.hb hby d15_11) rfl hr_) ?_
  refine own_caload w0 hx (x := c0) VC (by decide) (g := (mkF m 12 #[.val (.ref ca), .val (.int (0 : Int32)), .val (.ref ba), .val (.int (0 : Int32)), .val (.int (1 : Int32)), .val (.int (0 : Int32)), .unset] [(.int (0 : Int32)), (.ref ca)])) rfl rfl (Jvm.hb hby d15_12) rfl ?_
  show own_WP p e _ below s Z _ n0 _ T0 (mkF m 13 #[.val (.ref ca), .val (.int (0 : Int32)), .val (.ref ba), .val (.int (0 : Int32)), .val (.int (1 : Int32)), .val (.int (0 : Int32)), .unset] [(.int c0)])
  refine own_by (T' := T0) (g' := (mkF m 15 #[.val (.ref ca), .val (.int (0 : Int32)), .val (.ref ba), .val (.int (0 : Int32)), .val (.int (1 : Int32)), .val (.int (0 : Int32)), .val (.int c0)] [])) (fun t_ hr_ => XS.istore A_0 hx rfl (Jvm.hb hby d15_13) rfl (l' := #[.val (.ref ca), .val (.int (0 : Int32)), .val (.ref ba), .val (.int (0 : Int32)), .val (.int (1 : Int32)), .val (.int (0 : Int32)), .val (.int c0)]) rfl hr_) ?_
  refine own_by (T' := T0) (g' := (mkF m 17 #[.val (.ref ca), .val (.int (0 : Int32)), .val (.ref ba), .val (.int (0 : Int32)), .val (.int (1 : Int32)), .val (.int (0 : Int32)), .val (.int c0)] [(.int c0)])) (fun t_ hr_ => XS.iload A_0 hx rfl (Jvm.hb hby d15_15) rfl hr_) ?_
  refine own_by (T' := T0) (g' := (mkF m 20 #[.val (.ref ca), .val (.int (0 : Int32)), .val (.ref ba), .val (.int (0 : Int32)), .val (.int (1 : Int32)), .val (.int (0 : Int32)), .val (.int c0)] [(.int (255 : Int32)), (.int c0)])) (fun t_ hr_ => XS.sipush A_0 hx rfl (Jvm.hb hby d15_17) hr_) ?_
  by_cases hc1_ : (255 : Int32) < c0
  · refine own_by (T' := T0) (g' := (mkF m 23 #[.val (.ref ca), .val (.int (0 : Int32)), .val (.ref ba), .val (.int (0 : Int32)), .val (.int (1 : Int32)), .val (.int (0 : Int32)), .val (.int c0)] [])) (fun t_ hr_ => XS.icmpNo A_0 hx rfl (Jvm.hb hby d15_20) rfl (tlt hc1_).2.2.2 hr_) ?_
    refine own_by (T' := T0) (g' := (mkF m 25 #[.val (.ref ca), .val (.int (0 : Int32)), .val (.ref ba), .val (.int (0 : Int32)), .val (.int (1 : Int32)), .val (.int (0 : Int32)), .val (.int c0)] [(.int (0 : Int32))])) (fun t_ hr_ => XS.iload A_0 hx rfl (Jvm.hb hby d15_23) rfl hr_) ?_
    exact own_retI w0 hx hEL hlk hret (Jvm.hb hby d15_25) (by decide) (by decide) (Or.inl ⟨rfl, hc1_, (Keep.refl h0 [ba])⟩)
  · refine own_by (T' := T0) (g' := (mkF m 26 #[.val (.ref ca), .val (.int (0 : Int32)), .val (.ref ba), .val (.int (0 : Int32)), .val (.int (1 : Int32)), .val (.int (0 : Int32)), .val (.int c0)] [])) (fun t_ hr_ => XS.icmpYes A_0 hx rfl (pc0 := 20) (pc' := 26) rfl (Jvm.hb hby d15_20) rfl (flt hc1_).2.2.2 (by decide) (by decide) hr_) ?_
    refine own_by (T' := T0) (g' := (mkF m 27 #[.val (.ref ca), .val (.int (0 : Int32)), .val (.ref ba), .val (.int (0 : Int32)), .val (.int (1 : Int32)), .val (.int (0 : Int32)), .val (.int c0)] [(.ref ba)])) (fun t_ hr_ => XS.aloadN A_0 hx rfl (Jvm.hb hby d15_26) rfl rfl hr_) ?_
    refine own_by (T' := T0) (g' := (mkF m 28 #[.val (.ref ca), .val (.int (0 : Int32)), .val (.ref ba), .val (.int (0 : Int32)), .val (.int (1 : Int32)), .val (.int (0 : Int32)), .val (.int c0)] [(.int (0 : Int32)), (.ref ba)])) (fun t_ hr_ => XS.iloadN A_0 hx rfl (Jvm.hb hby d15_27) rfl hr_) ?_
    refine own_by (T' := T0) (g' := (mkF m 30 #[.val (.ref ca), .val (.int (0 : Int32)), .val (.ref ba), .val (.int (0 : Int32)), .val (.int (1 : Int32)), .val (.int (0 : Int32)), .val (.int c0)] [(.int c0), (.int (0 : Int32)), (.ref ba)])) (fun t_ hr_ => XS.iload A_0 hx rfl (Jvm.hb hby d15_28) rfl hr_) ?_
    refine own_by (T' := T0) (g' := (mkF m 31 #[.val (.ref ca), .val (.int (0 : Int32)), .val (.ref ba), .val (.int (0 : Int32)), .val (.int (1 : Int32)), .val (.int (0 : Int32)), .val (.int c0)] [(.int (c0.toInt8.toInt32)), (.int (0 : Int32)), (.ref ba)])) (fun t_ hr_ => XS.i2b A_0 hx rfl (Jvm.hb hby d15_30) rfl hr_) ?_
    refine own_bastore w0 hx VB (by decide) (own_lo8lo8 c0) (hsf ba (List.mem_of_getElem? (i := 0) rfl)) (i := 0) rfl (by simp) gb (g := (mkF m 31 #[.val (.ref ca), .val (.int (0 : Int32)), .val (.ref ba), .val (.int (0 : Int32)), .val (.int (1 : Int32)), .val (.int (0 : Int32)), .val (.int c0)] [(.int (c0.toInt8.toInt32)), (.int (0 : Int32)), (.ref ba)])) rfl rfl (Jvm.hb hby d15_31) (fun T2_ h2_ W2_ V2_ w2_ => ?_)
    have A2_ := own_at w2_
    show own_WP p e _ below s Z _ n0 _ T2_ (mkF m 32 #[.val (.ref ca), .val (.int (0 : Int32)), .val (.ref ba), .val (.int (0 : Int32)), .val (.int (1 : Int32)), .val (.int (0 : Int32)), .val (.int c0)] [])
    refine own_by (T' := T2_) (g' := (mkF m 35 #[.val (.ref ca), .val (.int ((0 : Int32) + (1 : Int32))), .val (.ref ba), .val (.int (0 : Int32)), .val (.int (1 : Int32)), .val (.int (0 : Int32)), .val (.int c0)] [])) (fun t_ hr_ => XS.iinc A2_ hx rfl (Jvm.hb hby d15_32) rfl (l' := #[.val (.ref ca), .val (.int ((0 : Int32) + (1 : Int32))), .val (.ref ba), .val (.int (0 : Int32)), .val (.int (1 : Int32)), .val (.int (0 : Int32)), .val (.int c0)]) rfl hr_) ?_
    refine own_by (T' := T2_) (g' := (mkF m 38 #[.val (.ref ca), .val (.int ((0 : Int32) + (1 : Int32))), .val (.ref ba), .val (.int ((0 : Int32) + (1 : Int32))), .val (.int (1 : Int32)), .val (.int (0 : Int32)), .val (.int c0)] [])) (fun t_ hr_ => XS.iinc A2_ hx rfl (Jvm.hb hby d15_35) rfl (l' := #[.val (.ref ca), .val (.int ((0 : Int32) + (1 : Int32))), .val (.ref ba), .val (.int ((0 : Int32) + (1 : Int32))), .val (.int (1 : Int32)), .val (.int (0 : Int32)), .val (.int c0)]) rfl hr_) ?_
    refine own_by (T' := T2_) (g' := (mkF m 41 #[.val (.ref ca), .val (.int ((0 : Int32) + (1 : Int32))), .val (.ref ba), .val (.int ((0 : Int32) + (1 : Int32))), .val (.int (1 : Int32)), .val (.int ((0 : Int32) + (1 : Int32))), .val (.int c0)] [])) (fun t_ hr_ => XS.iinc A2_ hx rfl (Jvm.hb hby d15_38) rfl (l' := #[.val (.ref ca), .val (.int ((0 : Int32) + (1 : Int32))), .val (.ref ba), .val (.int ((0 : Int32) + (1 : Int32))), .val (.int (1 : Int32)), .val (.int ((0 : Int32) + (1 : Int32))), .val (.int c0)]) rfl hr_) ?_
    rw [show ((0 : Int32) + (1 : Int32)) = (1 : Int32) from (by decide)]
    show own_WP p e _ below s Z _ n0 _ T2_ (mkF m 41 #[.val (.ref ca), .val (.int (1 : Int32)), .val (.ref ba), .val (.int (1 : Int32)), .val (.int (1 : Int32)), .val (.int (1 : Int32)), .val (.int c0)] [])
    refine own_by (T' := T2_) (g' := (mkF m 3 #[.val (.ref ca), .val (.int (1 : Int32)), .val (.ref ba), .val (.int (1 : Int32)), .val (.int (1 : Int32)), .val (.int (1 : Int32)), .val (.int c0)] [])) (fun t_ hr_ => XS.goto A2_ hx rfl (pc0 := 41) (pc' := 3) rfl (Jvm.hb hby d15_41) (by decide) (by decide) hr_) ?_
    have VC2_ := VC.other W2_ hne
    have Sf2_ := Safe.wr W2_ (hsf ba (List.mem_of_getElem? (i := 0) rfl)) (own_chv w0) (hsf ba (List.mem_of_getElem? (i := 0) rfl))
    refine own_by (T' := T2_) (g' := (mkF m 5 #[.val (.ref ca), .val (.int (1 : Int32)), .val (.ref ba), .val (.int (1 : Int32)), .val (.int (1 : Int32)), .val (.int (1 : Int32)), .val (.int c0)] [(.int (1 : Int32))])) (fun t_ hr_ => XS.iload A2_ hx rfl (Jvm.hb hby d15_3) rfl hr_) ?_
    refine own_by (T' := T2_) (g' := (mkF m 7 #[.val (.ref ca), .val (.int (1 : Int32)), .val (.ref ba), .val (.int (1 : Int32)), .val (.int (1 : Int32)), .val (.int (1 : Int32)), .val (.int c0)] [(.int (1 : Int32)), (.int (1 : Int32))])) (fun t_ hr_ => XS.iload A2_ hx rfl (Jvm.hb hby d15_5) rfl hr_) ?_
    refine own_by (T' := T2_) (g' := (mkF m 44 #[.val (.ref ca), .val (.int (1 : Int32)), .val (.ref ba), .val (.int (1 : Int32)), .val (.int (1 : Int32)), .val (.int (1 : Int32)), .val (.int c0)] [])) (fun t_ hr_ => XS.icmpYes A2_ hx rfl (pc0 := 7) (pc' := 44) rfl (Jvm.hb hby d15_7) rfl (flt (by decide)).2.1 (by decide) (by decide) hr_) ?_
    refine own_by (T' := T2_) (g' := (mkF m 46 #[.val (.ref ca), .val (.int (1 : Int32)), .val (.ref ba), .val (.int (1 : Int32)), .val (.int (1 : Int32)), .val (.int (1 : Int32)), .val (.int c0)] [(.int (1 : Int32))])) (fun t_ hr_ => XS.iload A2_ hx rfl (Jvm.hb hby d15_44) rfl hr_) ?_
    exact own_retI w2_ hx hEL hlk hret (Jvm.hb hby d15_46) (by decide) (by decide) (Or.inr (⟨rfl, hc1_, ((Keep.refl h0 [ba]).wr W2_ (Or.inl (List.mem_of_getElem? (i := 0) rfl))), V2_⟩))

theorem d14_0 : decode jdk_52_method_16_code 0 = .ok (.iload_n 2, 1) := by decide +kernel
theorem d14_1 : decode jdk_52_method_16_code 1 = .ok (.newarray .byte, 2) := by decide +kernel
theorem d14_3 : decode jdk_52_method_16_code 3 = .ok (.astore_n 3, 1) := by decide +kernel
theorem d14_4 : decode jdk_52_method_16_code 4 = .ok (.aload_n 0, 1) := by decide +kernel
theorem d14_5 : decode jdk_52_method_16_code 5 = .ok (.iload_n 1, 1) := by decide +kernel
theorem d14_6 : decode jdk_52_method_16_code 6 = .ok (.aload_n 3, 1) := by decide +kernel
theorem d14_7 : decode jdk_52_method_16_code 7 = .ok (.iconst 0, 1) := by decide +kernel
theorem d14_8 : decode jdk_52_method_16_code 8 = .ok (.iload_n 2, 1) := by decide +kernel
theorem d14_9 : decode jdk_52_method_16_code 9 = .ok (.invokestatic 115, 3) := by decide +kernel
theorem pd_110984662 : parseMethodDescriptor "([CI[BII)I" = some ⟨[(.array .char), .int, (.array .byte), .int, .int], some .int⟩ := by decide +kernel
theorem d14_12 : decode jdk_52_method_16_code 12 = .ok (.istore 4, 2) := by decide +kernel
theorem d14_14 : decode jdk_52_method_16_code 14 = .ok (.iload 4, 2) := by decide +kernel
theorem d14_16 : decode jdk_52_method_16_code 16 = .ok (.iload_n 2, 1) := by decide +kernel
theorem d14_17 : decode jdk_52_method_16_code 17 = .ok (.if_icmp .eq 40, 3) := by decide +kernel
theorem d14_20 : decode jdk_52_method_16_code 20 = .ok (.aload_n 0, 1) := by decide +kernel
theorem d14_21 : decode jdk_52_method_16_code 21 = .ok (.iload_n 1, 1) := by decide +kernel
theorem d14_22 : decode jdk_52_method_16_code 22 = .ok (.iload_n 2, 1) := by decide +kernel
theorem d14_23 : decode jdk_52_method_16_code 23 = .ok (.invokestatic 119, 3) := by decide +kernel
theorem pd_272673973 : parseMethodDescriptor "([CII)[B" = some ⟨[(.array .char), .int, .int], some (.array .byte)⟩ := by decide +kernel
theorem d14_26 : decode jdk_52_method_16_code 26 = .ok (.astore 5, 2) := by decide +kernel
theorem d14_28 : decode jdk_52_method_16_code 28 = .ok (.aload 5, 2) := by decide +kernel
theorem d14_30 : decode jdk_52_method_16_code 30 = .ok (.iload 4, 2) := by decide +kernel
theorem d14_32 : decode jdk_52_method_16_code 32 = .ok (.invokestatic 71, 3) := by decide +kernel
theorem pd_128700058 : parseMethodDescriptor "([BI)C" = some ⟨[(.array .byte), .int], some .char⟩ := by decide +kernel
theorem d14_35 : decode jdk_52_method_16_code 35 = .ok (.sipush 255, 3) := by decide +kernel
theorem d14_38 : decode jdk_52_method_16_code 38 = .ok (.if_icmp .gt 16, 3) := by decide +kernel
theorem d14_54 : decode jdk_52_method_16_code 54 = .ok (.aload 5, 2) := by decide +kernel
theorem d14_56 : decode jdk_52_method_16_code 56 = .ok (.areturn, 1) := by decide +kernel
theorem d14_57 : decode jdk_52_method_16_code 57 = .ok (.aload_n 3, 1) := by decide +kernel
theorem d14_58 : decode jdk_52_method_16_code 58 = .ok (.areturn, 1) := by decide +kernel
theorem pn_465937380 : plainFor (⟨"java/lang/StringUTF16", "compress", "([CII)[B"⟩ : MethodName) = true := by first | exact plainFor_of_name (by first | (simp [plainName, overriddenIn]; done) | decide +kernel) | decide +kernel
theorem ef_ctC31 (m : MethodId) (x0 : Addr) (x1 : Int32) (x2 : Int32) : entryFrame m #[(.ref x0), (.int x1), (.int x2)] 6 = mkF m 0 #[.val (.ref x0), .val (.int x1), .val (.int x2), .unset, .unset, .unset] [] := by first | (simp [entryFrame, mkF, argsToLocals, Value.category]; done) | rfl
set_option maxRecDepth 65536 in
set_option maxHeartbeats 40000000 in
theorem ctC31 (l : Launch) (Z : State) (a0 : Array Value) (hw : ∀ d ∈ tables_1, d.before a0 Z = true) (US : own_US Z) (n0 : Nat) (h0 : Heap) (O0 : Old Z n0 h0) (ca : Addr) (kC : ClassId) (c0 : Int32) (VC : Arv Z h0 ca kC .char (1 : Int32) [(.int c0)] (.int 0)) (r0 : ¬ c0 < 0 ∧ ¬ (65535 : Int32) < c0) :
    own_Ct l (⟨"java/lang/StringUTF16", "compress", "([CII)[B"⟩ : MethodName) jdk_52_method_16_code 6 (some (.array .byte)) ({ frames := 3, cells := 2, slots := 3, locals := 40 } : Room) Z consts_1 n0 #[(.ref ca), (.int (0 : Int32)), (.int (1 : Int32))] h0 [] (fun v h => ∃ a k, v = some (.ref a) ∧ Ext h0 h ∧ (Arv Z h a k .byte (2 : Int32) [(.int (c0.toInt8.toInt32)), (.int ((c0 >>> ((8 : Int32) &&& 31)).toInt8.toInt32))] (.int 0) ∨ (Arv Z h a k .byte (1 : Int32) [(.int (c0.toInt8.toInt32))] (.int 0) ∧ (¬ (255 : Int32) < c0)))) := by
  have hEL := own_EL hw
  refine own_body pn_465937380 O0 (fun p e s m below meth cc_ T0 vm0 hx hby hml0 hret hlk hnm hsf w0 => ?_)
  have hml : cc_.maxLocals = 6 := hml0
  have A_0 := own_at w0
  refine own_entry (ef_ctC31 m ca (0 : Int32) (1 : Int32)) ?_
  refine own_by (T' := T0) (g' := (mkF m 1 #[.val (.ref ca), .val (.int (0 : Int32)), .val (.int (1 : Int32)), .unset, .unset, .unset] [(.int (1 : Int32))])) (fun t_ hr_ => XS.iloadN A_0 hx rfl (Jvm.hb hby d14_0) rfl hr_) ?_
  refine own_newP w0 hx (hw _ (List.mem_of_getElem? (i := 17) rfl)) (g := (mkF m 1 #[.val (.ref ca), .val (.int (0 : Int32)), .val (.int (1 : Int32)), .unset, .unset, .unset] [(.int (1 : Int32))])) rfl (Jvm.hb hby d14_1) rfl (by decide) (cap := 1) (by decide) (by decide) (by decide) (by decide) (fun T1_ h1_ a1_ k1_ g1_ E1_ V1_ w1_ => ?_)
  have A1_ := own_at w1_
  show own_WP p e _ below s Z _ n0 _ T1_ (mkF m 3 #[.val (.ref ca), .val (.int (0 : Int32)), .val (.int (1 : Int32)), .unset, .unset, .unset] [(.ref a1_)])
  have ga0 : h0.size ≤ a1_ := by rw [g1_]; exact Nat.le_refl _
  have gb : n0 ≤ a1_ := Nat.le_trans (own_n0 w0) ga0
  have U1 : Arv Z h1_ a1_ k1_ .byte (1 : Int32) [(.int (0 : Int32))] (.int 0) := V1_.pad (vs' := [(.int (0 : Int32))]) (fun i => pad_rep [] (.int (0 : Int32)) 1 i)
  have nca : ca ≠ a1_ := Nat.ne_of_lt (Nat.lt_of_lt_of_le VC.lt ga0)
  have VC1 := VC.ext E1_
  refine own_by (T' := T1_) (g' := (mkF m 4 #[.val (.ref ca), .val (.int (0 : Int32)), .val (.int (1 : Int32)), .val (.ref a1_), .unset, .unset] [])) (fun t_ hr_ => XS.astoreN A1_ hx rfl (Jvm.hb hby d14_3) rfl rfl (l' := #[.val (.ref ca), .val (.int (0 : Int32)), .val (.int (1 : Int32)), .val (.ref a1_), .unset, .unset]) rfl hr_) ?_
  refine own_by (T' := T1_) (g' := (mkF m 5 #[.val (.ref ca), .val (.int (0 : Int32)), .val (.int (1 : Int32)), .val (.ref a1_), .unset, .unset] [(.ref ca)])) (fun t_ hr_ => XS.aloadN A1_ hx rfl (Jvm.hb hby d14_4) rfl rfl hr_) ?_
  refine own_by (T' := T1_) (g' := (mkF m 6 #[.val (.ref ca), .val (.int (0 : Int32)), .val (.int (1 : Int32)), .val (.ref a1_), .unset, .unset] [(.int (0 : Int32)), (.ref ca)])) (fun t_ hr_ => XS.iloadN A1_ hx rfl (Jvm.hb hby d14_5) rfl hr_) ?_
  refine own_by (T' := T1_) (g' := (mkF m 7 #[.val (.ref ca), .val (.int (0 : Int32)), .val (.int (1 : Int32)), .val (.ref a1_), .unset, .unset] [(.ref a1_), (.int (0 : Int32)), (.ref ca)])) (fun t_ hr_ => XS.aloadN A1_ hx rfl (Jvm.hb hby d14_6) rfl rfl hr_) ?_
  refine own_by (T' := T1_) (g' := (mkF m 8 #[.val (.ref ca), .val (.int (0 : Int32)), .val (.int (1 : Int32)), .val (.ref a1_), .unset, .unset] [(.int (0 : Int32)), (.ref a1_), (.int (0 : Int32)), (.ref ca)])) (fun t_ hr_ => XS.iconst A1_ hx rfl (Jvm.hb hby d14_7) hr_) ?_
  refine own_by (T' := T1_) (g' := (mkF m 9 #[.val (.ref ca), .val (.int (0 : Int32)), .val (.int (1 : Int32)), .val (.ref a1_), .unset, .unset] [(.int (1 : Int32)), (.int (0 : Int32)), (.ref a1_), (.int (0 : Int32)), (.ref ca)])) (fun t_ hr_ => XS.iloadN A1_ hx rfl (Jvm.hb hby d14_8) rfl hr_) ?_
  refine own_callS w1_ hx (y := (⟨"java/lang/StringUTF16", "compress", "([CI[BII)I"⟩ : MethodName)) (hw _ (List.mem_of_getElem? (i := 72) rfl)) (hw _ (List.mem_of_getElem? (i := 73) rfl)) (hw _ (List.mem_of_getElem? (i := 70) rfl)) (hw _ (List.mem_of_getElem? (i := 74) rfl)) (by decide) (kc := 0) (ks := 0) (argsL := [(.ref ca), (.int (0 : Int32)), (.ref a1_), (.int (0 : Int32)), (.int (1 : Int32))]) (rest := []) (own_payCt (W := 0) (ctC51 l Z a0 hw n0 h1_ (own_old w1_) ca a1_ kC k1_ c0 VC1 U1 nca gb) w1_ (hw _ (List.mem_of_getElem? (i := 74) rfl)) (hw _ (List.mem_of_getElem? (i := 70) rfl)) hEL (by decide) (by decide) (own_one ⟨U1.lt, own_safeB (own_hZ w1_) (hw _ (List.mem_of_getElem? (i := 16) rfl)) U1 (by decide)⟩)) (g := (mkF m 9 #[.val (.ref ca), .val (.int (0 : Int32)), .val (.int (1 : Int32)), .val (.ref a1_), .unset, .unset] [(.int (1 : Int32)), (.int (0 : Int32)), (.ref a1_), (.int (0 : Int32)), (.ref ca)])) rfl (by rw [hml]; rfl) (lenOf pd_110984662 rfl) rfl (by show 2 * 0 + _ ≤ _; exact Nat.le_of_eq rfl) (Jvm.hb hby d14_9) (by decide) (by decide) (fun v2_ T2_ vm2_ h2_ q2_ C2_ w2_ => ?_)
  rcases q2_ with ⟨rfl, hi0, KC⟩ | ⟨rfl, hi0, KC, VN⟩
  · have A2_ := own_at w2_
    show own_WP p e _ below s Z _ n0 _ T2_ (mkF m 12 #[.val (.ref ca), .val (.int (0 : Int32)), .val (.int (1 : Int32)), .val (.ref a1_), .unset, .unset] [(.int (0 : Int32))])
    refine own_by (T' := T2_) (g' := (mkF m 14 #[.val (.ref ca), .val (.int (0 : Int32)), .val (.int (1 : Int32)), .val (.ref a1_), .val (.int (0 : Int32)), .unset] [])) (fun t_ hr_ => XS.istore A2_ hx rfl (Jvm.hb hby d14_12) rfl (l' := #[.val (.ref ca), .val (.int (0 : Int32)), .val (.int (1 : Int32)), .val (.ref a1_), .val (.int (0 : Int32)), .unset]) rfl hr_) ?_
    refine own_by (T' := T2_) (g' := (mkF m 16 #[.val (.ref ca), .val (.int (0 : Int32)), .val (.int (1 : Int32)), .val (.ref a1_), .val (.int (0 : Int32)), .unset] [(.int (0 : Int32))])) (fun t_ hr_ => XS.iload A2_ hx rfl (Jvm.hb hby d14_14) rfl hr_) ?_
    refine own_by (T' := T2_) (g' := (mkF m 17 #[.val (.ref ca), .val (.int (0 : Int32)), .val (.int (1 : Int32)), .val (.ref a1_), .val (.int (0 : Int32)), .unset] [(.int (1 : Int32)), (.int (0 : Int32))])) (fun t_ hr_ => XS.iloadN A2_ hx rfl (Jvm.hb hby d14_16) rfl hr_) ?_
    refine own_by (T' := T2_) (g' := (mkF m 20 #[.val (.ref ca), .val (.int (0 : Int32)), .val (.int (1 : Int32)), .val (.ref a1_), .val (.int (0 : Int32)), .unset] [])) (fun t_ hr_ => XS.icmpNo A2_ hx rfl (Jvm.hb hby d14_17) rfl (feq (by decide)).1 hr_) ?_
    refine own_by (T' := T2_) (g' := (mkF m 21 #[.val (.ref ca), .val (.int (0 : Int32)), .val (.int (1 : Int32)), .val (.ref a1_), .val (.int (0 : Int32)), .unset] [(.ref ca)])) (fun t_ hr_ => XS.aloadN A2_ hx rfl (Jvm.hb hby d14_20) rfl rfl hr_) ?_
    refine own_by (T' := T2_) (g' := (mkF m 22 #[.val (.ref ca), .val (.int (0 : Int32)), .val (.int (1 : Int32)), .val (.ref a1_), .val (.int (0 : Int32)), .unset] [(.int (0 : Int32)), (.ref ca)])) (fun t_ hr_ => XS.iloadN A2_ hx rfl (Jvm.hb hby d14_21) rfl hr_) ?_
    refine own_by (T' := T2_) (g' := (mkF m 23 #[.val (.ref ca), .val (.int (0 : Int32)), .val (.int (1 : Int32)), .val (.ref a1_), .val (.int (0 : Int32)), .unset] [(.int (1 : Int32)), (.int (0 : Int32)), (.ref ca)])) (fun t_ hr_ => XS.iloadN A2_ hx rfl (Jvm.hb hby d14_22) rfl hr_) ?_
    have VC2 := VC1.keep KC (ninS nca nin0)
    refine own_callS w2_ hx (y := (⟨"java/lang/StringUTF16", "toBytes", "([CII)[B"⟩ : MethodName)) (hw _ (List.mem_of_getElem? (i := 81) rfl)) (hw _ (List.mem_of_getElem? (i := 82) rfl)) (hw _ (List.mem_of_getElem? (i := 70) rfl)) (hw _ (List.mem_of_getElem? (i := 83) rfl)) (by decide) (kc := 1) (ks := 2) (argsL := [(.ref ca), (.int (0 : Int32)), (.int (1 : Int32))]) (rest := []) (own_payCt (W := 0) (ctTB1 l Z a0 hw US n0 h2_ (own_old w2_) ca kC c0 VC2) w2_ (hw _ (List.mem_of_getElem? (i := 83) rfl)) (hw _ (List.mem_of_getElem? (i := 70) rfl)) hEL (by decide) (by decide)) (g := (mkF m 23 #[.val (.ref ca), .val (.int (0 : Int32)), .val (.int (1 : Int32)), .val (.ref a1_), .val (.int (0 : Int32)), .unset] [(.int (1 : Int32)), (.int (0 : Int32)), (.ref ca)])) rfl (by rw [hml]; rfl) (lenOf pd_272673973 rfl) rfl (by show 2 * 0 + _ ≤ _; exact Nat.le_of_eq rfl) (Jvm.hb hby d14_23) (by decide) (by decide) (fun v3_ T3_ vm3_ h3_ q3_ C3_ w3_ => ?_)
    obtain ⟨a, k, rfl, E3, V3⟩ := q3_
    have A3_ := own_at w3_
    show own_WP p e _ below s Z _ n0 _ T3_ (mkF m 26 #[.val (.ref ca), .val (.int (0 : Int32)), .val (.int (1 : Int32)), .val (.ref a1_), .val (.int (0 : Int32)), .unset] [(.ref a)])
    refine own_by (T' := T3_) (g' := (mkF m 28 #[.val (.ref ca), .val (.int (0 : Int32)), .val (.int (1 : Int32)), .val (.ref a1_), .val (.int (0 : Int32)), .val (.ref a)] [])) (fun t_ hr_ => XS.astore A3_ hx rfl (Jvm.hb hby d14_26) rfl rfl (l' := #[.val (.ref ca), .val (.int (0 : Int32)), .val (.int (1 : Int32)), .val (.ref a1_), .val (.int (0 : Int32)), .val (.ref a)]) rfl hr_) ?_
    refine own_by (T' := T3_) (g' := (mkF m 30 #[.val (.ref ca), .val (.int (0 : Int32)), .val (.int (1 : Int32)), .val (.ref a1_), .val (.int (0 : Int32)), .val (.ref a)] [(.ref a)])) (fun t_ hr_ => XS.aload A3_ hx rfl (Jvm.hb hby d14_28) rfl rfl hr_) ?_
    refine own_by (T' := T3_) (g' := (mkF m 32 #[.val (.ref ca), .val (.int (0 : Int32)), .val (.int (1 : Int32)), .val (.ref a1_), .val (.int (0 : Int32)), .val (.ref a)] [(.int (0 : Int32)), (.ref a)])) (fun t_ hr_ => XS.iload A3_ hx rfl (Jvm.hb hby d14_30) rfl hr_) ?_
    refine own_callS w3_ hx (y := (⟨"java/lang/StringUTF16", "getChar", "([BI)C"⟩ : MethodName)) (hw _ (List.mem_of_getElem? (i := 97) rfl)) (hw _ (List.mem_of_getElem? (i := 98) rfl)) (hw _ (List.mem_of_getElem? (i := 70) rfl)) (hw _ (List.mem_of_getElem? (i := 99) rfl)) (by decide) (kc := 0) (ks := 0) (argsL := [(.ref a), (.int (0 : Int32))]) (rest := []) (own_payCt (W := 0) (ctGet l Z a0 hw US n0 h3_ (own_old w3_) a 0 k [c0] V3 (by simp only [List.forall_mem_cons, List.not_mem_nil, false_imp_iff, implies_true, and_true]; exact r0) (by simp) (by simp)) w3_ (hw _ (List.mem_of_getElem? (i := 99) rfl)) (hw _ (List.mem_of_getElem? (i := 70) rfl)) hEL (by decide) (by decide)) (g := (mkF m 32 #[.val (.ref ca), .val (.int (0 : Int32)), .val (.int (1 : Int32)), .val (.ref a1_), .val (.int (0 : Int32)), .val (.ref a)] [(.int (0 : Int32)), (.ref a)])) rfl (by rw [hml]; rfl) (lenOf pd_128700058 rfl) rfl (by show 2 * 0 + _ ≤ _; exact Nat.le_of_eq rfl) (Jvm.hb hby d14_32) (by decide) (by decide) (fun v4_ T4_ vm4_ h4_ q4_ C4_ w4_ => ?_)
    obtain ⟨rfl, rfl⟩ := q4_
    have A4_ := own_at w4_
    show own_WP p e _ below s Z _ n0 _ T4_ (mkF m 35 #[.val (.ref ca), .val (.int (0 : Int32)), .val (.int (1 : Int32)), .val (.ref a1_), .val (.int (0 : Int32)), .val (.ref a)] [(.int c0)])
    refine own_by (T' := T4_) (g' := (mkF m 38 #[.val (.ref ca), .val (.int (0 : Int32)), .val (.int (1 : Int32)), .val (.ref a1_), .val (.int (0 : Int32)), .val (.ref a)] [(.int (255 : Int32)), (.int c0)])) (fun t_ hr_ => XS.sipush A4_ hx rfl (Jvm.hb hby d14_35) hr_) ?_
    refine own_by (T' := T4_) (g' := (mkF m 54 #[.val (.ref ca), .val (.int (0 : Int32)), .val (.int (1 : Int32)), .val (.ref a1_), .val (.int (0 : Int32)), .val (.ref a)] [])) (fun t_ hr_ => XS.icmpYes A4_ hx rfl (pc0 := 38) (pc' := 54) rfl (Jvm.hb hby d14_38) rfl (tlt hi0).2.2.1 (by decide) (by decide) hr_) ?_
    refine own_by (T' := T4_) (g' := (mkF m 56 #[.val (.ref ca), .val (.int (0 : Int32)), .val (.int (1 : Int32)), .val (.ref a1_), .val (.int (0 : Int32)), .val (.ref a)] [(.ref a)])) (fun t_ hr_ => XS.aload A4_ hx rfl (Jvm.hb hby d14_54) rfl rfl hr_) ?_
    exact own_retA w4_ hx hEL hlk hret rfl rfl (Jvm.hb hby d14_56) (by decide) (by decide) ⟨_, _, rfl, own_extTrans (own_extK E1_ KC (allS ga0 all0)) E3, Or.inl V3⟩
  · have A2_ := own_at w2_
    show own_WP p e _ below s Z _ n0 _ T2_ (mkF m 12 #[.val (.ref ca), .val (.int (0 : Int32)), .val (.int (1 : Int32)), .val (.ref a1_), .unset, .unset] [(.int (1 : Int32))])
    refine own_by (T' := T2_) (g' := (mkF m 14 #[.val (.ref ca), .val (.int (0 : Int32)), .val (.int (1 : Int32)), .val (.ref a1_), .val (.int (1 : Int32)), .unset] [])) (fun t_ hr_ => XS.istore A2_ hx rfl (Jvm.hb hby d14_12) rfl (l' := #[.val (.ref ca), .val (.int (0 : Int32)), .val (.int (1 : Int32)), .val (.ref a1_), .val (.int (1 : Int32)), .unset]) rfl hr_) ?_
    refine own_by (T' := T2_) (g' := (mkF m 16 #[.val (.ref ca), .val (.int (0 : Int32)), .val (.int (1 : Int32)), .val (.ref a1_), .val (.int (1 : Int32)), .unset] [(.int (1 : Int32))])) (fun t_ hr_ => XS.iload A2_ hx rfl (Jvm.hb hby d14_14) rfl hr_) ?_
    refine own_by (T' := T2_) (g' := (mkF m 17 #[.val (.ref ca), .val (.int (0 : Int32)), .val (.int (1 : Int32)), .val (.ref a1_), .val (.int (1 : Int32)), .unset] [(.int (1 : Int32)), (.int (1 : Int32))])) (fun t_ hr_ => XS.iloadN A2_ hx rfl (Jvm.hb hby d14_16) rfl hr_) ?_
    refine own_by (T' := T2_) (g' := (mkF m 57 #[.val (.ref ca), .val (.int (0 : Int32)), .val (.int (1 : Int32)), .val (.ref a1_), .val (.int (1 : Int32)), .unset] [])) (fun t_ hr_ => XS.icmpYes A2_ hx rfl (pc0 := 17) (pc' := 57) rfl (Jvm.hb hby d14_17) rfl (teq (rfl : (1 : Int32) = (1 : Int32))).1 (by decide) (by decide) hr_) ?_
    refine own_by (T' := T2_) (g' := (mkF m 58 #[.val (.ref ca), .val (.int (0 : Int32)), .val (.int (1 : Int32)), .val (.ref a1_), .val (.int (1 : Int32)), .unset] [(.ref a1_)])) (fun t_ hr_ => XS.aloadN A2_ hx rfl (Jvm.hb hby d14_57) rfl rfl hr_) ?_
    exact own_retA w2_ hx hEL hlk hret rfl rfl (Jvm.hb hby d14_58) (by decide) (by decide) ⟨_, _, rfl, own_extK E1_ KC (allS ga0 all0), Or.inr ⟨VN, hi0⟩⟩

theorem d16_0 : decode jdk_52_method_15_code 0 = .ok (.iload_n 1, 1) := by decide +kernel
theorem d16_1 : decode jdk_52_method_15_code 1 = .ok (.aload_n 0, 1) := by decide +kernel
theorem d16_2 : decode jdk_52_method_15_code 2 = .ok (.arraylength, 1) := by decide +kernel
theorem d16_3 : decode jdk_52_method_15_code 3 = .ok (.isub, 1) := by decide +kernel
theorem d16_4 : decode jdk_52_method_15_code 4 = .ok (.bipush 31, 2) := by decide +kernel
theorem d16_6 : decode jdk_52_method_15_code 6 = .ok (.iushr, 1) := by decide +kernel
theorem d16_7 : decode jdk_52_method_15_code 7 = .ok (.i2b, 1) := by decide +kernel
theorem d16_8 : decode jdk_52_method_15_code 8 = .ok (.ireturn, 1) := by decide +kernel
theorem pn_741215687 : plainFor (⟨"java/lang/StringUTF16", "coderFromArrayLen", "([BI)B"⟩ : MethodName) = true := by first | exact plainFor_of_name (by first | (simp [plainName, overriddenIn]; done) | decide +kernel) | decide +kernel
theorem ef_ctCo1_1 (m : MethodId) (x0 : Addr) (x1 : Int32) : entryFrame m #[(.ref x0), (.int x1)] 2 = mkF m 0 #[.val (.ref x0), .val (.int x1)] [] := by first | (simp [entryFrame, mkF, argsToLocals, Value.category]; done) | rfl
set_option maxRecDepth 65536 in
set_option maxHeartbeats 40000000 in
theorem ctCo1_1 (l : Launch) (Z : State) (a0 : Array Value) (hw : ∀ d ∈ tables_1, d.before a0 Z = true) (n0 : Nat) (h0 : Heap) (O0 : Old Z n0 h0) (a : Addr) (k : ClassId) (vs : List Value) (V : Arv Z h0 a k .byte (2 : Int32) vs (.int 0)) :
    own_Ct l (⟨"java/lang/StringUTF16", "coderFromArrayLen", "([BI)B"⟩ : MethodName) jdk_52_method_15_code 2 (some .byte) ({ frames := 0, cells := 0, slots := 0, locals := 0 } : Room) Z consts_1 n0 #[(.ref a), (.int (1 : Int32))] h0 [] (fun v h => v = some (.int 1) ∧ h0 = h) := by
  have hEL := own_EL hw
  refine own_body pn_741215687 O0 (fun p e s m below meth cc_ T0 vm0 hx hby hml0 hret hlk hnm hsf w0 => ?_)
  have hml : cc_.maxLocals = 2 := hml0
  have A_0 := own_at w0
  refine own_entry (ef_ctCo1_1 m a (1 : Int32)) ?_
  refine own_by (T' := T0) (g' := (mkF m 1 #[.val (.ref a), .val (.int (1 : Int32))] [(.int (1 : Int32))])) (fun t_ hr_ => XS.iloadN A_0 hx rfl (Jvm.hb hby d16_0) rfl hr_) ?_
  refine own_by (T' := T0) (g' := (mkF m 2 #[.val (.ref a), .val (.int (1 : Int32))] [(.ref a), (.int (1 : Int32))])) (fun t_ hr_ => XS.aloadN A_0 hx rfl (Jvm.hb hby d16_1) rfl rfl hr_) ?_
  refine own_alen w0 hx V (g := (mkF m 2 #[.val (.ref a), .val (.int (1 : Int32))] [(.ref a), (.int (1 : Int32))])) rfl rfl (Jvm.hb hby d16_2) ?_
  show own_WP p e _ below s Z _ n0 _ T0 (mkF m 3 #[.val (.ref a), .val (.int (1 : Int32))] [(.int (2 : Int32)), (.int (1 : Int32))])
  refine own_by (T' := T0) (g' := (mkF m 4 #[.val (.ref a), .val (.int (1 : Int32))] [(.int ((1 : Int32) - (2 : Int32)))])) (fun t_ hr_ => XS.isub A_0 hx rfl (Jvm.hb hby d16_3) rfl hr_) ?_
  refine own_by (T' := T0) (g' := (mkF m 6 #[.val (.ref a), .val (.int (1 : Int32))] [(.int (31 : Int32)), (.int ((1 : Int32) - (2 : Int32)))])) (fun t_ hr_ => XS.bipush A_0 hx rfl (Jvm.hb hby d16_4) hr_) ?_
  refine own_by (T' := T0) (g' := (mkF m 7 #[.val (.ref a), .val (.int (1 : Int32))] [(.int ((((1 : Int32) - (2 : Int32)).toUInt32 >>> ((31 : Int32) &&& 31).toUInt32).toInt32))])) (fun t_ hr_ => XS.iushr A_0 hx rfl (Jvm.hb hby d16_6) rfl hr_) ?_
  refine own_by (T' := T0) (g' := (mkF m 8 #[.val (.ref a), .val (.int (1 : Int32))] [(.int (((((1 : Int32) - (2 : Int32)).toUInt32 >>> ((31 : Int32) &&& 31).toUInt32).toInt32).toInt8.toInt32))])) (fun t_ hr_ => XS.i2b A_0 hx rfl (Jvm.hb hby d16_7) rfl hr_) ?_
  rw [show (((((1 : Int32) - (2 : Int32)).toUInt32 >>> ((31 : Int32) &&& 31).toUInt32).toInt32).toInt8.toInt32) = (1 : Int32) from (by decide)]
  show own_WP p e _ below s Z _ n0 _ T0 (mkF m 8 #[.val (.ref a), .val (.int (1 : Int32))] [(.int (1 : Int32))])
  exact own_retB w0 hx hEL hlk hret rfl (Jvm.hb hby d16_8) (by decide) (by decide) ⟨rfl, rfl⟩

theorem ef_ctCo1_0 (m : MethodId) (x0 : Addr) (x1 : Int32) : entryFrame m #[(.ref x0), (.int x1)] 2 = mkF m 0 #[.val (.ref x0), .val (.int x1)] [] := by first | (simp [entryFrame, mkF, argsToLocals, Value.category]; done) | rfl
set_option maxRecDepth 65536 in
set_option maxHeartbeats 40000000 in
theorem ctCo1_0 (l : Launch) (Z : State) (a0 : Array Value) (hw : ∀ d ∈ tables_1, d.before a0 Z = true) (n0 : Nat) (h0 : Heap) (O0 : Old Z n0 h0) (a : Addr) (k : ClassId) (vs : List Value) (V : Arv Z h0 a k .byte (1 : Int32) vs (.int 0)) :
    own_Ct l (⟨"java/lang/StringUTF16", "coderFromArrayLen", "([BI)B"⟩ : MethodName) jdk_52_method_15_code 2 (some .byte) ({ frames := 0, cells := 0, slots := 0, locals := 0 } : Room) Z consts_1 n0 #[(.ref a), (.int (1 : Int32))] h0 [] (fun v h => v = some (.int 0) ∧ h0 = h) := by
  have hEL := own_EL hw
  refine own_body pn_741215687 O0 (fun p e s m below meth cc_ T0 vm0 hx hby hml0 hret hlk hnm hsf w0 => ?_)
  have hml : cc_.maxLocals = 2 := hml0
  have A_0 := own_at w0
  refine own_entry (ef_ctCo1_0 m a (1 : Int32)) ?_
  refine own_by (T' := T0) (g' := (mkF m 1 #[.val (.ref a), .val (.int (1 : Int32))] [(.int (1 : Int32))])) (fun t_ hr_ => XS.iloadN A_0 hx rfl (Jvm.hb hby d16_0) rfl hr_) ?_
  refine own_by (T' := T0) (g' := (mkF m 2 #[.val (.ref a), .val (.int (1 : Int32))] [(.ref a), (.int (1 : Int32))])) (fun t_ hr_ => XS.aloadN A_0 hx rfl (Jvm.hb hby d16_1) rfl rfl hr_) ?_
  refine own_alen w0 hx V (g := (mkF m 2 #[.val (.ref a), .val (.int (1 : Int32))] [(.ref a), (.int (1 : Int32))])) rfl rfl (Jvm.hb hby d16_2) ?_
  show own_WP p e _ below s Z _ n0 _ T0 (mkF m 3 #[.val (.ref a), .val (.int (1 : Int32))] [(.int (1 : Int32)), (.int (1 : Int32))])
  refine own_by (T' := T0) (g' := (mkF m 4 #[.val (.ref a), .val (.int (1 : Int32))] [(.int ((1 : Int32) - (1 : Int32)))])) (fun t_ hr_ => XS.isub A_0 hx rfl (Jvm.hb hby d16_3) rfl hr_) ?_
  refine own_by (T' := T0) (g' := (mkF m 6 #[.val (.ref a), .val (.int (1 : Int32))] [(.int (31 : Int32)), (.int ((1 : Int32) - (1 : Int32)))])) (fun t_ hr_ => XS.bipush A_0 hx rfl (Jvm.hb hby d16_4) hr_) ?_
  refine own_by (T' := T0) (g' := (mkF m 7 #[.val (.ref a), .val (.int (1 : Int32))] [(.int ((((1 : Int32) - (1 : Int32)).toUInt32 >>> ((31 : Int32) &&& 31).toUInt32).toInt32))])) (fun t_ hr_ => XS.iushr A_0 hx rfl (Jvm.hb hby d16_6) rfl hr_) ?_
  refine own_by (T' := T0) (g' := (mkF m 8 #[.val (.ref a), .val (.int (1 : Int32))] [(.int (((((1 : Int32) - (1 : Int32)).toUInt32 >>> ((31 : Int32) &&& 31).toUInt32).toInt32).toInt8.toInt32))])) (fun t_ hr_ => XS.i2b A_0 hx rfl (Jvm.hb hby d16_7) rfl hr_) ?_
  rw [show (((((1 : Int32) - (1 : Int32)).toUInt32 >>> ((31 : Int32) &&& 31).toUInt32).toInt32).toInt8.toInt32) = (0 : Int32) from (by decide)]
  show own_WP p e _ below s Z _ n0 _ T0 (mkF m 8 #[.val (.ref a), .val (.int (1 : Int32))] [(.int (0 : Int32))])
  exact own_retB w0 hx hEL hlk hret rfl (Jvm.hb hby d16_8) (by decide) (by decide) ⟨rfl, rfl⟩

theorem d2_27 : decode jdk_42_method_149_code 27 = .ok (.getstatic 38, 3) := by decide +kernel
theorem d2_30 : decode jdk_42_method_149_code 30 = .ok (.ifCond .eq 28, 3) := by decide +kernel
theorem d2_33 : decode jdk_42_method_149_code 33 = .ok (.aload_n 1, 1) := by decide +kernel
theorem d2_34 : decode jdk_42_method_149_code 34 = .ok (.iload_n 2, 1) := by decide +kernel
theorem d2_35 : decode jdk_42_method_149_code 35 = .ok (.iload_n 3, 1) := by decide +kernel
theorem d2_36 : decode jdk_42_method_149_code 36 = .ok (.invokestatic 177, 3) := by decide +kernel
theorem d2_39 : decode jdk_42_method_149_code 39 = .ok (.astore 5, 2) := by decide +kernel
theorem d2_41 : decode jdk_42_method_149_code 41 = .ok (.aload_n 0, 1) := by decide +kernel
theorem d2_42 : decode jdk_42_method_149_code 42 = .ok (.aload 5, 2) := by decide +kernel
theorem d2_44 : decode jdk_42_method_149_code 44 = .ok (.iload_n 3, 1) := by decide +kernel
theorem d2_45 : decode jdk_42_method_149_code 45 = .ok (.invokestatic 47, 3) := by decide +kernel
theorem pd_128700057 : parseMethodDescriptor "([BI)B" = some ⟨[(.array .byte), .int], some .byte⟩ := by decide +kernel
theorem d2_48 : decode jdk_42_method_149_code 48 = .ok (.putfield 15, 3) := by decide +kernel
theorem d2_51 : decode jdk_42_method_149_code 51 = .ok (.aload_n 0, 1) := by decide +kernel
theorem d2_52 : decode jdk_42_method_149_code 52 = .ok (.aload 5, 2) := by decide +kernel
theorem d2_54 : decode jdk_42_method_149_code 54 = .ok (.putfield 9, 3) := by decide +kernel
theorem d2_57 : decode jdk_42_method_149_code 57 = .ok (.return_, 1) := by decide +kernel
theorem ef_ctNew4w1 (m : MethodId) (x0 : Addr) (x1 : Addr) (x2 : Int32) (x3 : Int32) : entryFrame m #[(.ref x0), (.ref x1), (.int x2), (.int x3), .null] 6 = mkF m 0 #[.val (.ref x0), .val (.ref x1), .val (.int x2), .val (.int x3), .val .null, .unset] [] := by first | (simp [entryFrame, mkF, argsToLocals, Value.category]; done) | rfl
set_option maxRecDepth 65536 in
set_option maxHeartbeats 40000000 in
theorem ctNew4w1 (l : Launch) (Z : State) (a0 : Array Value) (hw : ∀ d ∈ tables_1, d.before a0 Z = true) (SC : own_SC Z) (US : own_US Z) (n0 : Nat) (h0 : Heap) (O0 : Old Z n0 h0) (x ca : Addr) (kC : ClassId) (c0 : Int32) (F0 : own_Raw Z h0 x) (VC : Arv Z h0 ca kC .char (1 : Int32) [(.int c0)] (.int 0)) (gx : n0 ≤ x) (r0 : ¬ c0 < 0 ∧ ¬ (65535 : Int32) < c0) :
    own_Ct l (⟨"java/lang/String", "<init>", "([CIILjava/lang/Void;)V"⟩ : MethodName) jdk_42_method_149_code 6 none ({ frames := 4, cells := 2, slots := 3, locals := 57 } : Room) Z consts_1 n0 #[(.ref x), (.ref ca), (.int (0 : Int32)), (.int (1 : Int32)), .null] h0 [] (fun v h => v = none ∧ Keep h0 h [x] ∧ own_Any Z h x [c0]) := by
  have hEL := own_EL hw
  refine own_body pn_592151507 O0 (fun p e s m below meth cc_ T0 vm0 hx hby hml0 hret hlk hnm hsf w0 => ?_)
  have hml : cc_.maxLocals = 6 := hml0
  have A_0 := own_at w0
  refine own_entry (ef_ctNew4w1 m x ca (0 : Int32) (1 : Int32)) ?_
  obtain ⟨zc, Sz, hz⟩ := SC
  refine own_by (T' := T0) (g' := (mkF m 1 #[.val (.ref x), .val (.ref ca), .val (.int (0 : Int32)), .val (.int (1 : Int32)), .val .null, .unset] [(.ref x)])) (fun t_ hr_ => XS.aloadN A_0 hx rfl (Jvm.hb hby d2_0) rfl rfl hr_) ?_
  refine own_initO w0 hx (hw _ (List.mem_of_getElem? (i := 13) rfl)) (hw _ (List.mem_of_getElem? (i := 14) rfl)) (hw _ (List.mem_of_getElem? (i := 15) rfl)) (g := (mkF m 1 #[.val (.ref x), .val (.ref ca), .val (.int (0 : Int32)), .val (.int (1 : Int32)), .val .null, .unset] [(.ref x)])) rfl (by rw [hml]; rfl) rfl (Jvm.hb hby d2_1) (by decide) (W := 0) (by show 2 * 0 + _ ≤ _; exact Nat.le_of_eq rfl) (by decide) (fun T1_ w1_ => ?_)
  have A1_ := own_at w1_
  show own_WP p e _ below s Z _ n0 _ T1_ (mkF m 4 #[.val (.ref x), .val (.ref ca), .val (.int (0 : Int32)), .val (.int (1 : Int32)), .val .null, .unset] [])
  refine own_by (T' := T1_) (g' := (mkF m 5 #[.val (.ref x), .val (.ref ca), .val (.int (0 : Int32)), .val (.int (1 : Int32)), .val .null, .unset] [(.int (1 : Int32))])) (fun t_ hr_ => XS.iloadN A1_ hx rfl (Jvm.hb hby d2_4) rfl hr_) ?_
  refine own_by (T' := T1_) (g' := (mkF m 27 #[.val (.ref x), .val (.ref ca), .val (.int (0 : Int32)), .val (.int (1 : Int32)), .val .null, .unset] [])) (fun t_ hr_ => XS.ifYes A1_ hx rfl (pc0 := 5) (pc' := 27) rfl (Jvm.hb hby d2_5) rfl ((if0 _ _).trans (feq (by decide)).2) (by decide) (by decide) hr_) ?_
  refine own_getS w1_ hx (hw _ (List.mem_of_getElem? (i := 43) rfl)) (Sz.ext O0.2) (g := (mkF m 27 #[.val (.ref x), .val (.ref ca), .val (.int (0 : Int32)), .val (.int (1 : Int32)), .val .null, .unset] [])) rfl (Jvm.hb hby d2_27) (fun T2_ w2_ => ?_)
  have A2_ := own_at w2_
  show own_WP p e _ below s Z _ n0 _ T2_ (mkF m 30 #[.val (.ref x), .val (.ref ca), .val (.int (0 : Int32)), .val (.int (1 : Int32)), .val .null, .unset] [(.int zc)])
  refine own_by (T' := T2_) (g' := (mkF m 33 #[.val (.ref x), .val (.ref ca), .val (.int (0 : Int32)), .val (.int (1 : Int32)), .val .null, .unset] [])) (fun t_ hr_ => XS.ifNo A2_ hx rfl (Jvm.hb hby d2_30) rfl ((if0 _ _).trans (feq hz).1) hr_) ?_
  refine own_by (T' := T2_) (g' := (mkF m 34 #[.val (.ref x), .val (.ref ca), .val (.int (0 : Int32)), .val (.int (1 : Int32)), .val .null, .unset] [(.ref ca)])) (fun t_ hr_ => XS.aloadN A2_ hx rfl (Jvm.hb hby d2_33) rfl rfl hr_) ?_
  refine own_by (T' := T2_) (g' := (mkF m 35 #[.val (.ref x), .val (.ref ca), .val (.int (0 : Int32)), .val (.int (1 : Int32)), .val .null, .unset] [(.int (0 : Int32)), (.ref ca)])) (fun t_ hr_ => XS.iloadN A2_ hx rfl (Jvm.hb hby d2_34) rfl hr_) ?_
  refine own_by (T' := T2_) (g' := (mkF m 36 #[.val (.ref x), .val (.ref ca), .val (.int (0 : Int32)), .val (.int (1 : Int32)), .val .null, .unset] [(.int (1 : Int32)), (.int (0 : Int32)), (.ref ca)])) (fun t_ hr_ => XS.iloadN A2_ hx rfl (Jvm.hb hby d2_35) rfl hr_) ?_
  refine own_callS w2_ hx (y := (⟨"java/lang/StringUTF16", "compress", "([CII)[B"⟩ : MethodName)) (hw _ (List.mem_of_getElem? (i := 68) rfl)) (hw _ (List.mem_of_getElem? (i := 69) rfl)) (hw _ (List.mem_of_getElem? (i := 70) rfl)) (hw _ (List.mem_of_getElem? (i := 71) rfl)) (by decide) (kc := 2) (ks := 3) (argsL := [(.ref ca), (.int (0 : Int32)), (.int (1 : Int32))]) (rest := []) (own_payCt (W := 0) (ctC31 l Z a0 hw US n0 h0 (own_old w2_) ca kC c0 VC r0) w2_ (hw _ (List.mem_of_getElem? (i := 71) rfl)) (hw _ (List.mem_of_getElem? (i := 70) rfl)) hEL (by decide) (by decide)) (g := (mkF m 36 #[.val (.ref x), .val (.ref ca), .val (.int (0 : Int32)), .val (.int (1 : Int32)), .val .null, .unset] [(.int (1 : Int32)), (.int (0 : Int32)), (.ref ca)])) rfl (by rw [hml]; rfl) (lenOf pd_272673973 rfl) rfl (by show 2 * 0 + _ ≤ _; exact Nat.le_of_eq rfl) (Jvm.hb hby d2_36) (by decide) (by decide) (fun v3_ T3_ vm3_ h3_ q3_ C3_ w3_ => ?_)
  obtain ⟨t, kt, rfl, E1, V1⟩ := q3_
  have A3_ := own_at w3_
  show own_WP p e _ below s Z _ n0 _ T3_ (mkF m 39 #[.val (.ref x), .val (.ref ca), .val (.int (0 : Int32)), .val (.int (1 : Int32)), .val .null, .unset] [(.ref t)])
  refine own_by (T' := T3_) (g' := (mkF m 41 #[.val (.ref x), .val (.ref ca), .val (.int (0 : Int32)), .val (.int (1 : Int32)), .val .null, .val (.ref t)] [])) (fun t_ hr_ => XS.astore A3_ hx rfl (Jvm.hb hby d2_39) rfl rfl (l' := #[.val (.ref x), .val (.ref ca), .val (.int (0 : Int32)), .val (.int (1 : Int32)), .val .null, .val (.ref t)]) rfl hr_) ?_
  refine own_by (T' := T3_) (g' := (mkF m 42 #[.val (.ref x), .val (.ref ca), .val (.int (0 : Int32)), .val (.int (1 : Int32)), .val .null, .val (.ref t)] [(.ref x)])) (fun t_ hr_ => XS.aloadN A3_ hx rfl (Jvm.hb hby d2_41) rfl rfl hr_) ?_
  refine own_by (T' := T3_) (g' := (mkF m 44 #[.val (.ref x), .val (.ref ca), .val (.int (0 : Int32)), .val (.int (1 : Int32)), .val .null, .val (.ref t)] [(.ref t), (.ref x)])) (fun t_ hr_ => XS.aload A3_ hx rfl (Jvm.hb hby d2_42) rfl rfl hr_) ?_
  refine own_by (T' := T3_) (g' := (mkF m 45 #[.val (.ref x), .val (.ref ca), .val (.int (0 : Int32)), .val (.int (1 : Int32)), .val .null, .val (.ref t)] [(.int (1 : Int32)), (.ref t), (.ref x)])) (fun t_ hr_ => XS.iloadN A3_ hx rfl (Jvm.hb hby d2_44) rfl hr_) ?_
  have R1 := F0.ext E1
  rcases V1 with V1 | ⟨V1, hal⟩
  · refine own_callS w3_ hx (y := (⟨"java/lang/StringUTF16", "coderFromArrayLen", "([BI)B"⟩ : MethodName)) (hw _ (List.mem_of_getElem? (i := 75) rfl)) (hw _ (List.mem_of_getElem? (i := 76) rfl)) (hw _ (List.mem_of_getElem? (i := 70) rfl)) (hw _ (List.mem_of_getElem? (i := 77) rfl)) (by decide) (kc := 0) (ks := 0) (argsL := [(.ref t), (.int (1 : Int32))]) (rest := [(.ref x)]) (own_payCt (W := 1) (ctCo1_1 l Z a0 hw n0 h3_ (own_old w3_) t kt _ V1) w3_ (hw _ (List.mem_of_getElem? (i := 77) rfl)) (hw _ (List.mem_of_getElem? (i := 70) rfl)) hEL (by decide) (by decide)) (g := (mkF m 45 #[.val (.ref x), .val (.ref ca), .val (.int (0 : Int32)), .val (.int (1 : Int32)), .val .null, .val (.ref t)] [(.int (1 : Int32)), (.ref t), (.ref x)])) rfl (by rw [hml]; rfl) (lenOf pd_128700057 rfl) rfl (by show 2 * 0 + _ ≤ _; exact Nat.le_of_eq rfl) (Jvm.hb hby d2_45) (by decide) (by decide) (fun v4_ T4_ vm4_ h4_ q4_ C4_ w4_ => ?_)
    obtain ⟨rfl, rfl⟩ := q4_
    have A4_ := own_at w4_
    show own_WP p e _ below s Z _ n0 _ T4_ (mkF m 48 #[.val (.ref x), .val (.ref ca), .val (.int (0 : Int32)), .val (.int (1 : Int32)), .val .null, .val (.ref t)] [(.int (1 : Int32)), (.ref x)])
    have ne1 : x ≠ t := R1.1.neArv V1 (hw _ (List.mem_of_getElem? (i := 4) rfl))
    have Sf1 : Safe Z consts_1 vm4_ h3_ x := R1.safe (own_hZ w4_).alike
    refine own_putF w4_ hx (hw _ (List.mem_of_getElem? (i := 23) rfl)) R1.2.2 R1.1 (Or.inr ⟨(hw _ (List.mem_of_getElem? (i := 19) rfl)), rfl, hnm⟩) (hw _ (List.mem_of_getElem? (i := 4) rfl)) (ty := .byte) (by decide) rfl rfl gx Sf1 (g := (mkF m 48 #[.val (.ref x), .val (.ref ca), .val (.int (0 : Int32)), .val (.int (1 : Int32)), .val .null, .val (.ref t)] [(.int (1 : Int32)), (.ref x)])) rfl rfl (Jvm.hb hby d2_48) (fun T5_ h5_ W5_ w5_ => ?_)
    have A5_ := own_at w5_
    show own_WP p e _ below s Z _ n0 _ T5_ (mkF m 51 #[.val (.ref x), .val (.ref ca), .val (.int (0 : Int32)), .val (.int (1 : Int32)), .val .null, .val (.ref t)] [])
    refine own_by (T' := T5_) (g' := (mkF m 52 #[.val (.ref x), .val (.ref ca), .val (.int (0 : Int32)), .val (.int (1 : Int32)), .val .null, .val (.ref t)] [(.ref x)])) (fun t_ hr_ => XS.aloadN A5_ hx rfl (Jvm.hb hby d2_51) rfl rfl hr_) ?_
    refine own_by (T' := T5_) (g' := (mkF m 54 #[.val (.ref x), .val (.ref ca), .val (.int (0 : Int32)), .val (.int (1 : Int32)), .val .null, .val (.ref t)] [(.ref t), (.ref x)])) (fun t_ hr_ => XS.aload A5_ hx rfl (Jvm.hb hby d2_52) rfl rfl hr_) ?_
    have X2 := R1.1.wr W5_
    have Sf2 : Safe Z consts_1 vm4_ h5_ x := Safe.wr W5_ Sf1 (own_chv w4_) Sf1
    have D2 := R1.2.2.same W5_
    have V2 := R1.2.1.other W5_ (Or.inr (slot_ne (Or.inr (hw _ (List.mem_of_getElem? (i := 18) rfl))) (Or.inr (hw _ (List.mem_of_getElem? (i := 19) rfl))) (by decide) rfl rfl))
    have Y2 := V1.other W5_ (Ne.symm ne1)
    refine own_putF w5_ hx (hw _ (List.mem_of_getElem? (i := 22) rfl)) V2 X2 (Or.inr ⟨(hw _ (List.mem_of_getElem? (i := 18) rfl)), rfl, hnm⟩) (hw _ (List.mem_of_getElem? (i := 4) rfl)) (ty := (.array .byte)) (by decide) rfl rfl gx Sf2 (g := (mkF m 54 #[.val (.ref x), .val (.ref ca), .val (.int (0 : Int32)), .val (.int (1 : Int32)), .val .null, .val (.ref t)] [(.ref t), (.ref x)])) rfl rfl (Jvm.hb hby d2_54) (fun T6_ h6_ W6_ w6_ => ?_)
    have A6_ := own_at w6_
    show own_WP p e _ below s Z _ n0 _ T6_ (mkF m 57 #[.val (.ref x), .val (.ref ca), .val (.int (0 : Int32)), .val (.int (1 : Int32)), .val .null, .val (.ref t)] [])
    exact own_retV w6_ hx hEL hlk hret (Jvm.hb hby d2_57) (by decide) (by decide) ⟨rfl, ((((Keep.refl h0 [x]).ext E1).wr W5_ (Or.inl (List.mem_of_getElem? (i := 0) rfl))).wr W6_ (Or.inl (List.mem_of_getElem? (i := 0) rfl))), Or.inr ⟨X2.wr W6_, D2.other W6_ (Or.inr (slot_ne (Or.inr (hw _ (List.mem_of_getElem? (i := 19) rfl))) (Or.inr (hw _ (List.mem_of_getElem? (i := 18) rfl))) (by decide) rfl rfl)), ⟨t, kt, V2.same W6_, Y2.other W6_ (Ne.symm ne1)⟩, (by simp only [List.forall_mem_cons, List.not_mem_nil, false_imp_iff, implies_true, and_true]; exact r0), (by simp)⟩⟩
  · refine own_callS w3_ hx (y := (⟨"java/lang/StringUTF16", "coderFromArrayLen", "([BI)B"⟩ : MethodName)) (hw _ (List.mem_of_getElem? (i := 75) rfl)) (hw _ (List.mem_of_getElem? (i := 76) rfl)) (hw _ (List.mem_of_getElem? (i := 70) rfl)) (hw _ (List.mem_of_getElem? (i := 77) rfl)) (by decide) (kc := 0) (ks := 0) (argsL := [(.ref t), (.int (1 : Int32))]) (rest := [(.ref x)]) (own_payCt (W := 1) (ctCo1_0 l Z a0 hw n0 h3_ (own_old w3_) t kt _ V1) w3_ (hw _ (List.mem_of_getElem? (i := 77) rfl)) (hw _ (List.mem_of_getElem? (i := 70) rfl)) hEL (by decide) (by decide)) (g := (mkF m 45 #[.val (.ref x), .val (.ref ca), .val (.int (0 : Int32)), .val (.int (1 : Int32)), .val .null, .val (.ref t)] [(.int (1 : Int32)), (.ref t), (.ref x)])) rfl (by rw [hml]; rfl) (lenOf pd_128700057 rfl) rfl (by show 2 * 0 + _ ≤ _; exact Nat.le_of_eq rfl) (Jvm.hb hby d2_45) (by decide) (by decide) (fun v7_ T7_ vm7_ h7_ q7_ C7_ w7_ => ?_)
    obtain ⟨rfl, rfl⟩ := q7_
    have A7_ := own_at w7_
    show own_WP p e _ below s Z _ n0 _ T7_ (mkF m 48 #[.val (.ref x), .val (.ref ca), .val (.int (0 : Int32)), .val (.int (1 : Int32)), .val .null, .val (.ref t)] [(.int (0 : Int32)), (.ref x)])
    have ne1 : x ≠ t := R1.1.neArv V1 (hw _ (List.mem_of_getElem? (i := 4) rfl))
    have Sf1 : Safe Z consts_1 vm7_ h3_ x := R1.safe (own_hZ w7_).alike
    refine own_putF w7_ hx (hw _ (List.mem_of_getElem? (i := 23) rfl)) R1.2.2 R1.1 (Or.inr ⟨(hw _ (List.mem_of_getElem? (i := 19) rfl)), rfl, hnm⟩) (hw _ (List.mem_of_getElem? (i := 4) rfl)) (ty := .byte) (by decide) rfl rfl gx Sf1 (g := (mkF m 48 #[.val (.ref x), .val (.ref ca), .val (.int (0 : Int32)), .val (.int (1 : Int32)), .val .null, .val (.ref t)] [(.int (0 : Int32)), (.ref x)])) rfl rfl (Jvm.hb hby d2_48) (fun T8_ h8_ W8_ w8_ => ?_)
    have A8_ := own_at w8_
    show own_WP p e _ below s Z _ n0 _ T8_ (mkF m 51 #[.val (.ref x), .val (.ref ca), .val (.int (0 : Int32)), .val (.int (1 : Int32)), .val .null, .val (.ref t)] [])
    refine own_by (T' := T8_) (g' := (mkF m 52 #[.val (.ref x), .val (.ref ca), .val (.int (0 : Int32)), .val (.int (1 : Int32)), .val .null, .val (.ref t)] [(.ref x)])) (fun t_ hr_ => XS.aloadN A8_ hx rfl (Jvm.hb hby d2_51) rfl rfl hr_) ?_
    refine own_by (T' := T8_) (g' := (mkF m 54 #[.val (.ref x), .val (.ref ca), .val (.int (0 : Int32)), .val (.int (1 : Int32)), .val .null, .val (.ref t)] [(.ref t), (.ref x)])) (fun t_ hr_ => XS.aload A8_ hx rfl (Jvm.hb hby d2_52) rfl rfl hr_) ?_
    have X2 := R1.1.wr W8_
    have Sf2 : Safe Z consts_1 vm7_ h8_ x := Safe.wr W8_ Sf1 (own_chv w7_) Sf1
    have D2 := R1.2.2.same W8_
    have V2 := R1.2.1.other W8_ (Or.inr (slot_ne (Or.inr (hw _ (List.mem_of_getElem? (i := 18) rfl))) (Or.inr (hw _ (List.mem_of_getElem? (i := 19) rfl))) (by decide) rfl rfl))
    have Y2 := V1.other W8_ (Ne.symm ne1)
    refine own_putF w8_ hx (hw _ (List.mem_of_getElem? (i := 22) rfl)) V2 X2 (Or.inr ⟨(hw _ (List.mem_of_getElem? (i := 18) rfl)), rfl, hnm⟩) (hw _ (List.mem_of_getElem? (i := 4) rfl)) (ty := (.array .byte)) (by decide) rfl rfl gx Sf2 (g := (mkF m 54 #[.val (.ref x), .val (.ref ca), .val (.int (0 : Int32)), .val (.int (1 : Int32)), .val .null, .val (.ref t)] [(.ref t), (.ref x)])) rfl rfl (Jvm.hb hby d2_54) (fun T9_ h9_ W9_ w9_ => ?_)
    have A9_ := own_at w9_
    show own_WP p e _ below s Z _ n0 _ T9_ (mkF m 57 #[.val (.ref x), .val (.ref ca), .val (.int (0 : Int32)), .val (.int (1 : Int32)), .val .null, .val (.ref t)] [])
    exact own_retV w9_ hx hEL hlk hret (Jvm.hb hby d2_57) (by decide) (by decide) ⟨rfl, ((((Keep.refl h0 [x]).ext E1).wr W8_ (Or.inl (List.mem_of_getElem? (i := 0) rfl))).wr W9_ (Or.inl (List.mem_of_getElem? (i := 0) rfl))), Or.inl ⟨X2.wr W9_, D2.other W9_ (Or.inr (slot_ne (Or.inr (hw _ (List.mem_of_getElem? (i := 19) rfl))) (Or.inr (hw _ (List.mem_of_getElem? (i := 18) rfl))) (by decide) rfl rfl)), ⟨t, kt, V2.same W9_, Y2.other W9_ (Ne.symm ne1)⟩, (by simp only [List.forall_mem_cons, List.not_mem_nil, false_imp_iff, implies_true, and_true]; exact ⟨r0.1, hal⟩), (by simp)⟩⟩

theorem ef_ctNew1w1 (m : MethodId) (x0 : Addr) (x1 : Addr) : entryFrame m #[(.ref x0), (.ref x1)] 2 = mkF m 0 #[.val (.ref x0), .val (.ref x1)] [] := by first | (simp [entryFrame, mkF, argsToLocals, Value.category]; done) | rfl
set_option maxRecDepth 65536 in
set_option maxHeartbeats 40000000 in
theorem ctNew1w1 (l : Launch) (Z : State) (a0 : Array Value) (hw : ∀ d ∈ tables_1, d.before a0 Z = true) (SC : own_SC Z) (US : own_US Z) (n0 : Nat) (h0 : Heap) (O0 : Old Z n0 h0) (x ca : Addr) (kC : ClassId) (c0 : Int32) (F0 : own_Raw Z h0 x) (VC : Arv Z h0 ca kC .char (1 : Int32) [(.int c0)] (.int 0)) (gx : n0 ≤ x) (r0 : ¬ c0 < 0 ∧ ¬ (65535 : Int32) < c0) :
    own_Ct l (⟨"java/lang/String", "<init>", "([C)V"⟩ : MethodName) jdk_42_method_3_code 2 none ({ frames := 5, cells := 2, slots := 3, locals := 74 } : Room) Z consts_1 n0 #[(.ref x), (.ref ca)] h0 [] (fun v h => v = none ∧ Keep h0 h [x] ∧ own_Any Z h x [c0]) := by
  have hEL := own_EL hw
  refine own_body pn_399269609 O0 (fun p e s m below meth cc_ T0 vm0 hx hby hml0 hret hlk hnm hsf w0 => ?_)
  have hml : cc_.maxLocals = 2 := hml0
  have A_0 := own_at w0
  refine own_entry (ef_ctNew1w1 m x ca) ?_
  refine own_by (T' := T0) (g' := (mkF m 1 #[.val (.ref x), .val (.ref ca)] [(.ref x)])) (fun t_ hr_ => XS.aloadN A_0 hx rfl (Jvm.hb hby d1_0) rfl rfl hr_) ?_
  refine own_by (T' := T0) (g' := (mkF m 2 #[.val (.ref x), .val (.ref ca)] [(.ref ca), (.ref x)])) (fun t_ hr_ => XS.aloadN A_0 hx rfl (Jvm.hb hby d1_1) rfl rfl hr_) ?_
  refine own_by (T' := T0) (g' := (mkF m 3 #[.val (.ref x), .val (.ref ca)] [(.int (0 : Int32)), (.ref ca), (.ref x)])) (fun t_ hr_ => XS.iconst A_0 hx rfl (Jvm.hb hby d1_2) hr_) ?_
  refine own_by (T' := T0) (g' := (mkF m 4 #[.val (.ref x), .val (.ref ca)] [(.ref ca), (.int (0 : Int32)), (.ref ca), (.ref x)])) (fun t_ hr_ => XS.aloadN A_0 hx rfl (Jvm.hb hby d1_3) rfl rfl hr_) ?_
  refine own_alen w0 hx VC (g := (mkF m 4 #[.val (.ref x), .val (.ref ca)] [(.ref ca), (.int (0 : Int32)), (.ref ca), (.ref x)])) rfl rfl (Jvm.hb hby d1_4) ?_
  show own_WP p e _ below s Z _ n0 _ T0 (mkF m 5 #[.val (.ref x), .val (.ref ca)] [(.int (1 : Int32)), (.int (0 : Int32)), (.ref ca), (.ref x)])
  refine own_by (T' := T0) (g' := (mkF m 6 #[.val (.ref x), .val (.ref ca)] [.null, (.int (1 : Int32)), (.int (0 : Int32)), (.ref ca), (.ref x)])) (fun t_ hr_ => XS.aconstNull A_0 hx rfl (Jvm.hb hby d1_5) hr_) ?_
  refine own_callC w0 hx (y := (⟨"java/lang/String", "<init>", "([CIILjava/lang/Void;)V"⟩ : MethodName)) rfl (hw _ (List.mem_of_getElem? (i := 9) rfl)) (hw _ (List.mem_of_getElem? (i := 10) rfl)) (hw _ (List.mem_of_getElem? (i := 12) rfl)) (by decide) (kc := 2) (ks := 3) (a := x) (argsL := [(.ref ca), (.int (0 : Int32)), (.int (1 : Int32)), .null]) (rest := []) (own_payCt (W := 0) (ctNew4w1 l Z a0 hw SC US n0 h0 (own_old w0) x ca kC c0 F0 VC gx r0) w0 (hw _ (List.mem_of_getElem? (i := 12) rfl)) (hw _ (List.mem_of_getElem? (i := 5) rfl)) hEL (by decide) (by decide)) (g := (mkF m 6 #[.val (.ref x), .val (.ref ca)] [.null, (.int (1 : Int32)), (.int (0 : Int32)), (.ref ca), (.ref x)])) rfl (by rw [hml]; rfl) (lenOf pd_677231080 rfl) rfl (by show 2 * 0 + _ ≤ _; exact Nat.le_of_eq rfl) (Jvm.hb hby d1_6) (by decide) (by decide) (fun v1_ T1_ vm1_ h1_ q1_ C1_ w1_ => ?_)
  obtain ⟨rfl, K1, S1⟩ := q1_
  have A1_ := own_at w1_
  show own_WP p e _ below s Z _ n0 _ T1_ (mkF m 9 #[.val (.ref x), .val (.ref ca)] [])
  exact own_retV w1_ hx hEL hlk hret (Jvm.hb hby d1_9) (by decide) (by decide) ⟨rfl, K1, S1⟩

theorem ef_ctNBL2 (m : MethodId) (x0 : Int32) : entryFrame m #[(.int x0)] 1 = mkF m 0 #[.val (.int x0)] [] := by first | (simp [entryFrame, mkF, argsToLocals, Value.category]; done) | rfl
set_option maxRecDepth 65536 in
set_option maxHeartbeats 40000000 in
theorem ctNBL2 (l : Launch) (Z : State) (a0 : Array Value) (hw : ∀ d ∈ tables_1, d.before a0 Z = true) (n0 : Nat) (h0 : Heap) (O0 : Old Z n0 h0)   :
    own_Ct l (⟨"java/lang/StringUTF16", "newBytesLength", "(I)I"⟩ : MethodName) jdk_52_method_3_code 1 (some .int) ({ frames := 0, cells := 0, slots := 0, locals := 0 } : Room) Z consts_1 n0 #[(.int (2 : Int32))] h0 [] (fun v h => v = some (.int 4) ∧ h0 = h) := by
  have hEL := own_EL hw
  refine own_body pn_150479481 O0 (fun p e s m below meth cc_ T0 vm0 hx hby hml0 hret hlk hnm hsf w0 => ?_)
  have hml : cc_.maxLocals = 1 := hml0
  have A_0 := own_at w0
  refine own_entry (ef_ctNBL2 m (2 : Int32)) ?_
  refine own_by (T' := T0) (g' := (mkF m 1 #[.val (.int (2 : Int32))] [(.int (2 : Int32))])) (fun t_ hr_ => XS.iloadN A_0 hx rfl (Jvm.hb hby d20_0) rfl hr_) ?_
  refine own_by (T' := T0) (g' := (mkF m 12 #[.val (.int (2 : Int32))] [])) (fun t_ hr_ => XS.ifYes A_0 hx rfl (pc0 := 1) (pc' := 12) rfl (Jvm.hb hby d20_1) rfl ((if0 _ _).trans (flt (by decide)).2.1) (by decide) (by decide) hr_) ?_
  refine own_by (T' := T0) (g' := (mkF m 13 #[.val (.int (2 : Int32))] [(.int (2 : Int32))])) (fun t_ hr_ => XS.iloadN A_0 hx rfl (Jvm.hb hby d20_12) rfl hr_) ?_
  refine own_ldcI w0 hx (hw _ (List.mem_of_getElem? (i := 90) rfl)) (g := (mkF m 13 #[.val (.int (2 : Int32))] [(.int (2 : Int32))])) rfl (Jvm.hb hby d20_13) ?_
  show own_WP p e _ below s Z _ n0 _ T0 (mkF m 15 #[.val (.int (2 : Int32))] [(.int (1073741823 : Int32)), (.int (2 : Int32))])
  refine own_by (T' := T0) (g' := (mkF m 55 #[.val (.int (2 : Int32))] [])) (fun t_ hr_ => XS.icmpYes A_0 hx rfl (pc0 := 15) (pc' := 55) rfl (Jvm.hb hby d20_15) rfl (tlt (by decide)).1 (by decide) (by decide) hr_) ?_
  refine own_by (T' := T0) (g' := (mkF m 56 #[.val (.int (2 : Int32))] [(.int (2 : Int32))])) (fun t_ hr_ => XS.iloadN A_0 hx rfl (Jvm.hb hby d20_55) rfl hr_) ?_
  refine own_by (T' := T0) (g' := (mkF m 57 #[.val (.int (2 : Int32))] [(.int (1 : Int32)), (.int (2 : Int32))])) (fun t_ hr_ => XS.iconst A_0 hx rfl (Jvm.hb hby d20_56) hr_) ?_
  refine own_by (T' := T0) (g' := (mkF m 58 #[.val (.int (2 : Int32))] [(.int ((2 : Int32) <<< ((1 : Int32) &&& 31)))])) (fun t_ hr_ => XS.ishl A_0 hx rfl (Jvm.hb hby d20_57) rfl hr_) ?_
  rw [show ((2 : Int32) <<< ((1 : Int32) &&& 31)) = (4 : Int32) from (by decide)]
  show own_WP p e _ below s Z _ n0 _ T0 (mkF m 58 #[.val (.int (2 : Int32))] [(.int (4 : Int32))])
  exact own_retI w0 hx hEL hlk hret (Jvm.hb hby d20_58) (by decide) (by decide) ⟨rfl, rfl⟩

theorem ef_ctNBF2 (m : MethodId) (x0 : Int32) : entryFrame m #[(.int x0)] 1 = mkF m 0 #[.val (.int x0)] [] := by first | (simp [entryFrame, mkF, argsToLocals, Value.category]; done) | rfl
set_option maxRecDepth 65536 in
set_option maxHeartbeats 40000000 in
theorem ctNBF2 (l : Launch) (Z : State) (a0 : Array Value) (hw : ∀ d ∈ tables_1, d.before a0 Z = true) (n0 : Nat) (h0 : Heap) (O0 : Old Z n0 h0)   :
    own_Ct l (⟨"java/lang/StringUTF16", "newBytesFor", "(I)[B"⟩ : MethodName) jdk_52_method_2_code 1 (some (.array .byte)) ({ frames := 1, cells := 1, slots := 4, locals := 12 } : Room) Z consts_1 n0 #[(.int (2 : Int32))] h0 [] (fun v h => ∃ a k, v = some (.ref a) ∧ h0.size ≤ a ∧ Ext h0 h ∧ Arv Z h a k .byte (4 : Int32) [(.int (0 : Int32)), (.int (0 : Int32)), (.int (0 : Int32)), (.int (0 : Int32))] (.int 0)) := by
  have hEL := own_EL hw
  refine own_body pn_400072370 O0 (fun p e s m below meth cc_ T0 vm0 hx hby hml0 hret hlk hnm hsf w0 => ?_)
  have hml : cc_.maxLocals = 1 := hml0
  have A_0 := own_at w0
  refine own_entry (ef_ctNBF2 m (2 : Int32)) ?_
  refine own_by (T' := T0) (g' := (mkF m 1 #[.val (.int (2 : Int32))] [(.int (2 : Int32))])) (fun t_ hr_ => XS.iloadN A_0 hx rfl (Jvm.hb hby d19_0) rfl hr_) ?_
  refine own_callS w0 hx (y := (⟨"java/lang/StringUTF16", "newBytesLength", "(I)I"⟩ : MethodName)) (hw _ (List.mem_of_getElem? (i := 87) rfl)) (hw _ (List.mem_of_getElem? (i := 88) rfl)) (hw _ (List.mem_of_getElem? (i := 70) rfl)) (hw _ (List.mem_of_getElem? (i := 89) rfl)) (by decide) (kc := 0) (ks := 0) (argsL := [(.int (2 : Int32))]) (rest := []) (own_payCt (W := 0) (ctNBL2 l Z a0 hw n0 h0 (own_old w0)) w0 (hw _ (List.mem_of_getElem? (i := 89) rfl)) (hw _ (List.mem_of_getElem? (i := 70) rfl)) hEL (by decide) (by decide)) (g := (mkF m 1 #[.val (.int (2 : Int32))] [(.int (2 : Int32))])) rfl (by rw [hml]; rfl) (lenOf pd_91181837 rfl) rfl (by show 2 * 0 + _ ≤ _; exact Nat.le_of_eq rfl) (Jvm.hb hby d19_1) (by decide) (by decide) (fun v1_ T1_ vm1_ h1_ q1_ C1_ w1_ => ?_)
  obtain ⟨rfl, rfl⟩ := q1_
  have A1_ := own_at w1_
  show own_WP p e _ below s Z _ n0 _ T1_ (mkF m 4 #[.val (.int (2 : Int32))] [(.int (4 : Int32))])
  refine own_newP w1_ hx (hw _ (List.mem_of_getElem? (i := 17) rfl)) (g := (mkF m 4 #[.val (.int (2 : Int32))] [(.int (4 : Int32))])) rfl (Jvm.hb hby d19_4) rfl (by decide) (cap := 4) (by decide) (by decide) (by decide) (by decide) (fun T2_ h2_ a2_ k2_ g2_ E2_ V2_ w2_ => ?_)
  have A2_ := own_at w2_
  show own_WP p e _ below s Z _ n0 _ T2_ (mkF m 6 #[.val (.int (2 : Int32))] [(.ref a2_)])
  have U1 : Arv Z h2_ a2_ k2_ .byte (4 : Int32) [(.int (0 : Int32)), (.int (0 : Int32)), (.int (0 : Int32)), (.int (0 : Int32))] (.int 0) := V2_.pad (vs' := [(.int (0 : Int32)), (.int (0 : Int32)), (.int (0 : Int32)), (.int (0 : Int32))]) (fun i => pad_rep [] (.int (0 : Int32)) 4 i)
  exact own_retA w2_ hx hEL hlk hret rfl rfl (Jvm.hb hby d19_6) (by decide) (by decide) ⟨_, _, rfl, by rw [g2_]; exact Nat.le_refl _, E2_, U1⟩

theorem ef_ctTB2 (m : MethodId) (x0 : Addr) (x1 : Int32) (x2 : Int32) : entryFrame m #[(.ref x0), (.int x1), (.int x2)] 5 = mkF m 0 #[.val (.ref x0), .val (.int x1), .val (.int x2), .unset, .unset] [] := by first | (simp [entryFrame, mkF, argsToLocals, Value.category]; done) | rfl
set_option maxRecDepth 65536 in
set_option maxHeartbeats 40000000 in
theorem ctTB2 (l : Launch) (Z : State) (a0 : Array Value) (hw : ∀ d ∈ tables_1, d.before a0 Z = true) (US : own_US Z) (n0 : Nat) (h0 : Heap) (O0 : Old Z n0 h0) (ca : Addr) (kC : ClassId) (c0 c1 : Int32) (VC : Arv Z h0 ca kC .char (2 : Int32) [(.int c0), (.int c1)] (.int 0)) :
    own_Ct l (⟨"java/lang/StringUTF16", "toBytes", "([CII)[B"⟩ : MethodName) jdk_52_method_14_code 5 (some (.array .byte)) ({ frames := 2, cells := 1, slots := 4, locals := 24 } : Room) Z consts_1 n0 #[(.ref ca), (.int (0 : Int32)), (.int (2 : Int32))] h0 [] (fun v h => ∃ a k, v = some (.ref a) ∧ Ext h0 h ∧ Arv Z h a k .byte (4 : Int32) [(.int (c0.toInt8.toInt32)), (.int ((c0 >>> ((8 : Int32) &&& 31)).toInt8.toInt32)), (.int (c1.toInt8.toInt32)), (.int ((c1 >>> ((8 : Int32) &&& 31)).toInt8.toInt32))] (.int 0)) := by
  have hEL := own_EL hw
  refine own_body pn_435542604 O0 (fun p e s m below meth cc_ T0 vm0 hx hby hml0 hret hlk hnm hsf w0 => ?_)
  have hml : cc_.maxLocals = 5 := hml0
  have A_0 := own_at w0
  refine own_entry (ef_ctTB2 m ca (0 : Int32) (2 : Int32)) ?_
  refine own_by (T' := T0) (g' := (mkF m 1 #[.val (.ref ca), .val (.int (0 : Int32)), .val (.int (2 : Int32)), .unset, .unset] [(.int (2 : Int32))])) (fun t_ hr_ => XS.iloadN A_0 hx rfl (Jvm.hb hby d18_0) rfl hr_) ?_
  refine own_callS w0 hx (y := (⟨"java/lang/StringUTF16", "newBytesFor", "(I)[B"⟩ : MethodName)) (hw _ (List.mem_of_getElem? (i := 84) rfl)) (hw _ (List.mem_of_getElem? (i := 85) rfl)) (hw _ (List.mem_of_getElem? (i := 70) rfl)) (hw _ (List.mem_of_getElem? (i := 86) rfl)) (by decide) (kc := 1) (ks := 4) (argsL := [(.int (2 : Int32))]) (rest := []) (own_payCt (W := 0) (ctNBF2 l Z a0 hw n0 h0 (own_old w0)) w0 (hw _ (List.mem_of_getElem? (i := 86) rfl)) (hw _ (List.mem_of_getElem? (i := 70) rfl)) hEL (by decide) (by decide)) (g := (mkF m 1 #[.val (.ref ca), .val (.int (0 : Int32)), .val (.int (2 : Int32)), .unset, .unset] [(.int (2 : Int32))])) rfl (by rw [hml]; rfl) (lenOf pd_944822994 rfl) rfl (by show 2 * 0 + _ ≤ _; exact Nat.le_of_eq rfl) (Jvm.hb hby d18_1) (by decide) (by decide) (fun v1_ T1_ vm1_ h1_ q1_ C1_ w1_ => ?_)
  obtain ⟨a, k, rfl, ga0, E0, V0⟩ := q1_
  have A1_ := own_at w1_
  show own_WP p e _ below s Z _ n0 _ T1_ (mkF m 4 #[.val (.ref ca), .val (.int (0 : Int32)), .val (.int (2 : Int32)), .unset, .unset] [(.ref a)])
  have ga : n0 ≤ a := Nat.le_trans (own_n0 w0) ga0
  have nca : ca ≠ a := Nat.ne_of_lt (Nat.lt_of_lt_of_le VC.lt ga0)
  have VC0 := VC.ext E0
  refine own_by (T' := T1_) (g' := (mkF m 5 #[.val (.ref ca), .val (.int (0 : Int32)), .val (.int (2 : Int32)), .val (.ref a), .unset] [])) (fun t_ hr_ => XS.astoreN A1_ hx rfl (Jvm.hb hby d18_4) rfl rfl (l' := #[.val (.ref ca), .val (.int (0 : Int32)), .val (.int (2 : Int32)), .val (.ref a), .unset]) rfl hr_) ?_
  refine own_by (T' := T1_) (g' := (mkF m 6 #[.val (.ref ca), .val (.int (0 : Int32)), .val (.int (2 : Int32)), .val (.ref a), .unset] [(.int (0 : Int32))])) (fun t_ hr_ => XS.iconst A1_ hx rfl (Jvm.hb hby d18_5) hr_) ?_
  refine own_by (T' := T1_) (g' := (mkF m 8 #[.val (.ref ca), .val (.int (0 : Int32)), .val (.int (2 : Int32)), .val (.ref a), .val (.int (0 : Int32))] [])) (fun t_ hr_ => XS.istore A1_ hx rfl (Jvm.hb hby d18_6) rfl (l' := #[.val (.ref ca), .val (.int (0 : Int32)), .val (.int (2 : Int32)), .val (.ref a), .val (.int (0 : Int32))]) rfl hr_) ?_
  refine own_by (T' := T1_) (g' := (mkF m 10 #[.val (.ref ca), .val (.int (0 : Int32)), .val (.int (2 : Int32)), .val (.ref a), .val (.int (0 : Int32))] [(.int (0 : Int32))])) (fun t_ hr_ => XS.iload A1_ hx rfl (Jvm.hb hby d18_8) rfl hr_) ?_
  refine own_by (T' := T1_) (g' := (mkF m 11 #[.val (.ref ca), .val (.int (0 : Int32)), .val (.int (2 : Int32)), .val (.ref a), .val (.int (0 : Int32))] [(.int (2 : Int32)), (.int (0 : Int32))])) (fun t_ hr_ => XS.iloadN A1_ hx rfl (Jvm.hb hby d18_10) rfl hr_) ?_
  refine own_by (T' := T1_) (g' := (mkF m 14 #[.val (.ref ca), .val (.int (0 : Int32)), .val (.int (2 : Int32)), .val (.ref a), .val (.int (0 : Int32))] [])) (fun t_ hr_ => XS.icmpNo A1_ hx rfl (Jvm.hb hby d18_11) rfl (tlt (by decide)).2.1 hr_) ?_
  refine own_by (T' := T1_) (g' := (mkF m 15 #[.val (.ref ca), .val (.int (0 : Int32)), .val (.int (2 : Int32)), .val (.ref a), .val (.int (0 : Int32))] [(.ref a)])) (fun t_ hr_ => XS.aloadN A1_ hx rfl (Jvm.hb hby d18_14) rfl rfl hr_) ?_
  refine own_by (T' := T1_) (g' := (mkF m 17 #[.val (.ref ca), .val (.int (0 : Int32)), .val (.int (2 : Int32)), .val (.ref a), .val (.int (0 : Int32))] [(.int (0 : Int32)), (.ref a)])) (fun t_ hr_ => XS.iload A1_ hx rfl (Jvm.hb hby d18_15) rfl hr_) ?_
  refine own_by (T' := T1_) (g' := (mkF m 18 #[.val (.ref ca), .val (.int (0 : Int32)), .val (.int (2 : Int32)), .val (.ref a), .val (.int (0 : Int32))] [(.ref ca), (.int (0 : Int32)), (.ref a)])) (fun t_ hr_ => XS.aloadN A1_ hx rfl (Jvm.hb hby d18_17) rfl rfl hr_) ?_
  refine own_by (T' := T1_) (g' := (mkF m 19 #[.val (.ref ca), .val (.int (0 : Int32)), .val (.int (2 : Int32)), .val (.ref a), .val (.int (0 : Int32))] [(.int (0 : Int32)), (.ref ca), (.int (0 : Int32)), (.ref a)])) (fun t_ hr_ => XS.iloadN A1_ hx rfl (Jvm.hb hby d18_18) rfl hr_) ?_
  refine own_caload w1_ hx (x := c0) VC0 (by decide) (g := (mkF m 19 #[.val (.ref ca), .val (.int (0 : Int32)), .val (.int (2 : Int32)), .val (.ref a), .val (.int (0 : Int32))] [(.int (0 : Int32)), (.ref ca), (.int (0 : Int32)), (.ref a)])) rfl rfl (Jvm.hb hby d18_19) rfl ?_
  show own_WP p e _ below s Z _ n0 _ T1_ (mkF m 20 #[.val (.ref ca), .val (.int (0 : Int32)), .val (.int (2 : Int32)), .val (.ref a), .val (.int (0 : Int32))] [(.int c0), (.int (0 : Int32)), (.ref a)])
  refine own_callS w1_ hx (y := (⟨"java/lang/StringUTF16", "putChar", "([BII)V"⟩ : MethodName)) (hw _ (List.mem_of_getElem? (i := 91) rfl)) (hw _ (List.mem_of_getElem? (i := 92) rfl)) (hw _ (List.mem_of_getElem? (i := 70) rfl)) (hw _ (List.mem_of_getElem? (i := 93) rfl)) (by decide) (kc := 0) (ks := 0) (argsL := [(.ref a), (.int (0 : Int32)), (.int c0)]) (rest := []) (own_payCt (W := 0) (ctPut l Z a0 hw US n0 h1_ (own_old w1_) a 0 c0 k (4 : Int32) _ V0 rfl (by simp) (by simp) ga) w1_ (hw _ (List.mem_of_getElem? (i := 93) rfl)) (hw _ (List.mem_of_getElem? (i := 70) rfl)) hEL (by decide) (by decide) (own_one ⟨V0.lt, own_safeB (own_hZ w1_) (hw _ (List.mem_of_getElem? (i := 16) rfl)) V0 (by decide)⟩)) (g := (mkF m 20 #[.val (.ref ca), .val (.int (0 : Int32)), .val (.int (2 : Int32)), .val (.ref a), .val (.int (0 : Int32))] [(.int c0), (.int (0 : Int32)), (.ref a)])) rfl (by rw [hml]; rfl) (lenOf pd_860253318 rfl) rfl (by show 2 * 0 + _ ≤ _; exact Nat.le_of_eq rfl) (Jvm.hb hby d18_20) (by decide) (by decide) (fun v2_ T2_ vm2_ h2_ q2_ C2_ w2_ => ?_)
  obtain ⟨rfl, KP0, VP0⟩ := q2_
  have A2_ := own_at w2_
  show own_WP p e _ below s Z _ n0 _ T2_ (mkF m 23 #[.val (.ref ca), .val (.int (0 : Int32)), .val (.int (2 : Int32)), .val (.ref a), .val (.int (0 : Int32))] [])
  have VD0 := VC0.keep KP0 (ninS nca nin0)
  have EP0 := own_extK E0 KP0 (allS ga0 all0)
  refine own_by (T' := T2_) (g' := (mkF m 26 #[.val (.ref ca), .val (.int ((0 : Int32) + (1 : Int32))), .val (.int (2 : Int32)), .val (.ref a), .val (.int (0 : Int32))] [])) (fun t_ hr_ => XS.iinc A2_ hx rfl (Jvm.hb hby d18_23) rfl (l' := #[.val (.ref ca), .val (.int ((0 : Int32) + (1 : Int32))), .val (.int (2 : Int32)), .val (.ref a), .val (.int (0 : Int32))]) rfl hr_) ?_
  refine own_by (T' := T2_) (g' := (mkF m 29 #[.val (.ref ca), .val (.int ((0 : Int32) + (1 : Int32))), .val (.int (2 : Int32)), .val (.ref a), .val (.int ((0 : Int32) + (1 : Int32)))] [])) (fun t_ hr_ => XS.iinc A2_ hx rfl (Jvm.hb hby d18_26) rfl (l' := #[.val (.ref ca), .val (.int ((0 : Int32) + (1 : Int32))), .val (.int (2 : Int32)), .val (.ref a), .val (.int ((0 : Int32) + (1 : Int32)))]) rfl hr_) ?_
  rw [show ((0 : Int32) + (1 : Int32)) = (1 : Int32) from (by decide)]
  show own_WP p e _ below s Z _ n0 _ T2_ (mkF m 29 #[.val (.ref ca), .val (.int (1 : Int32)), .val (.int (2 : Int32)), .val (.ref a), .val (.int (1 : Int32))] [])
  refine own_by (T' := T2_) (g' := (mkF m 8 #[.val (.ref ca), .val (.int (1 : Int32)), .val (.int (2 : Int32)), .val (.ref a), .val (.int (1 : Int32))] [])) (fun t_ hr_ => XS.goto A2_ hx rfl (pc0 := 29) (pc' := 8) rfl (Jvm.hb hby d18_29) (by decide) (by decide) hr_) ?_
  refine own_by (T' := T2_) (g' := (mkF m 10 #[.val (.ref ca), .val (.int (1 : Int32)), .val (.int (2 : Int32)), .val (.ref a), .val (.int (1 : Int32))] [(.int (1 : Int32))])) (fun t_ hr_ => XS.iload A2_ hx rfl (Jvm.hb hby d18_8) rfl hr_) ?_
  refine own_by (T' := T2_) (g' := (mkF m 11 #[.val (.ref ca), .val (.int (1 : Int32)), .val (.int (2 : Int32)), .val (.ref a), .val (.int (1 : Int32))] [(.int (2 : Int32)), (.int (1 : Int32))])) (fun t_ hr_ => XS.iloadN A2_ hx rfl (Jvm.hb hby d18_10) rfl hr_) ?_
  refine own_by (T' := T2_) (g' := (mkF m 14 #[.val (.ref ca), .val (.int (1 : Int32)), .val (.int (2 : Int32)), .val (.ref a), .val (.int (1 : Int32))] [])) (fun t_ hr_ => XS.icmpNo A2_ hx rfl (Jvm.hb hby d18_11) rfl (tlt (by decide)).2.1 hr_) ?_
  refine own_by (T' := T2_) (g' := (mkF m 15 #[.val (.ref ca), .val (.int (1 : Int32)), .val (.int (2 : Int32)), .val (.ref a), .val (.int (1 : Int32))] [(.ref a)])) (fun t_ hr_ => XS.aloadN A2_ hx rfl (Jvm.hb hby d18_14) rfl rfl hr_) ?_
  refine own_by (T' := T2_) (g' := (mkF m 17 #[.val (.ref ca), .val (.int (1 : Int32)), .val (.int (2 : Int32)), .val (.ref a), .val (.int (1 : Int32))] [(.int (1 : Int32)), (.ref a)])) (fun t_ hr_ => XS.iload A2_ hx rfl (Jvm.hb hby d18_15) rfl hr_) ?_
  refine own_by (T' := T2_) (g' := (mkF m 18 #[.val (.ref ca), .val (.int (1 : Int32)), .val (.int (2 : Int32)), .val (.ref a), .val (.int (1 : Int32))] [(.ref ca), (.int (1 : Int32)), (.ref a)])) (fun t_ hr_ => XS.aloadN A2_ hx rfl (Jvm.hb hby d18_17) rfl rfl hr_) ?_
  refine own_by (T' := T2_) (g' := (mkF m 19 #[.val (.ref ca), .val (.int (1 : Int32)), .val (.int (2 : Int32)), .val (.ref a), .val (.int (1 : Int32))] [(.int (1 : Int32)), (.ref ca), (.int (1 : Int32)), (.ref a)])) (fun t_ hr_ => XS.iloadN A2_ hx rfl (Jvm.hb hby d18_18) rfl hr_) ?_
  refine own_caload w2_ hx (x := c1) VD0 (by decide) (g := (mkF m 19 #[.val (.ref ca), .val (.int (1 : Int32)), .val (.int (2 : Int32)), .val (.ref a), .val (.int (1 : Int32))] [(.int (1 : Int32)), (.ref ca), (.int (1 : Int32)), (.ref a)])) rfl rfl (Jvm.hb hby d18_19) rfl ?_
  show own_WP p e _ below s Z _ n0 _ T2_ (mkF m 20 #[.val (.ref ca), .val (.int (1 : Int32)), .val (.int (2 : Int32)), .val (.ref a), .val (.int (1 : Int32))] [(.int c1), (.int (1 : Int32)), (.ref a)])
  refine own_callS w2_ hx (y := (⟨"java/lang/StringUTF16", "putChar", "([BII)V"⟩ : MethodName)) (hw _ (List.mem_of_getElem? (i := 91) rfl)) (hw _ (List.mem_of_getElem? (i := 92) rfl)) (hw _ (List.mem_of_getElem? (i := 70) rfl)) (hw _ (List.mem_of_getElem? (i := 93) rfl)) (by decide) (kc := 0) (ks := 0) (argsL := [(.ref a), (.int (1 : Int32)), (.int c1)]) (rest := []) (own_payCt (W := 0) (ctPut l Z a0 hw US n0 h2_ (own_old w2_) a 1 c1 k (4 : Int32) _ VP0 rfl (by simp) (by simp) ga) w2_ (hw _ (List.mem_of_getElem? (i := 93) rfl)) (hw _ (List.mem_of_getElem? (i := 70) rfl)) hEL (by decide) (by decide) (own_one ⟨VP0.lt, own_safeB (own_hZ w2_) (hw _ (List.mem_of_getElem? (i := 16) rfl)) VP0 (by decide)⟩)) (g := (mkF m 20 #[.val (.ref ca), .val (.int (1 : Int32)), .val (.int (2 : Int32)), .val (.ref a), .val (.int (1 : Int32))] [(.int c1), (.int (1 : Int32)), (.ref a)])) rfl (by rw [hml]; rfl) (lenOf pd_860253318 rfl) rfl (by show 2 * 0 + _ ≤ _; exact Nat.le_of_eq rfl) (Jvm.hb hby d18_20) (by decide) (by decide) (fun v3_ T3_ vm3_ h3_ q3_ C3_ w3_ => ?_)
  obtain ⟨rfl, KP1, VP1⟩ := q3_
  have A3_ := own_at w3_
  show own_WP p e _ below s Z _ n0 _ T3_ (mkF m 23 #[.val (.ref ca), .val (.int (1 : Int32)), .val (.int (2 : Int32)), .val (.ref a), .val (.int (1 : Int32))] [])
  have VD1 := VD0.keep KP1 (ninS nca nin0)
  have EP1 := own_extK EP0 KP1 (allS ga0 all0)
  refine own_by (T' := T3_) (g' := (mkF m 26 #[.val (.ref ca), .val (.int ((1 : Int32) + (1 : Int32))), .val (.int (2 : Int32)), .val (.ref a), .val (.int (1 : Int32))] [])) (fun t_ hr_ => XS.iinc A3_ hx rfl (Jvm.hb hby d18_23) rfl (l' := #[.val (.ref ca), .val (.int ((1 : Int32) + (1 : Int32))), .val (.int (2 : Int32)), .val (.ref a), .val (.int (1 : Int32))]) rfl hr_) ?_
  refine own_by (T' := T3_) (g' := (mkF m 29 #[.val (.ref ca), .val (.int ((1 : Int32) + (1 : Int32))), .val (.int (2 : Int32)), .val (.ref a), .val (.int ((1 : Int32) + (1 : Int32)))] [])) (fun t_ hr_ => XS.iinc A3_ hx rfl (Jvm.hb hby d18_26) rfl (l' := #[.val (.ref ca), .val (.int ((1 : Int32) + (1 : Int32))), .val (.int (2 : Int32)), .val (.ref a), .val (.int ((1 : Int32) + (1 : Int32)))]) rfl hr_) ?_
  rw [show ((1 : Int32) + (1 : Int32)) = (2 : Int32) from (by decide)]
  show own_WP p e _ below s Z _ n0 _ T3_ (mkF m 29 #[.val (.ref ca), .val (.int (2 : Int32)), .val (.int (2 : Int32)), .val (.ref a), .val (.int (2 : Int32))] [])
  refine own_by (T' := T3_) (g' := (mkF m 8 #[.val (.ref ca), .val (.int (2 : Int32)), .val (.int (2 : Int32)), .val (.ref a), .val (.int (2 : Int32))] [])) (fun t_ hr_ => XS.goto A3_ hx rfl (pc0 := 29) (pc' := 8) rfl (Jvm.hb hby d18_29) (by decide) (by decide) hr_) ?_
  refine own_by (T' := T3_) (g' := (mkF m 10 #[.val (.ref ca), .val (.int (2 : Int32)), .val (.int (2 : Int32)), .val (.ref a), .val (.int (2 : Int32))] [(.int (2 : Int32))])) (fun t_ hr_ => XS.iload A3_ hx rfl (Jvm.hb hby d18_8) rfl hr_) ?_
  refine own_by (T' := T3_) (g' := (mkF m 11 #[.val (.ref ca), .val (.int (2 : Int32)), .val (.int (2 : Int32)), .val (.ref a), .val (.int (2 : Int32))] [(.int (2 : Int32)), (.int (2 : Int32))])) (fun t_ hr_ => XS.iloadN A3_ hx rfl (Jvm.hb hby d18_10) rfl hr_) ?_
  refine own_by (T' := T3_) (g' := (mkF m 32 #[.val (.ref ca), .val (.int (2 : Int32)), .val (.int (2 : Int32)), .val (.ref a), .val (.int (2 : Int32))] [])) (fun t_ hr_ => XS.icmpYes A3_ hx rfl (pc0 := 11) (pc' := 32) rfl (Jvm.hb hby d18_11) rfl (flt (by decide)).2.1 (by decide) (by decide) hr_) ?_
  refine own_by (T' := T3_) (g' := (mkF m 33 #[.val (.ref ca), .val (.int (2 : Int32)), .val (.int (2 : Int32)), .val (.ref a), .val (.int (2 : Int32))] [(.ref a)])) (fun t_ hr_ => XS.aloadN A3_ hx rfl (Jvm.hb hby d18_32) rfl rfl hr_) ?_
  exact own_retA w3_ hx hEL hlk hret rfl rfl (Jvm.hb hby d18_33) (by decide) (by decide) ⟨_, _, rfl, EP1, VP1⟩

theorem ef_ctC52 (m : MethodId) (x0 : Addr) (x1 : Int32) (x2 : Addr) (x3 : Int32) (x4 : Int32) : entryFrame m #[(.ref x0), (.int x1), (.ref x2), (.int x3), (.int x4)] 7 = mkF m 0 #[.val (.ref x0), .val (.int x1), .val (.ref x2), .val (.int x3), .val (.int x4), .unset, .unset] [] := by first | (simp [entryFrame, mkF, argsToLocals, Value.category]; done) | rfl
set_option maxRecDepth 65536 in
set_option maxHeartbeats 40000000 in
theorem ctC52 (l : Launch) (Z : State) (a0 : Array Value) (hw : ∀ d ∈ tables_1, d.before a0 Z = true) (n0 : Nat) (h0 : Heap) (O0 : Old Z n0 h0) (ca ba : Addr) (kC kB : ClassId) (c0 c1 : Int32) (VC : Arv Z h0 ca kC .char (2 : Int32) [(.int c0), (.int c1)] (.int 0)) (VB : Arv Z h0 ba kB .byte (2 : Int32) [(.int (0 : Int32)), (.int (0 : Int32))] (.int 0)) (hne : ca ≠ ba) (gb : n0 ≤ ba) :
    own_Ct l (⟨"java/lang/StringUTF16", "compress", "([CI[BII)I"⟩ : MethodName) jdk_52_method_21_code 7 (some .int) ({ frames := 0, cells := 0, slots := 0, locals := 0 } : Room) Z consts_1 n0 #[(.ref ca), (.int (0 : Int32)), (.ref ba), (.int (0 : Int32)), (.int (2 : Int32))] h0 [ba] (fun v h => (v = some (.int 0) ∧ (255 : Int32) < c0 ∧ Keep h0 h [ba]) ∨ (v = some (.int 1) ∧ (255 : Int32) < c1 ∧ Keep h0 h [ba]) ∨ (v = some (.int 2) ∧ (¬ (255 : Int32) < c0 ∧ ¬ (255 : Int32) < c1) ∧ Keep h0 h [ba] ∧ Arv Z h ba kB .byte (2 : Int32) [(.int (c0.toInt8.toInt32)), (.int (c1.toInt8.toInt32))] (.int 0))) := by
  have hEL := own_EL hw
  refine own_body pn_269384959 O0 (fun p e s m below meth cc_ T0 vm0 hx hby hml0 hret hlk hnm hsf w0 => ?_)
  have hml : cc_.maxLocals = 7 := hml0
  have A_0 := own_at w0
  refine own_entry (ef_ctC52 m ca (0 : Int32) ba (0 : Int32) (2 : Int32)) ?_
  refine own_by (T' := T0) (g' := (mkF m 1 #[.val (.ref ca), .val (.int (0 : Int32)), .val (.ref ba), .val (.int (0 : Int32)), .val (.int (2 : Int32)), .unset, .unset] [(.int (0 : Int32))])) (fun t_ hr_ => XS.iconst A_0 hx rfl (Jvm.hb hby d15_0) hr_) ?_
  refine own_by (T' := T0) (g' := (mkF m 3 #[.val (.ref ca), .val (.int (0 : Int32)), .val (.ref ba), .val (.int (0 : Int32)), .val (.int (2 : Int32)), .val (.int (0 : Int32)), .unset] [])) (fun t_ hr_ => XS.istore A_0 hx rfl (Jvm.hb hby d15_1) rfl (l' := #[.val (.ref ca), .val (.int (0 : Int32)), .val (.ref ba), .val (.int (0 : Int32)), .val (.int (2 : Int32)), .val (.int (0 : Int32)), .unset]) rfl hr_) ?_
  refine own_by (T' := T0) (g' := (mkF m 5 #[.val (.ref ca), .val (.int (0 : Int32)), .val (.ref ba), .val (.int (0 : Int32)), .val (.int (2 : Int32)), .val (.int (0 : Int32)), .unset] [(.int (0 : Int32))])) (fun t_ hr_ => XS.iload A_0 hx rfl (Jvm.hb hby d15_3) rfl hr_) ?_
  refine own_by (T' := T0) (g' := (mkF m 7 #[.val (.ref ca), .val (.int (0 : Int32)), .val (.ref ba), .val (.int (0 : Int32)), .val (.int (2 : Int32)), .val (.int (0 : Int32)), .unset] [(.int (2 : Int32)), (.int (0 : Int32))])) (fun t_ hr_ => XS.iload A_0 hx rfl (Jvm.hb hby d15_5) rfl hr_) ?_
  refine own_by (T' := T0) (g' := (mkF m 10 #[.val (.ref ca), .val (.int (0 : Int32)), .val (.ref ba), .val (.int (0 : Int32)), .val (.int (2 : Int32)), .val (.int (0 : Int32)), .unset] [])) (fun t_ hr_ => XS.icmpNo A_0 hx rfl (Jvm.hb hby d15_7) rfl (tlt (by decide)).2.1 hr_) ?_
  refine own_by (T' := T0) (g' := (mkF m 11 #[.val (.ref ca), .val (.int (0 : Int32)), .val (.ref ba), .val (.int (0 : Int32)), .val (.int (2 : Int32)), .val (.int (0 : Int32)), .unset] [(.ref ca)])) (fun t_ hr_ => XS.aloadN A_0 hx rfl (Jvm.hb hby d15_10) rfl rfl hr_) ?_
  refine own_by (T' := T0) (g' := (mkF m 12 #[.val (.ref ca), .val (.int (0 : Int32)), .val (.ref ba), .val (.int (0 : Int32)), .val (.int (2 : Int32)), .val (.int (0 : Int32)), .unset] [(.int (0 : Int32)), (.ref ca)])) (fun t_ hr_ => XS.iloadN A_0 hx rfl (Jvm.hb hby d15_11) rfl hr_) ?_
  refine own_caload w0 hx (x := c0) VC (by decide) (g := (mkF m 12 #[.val (.ref ca), .val (.int (0 : Int32)), .val (.ref ba), .val (.int (0 : Int32)), .val (.int (2 : Int32)), .val (.int (0 : Int32)), .unset] [(.int (0 : Int32)), (.ref ca)])) rfl rfl (Jvm.hb hby d15_12) rfl ?_
  show own_WP p e _ below s Z _ n0 _ T0 (mkF m 13 #[.val (.ref ca), .val (.int (0 : Int32)), .val (.ref ba), .val (.int (0 : Int32)), .val (.int (2 : Int32)), .val (.int (0 : Int32)), .unset] [(.int c0)])
  refine own_by (T' := T0) (g' := (mkF m 15 #[.val (.ref ca), .val (.int (0 : Int32)), .val (.ref ba), .val (.int (0 : Int32)), .val (.int (2 : Int32)), .val (.int (0 : Int32)), .val (.int c0)] [])) (fun t_ hr_ => XS.istore A_0 hx rfl (Jvm.hb hby d15_13) rfl (l' := #[.val (.ref ca), .val (.int (0 : Int32)), .val (.ref ba), .val (.int (0 : Int32)), .val (.int (2 : Int32)), .val (.int (0 : Int32)), .val (.int c0)]) rfl hr_) ?_
  refine own_by (T' := T0) (g' := (mkF m 17 #[.val (.ref ca), .val (.int (0 : Int32)), .val (.ref ba), .val (.int (0 : Int32)), .val (.int (2 : Int32)), .val (.int (0 : Int32)), .val (.int c0)] [(.int c0)])) (fun t_ hr_ => XS.iload A_0 hx rfl (Jvm.hb hby d15_15) rfl hr_) ?_
  refine own_by (T' := T0) (g' := (mkF m 20 #[.val (.ref ca), .val (.int (0 : Int32)), .val (.ref ba), .val (.int (0 : Int32)), .val (.int (2 : Int32)), .val (.int (0 : Int32)), .val (.int c0)] [(.int (255 : Int32)), (.int c0)])) (fun t_ hr_ => XS.sipush A_0 hx rfl (Jvm.hb hby d15_17) hr_) ?_
  by_cases hc1_ : (255 : Int32) < c0
  · refine own_by (T' := T0) (g' := (mkF m 23 #[.val (.ref ca), .val (.int (0 : Int32)), .val (.ref ba), .val (.int (0 : Int32)), .val (.int (2 : Int32)), .val (.int (0 : Int32)), .val (.int c0)] [])) (fun t_ hr_ => XS.icmpNo A_0 hx rfl (Jvm.hb hby d15_20) rfl (tlt hc1_).2.2.2 hr_) ?_
    refine own_by (T' := T0) (g' := (mkF m 25 #[.val (.ref ca), .val (.int (0 : Int32)), .val (.ref ba), .val (.int (0 : Int32)), .val (.int (2 : Int32)), .val (.int (0 : Int32)), .val (.int c0)] [(.int (0 : Int32))])) (fun t_ hr_ => XS.iload A_0 hx rfl (Jvm.hb hby d15_23) rfl hr_) ?_
    exact own_retI w0 hx hEL hlk hret (Jvm.hb hby d15_25) (by decide) (by decide) (Or.inl ⟨rfl, hc1_, (Keep.refl h0 [ba])⟩)
  · refine own_by (T' := T0) (g' := (mkF m 26 #[.val (.ref ca), .val (.int (0 : Int32)), .val (.ref ba), .val (.int (0 : Int32)), .val (.int (2 : Int32)), .val (.int (0 : Int32)), .val (.int c0)] [])) (fun t_ hr_ => XS.icmpYes A_0 hx rfl (pc0 := 20) (pc' := 26) rfl (Jvm.hb hby d15_20) rfl (flt hc1_).2.2.2 (by decide) (by decide) hr_) ?_
    refine own_by (T' := T0) (g' := (mkF m 27 #[.val (.ref ca), .val (.int (0 : Int32)), .val (.ref ba), .val (.int (0 : Int32)), .val (.int (2 : Int32)), .val (.int (0 : Int32)), .val (.int c0)] [(.ref ba)])) (fun t_ hr_ => XS.aloadN A_0 hx rfl (Jvm.hb hby d15_26) rfl rfl hr_) ?_
    refine own_by (T' := T0) (g' := (mkF m 28 #[.val (.ref ca), .val (.int (0 : Int32)), .val (.ref ba), .val (.int (0 : Int32)), .val (.int (2 : Int32)), .val (.int (0 : Int32)), .val (.int c0)] [(.int (0 : Int32)), (.ref ba)])) (fun t_ hr_ => XS.iloadN A_0 hx rfl (Jvm.hb hby d15_27) rfl hr_) ?_
    refine own_by (T' := T0) (g' := (mkF m 30 #[.val (.ref ca), .val (.int (0 : Int32)), .val (.ref ba), .val (.int (0 : Int32)), .val (.int (2 : Int32)), .val (.int (0 : Int32)), .val (.int c0)] [(.int c0), (.int (0 : Int32)), (.ref ba)])) (fun t_ hr_ => XS.iload A_0 hx rfl (Jvm.hb hby d15_28) rfl hr_) ?_
    refine own_by (T' := T0) (g' := (mkF m 31 #[.val (.ref ca), .val (.int (0 : Int32)), .val (.ref ba), .val (.int (0 : Int32)), .val (.int (2 : Int32)), .val (.int (0 : Int32)), .val (.int c0)] [(.int (c0.toInt8.toInt32)), (.int (0 : Int32)), (.ref ba)])) (fun t_ hr_ => XS.i2b A_0 hx rfl (Jvm.hb hby d15_30) rfl hr_) ?_
    refine own_bastore w0 hx VB (by decide) (own_lo8lo8 c0) (hsf ba (List.mem_of_getElem? (i := 0) rfl)) (i := 0) rfl (by simp) gb (g := (mkF m 31 #[.val (.ref ca), .val (.int (0 : Int32)), .val (.ref ba), .val (.int (0 : Int32)), .val (.int (2 : Int32)), .val (.int (0 : Int32)), .val (.int c0)] [(.int (c0.toInt8.toInt32)), (.int (0 : Int32)), (.ref ba)])) rfl rfl (Jvm.hb hby d15_31) (fun T2_ h2_ W2_ V2_ w2_ => ?_)
    have A2_ := own_at w2_
    show own_WP p e _ below s Z _ n0 _ T2_ (mkF m 32 #[.val (.ref ca), .val (.int (0 : Int32)), .val (.ref ba), .val (.int (0 : Int32)), .val (.int (2 : Int32)), .val (.int (0 : Int32)), .val (.int c0)] [])
    refine own_by (T' := T2_) (g' := (mkF m 35 #[.val (.ref ca), .val (.int ((0 : Int32) + (1 : Int32))), .val (.ref ba), .val (.int (0 : Int32)), .val (.int (2 : Int32)), .val (.int (0 : Int32)), .val (.int c0)] [])) (fun t_ hr_ => XS.iinc A2_ hx rfl (Jvm.hb hby d15_32) rfl (l' := #[.val (.ref ca), .val (.int ((0 : Int32) + (1 : Int32))), .val (.ref ba), .val (.int (0 : Int32)), .val (.int (2 : Int32)), .val (.int (0 : Int32)), .val (.int c0)]) rfl hr_) ?_
    refine own_by (T' := T2_) (g' := (mkF m 38 #[.val (.ref ca), .val (.int ((0 : Int32) + (1 : Int32))), .val (.ref ba), .val (.int ((0 : Int32) + (1 : Int32))), .val (.int (2 : Int32)), .val (.int (0 : Int32)), .val (.int c0)] [])) (fun t_ hr_ => XS.iinc A2_ hx rfl (Jvm.hb hby d15_35) rfl (l' := #[.val (.ref ca), .val (.int ((0 : Int32) + (1 : Int32))), .val (.ref ba), .val (.int ((0 : Int32) + (1 : Int32))), .val (.int (2 : Int32)), .val (.int (0 : Int32)), .val (.int c0)]) rfl hr_) ?_
    refine own_by (T' := T2_) (g' := (mkF m 41 #[.val (.ref ca), .val (.int ((0 : Int32) + (1 : Int32))), .val (.ref ba), .val (.int ((0 : Int32) + (1 : Int32))), .val (.int (2 : Int32)), .val (.int ((0 : Int32) + (1 : Int32))), .val (.int c0)] [])) (fun t_ hr_ => XS.iinc A2_ hx rfl (Jvm.hb hby d15_38) rfl (l' := #[.val (.ref ca), .val (.int ((0 : Int32) + (1 : Int32))), .val (.ref ba), .val (.int ((0 : Int32) + (1 : Int32))), .val (.int (2 : Int32)), .val (.int ((0 : Int32) + (1 : Int32))), .val (.int c0)]) rfl hr_) ?_
    rw [show ((0 : Int32) + (1 : Int32)) = (1 : Int32) from (by decide)]
    show own_WP p e _ below s Z _ n0 _ T2_ (mkF m 41 #[.val (.ref ca), .val (.int (1 : Int32)), .val (.ref ba), .val (.int (1 : Int32)), .val (.int (2 : Int32)), .val (.int (1 : Int32)), .val (.int c0)] [])
    refine own_by (T' := T2_) (g' := (mkF m 3 #[.val (.ref ca), .val (.int (1 : Int32)), .val (.ref ba), .val (.int (1 : Int32)), .val (.int (2 : Int32)), .val (.int (1 : Int32)), .val (.int c0)] [])) (fun t_ hr_ => XS.goto A2_ hx rfl (pc0 := 41) (pc' := 3) rfl (Jvm.hb hby d15_41) (by decide) (by decide) hr_) ?_
    have VC2_ := VC.other W2_ hne
    have Sf2_ := Safe.wr W2_ (hsf ba (List.mem_of_getElem? (i := 0) rfl)) (own_chv w0) (hsf ba (List.mem_of_getElem? (i := 0) rfl))
    refine own_by (T' := T2_) (g' := (mkF m 5 #[.val (.ref ca), .val (.int (1 : Int32)), .val (.ref ba), .val (.int (1 : Int32)), .val (.int (2 : Int32)), .val (.int (1 : Int32)), .val (.int c0)] [(.int (1 : Int32))])) (fun t_ hr_ => XS.iload A2_ hx rfl (Jvm.hb hby d15_3) rfl hr_) ?_
    refine own_by (T' := T2_) (g' := (mkF m 7 #[.val (.ref ca), .val (.int (1 : Int32)), .val (.ref ba), .val (.int (1 : Int32)), .val (.int (2 : Int32)), .val (.int (1 : Int32)), .val (.int c0)] [(.int (2 : Int32)), (.int (1 : Int32))])) (fun t_ hr_ => XS.iload A2_ hx rfl (Jvm.hb hby d15_5) rfl hr_) ?_
    refine own_by (T' := T2_) (g' := (mkF m 10 #[.val (.ref ca), .val (.int (1 : Int32)), .val (.ref ba), .val (.int (1 : Int32)), .val (.int (2 : Int32)), .val (.int (1 : Int32)), .val (.int c0)] [])) (fun t_ hr_ => XS.icmpNo A2_ hx rfl (Jvm.hb hby d15_7) rfl (tlt (by decide)).2.1 hr_) ?_
    refine own_by (T' := T2_) (g' := (mkF m 11 #[.val (.ref ca), .val (.int (1 : Int32)), .val (.ref ba), .val (.int (1 : Int32)), .val (.int (2 : Int32)), .val (.int (1 : Int32)), .val (.int c0)] [(.ref ca)])) (fun t_ hr_ => XS.aloadN A2_ hx rfl (Jvm.hb hby d15_10) rfl rfl hr_) ?_
    refine own_by (T' := T2_) (g' := (mkF m 12 #[.val (.ref ca), .val (.int (1 : Int32)), .val (.ref ba), .val (.int (1 : Int32)), .val (.int (2 : Int32)), .val (.int (1 : Int32)), .val (.int c0)] [(.int (1 : Int32)), (.ref ca)])) (fun t_ hr_ => XS.iloadN A2_ hx rfl (Jvm.hb hby d15_11) rfl hr_) ?_
    refine own_caload w2_ hx (x := c1) VC2_ (by decide) (g := (mkF m 12 #[.val (.ref ca), .val (.int (1 : Int32)), .val (.ref ba), .val (.int (1 : Int32)), .val (.int (2 : Int32)), .val (.int (1 : Int32)), .val (.int c0)] [(.int (1 : Int32)), (.ref ca)])) rfl rfl (Jvm.hb hby d15_12) rfl ?_
    show own_WP p e _ below s Z _ n0 _ T2_ (mkF m 13 #[.val (.ref ca), .val (.int (1 : Int32)), .val (.ref ba), .val (.int (1 : Int32)), .val (.int (2 : Int32)), .val (.int (1 : Int32)), .val (.int c0)] [(.int c1)])
    refine own_by (T' := T2_) (g' := (mkF m 15 #[.val (.ref ca), .val (.int (1 : Int32)), .val (.ref ba), .val (.int (1 : Int32)), .val (.int (2 : Int32)), .val (.int (1 : Int32)), .val (.int c1)] [])) (fun t_ hr_ => XS.istore A2_ hx rfl (Jvm.hb hby d15_13) rfl (l' := #[.val (.ref ca), .val (.int (1 : Int32)), .val (.ref ba), .val (.int (1 : Int32)), .val (.int (2 : Int32)), .val (.int (1 : Int32)), .val (.int c1)]) rfl hr_) ?_
    refine own_by (T' := T2_) (g' := (mkF m 17 #[.val (.ref ca), .val (.int (1 : Int32)), .val (.ref ba), .val (.int (1 : Int32)), .val (.int (2 : Int32)), .val (.int (1 : Int32)), .val (.int c1)] [(.int c1)])) (fun t_ hr_ => XS.iload A2_ hx rfl (Jvm.hb hby d15_15) rfl hr_) ?_
    refine own_by (T' := T2_) (g' := (mkF m 20 #[.val (.ref ca), .val (.int (1 : Int32)), .val (.ref ba), .val (.int (1 : Int32)), .val (.int (2 : Int32)), .val (.int (1 : Int32)), .val (.int c1)] [(.int (255 : Int32)), (.int c1)])) (fun t_ hr_ => XS.sipush A2_ hx rfl (Jvm.hb hby d15_17) hr_) ?_
    by_cases hc3_ : (255 : Int32) < c1
    · refine own_by (T' := T2_) (g' := (mkF m 23 #[.val (.ref ca), .val (.int (1 : Int32)), .val (.ref ba), .val (.int (1 : Int32)), .val (.int (2 : Int32)), .val (.int (1 : Int32)), .val (.int c1)] [])) (fun t_ hr_ => XS.icmpNo A2_ hx rfl (Jvm.hb hby d15_20) rfl (tlt hc3_).2.2.2 hr_) ?_
      refine own_by (T' := T2_) (g' := (mkF m 25 #[.val (.ref ca), .val (.int (1 : Int32)), .val (.ref ba), .val (.int (1 : Int32)), .val (.int (2 : Int32)), .val (.int (1 : Int32)), .val (.int c1)] [(.int (1 : Int32))])) (fun t_ hr_ => XS.iload A2_ hx rfl (Jvm.hb hby d15_23) rfl hr_) ?_
      exact own_retI w2_ hx hEL hlk hret (Jvm.hb hby d15_25) (by decide) (by decide) (Or.inr (Or.inl ⟨rfl, hc3_, ((Keep.refl h0 [ba]).wr W2_ (Or.inl (List.mem_of_getElem? (i := 0) rfl)))⟩))
    · refine own_by (T' := T2_) (g' := (mkF m 26 #[.val (.ref ca), .val (.int (1 : Int32)), .val (.ref ba), .val (.int (1 : Int32)), .val (.int (2 : Int32)), .val (.int (1 : Int32)), .val (.int c1)] [])) (fun t_ hr_ => XS.icmpYes A2_ hx rfl (pc0 := 20) (pc' := 26) rfl (Jvm.hb hby d15_20) rfl (flt hc3_).2.2.2 (by decide) (by decide) hr_) ?_
      refine own_by (T' := T2_) (g' := (mkF m 27 #[.val (.ref ca), .val (.int (1 : Int32)), .val (.ref ba), .val (.int (1 : Int32)), .val (.int (2 : Int32)), .val (.int (1 : Int32)), .val (.int c1)] [(.ref ba)])) (fun t_ hr_ => XS.aloadN A2_ hx rfl (Jvm.hb hby d15_26) rfl rfl hr_) ?_
      refine own_by (T' := T2_) (g' := (mkF m 28 #[.val (.ref ca), .val (.int (1 : Int32)), .val (.ref ba), .val (.int (1 : Int32)), .val (.int (2 : Int32)), .val (.int (1 : Int32)), .val (.int c1)] [(.int (1 : Int32)), (.ref ba)])) (fun t_ hr_ => XS.iloadN A2_ hx rfl (Jvm.hb hby d15_27) rfl hr_) ?_
      refine own_by (T' := T2_) (g' := (mkF m 30 #[.val (.ref ca), .val (.int (1 : Int32)), .val (.ref ba), .val (.int (1 : Int32)), .val (.int (2 : Int32)), .val (.int (1 : Int32)), .val (.int c1)] [(.int c1), (.int (1 : Int32)), (.ref ba)])) (fun t_ hr_ => XS.iload A2_ hx rfl (Jvm.hb hby d15_28) rfl hr_) ?_
      refine own_by (T' := T2_) (g' := (mkF m 31 #[.val (.ref ca), .val (.int (1 : Int32)), .val (.ref ba), .val (.int (1 : Int32)), .val (.int (2 : Int32)), .val (.int (1 : Int32)), .val (.int c1)] [(.int (c1.toInt8.toInt32)), (.int (1 : Int32)), (.ref ba)])) (fun t_ hr_ => XS.i2b A2_ hx rfl (Jvm.hb hby d15_30) rfl hr_) ?_
      refine own_bastore w2_ hx V2_ (by decide) (own_lo8lo8 c1) Sf2_ (i := 1) rfl (by simp) gb (g := (mkF m 31 #[.val (.ref ca), .val (.int (1 : Int32)), .val (.ref ba), .val (.int (1 : Int32)), .val (.int (2 : Int32)), .val (.int (1 : Int32)), .val (.int c1)] [(.int (c1.toInt8.toInt32)), (.int (1 : Int32)), (.ref ba)])) rfl rfl (Jvm.hb hby d15_31) (fun T4_ h4_ W4_ V4_ w4_ => ?_)
      have A4_ := own_at w4_
      show own_WP p e _ below s Z _ n0 _ T4_ (mkF m 32 #[.val (.ref ca), .val (.int (1 : Int32)), .val (.ref ba), .val (.int (1 : Int32)), .val (.int (2 : Int32)), .val (.int (1 : Int32)), .val (.int c1)] [])
      refine own_by (T' := T4_) (g' := (mkF m 35 #[.val (.ref ca), .val (.int ((1 : Int32) + (1 : Int32))), .val (.ref ba), .val (.int (1 : Int32)), .val (.int (2 : Int32)), .val (.int (1 : Int32)), .val (.int c1)] [])) (fun t_ hr_ => XS.iinc A4_ hx rfl (Jvm.hb hby d15_32) rfl (l' := #[.val (.ref ca), .val (.int ((1 : Int32) + (1 : Int32))), .val (.ref ba), .val (.int (1 : Int32)), .val (.int (2 : Int32)), .val (.int (1 : Int32)), .val (.int c1)]) rfl hr_) ?_
      refine own_by (T' := T4_) (g' := (mkF m 38 #[.val (.ref ca), .val (.int ((1 : Int32) + (1 : Int32))), .val (.ref ba), .val (.int ((1 : Int32) + (1 : Int32))), .val (.int (2 : Int32)), .val (.int (1 : Int32)), .val (.int c1)] [])) (fun t_ hr_ => XS.iinc A4_ hx rfl (Jvm.hb hby d15_35) rfl (l' := #[.val (.ref ca), .val (.int ((1 : Int32) + (1 : Int32))), .val (.ref ba), .val (.int ((1 : Int32) + (1 : Int32))), .val (.int (2 : Int32)), .val (.int (1 : Int32)), .val (.int c1)]) rfl hr_) ?_
      refine own_by (T' := T4_) (g' := (mkF m 41 #[.val (.ref ca), .val (.int ((1 : Int32) + (1 : Int32))), .val (.ref ba), .val (.int ((1 : Int32) + (1 : Int32))), .val (.int (2 : Int32)), .val (.int ((1 : Int32) + (1 : Int32))), .val (.int c1)] [])) (fun t_ hr_ => XS.iinc A4_ hx rfl (Jvm.hb hby d15_38) rfl (l' := #[.val (.ref ca), .val (.int ((1 : Int32) + (1 : Int32))), .val (.ref ba), .val (.int ((1 : Int32) + (1 : Int32))), .val (.int (2 : Int32)), .val (.int ((1 : Int32) + (1 : Int32))), .val (.int c1)]) rfl hr_) ?_
      rw [show ((1 : Int32) + (1 : Int32)) = (2 : Int32) from (by decide)]
      show own_WP p e _ below s Z _ n0 _ T4_ (mkF m 41 #[.val (.ref ca), .val (.int (2 : Int32)), .val (.ref ba), .val (.int (2 : Int32)), .val (.int (2 : Int32)), .val (.int (2 : Int32)), .val (.int c1)] [])
      refine own_by (T' := T4_) (g' := (mkF m 3 #[.val (.ref ca), .val (.int (2 : Int32)), .val (.ref ba), .val (.int (2 : Int32)), .val (.int (2 : Int32)), .val (.int (2 : Int32)), .val (.int c1)] [])) (fun t_ hr_ => XS.goto A4_ hx rfl (pc0 := 41) (pc' := 3) rfl (Jvm.hb hby d15_41) (by decide) (by decide) hr_) ?_
      have VC4_ := VC2_.other W4_ hne
      have Sf4_ := Safe.wr W4_ Sf2_ (own_chv w2_) Sf2_
      refine own_by (T' := T4_) (g' := (mkF m 5 #[.val (.ref ca), .val (.int (2 : Int32)), .val (.ref ba), .val (.int (2 : Int32)), .val (.int (2 : Int32)), .val (.int (2 : Int32)), .val (.int c1)] [(.int (2 : Int32))])) (fun t_ hr_ => XS.iload A4_ hx rfl (Jvm.hb hby d15_3) rfl hr_) ?_
      refine own_by (T' := T4_) (g' := (mkF m 7 #[.val (.ref ca), .val (.int (2 : Int32)), .val (.ref ba), .val (.int (2 : Int32)), .val (.int (2 : Int32)), .val (.int (2 : Int32)), .val (.int c1)] [(.int (2 : Int32)), (.int (2 : Int32))])) (fun t_ hr_ => XS.iload A4_ hx rfl (Jvm.hb hby d15_5) rfl hr_) ?_
      refine own_by (T' := T4_) (g' := (mkF m 44 #[.val (.ref ca), .val (.int (2 : Int32)), .val (.ref ba), .val (.int (2 : Int32)), .val (.int (2 : Int32)), .val (.int (2 : Int32)), .val (.int c1)] [])) (fun t_ hr_ => XS.icmpYes A4_ hx rfl (pc0 := 7) (pc' := 44) rfl (Jvm.hb hby d15_7) rfl (flt (by decide)).2.1 (by decide) (by decide) hr_) ?_
      refine own_by (T' := T4_) (g' := (mkF m 46 #[.val (.ref ca), .val (.int (2 : Int32)), .val (.ref ba), .val (.int (2 : Int32)), .val (.int (2 : Int32)), .val (.int (2 : Int32)), .val (.int c1)] [(.int (2 : Int32))])) (fun t_ hr_ => XS.iload A4_ hx rfl (Jvm.hb hby d15_44) rfl hr_) ?_
      exact own_retI w4_ hx hEL hlk hret (Jvm.hb hby d15_46) (by decide) (by decide) (Or.inr (Or.inr (⟨rfl, ⟨hc1_, hc3_⟩, (((Keep.refl h0 [ba]).wr W2_ (Or.inl (List.mem_of_getElem? (i := 0) rfl))).wr W4_ (Or.inl (List.mem_of_getElem? (i := 0) rfl))), V4_⟩)))

theorem ef_ctC32 (m : MethodId) (x0 : Addr) (x1 : Int32) (x2 : Int32) : entryFrame m #[(.ref x0), (.int x1), (.int x2)] 6 = mkF m 0 #[.val (.ref x0), .val (.int x1), .val (.int x2), .unset, .unset, .unset] [] := by first | (simp [entryFrame, mkF, argsToLocals, Value.category]; done) | rfl
set_option maxRecDepth 65536 in
set_option maxHeartbeats 40000000 in
theorem ctC32 (l : Launch) (Z : State) (a0 : Array Value) (hw : ∀ d ∈ tables_1, d.before a0 Z = true) (US : own_US Z) (n0 : Nat) (h0 : Heap) (O0 : Old Z n0 h0) (ca : Addr) (kC : ClassId) (c0 c1 : Int32) (VC : Arv Z h0 ca kC .char (2 : Int32) [(.int c0), (.int c1)] (.int 0)) (r0 : ¬ c0 < 0 ∧ ¬ (65535 : Int32) < c0) (r1 : ¬ c1 < 0 ∧ ¬ (65535 : Int32) < c1) :
    own_Ct l (⟨"java/lang/StringUTF16", "compress", "([CII)[B"⟩ : MethodName) jdk_52_method_16_code 6 (some (.array .byte)) ({ frames := 3, cells := 2, slots := 6, locals := 40 } : Room) Z consts_1 n0 #[(.ref ca), (.int (0 : Int32)), (.int (2 : Int32))] h0 [] (fun v h => ∃ a k, v = some (.ref a) ∧ Ext h0 h ∧ (Arv Z h a k .byte (4 : Int32) [(.int (c0.toInt8.toInt32)), (.int ((c0 >>> ((8 : Int32) &&& 31)).toInt8.toInt32)), (.int (c1.toInt8.toInt32)), (.int ((c1 >>> ((8 : Int32) &&& 31)).toInt8.toInt32))] (.int 0) ∨ (Arv Z h a k .byte (2 : Int32) [(.int (c0.toInt8.toInt32)), (.int (c1.toInt8.toInt32))] (.int 0) ∧ (¬ (255 : Int32) < c0 ∧ ¬ (255 : Int32) < c1)))) := by
  have hEL := own_EL hw
  refine own_body pn_465937380 O0 (fun p e s m below meth cc_ T0 vm0 hx hby hml0 hret hlk hnm hsf w0 => ?_)
  have hml : cc_.maxLocals = 6 := hml0
  have A_0 := own_at w0
  refine own_entry (ef_ctC32 m ca (0 : Int32) (2 : Int32)) ?_
  refine own_by (T' := T0) (g' := (mkF m 1 #[.val (.ref ca), .val (.int (0 : Int32)), .val (.int (2 : Int32)), .unset, .unset, .unset] [(.int (2 : Int32))])) (fun t_ hr_ => XS.iloadN A_0 hx rfl (Jvm.hb hby d14_0) rfl hr_) ?_
  refine own_newP w0 hx (hw _ (List.mem_of_getElem? (i := 17) rfl)) (g := (mkF m 1 #[.val (.ref ca), .val (.int (0 : Int32)), .val (.int (2 : Int32)), .unset, .unset, .unset] [(.int (2 : Int32))])) rfl (Jvm.hb hby d14_1) rfl (by decide) (cap := 2) (by decide) (by decide) (by decide) (by decide) (fun T1_ h1_ a1_ k1_ g1_ E1_ V1_ w1_ => ?_)
  have A1_ := own_at w1_
  show own_WP p e _ below s Z _ n0 _ T1_ (mkF m 3 #[.val (.ref ca), .val (.int (0 : Int32)), .val (.int (2 : Int32)), .unset, .unset, .unset] [(.ref a1_)])
  have ga0 : h0.size ≤ a1_ := by rw [g1_]; exact Nat.le_refl _
  have gb : n0 ≤ a1_ := Nat.le_trans (own_n0 w0) ga0
  have U1 : Arv Z h1_ a1_ k1_ .byte (2 : Int32) [(.int (0 : Int32)), (.int (0 : Int32))] (.int 0) := V1_.pad (vs' := [(.int (0 : Int32)), (.int (0 : Int32))]) (fun i => pad_rep [] (.int (0 : Int32)) 2 i)
  have nca : ca ≠ a1_ := Nat.ne_of_lt (Nat.lt_of_lt_of_le VC.lt ga0)
  have VC1 := VC.ext E1_
  refine own_by (T' := T1_) (g' := (mkF m 4 #[.val (.ref ca), .val (.int (0 : Int32)), .val (.int (2 : Int32)), .val (.ref a1_), .unset, .unset] [])) (fun t_ hr_ => XS.astoreN A1_ hx rfl (Jvm.hb hby d14_3) rfl rfl (l' := #[.val (.ref ca), .val (.int (0 : Int32)), .val (.int (2 : Int32)), .val (.ref a1_), .unset, .unset]) rfl hr_) ?_
  refine own_by (T' := T1_) (g' := (mkF m 5 #[.val (.ref ca), .val (.int (0 : Int32)), .val (.int (2 : Int32)), .val (.ref a1_), .unset, .unset] [(.ref ca)])) (fun t_ hr_ => XS.aloadN A1_ hx rfl (Jvm.hb hby d14_4) rfl rfl hr_) ?_
  refine own_by (T' := T1_) (g' := (mkF m 6 #[.val (.ref ca), .val (.int (0 : Int32)), .val (.int (2 : Int32)), .val (.ref a1_), .unset, .unset] [(.int (0 : Int32)), (.ref ca)])) (fun t_ hr_ => XS.iloadN A1_ hx rfl (Jvm.hb hby d14_5) rfl hr_) ?_
  refine own_by (T' := T1_) (g' := (mkF m 7 #[.val (.ref ca), .val (.int (0 : Int32)), .val (.int (2 : Int32)), .val (.ref a1_), .unset, .unset] [(.ref a1_), (.int (0 : Int32)), (.ref ca)])) (fun t_ hr_ => XS.aloadN A1_ hx rfl (Jvm.hb hby d14_6) rfl rfl hr_) ?_
  refine own_by (T' := T1_) (g' := (mkF m 8 #[.val (.ref ca), .val (.int (0 : Int32)), .val (.int (2 : Int32)), .val (.ref a1_), .unset, .unset] [(.int (0 : Int32)), (.ref a1_), (.int (0 : Int32)), (.ref ca)])) (fun t_ hr_ => XS.iconst A1_ hx rfl (Jvm.hb hby d14_7) hr_) ?_
  refine own_by (T' := T1_) (g' := (mkF m 9 #[.val (.ref ca), .val (.int (0 : Int32)), .val (.int (2 : Int32)), .val (.ref a1_), .unset, .unset] [(.int (2 : Int32)), (.int (0 : Int32)), (.ref a1_), (.int (0 : Int32)), (.ref ca)])) (fun t_ hr_ => XS.iloadN A1_ hx rfl (Jvm.hb hby d14_8) rfl hr_) ?_
  refine own_callS w1_ hx (y := (⟨"java/lang/StringUTF16", "compress", "([CI[BII)I"⟩ : MethodName)) (hw _ (List.mem_of_getElem? (i := 72) rfl)) (hw _ (List.mem_of_getElem? (i := 73) rfl)) (hw _ (List.mem_of_getElem? (i := 70) rfl)) (hw _ (List.mem_of_getElem? (i := 74) rfl)) (by decide) (kc := 0) (ks := 0) (argsL := [(.ref ca), (.int (0 : Int32)), (.ref a1_), (.int (0 : Int32)), (.int (2 : Int32))]) (rest := []) (own_payCt (W := 0) (ctC52 l Z a0 hw n0 h1_ (own_old w1_) ca a1_ kC k1_ c0 c1 VC1 U1 nca gb) w1_ (hw _ (List.mem_of_getElem? (i := 74) rfl)) (hw _ (List.mem_of_getElem? (i := 70) rfl)) hEL (by decide) (by decide) (own_one ⟨U1.lt, own_safeB (own_hZ w1_) (hw _ (List.mem_of_getElem? (i := 16) rfl)) U1 (by decide)⟩)) (g := (mkF m 9 #[.val (.ref ca), .val (.int (0 : Int32)), .val (.int (2 : Int32)), .val (.ref a1_), .unset, .unset] [(.int (2 : Int32)), (.int (0 : Int32)), (.ref a1_), (.int (0 : Int32)), (.ref ca)])) rfl (by rw [hml]; rfl) (lenOf pd_110984662 rfl) rfl (by show 2 * 0 + _ ≤ _; exact Nat.le_of_eq rfl) (Jvm.hb hby d14_9) (by decide) (by decide) (fun v2_ T2_ vm2_ h2_ q2_ C2_ w2_ => ?_)
  rcases q2_ with ⟨rfl, hi0, KC⟩ | ⟨rfl, hi0, KC⟩ | ⟨rfl, hi0, KC, VN⟩
  · have A2_ := own_at w2_
    show own_WP p e _ below s Z _ n0 _ T2_ (mkF m 12 #[.val (.ref ca), .val (.int (0 : Int32)), .val (.int (2 : Int32)), .val (.ref a1_), .unset, .unset] [(.int (0 : Int32))])
    refine own_by (T' := T2_) (g' := (mkF m 14 #[.val (.ref ca), .val (.int (0 : Int32)), .val (.int (2 : Int32)), .val (.ref a1_), .val (.int (0 : Int32)), .unset] [])) (fun t_ hr_ => XS.istore A2_ hx rfl (Jvm.hb hby d14_12) rfl (l' := #[.val (.ref ca), .val (.int (0 : Int32)), .val (.int (2 : Int32)), .val (.ref a1_), .val (.int (0 : Int32)), .unset]) rfl hr_) ?_
    refine own_by (T' := T2_) (g' := (mkF m 16 #[.val (.ref ca), .val (.int (0 : Int32)), .val (.int (2 : Int32)), .val (.ref a1_), .val (.int (0 : Int32)), .unset] [(.int (0 : Int32))])) (fun t_ hr_ => XS.iload A2_ hx rfl (Jvm.hb hby d14_14) rfl hr_) ?_
    refine own_by (T' := T2_) (g' := (mkF m 17 #[.val (.ref ca), .val (.int (0 : Int32)), .val (.int (2 : Int32)), .val (.ref a1_), .val (.int (0 : Int32)), .unset] [(.int (2 : Int32)), (.int (0 : Int32))])) (fun t_ hr_ => XS.iloadN A2_ hx rfl (Jvm.hb hby d14_16) rfl hr_) ?_
    refine own_by (T' := T2_) (g' := (mkF m 20 #[.val (.ref ca), .val (.int (0 : Int32)), .val (.int (2 : Int32)), .val (.ref a1_), .val (.int (0 : Int32)), .unset] [])) (fun t_ hr_ => XS.icmpNo A2_ hx rfl (Jvm.hb hby d14_17) rfl (feq (by decide)).1 hr_) ?_
    refine own_by (T' := T2_) (g' := (mkF m 21 #[.val (.ref ca), .val (.int (0 : Int32)), .val (.int (2 : Int32)), .val (.ref a1_), .val (.int (0 : Int32)), .unset] [(.ref ca)])) (fun t_ hr_ => XS.aloadN A2_ hx rfl (Jvm.hb hby d14_20) rfl rfl hr_) ?_
    refine own_by (T' := T2_) (g' := (mkF m 22 #[.val (.ref ca), .val (.int (0 : Int32)), .val (.int (2 : Int32)), .val (.ref a1_), .val (.int (0 : Int32)), .unset] [(.int (0 : Int32)), (.ref ca)])) (fun t_ hr_ => XS.iloadN A2_ hx rfl (Jvm.hb hby d14_21) rfl hr_) ?_
    refine own_by (T' := T2_) (g' := (mkF m 23 #[.val (.ref ca), .val (.int (0 : Int32)), .val (.int (2 : Int32)), .val (.ref a1_), .val (.int (0 : Int32)), .unset] [(.int (2 : Int32)), (.int (0 : Int32)), (.ref ca)])) (fun t_ hr_ => XS.iloadN A2_ hx rfl (Jvm.hb hby d14_22) rfl hr_) ?_
    have VC2 := VC1.keep KC (ninS nca nin0)
    refine own_callS w2_ hx (y := (⟨"java/lang/StringUTF16", "toBytes", "([CII)[B"⟩ : MethodName)) (hw _ (List.mem_of_getElem? (i := 81) rfl)) (hw _ (List.mem_of_getElem? (i := 82) rfl)) (hw _ (List.mem_of_getElem? (i := 70) rfl)) (hw _ (List.mem_of_getElem? (i := 83) rfl)) (by decide) (kc := 1) (ks := 4) (argsL := [(.ref ca), (.int (0 : Int32)), (.int (2 : Int32))]) (rest := []) (own_payCt (W := 0) (ctTB2 l Z a0 hw US n0 h2_ (own_old w2_) ca kC c0 c1 VC2) w2_ (hw _ (List.mem_of_getElem? (i := 83) rfl)) (hw _ (List.mem_of_getElem? (i := 70) rfl)) hEL (by decide) (by decide)) (g := (mkF m 23 #[.val (.ref ca), .val (.int (0 : Int32)), .val (.int (2 : Int32)), .val (.ref a1_), .val (.int (0 : Int32)), .unset] [(.int (2 : Int32)), (.int (0 : Int32)), (.ref ca)])) rfl (by rw [hml]; rfl) (lenOf pd_272673973 rfl) rfl (by show 2 * 0 + _ ≤ _; exact Nat.le_of_eq rfl) (Jvm.hb hby d14_23) (by decide) (by decide) (fun v3_ T3_ vm3_ h3_ q3_ C3_ w3_ => ?_)
    obtain ⟨a, k, rfl, E3, V3⟩ := q3_
    have A3_ := own_at w3_
    show own_WP p e _ below s Z _ n0 _ T3_ (mkF m 26 #[.val (.ref ca), .val (.int (0 : Int32)), .val (.int (2 : Int32)), .val (.ref a1_), .val (.int (0 : Int32)), .unset] [(.ref a)])
    refine own_by (T' := T3_) (g' := (mkF m 28 #[.val (.ref ca), .val (.int (0 : Int32)), .val (.int (2 : Int32)), .val (.ref a1_), .val (.int (0 : Int32)), .val (.ref a)] [])) (fun t_ hr_ => XS.astore A3_ hx rfl (Jvm.hb hby d14_26) rfl rfl (l' := #[.val (.ref ca), .val (.int (0 : Int32)), .val (.int (2 : Int32)), .val (.ref a1_), .val (.int (0 : Int32)), .val (.ref a)]) rfl hr_) ?_
    refine own_by (T' := T3_) (g' := (mkF m 30 #[.val (.ref ca), .val (.int (0 : Int32)), .val (.int (2 : Int32)), .val (.ref a1_), .val (.int (0 : Int32)), .val (.ref a)] [(.ref a)])) (fun t_ hr_ => XS.aload A3_ hx rfl (Jvm.hb hby d14_28) rfl rfl hr_) ?_
    refine own_by (T' := T3_) (g' := (mkF m 32 #[.val (.ref ca), .val (.int (0 : Int32)), .val (.int (2 : Int32)), .val (.ref a1_), .val (.int (0 : Int32)), .val (.ref a)] [(.int (0 : Int32)), (.ref a)])) (fun t_ hr_ => XS.iload A3_ hx rfl (Jvm.hb hby d14_30) rfl hr_) ?_
    refine own_callS w3_ hx (y := (⟨"java/lang/StringUTF16", "getChar", "([BI)C"⟩ : MethodName)) (hw _ (List.mem_of_getElem? (i := 97) rfl)) (hw _ (List.mem_of_getElem? (i := 98) rfl)) (hw _ (List.mem_of_getElem? (i := 70) rfl)) (hw _ (List.mem_of_getElem? (i := 99) rfl)) (by decide) (kc := 0) (ks := 0) (argsL := [(.ref a), (.int (0 : Int32))]) (rest := []) (own_payCt (W := 0) (ctGet l Z a0 hw US n0 h3_ (own_old w3_) a 0 k [c0, c1] V3 (by simp only [List.forall_mem_cons, List.not_mem_nil, false_imp_iff, implies_true, and_true]; exact ⟨r0, r1⟩) (by simp) (by simp)) w3_ (hw _ (List.mem_of_getElem? (i := 99) rfl)) (hw _ (List.mem_of_getElem? (i := 70) rfl)) hEL (by decide) (by decide)) (g := (mkF m 32 #[.val (.ref ca), .val (.int (0 : Int32)), .val (.int (2 : Int32)), .val (.ref a1_), .val (.int (0 : Int32)), .val (.ref a)] [(.int (0 : Int32)), (.ref a)])) rfl (by rw [hml]; rfl) (lenOf pd_128700058 rfl) rfl (by show 2 * 0 + _ ≤ _; exact Nat.le_of_eq rfl) (Jvm.hb hby d14_32) (by decide) (by decide) (fun v4_ T4_ vm4_ h4_ q4_ C4_ w4_ => ?_)
    obtain ⟨rfl, rfl⟩ := q4_
    have A4_ := own_at w4_
    show own_WP p e _ below s Z _ n0 _ T4_ (mkF m 35 #[.val (.ref ca), .val (.int (0 : Int32)), .val (.int (2 : Int32)), .val (.ref a1_), .val (.int (0 : Int32)), .val (.ref a)] [(.int c0)])
    refine own_by (T' := T4_) (g' := (mkF m 38 #[.val (.ref ca), .val (.int (0 : Int32)), .val (.int (2 : Int32)), .val (.ref a1_), .val (.int (0 : Int32)), .val (.ref a)] [(.int (255 : Int32)), (.int c0)])) (fun t_ hr_ => XS.sipush A4_ hx rfl (Jvm.hb hby d14_35) hr_) ?_
    refine own_by (T' := T4_) (g' := (mkF m 54 #[.val (.ref ca), .val (.int (0 : Int32)), .val (.int (2 : Int32)), .val (.ref a1_), .val (.int (0 : Int32)), .val (.ref a)] [])) (fun t_ hr_ => XS.icmpYes A4_ hx rfl (pc0 := 38) (pc' := 54) rfl (Jvm.hb hby d14_38) rfl (tlt hi0).2.2.1 (by decide) (by decide) hr_) ?_
    refine own_by (T' := T4_) (g' := (mkF m 56 #[.val (.ref ca), .val (.int (0 : Int32)), .val (.int (2 : Int32)), .val (.ref a1_), .val (.int (0 : Int32)), .val (.ref a)] [(.ref a)])) (fun t_ hr_ => XS.aload A4_ hx rfl (Jvm.hb hby d14_54) rfl rfl hr_) ?_
    exact own_retA w4_ hx hEL hlk hret rfl rfl (Jvm.hb hby d14_56) (by decide) (by decide) ⟨_, _, rfl, own_extTrans (own_extK E1_ KC (allS ga0 all0)) E3, Or.inl V3⟩
  · have A2_ := own_at w2_
    show own_WP p e _ below s Z _ n0 _ T2_ (mkF m 12 #[.val (.ref ca), .val (.int (0 : Int32)), .val (.int (2 : Int32)), .val (.ref a1_), .unset, .unset] [(.int (1 : Int32))])
    refine own_by (T' := T2_) (g' := (mkF m 14 #[.val (.ref ca), .val (.int (0 : Int32)), .val (.int (2 : Int32)), .val (.ref a1_), .val (.int (1 : Int32)), .unset] [])) (fun t_ hr_ => XS.istore A2_ hx rfl (Jvm.hb hby d14_12) rfl (l' := #[.val (.ref ca), .val (.int (0 : Int32)), .val (.int (2 : Int32)), .val (.ref a1_), .val (.int (1 : Int32)), .unset]) rfl hr_) ?_
    refine own_by (T' := T2_) (g' := (mkF m 16 #[.val (.ref ca), .val (.int (0 : Int32)), .val (.int (2 : Int32)), .val (.ref a1_), .val (.int (1 : Int32)), .unset] [(.int (1 : Int32))])) (fun t_ hr_ => XS.iload A2_ hx rfl (Jvm.hb hby d14_14) rfl hr_) ?_
    refine own_by (T' := T2_) (g' := (mkF m 17 #[.val (.ref ca), .val (.int (0 : Int32)), .val (.int (2 : Int32)), .val (.ref a1_), .val (.int (1 : Int32)), .unset] [(.int (2 : Int32)), (.int (1 : Int32))])) (fun t_ hr_ => XS.iloadN A2_ hx rfl (Jvm.hb hby d14_16) rfl hr_) ?_
    refine own_by (T' := T2_) (g' := (mkF m 20 #[.val (.ref ca), .val (.int (0 : Int32)), .val (.int (2 : Int32)), .val (.ref a1_), .val (.int (1 : Int32)), .unset] [])) (fun t_ hr_ => XS.icmpNo A2_ hx rfl (Jvm.hb hby d14_17) rfl (feq (by decide)).1 hr_) ?_
    refine own_by (T' := T2_) (g' := (mkF m 21 #[.val (.ref ca), .val (.int (0 : Int32)), .val (.int (2 : Int32)), .val (.ref a1_), .val (.int (1 : Int32)), .unset] [(.ref ca)])) (fun t_ hr_ => XS.aloadN A2_ hx rfl (Jvm.hb hby d14_20) rfl rfl hr_) ?_
    refine own_by (T' := T2_) (g' := (mkF m 22 #[.val (.ref ca), .val (.int (0 : Int32)), .val (.int (2 : Int32)), .val (.ref a1_), .val (.int (1 : Int32)), .unset] [(.int (0 : Int32)), (.ref ca)])) (fun t_ hr_ => XS.iloadN A2_ hx rfl (Jvm.hb hby d14_21) rfl hr_) ?_
    refine own_by (T' := T2_) (g' := (mkF m 23 #[.val (.ref ca), .val (.int (0 : Int32)), .val (.int (2 : Int32)), .val (.ref a1_), .val (.int (1 : Int32)), .unset] [(.int (2 : Int32)), (.int (0 : Int32)), (.ref ca)])) (fun t_ hr_ => XS.iloadN A2_ hx rfl (Jvm.hb hby d14_22) rfl hr_) ?_
    have VC2 := VC1.keep KC (ninS nca nin0)
    refine own_callS w2_ hx (y := (⟨"java/lang/StringUTF16", "toBytes", "([CII)[B"⟩ : MethodName)) (hw _ (List.mem_of_getElem? (i := 81) rfl)) (hw _ (List.mem_of_getElem? (i := 82) rfl)) (hw _ (List.mem_of_getElem? (i := 70) rfl)) (hw _ (List.mem_of_getElem? (i := 83) rfl)) (by decide) (kc := 1) (ks := 4) (argsL := [(.ref ca), (.int (0 : Int32)), (.int (2 : Int32))]) (rest := []) (own_payCt (W := 0) (ctTB2 l Z a0 hw US n0 h2_ (own_old w2_) ca kC c0 c1 VC2) w2_ (hw _ (List.mem_of_getElem? (i := 83) rfl)) (hw _ (List.mem_of_getElem? (i := 70) rfl)) hEL (by decide) (by decide)) (g := (mkF m 23 #[.val (.ref ca), .val (.int (0 : Int32)), .val (.int (2 : Int32)), .val (.ref a1_), .val (.int (1 : Int32)), .unset] [(.int (2 : Int32)), (.int (0 : Int32)), (.ref ca)])) rfl (by rw [hml]; rfl) (lenOf pd_272673973 rfl) rfl (by show 2 * 0 + _ ≤ _; exact Nat.le_of_eq rfl) (Jvm.hb hby d14_23) (by decide) (by decide) (fun v5_ T5_ vm5_ h5_ q5_ C5_ w5_ => ?_)
    obtain ⟨a, k, rfl, E3, V3⟩ := q5_
    have A5_ := own_at w5_
    show own_WP p e _ below s Z _ n0 _ T5_ (mkF m 26 #[.val (.ref ca), .val (.int (0 : Int32)), .val (.int (2 : Int32)), .val (.ref a1_), .val (.int (1 : Int32)), .unset] [(.ref a)])
    refine own_by (T' := T5_) (g' := (mkF m 28 #[.val (.ref ca), .val (.int (0 : Int32)), .val (.int (2 : Int32)), .val (.ref a1_), .val (.int (1 : Int32)), .val (.ref a)] [])) (fun t_ hr_ => XS.astore A5_ hx rfl (Jvm.hb hby d14_26) rfl rfl (l' := #[.val (.ref ca), .val (.int (0 : Int32)), .val (.int (2 : Int32)), .val (.ref a1_), .val (.int (1 : Int32)), .val (.ref a)]) rfl hr_) ?_
    refine own_by (T' := T5_) (g' := (mkF m 30 #[.val (.ref ca), .val (.int (0 : Int32)), .val (.int (2 : Int32)), .val (.ref a1_), .val (.int (1 : Int32)), .val (.ref a)] [(.ref a)])) (fun t_ hr_ => XS.aload A5_ hx rfl (Jvm.hb hby d14_28) rfl rfl hr_) ?_
    refine own_by (T' := T5_) (g' := (mkF m 32 #[.val (.ref ca), .val (.int (0 : Int32)), .val (.int (2 : Int32)), .val (.ref a1_), .val (.int (1 : Int32)), .val (.ref a)] [(.int (1 : Int32)), (.ref a)])) (fun t_ hr_ => XS.iload A5_ hx rfl (Jvm.hb hby d14_30) rfl hr_) ?_
    refine own_callS w5_ hx (y := (⟨"java/lang/StringUTF16", "getChar", "([BI)C"⟩ : MethodName)) (hw _ (List.mem_of_getElem? (i := 97) rfl)) (hw _ (List.mem_of_getElem? (i := 98) rfl)) (hw _ (List.mem_of_getElem? (i := 70) rfl)) (hw _ (List.mem_of_getElem? (i := 99) rfl)) (by decide) (kc := 0) (ks := 0) (argsL := [(.ref a), (.int (1 : Int32))]) (rest := []) (own_payCt (W := 0) (ctGet l Z a0 hw US n0 h5_ (own_old w5_) a 1 k [c0, c1] V3 (by simp only [List.forall_mem_cons, List.not_mem_nil, false_imp_iff, implies_true, and_true]; exact ⟨r0, r1⟩) (by simp) (by simp)) w5_ (hw _ (List.mem_of_getElem? (i := 99) rfl)) (hw _ (List.mem_of_getElem? (i := 70) rfl)) hEL (by decide) (by decide)) (g := (mkF m 32 #[.val (.ref ca), .val (.int (0 : Int32)), .val (.int (2 : Int32)), .val (.ref a1_), .val (.int (1 : Int32)), .val (.ref a)] [(.int (1 : Int32)), (.ref a)])) rfl (by rw [hml]; rfl) (lenOf pd_128700058 rfl) rfl (by show 2 * 0 + _ ≤ _; exact Nat.le_of_eq rfl) (Jvm.hb hby d14_32) (by decide) (by decide) (fun v6_ T6_ vm6_ h6_ q6_ C6_ w6_ => ?_)
    obtain ⟨rfl, rfl⟩ := q6_
    have A6_ := own_at w6_
    show own_WP p e _ below s Z _ n0 _ T6_ (mkF m 35 #[.val (.ref ca), .val (.int (0 : Int32)), .val (.int (2 : Int32)), .val (.ref a1_), .val (.int (1 : Int32)), .val (.ref a)] [(.int c1)])
    refine own_by (T' := T6_) (g' := (mkF m 38 #[.val (.ref ca), .val (.int (0 : Int32)), .val (.int (2 : Int32)), .val (.ref a1_), .val (.int (1 : Int32)), .val (.ref a)] [(.int (255 : Int32)), (.int c1)])) (fun t_ hr_ => XS.sipush A6_ hx rfl (Jvm.hb hby d14_35) hr_) ?_
    refine own_by (T' := T6_) (g' := (mkF m 54 #[.val (.ref ca), .val (.int (0 : Int32)), .val (.int (2 : Int32)), .val (.ref a1_), .val (.int (1 : Int32)), .val (.ref a)] [])) (fun t_ hr_ => XS.icmpYes A6_ hx rfl (pc0 := 38) (pc' := 54) rfl (Jvm.hb hby d14_38) rfl (tlt hi0).2.2.1 (by decide) (by decide) hr_) ?_
    refine own_by (T' := T6_) (g' := (mkF m 56 #[.val (.ref ca), .val (.int (0 : Int32)), .val (.int (2 : Int32)), .val (.ref a1_), .val (.int (1 : Int32)), .val (.ref a)] [(.ref a)])) (fun t_ hr_ => XS.aload A6_ hx rfl (Jvm.hb hby d14_54) rfl rfl hr_) ?_
    exact own_retA w6_ hx hEL hlk hret rfl rfl (Jvm.hb hby d14_56) (by decide) (by decide) ⟨_, _, rfl, own_extTrans (own_extK E1_ KC (allS ga0 all0)) E3, Or.inl V3⟩
  · have A2_ := own_at w2_
    show own_WP p e _ below s Z _ n0 _ T2_ (mkF m 12 #[.val (.ref ca), .val (.int (0 : Int32)), .val (.int (2 : Int32)), .val (.ref a1_), .unset, .unset] [(.int (2 : Int32))])
    refine own_by (T' := T2_) (g' := (mkF m 14 #[.val (.ref ca), .val (.int (0 : Int32)), .val (.int (2 : Int32)), .val (.ref a1_), .val (.int (2 : Int32)), .unset] [])) (fun t_ hr_ => XS.istore A2_ hx rfl (Jvm.hb hby d14_12) rfl (l' := #[.val (.ref ca), .val (.int (0 : Int32)), .val (.int (2 : Int32)), .val (.ref a1_), .val (.int (2 : Int32)), .unset]) rfl hr_) ?_
    refine own_by (T' := T2_) (g' := (mkF m 16 #[.val (.ref ca), .val (.int (0 : Int32)), .val (.int (2 : Int32)), .val (.ref a1_), .val (.int (2 : Int32)), .unset] [(.int (2 : Int32))])) (fun t_ hr_ => XS.iload A2_ hx rfl (Jvm.hb hby d14_14) rfl hr_) ?_
    refine own_by (T' := T2_) (g' := (mkF m 17 #[.val (.ref ca), .val (.int (0 : Int32)), .val (.int (2 : Int32)), .val (.ref a1_), .val (.int (2 : Int32)), .unset] [(.int (2 : Int32)), (.int (2 : Int32))])) (fun t_ hr_ => XS.iloadN A2_ hx rfl (Jvm.hb hby d14_16) rfl hr_) ?_
    refine own_by (T' := T2_) (g' := (mkF m 57 #[.val (.ref ca), .val (.int (0 : Int32)), .val (.int (2 : Int32)), .val (.ref a1_), .val (.int (2 : Int32)), .unset] [])) (fun t_ hr_ => XS.icmpYes A2_ hx rfl (pc0 := 17) (pc' := 57) rfl (Jvm.hb hby d14_17) rfl (teq (rfl : (2 : Int32) = (2 : Int32))).1 (by decide) (by decide) hr_) ?_
    refine own_by (T' := T2_) (g' := (mkF m 58 #[.val (.ref ca), .val (.int (0 : Int32)), .val (.int (2 : Int32)), .val (.ref a1_), .val (.int (2 : Int32)), .unset] [(.ref a1_)])) (fun t_ hr_ => XS.aloadN A2_ hx rfl (Jvm.hb hby d14_57) rfl rfl hr_) ?_
    exact own_retA w2_ hx hEL hlk hret rfl rfl (Jvm.hb hby d14_58) (by decide) (by decide) ⟨_, _, rfl, own_extK E1_ KC (allS ga0 all0), Or.inr ⟨VN, hi0⟩⟩

theorem ef_ctCo2_1 (m : MethodId) (x0 : Addr) (x1 : Int32) : entryFrame m #[(.ref x0), (.int x1)] 2 = mkF m 0 #[.val (.ref x0), .val (.int x1)] [] := by first | (simp [entryFrame, mkF, argsToLocals, Value.category]; done) | rfl
set_option maxRecDepth 65536 in
set_option maxHeartbeats 40000000 in
theorem ctCo2_1 (l : Launch) (Z : State) (a0 : Array Value) (hw : ∀ d ∈ tables_1, d.before a0 Z = true) (n0 : Nat) (h0 : Heap) (O0 : Old Z n0 h0) (a : Addr) (k : ClassId) (vs : List Value) (V : Arv Z h0 a k .byte (4 : Int32) vs (.int 0)) :
    own_Ct l (⟨"java/lang/StringUTF16", "coderFromArrayLen", "([BI)B"⟩ : MethodName) jdk_52_method_15_code 2 (some .byte) ({ frames := 0, cells := 0, slots := 0, locals := 0 } : Room) Z consts_1 n0 #[(.ref a), (.int (2 : Int32))] h0 [] (fun v h => v = some (.int 1) ∧ h0 = h) := by
  have hEL := own_EL hw
  refine own_body pn_741215687 O0 (fun p e s m below meth cc_ T0 vm0 hx hby hml0 hret hlk hnm hsf w0 => ?_)
  have hml : cc_.maxLocals = 2 := hml0
  have A_0 := own_at w0
  refine own_entry (ef_ctCo2_1 m a (2 : Int32)) ?_
  refine own_by (T' := T0) (g' := (mkF m 1 #[.val (.ref a), .val (.int (2 : Int32))] [(.int (2 : Int32))])) (fun t_ hr_ => XS.iloadN A_0 hx rfl (Jvm.hb hby d16_0) rfl hr_) ?_
  refine own_by (T' := T0) (g' := (mkF m 2 #[.val (.ref a), .val (.int (2 : Int32))] [(.ref a), (.int (2 : Int32))])) (fun t_ hr_ => XS.aloadN A_0 hx rfl (Jvm.hb hby d16_1) rfl rfl hr_) ?_
  refine own_alen w0 hx V (g := (mkF m 2 #[.val (.ref a), .val (.int (2 : Int32))] [(.ref a), (.int (2 : Int32))])) rfl rfl (Jvm.hb hby d16_2) ?_
  show own_WP p e _ below s Z _ n0 _ T0 (mkF m 3 #[.val (.ref a), .val (.int (2 : Int32))] [(.int (4 : Int32)), (.int (2 : Int32))])
  refine own_by (T' := T0) (g' := (mkF m 4 #[.val (.ref a), .val (.int (2 : Int32))] [(.int ((2 : Int32) - (4 : Int32)))])) (fun t_ hr_ => XS.isub A_0 hx rfl (Jvm.hb hby d16_3) rfl hr_) ?_
  refine own_by (T' := T0) (g' := (mkF m 6 #[.val (.ref a), .val (.int (2 : Int32))] [(.int (31 : Int32)), (.int ((2 : Int32) - (4 : Int32)))])) (fun t_ hr_ => XS.bipush A_0 hx rfl (Jvm.hb hby d16_4) hr_) ?_
  refine own_by (T' := T0) (g' := (mkF m 7 #[.val (.ref a), .val (.int (2 : Int32))] [(.int ((((2 : Int32) - (4 : Int32)).toUInt32 >>> ((31 : Int32) &&& 31).toUInt32).toInt32))])) (fun t_ hr_ => XS.iushr A_0 hx rfl (Jvm.hb hby d16_6) rfl hr_) ?_
  refine own_by (T' := T0) (g' := (mkF m 8 #[.val (.ref a), .val (.int (2 : Int32))] [(.int (((((2 : Int32) - (4 : Int32)).toUInt32 >>> ((31 : Int32) &&& 31).toUInt32).toInt32).toInt8.toInt32))])) (fun t_ hr_ => XS.i2b A_0 hx rfl (Jvm.hb hby d16_7) rfl hr_) ?_
  rw [show (((((2 : Int32) - (4 : Int32)).toUInt32 >>> ((31 : Int32) &&& 31).toUInt32).toInt32).toInt8.toInt32) = (1 : Int32) from (by decide)]
  show own_WP p e _ below s Z _ n0 _ T0 (mkF m 8 #[.val (.ref a), .val (.int (2 : Int32))] [(.int (1 : Int32))])
  exact own_retB w0 hx hEL hlk hret rfl (Jvm.hb hby d16_8) (by decide) (by decide) ⟨rfl, rfl⟩

theorem ef_ctCo2_0 (m : MethodId) (x0 : Addr) (x1 : Int32) : entryFrame m #[(.ref x0), (.int x1)] 2 = mkF m 0 #[.val (.ref x0), .val (.int x1)] [] := by first | (simp [entryFrame, mkF, argsToLocals, Value.category]; done) | rfl
set_option maxRecDepth 65536 in
set_option maxHeartbeats 40000000 in
theorem ctCo2_0 (l : Launch) (Z : State) (a0 : Array Value) (hw : ∀ d ∈ tables_1, d.before a0 Z = true) (n0 : Nat) (h0 : Heap) (O0 : Old Z n0 h0) (a : Addr) (k : ClassId) (vs : List Value) (V : Arv Z h0 a k .byte (2 : Int32) vs (.int 0)) :
    own_Ct l (⟨"java/lang/StringUTF16", "coderFromArrayLen", "([BI)B"⟩ : MethodName) jdk_52_method_15_code 2 (some .byte) ({ frames := 0, cells := 0, slots := 0, locals := 0 } : Room) Z consts_1 n0 #[(.ref a), (.int (2 : Int32))] h0 [] (fun v h => v = some (.int 0) ∧ h0 = h) := by
  have hEL := own_EL hw
  refine own_body pn_741215687 O0 (fun p e s m below meth cc_ T0 vm0 hx hby hml0 hret hlk hnm hsf w0 => ?_)
  have hml : cc_.maxLocals = 2 := hml0
  have A_0 := own_at w0
  refine own_entry (ef_ctCo2_0 m a (2 : Int32)) ?_
  refine own_by (T' := T0) (g' := (mkF m 1 #[.val (.ref a), .val (.int (2 : Int32))] [(.int (2 : Int32))])) (fun t_ hr_ => XS.iloadN A_0 hx rfl (Jvm.hb hby d16_0) rfl hr_) ?_
  refine own_by (T' := T0) (g' := (mkF m 2 #[.val (.ref a), .val (.int (2 : Int32))] [(.ref a), (.int (2 : Int32))])) (fun t_ hr_ => XS.aloadN A_0 hx rfl (Jvm.hb hby d16_1) rfl rfl hr_) ?_
  refine own_alen w0 hx V (g := (mkF m 2 #[.val (.ref a), .val (.int (2 : Int32))] [(.ref a), (.int (2 : Int32))])) rfl rfl (Jvm.hb hby d16_2) ?_
  show own_WP p e _ below s Z _ n0 _ T0 (mkF m 3 #[.val (.ref a), .val (.int (2 : Int32))] [(.int (2 : Int32)), (.int (2 : Int32))])
  refine own_by (T' := T0) (g' := (mkF m 4 #[.val (.ref a), .val (.int (2 : Int32))] [(.int ((2 : Int32) - (2 : Int32)))])) (fun t_ hr_ => XS.isub A_0 hx rfl (Jvm.hb hby d16_3) rfl hr_) ?_
  refine own_by (T' := T0) (g' := (mkF m 6 #[.val (.ref a), .val (.int (2 : Int32))] [(.int (31 : Int32)), (.int ((2 : Int32) - (2 : Int32)))])) (fun t_ hr_ => XS.bipush A_0 hx rfl (Jvm.hb hby d16_4) hr_) ?_
  refine own_by (T' := T0) (g' := (mkF m 7 #[.val (.ref a), .val (.int (2 : Int32))] [(.int ((((2 : Int32) - (2 : Int32)).toUInt32 >>> ((31 : Int32) &&& 31).toUInt32).toInt32))])) (fun t_ hr_ => XS.iushr A_0 hx rfl (Jvm.hb hby d16_6) rfl hr_) ?_
  refine own_by (T' := T0) (g' := (mkF m 8 #[.val (.ref a), .val (.int (2 : Int32))] [(.int (((((2 : Int32) - (2 : Int32)).toUInt32 >>> ((31 : Int32) &&& 31).toUInt32).toInt32).toInt8.toInt32))])) (fun t_ hr_ => XS.i2b A_0 hx rfl (Jvm.hb hby d16_7) rfl hr_) ?_
  rw [show (((((2 : Int32) - (2 : Int32)).toUInt32 >>> ((31 : Int32) &&& 31).toUInt32).toInt32).toInt8.toInt32) = (0 : Int32) from (by decide)]
  show own_WP p e _ below s Z _ n0 _ T0 (mkF m 8 #[.val (.ref a), .val (.int (2 : Int32))] [(.int (0 : Int32))])
  exact own_retB w0 hx hEL hlk hret rfl (Jvm.hb hby d16_8) (by decide) (by decide) ⟨rfl, rfl⟩

theorem ef_ctNew4w2 (m : MethodId) (x0 : Addr) (x1 : Addr) (x2 : Int32) (x3 : Int32) : entryFrame m #[(.ref x0), (.ref x1), (.int x2), (.int x3), .null] 6 = mkF m 0 #[.val (.ref x0), .val (.ref x1), .val (.int x2), .val (.int x3), .val .null, .unset] [] := by first | (simp [entryFrame, mkF, argsToLocals, Value.category]; done) | rfl
set_option maxRecDepth 65536 in
set_option maxHeartbeats 40000000 in
theorem ctNew4w2 (l : Launch) (Z : State) (a0 : Array Value) (hw : ∀ d ∈ tables_1, d.before a0 Z = true) (SC : own_SC Z) (US : own_US Z) (n0 : Nat) (h0 : Heap) (O0 : Old Z n0 h0) (x ca : Addr) (kC : ClassId) (c0 c1 : Int32) (F0 : own_Raw Z h0 x) (VC : Arv Z h0 ca kC .char (2 : Int32) [(.int c0), (.int c1)] (.int 0)) (gx : n0 ≤ x) (r0 : ¬ c0 < 0 ∧ ¬ (65535 : Int32) < c0) (r1 : ¬ c1 < 0 ∧ ¬ (65535 : Int32) < c1) :
    own_Ct l (⟨"java/lang/String", "<init>", "([CIILjava/lang/Void;)V"⟩ : MethodName) jdk_42_method_149_code 6 none ({ frames := 4, cells := 2, slots := 6, locals := 57 } : Room) Z consts_1 n0 #[(.ref x), (.ref ca), (.int (0 : Int32)), (.int (2 : Int32)), .null] h0 [] (fun v h => v = none ∧ Keep h0 h [x] ∧ own_Any Z h x [c0, c1]) := by
  have hEL := own_EL hw
  refine own_body pn_592151507 O0 (fun p e s m below meth cc_ T0 vm0 hx hby hml0 hret hlk hnm hsf w0 => ?_)
  have hml : cc_.maxLocals = 6 := hml0
  have A_0 := own_at w0
  refine own_entry (ef_ctNew4w2 m x ca (0 : Int32) (2 : Int32)) ?_
  obtain ⟨zc, Sz, hz⟩ := SC
  refine own_by (T' := T0) (g' := (mkF m 1 #[.val (.ref x), .val (.ref ca), .val (.int (0 : Int32)), .val (.int (2 : Int32)), .val .null, .unset] [(.ref x)])) (fun t_ hr_ => XS.aloadN A_0 hx rfl (Jvm.hb hby d2_0) rfl rfl hr_) ?_
  refine own_initO w0 hx (hw _ (List.mem_of_getElem? (i := 13) rfl)) (hw _ (List.mem_of_getElem? (i := 14) rfl)) (hw _ (List.mem_of_getElem? (i := 15) rfl)) (g := (mkF m 1 #[.val (.ref x), .val (.ref ca), .val (.int (0 : Int32)), .val (.int (2 : Int32)), .val .null, .unset] [(.ref x)])) rfl (by rw [hml]; rfl) rfl (Jvm.hb hby d2_1) (by decide) (W := 0) (by show 2 * 0 + _ ≤ _; exact Nat.le_of_eq rfl) (by decide) (fun T1_ w1_ => ?_)
  have A1_ := own_at w1_
  show own_WP p e _ below s Z _ n0 _ T1_ (mkF m 4 #[.val (.ref x), .val (.ref ca), .val (.int (0 : Int32)), .val (.int (2 : Int32)), .val .null, .unset] [])
  refine own_by (T' := T1_) (g' := (mkF m 5 #[.val (.ref x), .val (.ref ca), .val (.int (0 : Int32)), .val (.int (2 : Int32)), .val .null, .unset] [(.int (2 : Int32))])) (fun t_ hr_ => XS.iloadN A1_ hx rfl (Jvm.hb hby d2_4) rfl hr_) ?_
  refine own_by (T' := T1_) (g' := (mkF m 27 #[.val (.ref x), .val (.ref ca), .val (.int (0 : Int32)), .val (.int (2 : Int32)), .val .null, .unset] [])) (fun t_ hr_ => XS.ifYes A1_ hx rfl (pc0 := 5) (pc' := 27) rfl (Jvm.hb hby d2_5) rfl ((if0 _ _).trans (feq (by decide)).2) (by decide) (by decide) hr_) ?_
  refine own_getS w1_ hx (hw _ (List.mem_of_getElem? (i := 43) rfl)) (Sz.ext O0.2) (g := (mkF m 27 #[.val (.ref x), .val (.ref ca), .val (.int (0 : Int32)), .val (.int (2 : Int32)), .val .null, .unset] [])) rfl (Jvm.hb hby d2_27) (fun T2_ w2_ => ?_)
  have A2_ := own_at w2_
  show own_WP p e _ below s Z _ n0 _ T2_ (mkF m 30 #[.val (.ref x), .val (.ref ca), .val (.int (0 : Int32)), .val (.int (2 : Int32)), .val .null, .unset] [(.int zc)])
  refine own_by (T' := T2_) (g' := (mkF m 33 #[.val (.ref x), .val (.ref ca), .val (.int (0 : Int32)), .val (.int (2 : Int32)), .val .null, .unset] [])) (fun t_ hr_ => XS.ifNo A2_ hx rfl (Jvm.hb hby d2_30) rfl ((if0 _ _).trans (feq hz).1) hr_) ?_
  refine own_by (T' := T2_) (g' := (mkF m 34 #[.val (.ref x), .val (.ref ca), .val (.int (0 : Int32)), .val (.int (2 : Int32)), .val .null, .unset] [(.ref ca)])) (fun t_ hr_ => XS.aloadN A2_ hx rfl (Jvm.hb hby d2_33) rfl rfl hr_) ?_
  refine own_by (T' := T2_) (g' := (mkF m 35 #[.val (.ref x), .val (.ref ca), .val (.int (0 : Int32)), .val (.int (2 : Int32)), .val .null, .unset] [(.int (0 : Int32)), (.ref ca)])) (fun t_ hr_ => XS.iloadN A2_ hx rfl (Jvm.hb hby d2_34) rfl hr_) ?_
  refine own_by (T' := T2_) (g' := (mkF m 36 #[.val (.ref x), .val (.ref ca), .val (.int (0 : Int32)), .val (.int (2 : Int32)), .val .null, .unset] [(.int (2 : Int32)), (.int (0 : Int32)), (.ref ca)])) (fun t_ hr_ => XS.iloadN A2_ hx rfl (Jvm.hb hby d2_35) rfl hr_) ?_
  refine own_callS w2_ hx (y := (⟨"java/lang/StringUTF16", "compress", "([CII)[B"⟩ : MethodName)) (hw _ (List.mem_of_getElem? (i := 68) rfl)) (hw _ (List.mem_of_getElem? (i := 69) rfl)) (hw _ (List.mem_of_getElem? (i := 70) rfl)) (hw _ (List.mem_of_getElem? (i := 71) rfl)) (by decide) (kc := 2) (ks := 6) (argsL := [(.ref ca), (.int (0 : Int32)), (.int (2 : Int32))]) (rest := []) (own_payCt (W := 0) (ctC32 l Z a0 hw US n0 h0 (own_old w2_) ca kC c0 c1 VC r0 r1) w2_ (hw _ (List.mem_of_getElem? (i := 71) rfl)) (hw _ (List.mem_of_getElem? (i := 70) rfl)) hEL (by decide) (by decide)) (g := (mkF m 36 #[.val (.ref x), .val (.ref ca), .val (.int (0 : Int32)), .val (.int (2 : Int32)), .val .null, .unset] [(.int (2 : Int32)), (.int (0 : Int32)), (.ref ca)])) rfl (by rw [hml]; rfl) (lenOf pd_272673973 rfl) rfl (by show 2 * 0 + _ ≤ _; exact Nat.le_of_eq rfl) (Jvm.hb hby d2_36) (by decide) (by decide) (fun v3_ T3_ vm3_ h3_ q3_ C3_ w3_ => ?_)
  obtain ⟨t, kt, rfl, E1, V1⟩ := q3_
  have A3_ := own_at w3_
  show own_WP p e _ below s Z _ n0 _ T3_ (mkF m 39 #[.val (.ref x), .val (.ref ca), .val (.int (0 : Int32)), .val (.int (2 : Int32)), .val .null, .unset] [(.ref t)])
  refine own_by (T' := T3_) (g' := (mkF m 41 #[.val (.ref x), .val (.ref ca), .val (.int (0 : Int32)), .val (.int (2 : Int32)), .val .null, .val (.ref t)] [])) (fun t_ hr_ => XS.astore A3_ hx rfl (Jvm.hb hby d2_39) rfl rfl (l' := #[.val (.ref x), .val (.ref ca), .val (.int (0 : Int32)), .val (.int (2 : Int32)), .val .null, .val (.ref t)]) rfl hr_) ?_
  refine own_by (T' := T3_) (g' := (mkF m 42 #[.val (.ref x), .val (.ref ca), .val (.int (0 : Int32)), .val (.int (2 : Int32)), .val .null, .val (.ref t)] [(.ref x)])) (fun t_ hr_ => XS.aloadN A3_ hx rfl (Jvm.hb hby d2_41) rfl rfl hr_) ?_
  refine own_by (T' := T3_) (g' := (mkF m 44 #[.val (.ref x), .val (.ref ca), .val (.int (0 : Int32)), .val (.int (2 : Int32)), .val .null, .val (.ref t)] [(.ref t), (.ref x)])) (fun t_ hr_ => XS.aload A3_ hx rfl (Jvm.hb hby d2_42) rfl rfl hr_) ?_
  refine own_by (T' := T3_) (g' := (mkF m 45 #[.val (.ref x), .val (.ref ca), .val (.int (0 : Int32)), .val (.int (2 : Int32)), .val .null, .val (.ref t)] [(.int (2 : Int32)), (.ref t), (.ref x)])) (fun t_ hr_ => XS.iloadN A3_ hx rfl (Jvm.hb hby d2_44) rfl hr_) ?_
  have R1 := F0.ext E1
  rcases V1 with V1 | ⟨V1, hal⟩
  · refine own_callS w3_ hx (y := (⟨"java/lang/StringUTF16", "coderFromArrayLen", "([BI)B"⟩ : MethodName)) (hw _ (List.mem_of_getElem? (i := 75) rfl)) (hw _ (List.mem_of_getElem? (i := 76) rfl)) (hw _ (List.mem_of_getElem? (i := 70) rfl)) (hw _ (List.mem_of_getElem? (i := 77) rfl)) (by decide) (kc := 0) (ks := 0) (argsL := [(.ref t), (.int (2 : Int32))]) (rest := [(.ref x)]) (own_payCt (W := 1) (ctCo2_1 l Z a0 hw n0 h3_ (own_old w3_) t kt _ V1) w3_ (hw _ (List.mem_of_getElem? (i := 77) rfl)) (hw _ (List.mem_of_getElem? (i := 70) rfl)) hEL (by decide) (by decide)) (g := (mkF m 45 #[.val (.ref x), .val (.ref ca), .val (.int (0 : Int32)), .val (.int (2 : Int32)), .val .null, .val (.ref t)] [(.int (2 : Int32)), (.ref t), (.ref x)])) rfl (by rw [hml]; rfl) (lenOf pd_128700057 rfl) rfl (by show 2 * 0 + _ ≤ _; exact Nat.le_of_eq rfl) (Jvm.hb hby d2_45) (by decide) (by decide) (fun v4_ T4_ vm4_ h4_ q4_ C4_ w4_ => ?_)
    obtain ⟨rfl, rfl⟩ := q4_
    have A4_ := own_at w4_
    show own_WP p e _ below s Z _ n0 _ T4_ (mkF m 48 #[.val (.ref x), .val (.ref ca), .val (.int (0 : Int32)), .val (.int (2 : Int32)), .val .null, .val (.ref t)] [(.int (1 : Int32)), (.ref x)])
    have ne1 : x ≠ t := R1.1.neArv V1 (hw _ (List.mem_of_getElem? (i := 4) rfl))
    have Sf1 : Safe Z consts_1 vm4_ h3_ x := R1.safe (own_hZ w4_).alike
    refine own_putF w4_ hx (hw _ (List.mem_of_getElem? (i := 23) rfl)) R1.2.2 R1.1 (Or.inr ⟨(hw _ (List.mem_of_getElem? (i := 19) rfl)), rfl, hnm⟩) (hw _ (List.mem_of_getElem? (i := 4) rfl)) (ty := .byte) (by decide) rfl rfl gx Sf1 (g := (mkF m 48 #[.val (.ref x), .val (.ref ca), .val (.int (0 : Int32)), .val (.int (2 : Int32)), .val .null, .val (.ref t)] [(.int (1 : Int32)), (.ref x)])) rfl rfl (Jvm.hb hby d2_48) (fun T5_ h5_ W5_ w5_ => ?_)
    have A5_ := own_at w5_
    show own_WP p e _ below s Z _ n0 _ T5_ (mkF m 51 #[.val (.ref x), .val (.ref ca), .val (.int (0 : Int32)), .val (.int (2 : Int32)), .val .null, .val (.ref t)] [])
    refine own_by (T' := T5_) (g' := (mkF m 52 #[.val (.ref x), .val (.ref ca), .val (.int (0 : Int32)), .val (.int (2 : Int32)), .val .null, .val (.ref t)] [(.ref x)])) (fun t_ hr_ => XS.aloadN A5_ hx rfl (Jvm.hb hby d2_51) rfl rfl hr_) ?_
    refine own_by (T' := T5_) (g' := (mkF m 54 #[.val (.ref x), .val (.ref ca), .val (.int (0 : Int32)), .val (.int (2 : Int32)), .val .null, .val (.ref t)] [(.ref t), (.ref x)])) (fun t_ hr_ => XS.aload A5_ hx rfl (Jvm.hb hby d2_52) rfl rfl hr_) ?_
    have X2 := R1.1.wr W5_
    have Sf2 : Safe Z consts_1 vm4_ h5_ x := Safe.wr W5_ Sf1 (own_chv w4_) Sf1
    have D2 := R1.2.2.same W5_
    have V2 := R1.2.1.other W5_ (Or.inr (slot_ne (Or.inr (hw _ (List.mem_of_getElem? (i := 18) rfl))) (Or.inr (hw _ (List.mem_of_getElem? (i := 19) rfl))) (by decide) rfl rfl))
    have Y2 := V1.other W5_ (Ne.symm ne1)
    refine own_putF w5_ hx (hw _ (List.mem_of_getElem? (i := 22) rfl)) V2 X2 (Or.inr ⟨(hw _ (List.mem_of_getElem? (i := 18) rfl)), rfl, hnm⟩) (hw _ (List.mem_of_getElem? (i := 4) rfl)) (ty := (.array .byte)) (by decide) rfl rfl gx Sf2 (g := (mkF m 54 #[.val (.ref x), .val (.ref ca), .val (.int (0 : Int32)), .val (.int (2 : Int32)), .val .null, .val (.ref t)] [(.ref t), (.ref x)])) rfl rfl (Jvm.hb hby d2_54) (fun T6_ h6_ W6_ w6_ => ?_)
    have A6_ := own_at w6_
    show own_WP p e _ below s Z _ n0 _ T6_ (mkF m 57 #[.val (.ref x), .val (.ref ca), .val (.int (0 : Int32)), .val (.int (2 : Int32)), .val .null, .val (.ref t)] [])
    exact own_retV w6_ hx hEL hlk hret (Jvm.hb hby d2_57) (by decide) (by decide) ⟨rfl, ((((Keep.refl h0 [x]).ext E1).wr W5_ (Or.inl (List.mem_of_getElem? (i := 0) rfl))).wr W6_ (Or.inl (List.mem_of_getElem? (i := 0) rfl))), Or.inr ⟨X2.wr W6_, D2.other W6_ (Or.inr (slot_ne (Or.inr (hw _ (List.mem_of_getElem? (i := 19) rfl))) (Or.inr (hw _ (List.mem_of_getElem? (i := 18) rfl))) (by decide) rfl rfl)), ⟨t, kt, V2.same W6_, Y2.other W6_ (Ne.symm ne1)⟩, (by simp only [List.forall_mem_cons, List.not_mem_nil, false_imp_iff, implies_true, and_true]; exact ⟨r0, r1⟩), (by simp)⟩⟩
  · refine own_callS w3_ hx (y := (⟨"java/lang/StringUTF16", "coderFromArrayLen", "([BI)B"⟩ : MethodName)) (hw _ (List.mem_of_getElem? (i := 75) rfl)) (hw _ (List.mem_of_getElem? (i := 76) rfl)) (hw _ (List.mem_of_getElem? (i := 70) rfl)) (hw _ (List.mem_of_getElem? (i := 77) rfl)) (by decide) (kc := 0) (ks := 0) (argsL := [(.ref t), (.int (2 : Int32))]) (rest := [(.ref x)]) (own_payCt (W := 1) (ctCo2_0 l Z a0 hw n0 h3_ (own_old w3_) t kt _ V1) w3_ (hw _ (List.mem_of_getElem? (i := 77) rfl)) (hw _ (List.mem_of_getElem? (i := 70) rfl)) hEL (by decide) (by decide)) (g := (mkF m 45 #[.val (.ref x), .val (.ref ca), .val (.int (0 : Int32)), .val (.int (2 : Int32)), .val .null, .val (.ref t)] [(.int (2 : Int32)), (.ref t), (.ref x)])) rfl (by rw [hml]; rfl) (lenOf pd_128700057 rfl) rfl (by show 2 * 0 + _ ≤ _; exact Nat.le_of_eq rfl) (Jvm.hb hby d2_45) (by decide) (by decide) (fun v7_ T7_ vm7_ h7_ q7_ C7_ w7_ => ?_)
    obtain ⟨rfl, rfl⟩ := q7_
    have A7_ := own_at w7_
    show own_WP p e _ below s Z _ n0 _ T7_ (mkF m 48 #[.val (.ref x), .val (.ref ca), .val (.int (0 : Int32)), .val (.int (2 : Int32)), .val .null, .val (.ref t)] [(.int (0 : Int32)), (.ref x)])
    have ne1 : x ≠ t := R1.1.neArv V1 (hw _ (List.mem_of_getElem? (i := 4) rfl))
    have Sf1 : Safe Z consts_1 vm7_ h3_ x := R1.safe (own_hZ w7_).alike
    refine own_putF w7_ hx (hw _ (List.mem_of_getElem? (i := 23) rfl)) R1.2.2 R1.1 (Or.inr ⟨(hw _ (List.mem_of_getElem? (i := 19) rfl)), rfl, hnm⟩) (hw _ (List.mem_of_getElem? (i := 4) rfl)) (ty := .byte) (by decide) rfl rfl gx Sf1 (g := (mkF m 48 #[.val (.ref x), .val (.ref ca), .val (.int (0 : Int32)), .val (.int (2 : Int32)), .val .null, .val (.ref t)] [(.int (0 : Int32)), (.ref x)])) rfl rfl (Jvm.hb hby d2_48) (fun T8_ h8_ W8_ w8_ => ?_)
    have A8_ := own_at w8_
    show own_WP p e _ below s Z _ n0 _ T8_ (mkF m 51 #[.val (.ref x), .val (.ref ca), .val (.int (0 : Int32)), .val (.int (2 : Int32)), .val .null, .val (.ref t)] [])
    refine own_by (T' := T8_) (g' := (mkF m 52 #[.val (.ref x), .val (.ref ca), .val (.int (0 : Int32)), .val (.int (2 : Int32)), .val .null, .val (.ref t)] [(.ref x)])) (fun t_ hr_ => XS.aloadN A8_ hx rfl (Jvm.hb hby d2_51) rfl rfl hr_) ?_
    refine own_by (T' := T8_) (g' := (mkF m 54 #[.val (.ref x), .val (.ref ca), .val (.int (0 : Int32)), .val (.int (2 : Int32)), .val .null, .val (.ref t)] [(.ref t), (.ref x)])) (fun t_ hr_ => XS.aload A8_ hx rfl (Jvm.hb hby d2_52) rfl rfl hr_) ?_
    have X2 := R1.1.wr W8_
    have Sf2 : Safe Z consts_1 vm7_ h8_ x := Safe.wr W8_ Sf1 (own_chv w7_) Sf1
    have D2 := R1.2.2.same W8_
    have V2 := R1.2.1.other W8_ (Or.inr (slot_ne (Or.inr (hw _ (List.mem_of_getElem? (i := 18) rfl))) (Or.inr (hw _ (List.mem_of_getElem? (i := 19) rfl))) (by decide) rfl rfl))
    have Y2 := V1.other W8_ (Ne.symm ne1)
    refine own_putF w8_ hx (hw _ (List.mem_of_getElem? (i := 22) rfl)) V2 X2 (Or.inr ⟨(hw _ (List.mem_of_getElem? (i := 18) rfl)), rfl, hnm⟩) (hw _ (List.mem_of_getElem? (i := 4) rfl)) (ty := (.array .byte)) (by decide) rfl rfl gx Sf2 (g := (mkF m 54 #[.val (.ref x), .val (.ref ca), .val (.int (0 : Int32)), .val (.int (2 : Int32)), .val .null, .val (.ref t)] [(.ref t), (.ref x)])) rfl rfl (Jvm.hb hby d2_54) (fun T9_ h9_ W9_ w9_ => ?_)
    have A9_ := own_at w9_
    show own_WP p e _ below s Z _ n0 _ T9_ (mkF m 57 #[.val (.ref x), .val (.ref ca), .val (.int (0 : Int32)), .val (.int (2 : Int32)), .val .null, .val (.ref t)] [])
    exact own_retV w9_ hx hEL hlk hret (Jvm.hb hby d2_57) (by decide) (by decide) ⟨rfl, ((((Keep.refl h0 [x]).ext E1).wr W8_ (Or.inl (List.mem_of_getElem? (i := 0) rfl))).wr W9_ (Or.inl (List.mem_of_getElem? (i := 0) rfl))), Or.inl ⟨X2.wr W9_, D2.other W9_ (Or.inr (slot_ne (Or.inr (hw _ (List.mem_of_getElem? (i := 19) rfl))) (Or.inr (hw _ (List.mem_of_getElem? (i := 18) rfl))) (by decide) rfl rfl)), ⟨t, kt, V2.same W9_, Y2.other W9_ (Ne.symm ne1)⟩, (by simp only [List.forall_mem_cons, List.not_mem_nil, false_imp_iff, implies_true, and_true]; exact ⟨⟨r0.1, hal.1⟩, ⟨r1.1, hal.2⟩⟩), (by simp)⟩⟩

theorem ef_ctNew1w2 (m : MethodId) (x0 : Addr) (x1 : Addr) : entryFrame m #[(.ref x0), (.ref x1)] 2 = mkF m 0 #[.val (.ref x0), .val (.ref x1)] [] := by first | (simp [entryFrame, mkF, argsToLocals, Value.category]; done) | rfl
set_option maxRecDepth 65536 in
set_option maxHeartbeats 40000000 in
theorem ctNew1w2 (l : Launch) (Z : State) (a0 : Array Value) (hw : ∀ d ∈ tables_1, d.before a0 Z = true) (SC : own_SC Z) (US : own_US Z) (n0 : Nat) (h0 : Heap) (O0 : Old Z n0 h0) (x ca : Addr) (kC : ClassId) (c0 c1 : Int32) (F0 : own_Raw Z h0 x) (VC : Arv Z h0 ca kC .char (2 : Int32) [(.int c0), (.int c1)] (.int 0)) (gx : n0 ≤ x) (r0 : ¬ c0 < 0 ∧ ¬ (65535 : Int32) < c0) (r1 : ¬ c1 < 0 ∧ ¬ (65535 : Int32) < c1) :
    own_Ct l (⟨"java/lang/String", "<init>", "([C)V"⟩ : MethodName) jdk_42_method_3_code 2 none ({ frames := 5, cells := 2, slots := 6, locals := 74 } : Room) Z consts_1 n0 #[(.ref x), (.ref ca)] h0 [] (fun v h => v = none ∧ Keep h0 h [x] ∧ own_Any Z h x [c0, c1]) := by
  have hEL := own_EL hw
  refine own_body pn_399269609 O0 (fun p e s m below meth cc_ T0 vm0 hx hby hml0 hret hlk hnm hsf w0 => ?_)
  have hml : cc_.maxLocals = 2 := hml0
  have A_0 := own_at w0
  refine own_entry (ef_ctNew1w2 m x ca) ?_
  refine own_by (T' := T0) (g' := (mkF m 1 #[.val (.ref x), .val (.ref ca)] [(.ref x)])) (fun t_ hr_ => XS.aloadN A_0 hx rfl (Jvm.hb hby d1_0) rfl rfl hr_) ?_
  refine own_by (T' := T0) (g' := (mkF m 2 #[.val (.ref x), .val (.ref ca)] [(.ref ca), (.ref x)])) (fun t_ hr_ => XS.aloadN A_0 hx rfl (Jvm.hb hby d1_1) rfl rfl hr_) ?_
  refine own_by (T' := T0) (g' := (mkF m 3 #[.val (.ref x), .val (.ref ca)] [(.int (0 : Int32)), (.ref ca), (.ref x)])) (fun t_ hr_ => XS.iconst A_0 hx rfl (Jvm.hb hby d1_2) hr_) ?_
  refine own_by (T' := T0) (g' := (mkF m 4 #[.val (.ref x), .val (.ref ca)] [(.ref ca), (.int (0 : Int32)), (.ref ca), (.ref x)])) (fun t_ hr_ => XS.aloadN A_0 hx rfl (Jvm.hb hby d1_3) rfl rfl hr_) ?_
  refine own_alen w0 hx VC (g := (mkF m 4 #[.val (.ref x), .val (.ref ca)] [(.ref ca), (.int (0 : Int32)), (.ref ca), (.ref x)])) rfl rfl (Jvm.hb hby d1_4) ?_
  show own_WP p e _ below s Z _ n0 _ T0 (mkF m 5 #[.val (.ref x), .val (.ref ca)] [(.int (2 : Int32)), (.int (0 : Int32)), (.ref ca), (.ref x)])
  refine own_by (T' := T0) (g' := (mkF m 6 #[.val (.ref x), .val (.ref ca)] [.null, (.int (2 : Int32)), (.int (0 : Int32)), (.ref ca), (.ref x)])) (fun t_ hr_ => XS.aconstNull A_0 hx rfl (Jvm.hb hby d1_5) hr_) ?_
  refine own_callC w0 hx (y := (⟨"java/lang/String", "<init>", "([CIILjava/lang/Void;)V"⟩ : MethodName)) rfl (hw _ (List.mem_of_getElem? (i := 9) rfl)) (hw _ (List.mem_of_getElem? (i := 10) rfl)) (hw _ (List.mem_of_getElem? (i := 12) rfl)) (by decide) (kc := 2) (ks := 6) (a := x) (argsL := [(.ref ca), (.int (0 : Int32)), (.int (2 : Int32)), .null]) (rest := []) (own_payCt (W := 0) (ctNew4w2 l Z a0 hw SC US n0 h0 (own_old w0) x ca kC c0 c1 F0 VC gx r0 r1) w0 (hw _ (List.mem_of_getElem? (i := 12) rfl)) (hw _ (List.mem_of_getElem? (i := 5) rfl)) hEL (by decide) (by decide)) (g := (mkF m 6 #[.val (.ref x), .val (.ref ca)] [.null, (.int (2 : Int32)), (.int (0 : Int32)), (.ref ca), (.ref x)])) rfl (by rw [hml]; rfl) (lenOf pd_677231080 rfl) rfl (by show 2 * 0 + _ ≤ _; exact Nat.le_of_eq rfl) (Jvm.hb hby d1_6) (by decide) (by decide) (fun v1_ T1_ vm1_ h1_ q1_ C1_ w1_ => ?_)
  obtain ⟨rfl, K1, S1⟩ := q1_
  have A1_ := own_at w1_
  show own_WP p e _ below s Z _ n0 _ T1_ (mkF m 9 #[.val (.ref x), .val (.ref ca)] [])
  exact own_retV w1_ hx hEL hlk hret (Jvm.hb hby d1_9) (by decide) (by decide) ⟨rfl, K1, S1⟩

theorem ef_ctNBL3 (m : MethodId) (x0 : Int32) : entryFrame m #[(.int x0)] 1 = mkF m 0 #[.val (.int x0)] [] := by first | (simp [entryFrame, mkF, argsToLocals, Value.category]; done) | rfl
set_option maxRecDepth 65536 in
set_option maxHeartbeats 40000000 in
theorem ctNBL3 (l : Launch) (Z : State) (a0 : Array Value) (hw : ∀ d ∈ tables_1, d.before a0 Z = true) (n0 : Nat) (h0 : Heap) (O0 : Old Z n0 h0)   :
    own_Ct l (⟨"java/lang/StringUTF16", "newBytesLength", "(I)I"⟩ : MethodName) jdk_52_method_3_code 1 (some .int) ({ frames := 0, cells := 0, slots := 0, locals := 0 } : Room) Z consts_1 n0 #[(.int (3 : Int32))] h0 [] (fun v h => v = some (.int 6) ∧ h0 = h) := by
  have hEL := own_EL hw
  refine own_body pn_150479481 O0 (fun p e s m below meth cc_ T0 vm0 hx hby hml0 hret hlk hnm hsf w0 => ?_)
  have hml : cc_.maxLocals = 1 := hml0
  have A_0 := own_at w0
  refine own_entry (ef_ctNBL3 m (3 : Int32)) ?_
  refine own_by (T' := T0) (g' := (mkF m 1 #[.val (.int (3 : Int32))] [(.int (3 : Int32))])) (fun t_ hr_ => XS.iloadN A_0 hx rfl (Jvm.hb hby d20_0) rfl hr_) ?_
  refine own_by (T' := T0) (g' := (mkF m 12 #[.val (.int (3 : Int32))] [])) (fun t_ hr_ => XS.ifYes A_0 hx rfl (pc0 := 1) (pc' := 12) rfl (Jvm.hb hby d20_1) rfl ((if0 _ _).trans (flt (by decide)).2.1) (by decide) (by decide) hr_) ?_
  refine own_by (T' := T0) (g' := (mkF m 13 #[.val (.int (3 : Int32))] [(.int (3 : Int32))])) (fun t_ hr_ => XS.iloadN A_0 hx rfl (Jvm.hb hby d20_12) rfl hr_) ?_
  refine own_ldcI w0 hx (hw _ (List.mem_of_getElem? (i := 90) rfl)) (g := (mkF m 13 #[.val (.int (3 : Int32))] [(.int (3 : Int32))])) rfl (Jvm.hb hby d20_13) ?_
  show own_WP p e _ below s Z _ n0 _ T0 (mkF m 15 #[.val (.int (3 : Int32))] [(.int (1073741823 : Int32)), (.int (3 : Int32))])
  refine own_by (T' := T0) (g' := (mkF m 55 #[.val (.int (3 : Int32))] [])) (fun t_ hr_ => XS.icmpYes A_0 hx rfl (pc0 := 15) (pc' := 55) rfl (Jvm.hb hby d20_15) rfl (tlt (by decide)).1 (by decide) (by decide) hr_) ?_
  refine own_by (T' := T0) (g' := (mkF m 56 #[.val (.int (3 : Int32))] [(.int (3 : Int32))])) (fun t_ hr_ => XS.iloadN A_0 hx rfl (Jvm.hb hby d20_55) rfl hr_) ?_
  refine own_by (T' := T0) (g' := (mkF m 57 #[.val (.int (3 : Int32))] [(.int (1 : Int32)), (.int (3 : Int32))])) (fun t_ hr_ => XS.iconst A_0 hx rfl (Jvm.hb hby d20_56) hr_) ?_
  refine own_by (T' := T0) (g' := (mkF m 58 #[.val (.int (3 : Int32))] [(.int ((3 : Int32) <<< ((1 : Int32) &&& 31)))])) (fun t_ hr_ => XS.ishl A_0 hx rfl (Jvm.hb hby d20_57) rfl hr_) ?_
  rw [show ((3 : Int32) <<< ((1 : Int32) &&& 31)) = (6 : Int32) from (by decide)]
  show own_WP p e _ below s Z _ n0 _ T0 (mkF m 58 #[.val (.int (3 : Int32))] [(.int (6 : Int32))])
  exact own_retI w0 hx hEL hlk hret (Jvm.hb hby d20_58) (by decide) (by decide) ⟨rfl, rfl⟩

theorem ef_ctNBF3 (m : MethodId) (x0 : Int32) : entryFrame m #[(.int x0)] 1 = mkF m 0 #[.val (.int x0)] [] := by first | (simp [entryFrame, mkF, argsToLocals, Value.category]; done) | rfl
set_option maxRecDepth 65536 in
set_option maxHeartbeats 40000000 in
theorem ctNBF3 (l : Launch) (Z : State) (a0 : Array Value) (hw : ∀ d ∈ tables_1, d.before a0 Z = true) (n0 : Nat) (h0 : Heap) (O0 : Old Z n0 h0)   :
    own_Ct l (⟨"java/lang/StringUTF16", "newBytesFor", "(I)[B"⟩ : MethodName) jdk_52_method_2_code 1 (some (.array .byte)) ({ frames := 1, cells := 1, slots := 6, locals := 12 } : Room) Z consts_1 n0 #[(.int (3 : Int32))] h0 [] (fun v h => ∃ a k, v = some (.ref a) ∧ h0.size ≤ a ∧ Ext h0 h ∧ Arv Z h a k .byte (6 : Int32) [(.int (0 : Int32)), (.int (0 : Int32)), (.int (0 : Int32)), (.int (0 : Int32)), (.int (0 : Int32)), (.int (0 : Int32))] (.int 0)) := by
  have hEL := own_EL hw
  refine own_body pn_400072370 O0 (fun p e s m below meth cc_ T0 vm0 hx hby hml0 hret hlk hnm hsf w0 => ?_)
  have hml : cc_.maxLocals = 1 := hml0
  have A_0 := own_at w0
  refine own_entry (ef_ctNBF3 m (3 : Int32)) ?_
  refine own_by (T' := T0) (g' := (mkF m 1 #[.val (.int (3 : Int32))] [(.int (3 : Int32))])) (fun t_ hr_ => XS.iloadN A_0 hx rfl (Jvm.hb hby d19_0) rfl hr_) ?_
  refine own_callS w0 hx (y := (⟨"java/lang/StringUTF16", "newBytesLength", "(I)I"⟩ : MethodName)) (hw _ (List.mem_of_getElem? (i := 87) rfl)) (hw _ (List.mem_of_getElem? (i := 88) rfl)) (hw _ (List.mem_of_getElem? (i := 70) rfl)) (hw _ (List.mem_of_getElem? (i := 89) rfl)) (by decide) (kc := 0) (ks := 0) (argsL := [(.int (3 : Int32))]) (rest := []) (own_payCt (W := 0) (ctNBL3 l Z a0 hw n0 h0 (own_old w0)) w0 (hw _ (List.mem_of_getElem? (i := 89) rfl)) (hw _ (List.mem_of_getElem? (i := 70) rfl)) hEL (by decide) (by decide)) (g := (mkF m 1 #[.val (.int (3 : Int32))] [(.int (3 : Int32))])) rfl (by rw [hml]; rfl) (lenOf pd_91181837 rfl) rfl (by show 2 * 0 + _ ≤ _; exact Nat.le_of_eq rfl) (Jvm.hb hby d19_1) (by decide) (by decide) (fun v1_ T1_ vm1_ h1_ q1_ C1_ w1_ => ?_)
  obtain ⟨rfl, rfl⟩ := q1_
  have A1_ := own_at w1_
  show own_WP p e _ below s Z _ n0 _ T1_ (mkF m 4 #[.val (.int (3 : Int32))] [(.int (6 : Int32))])
  refine own_newP w1_ hx (hw _ (List.mem_of_getElem? (i := 17) rfl)) (g := (mkF m 4 #[.val (.int (3 : Int32))] [(.int (6 : Int32))])) rfl (Jvm.hb hby d19_4) rfl (by decide) (cap := 6) (by decide) (by decide) (by decide) (by decide) (fun T2_ h2_ a2_ k2_ g2_ E2_ V2_ w2_ => ?_)
  have A2_ := own_at w2_
  show own_WP p e _ below s Z _ n0 _ T2_ (mkF m 6 #[.val (.int (3 : Int32))] [(.ref a2_)])
  have U1 : Arv Z h2_ a2_ k2_ .byte (6 : Int32) [(.int (0 : Int32)), (.int (0 : Int32)), (.int (0 : Int32)), (.int (0 : Int32)), (.int (0 : Int32)), (.int (0 : Int32))] (.int 0) := V2_.pad (vs' := [(.int (0 : Int32)), (.int (0 : Int32)), (.int (0 : Int32)), (.int (0 : Int32)), (.int (0 : Int32)), (.int (0 : Int32))]) (fun i => pad_rep [] (.int (0 : Int32)) 6 i)
  exact own_retA w2_ hx hEL hlk hret rfl rfl (Jvm.hb hby d19_6) (by decide) (by decide) ⟨_, _, rfl, by rw [g2_]; exact Nat.le_refl _, E2_, U1⟩

theorem ef_ctTB3 (m : MethodId) (x0 : Addr) (x1 : Int32) (x2 : Int32) : entryFrame m #[(.ref x0), (.int x1), (.int x2)] 5 = mkF m 0 #[.val (.ref x0), .val (.int x1), .val (.int x2), .unset, .unset] [] := by first | (simp [entryFrame, mkF, argsToLocals, Value.category]; done) | rfl
set_option maxRecDepth 65536 in
set_option maxHeartbeats 40000000 in
theorem ctTB3 (l : Launch) (Z : State) (a0 : Array Value) (hw : ∀ d ∈ tables_1, d.before a0 Z = true) (US : own_US Z) (n0 : Nat) (h0 : Heap) (O0 : Old Z n0 h0) (ca : Addr) (kC : ClassId) (c0 c1 c2 : Int32) (VC : Arv Z h0 ca kC .char (3 : Int32) [(.int c0), (.int c1), (.int c2)] (.int 0)) :
    own_Ct l (⟨"java/lang/StringUTF16", "toBytes", "([CII)[B"⟩ : MethodName) jdk_52_method_14_code 5 (some (.array .byte)) ({ frames := 2, cells := 1, slots := 6, locals := 24 } : Room) Z consts_1 n0 #[(.ref ca), (.int (0 : Int32)), (.int (3 : Int32))] h0 [] (fun v h => ∃ a k, v = some (.ref a) ∧ Ext h0 h ∧ Arv Z h a k .byte (6 : Int32) [(.int (c0.toInt8.toInt32)), (.int ((c0 >>> ((8 : Int32) &&& 31)).toInt8.toInt32)), (.int (c1.toInt8.toInt32)), (.int ((c1 >>> ((8 : Int32) &&& 31)).toInt8.toInt32)), (.int (c2.toInt8.toInt32)), (.int ((c2 >>> ((8 : Int32) &&& 31)).toInt8.toInt32))] (.int 0)) := by
  have hEL := own_EL hw
  refine own_body pn_435542604 O0 (fun p e s m below meth cc_ T0 vm0 hx hby hml0 hret hlk hnm hsf w0 => ?_)
  have hml : cc_.maxLocals = 5 := hml0
  have A_0 := own_at w0
  refine own_entry (ef_ctTB3 m ca (0 : Int32) (3 : Int32)) ?_
  refine own_by (T' := T0) (g' := (mkF m 1 #[.val (.ref ca), .val (.int (0 : Int32)), .val (.int (3 : Int32)), .unset, .unset] [(.int (3 : Int32))])) (fun t_ hr_ => XS.iloadN A_0 hx rfl (Jvm.hb hby d18_0) rfl hr_) ?_
  refine own_callS w0 hx (y := (⟨"java/lang/StringUTF16", "newBytesFor", "(I)[B"⟩ : MethodName)) (hw _ (List.mem_of_getElem? (i := 84) rfl)) (hw _ (List.mem_of_getElem? (i := 85) rfl)) (hw _ (List.mem_of_getElem? (i := 70) rfl)) (hw _ (List.mem_of_getElem? (i := 86) rfl)) (by decide) (kc := 1) (ks := 6) (argsL := [(.int (3 : Int32))]) (rest := []) (own_payCt (W := 0) (ctNBF3 l Z a0 hw n0 h0 (own_old w0)) w0 (hw _ (List.mem_of_getElem? (i := 86) rfl)) (hw _ (List.mem_of_getElem? (i := 70) rfl)) hEL (by decide) (by decide)) (g := (mkF m 1 #[.val (.ref ca), .val (.int (0 : Int32)), .val (.int (3 : Int32)), .unset, .unset] [(.int (3 : Int32))])) rfl (by rw [hml]; rfl) (lenOf pd_944822994 rfl) rfl (by show 2 * 0 + _ ≤ _; exact Nat.le_of_eq rfl) (Jvm.hb hby d18_1) (by decide) (by decide) (fun v1_ T1_ vm1_ h1_ q1_ C1_ w1_ => ?_)
  obtain ⟨a, k, rfl, ga0, E0, V0⟩ := q1_
  have A1_ := own_at w1_
  show own_WP p e _ below s Z _ n0 _ T1_ (mkF m 4 #[.val (.ref ca), .val (.int (0 : Int32)), .val (.int (3 : Int32)), .unset, .unset] [(.ref a)])
  have ga : n0 ≤ a := Nat.le_trans (own_n0 w0) ga0
  have nca : ca ≠ a := Nat.ne_of_lt (Nat.lt_of_lt_of_le VC.lt ga0)
  have VC0 := VC.ext E0
  refine own_by (T' := T1_) (g' := (mkF m 5 #[.val (.ref ca), .val (.int (0 : Int32)), .val (.int (3 : Int32)), .val (.ref a), .unset] [])) (fun t_ hr_ => XS.astoreN A1_ hx rfl (Jvm.hb hby d18_4) rfl rfl (l' := #[.val (.ref ca), .val (.int (0 : Int32)), .val (.int (3 : Int32)), .val (.ref a), .unset]) rfl hr_) ?_
  refine own_by (T' := T1_) (g' := (mkF m 6 #[.val (.ref ca), .val (.int (0 : Int32)), .val (.int (3 : Int32)), .val (.ref a), .unset] [(.int (0 : Int32))])) (fun t_ hr_ => XS.iconst A1_ hx rfl (Jvm.hb hby d18_5) hr_) ?_
  refine own_by (T' := T1_) (g' := (mkF m 8 #[.val (.ref ca), .val (.int (0 : Int32)), .val (.int (3 : Int32)), .val (.ref a), .val (.int (0 : Int32))] [])) (fun t_ hr_ => XS.istore A1_ hx rfl (Jvm.hb hby d18_6) rfl (l' := #[.val (.ref ca), .val (.int (0 : Int32)), .val (.int (3 : Int32)), .val (.ref a), .val (.int (0 : Int32))]) rfl hr_) ?_
  refine own_by (T' := T1_) (g' := (mkF m 10 #[.val (.ref ca), .val (.int (0 : Int32)), .val (.int (3 : Int32)), .val (.ref a), .val (.int (0 : Int32))] [(.int (0 : Int32))])) (fun t_ hr_ => XS.iload A1_ hx rfl (Jvm.hb hby d18_8) rfl hr_) ?_
  refine own_by (T' := T1_) (g' := (mkF m 11 #[.val (.ref ca), .val (.int (0 : Int32)), .val (.int (3 : Int32)), .val (.ref a), .val (.int (0 : Int32))] [(.int (3 : Int32)), (.int (0 : Int32))])) (fun t_ hr_ => XS.iloadN A1_ hx rfl (Jvm.hb hby d18_10) rfl hr_) ?_
  refine own_by (T' := T1_) (g' := (mkF m 14 #[.val (.ref ca), .val (.int (0 : Int32)), .val (.int (3 : Int32)), .val (.ref a), .val (.int (0 : Int32))] [])) (fun t_ hr_ => XS.icmpNo A1_ hx rfl (Jvm.hb hby d18_11) rfl (tlt (by decide)).2.1 hr_) ?_
  refine own_by (T' := T1_) (g' := (mkF m 15 #[.val (.ref ca), .val (.int (0 : Int32)), .val (.int (3 : Int32)), .val (.ref a), .val (.int (0 : Int32))] [(.ref a)])) (fun t_ hr_ => XS.aloadN A1_ hx rfl (Jvm.hb hby d18_14) rfl rfl hr_) ?_
  refine own_by (T' := T1_) (g' := (mkF m 17 #[.val (.ref ca), .val (.int (0 : Int32)), .val (.int (3 : Int32)), .val (.ref a), .val (.int (0 : Int32))] [(.int (0 : Int32)), (.ref a)])) (fun t_ hr_ => XS.iload A1_ hx rfl (Jvm.hb hby d18_15) rfl hr_) ?_
  refine own_by (T' := T1_) (g' := (mkF m 18 #[.val (.ref ca), .val (.int (0 : Int32)), .val (.int (3 : Int32)), .val (.ref a), .val (.int (0 : Int32))] [(.ref ca), (.int (0 : Int32)), (.ref a)])) (fun t_ hr_ => XS.aloadN A1_ hx rfl (Jvm.hb hby d18_17) rfl rfl hr_) ?_
  refine own_by (T' := T1_) (g' := (mkF m 19 #[.val (.ref ca), .val (.int (0 : Int32)), .val (.int (3 : Int32)), .val (.ref a), .val (.int (0 : Int32))] [(.int (0 : Int32)), (.ref ca), (.int (0 : Int32)), (.ref a)])) (fun t_ hr_ => XS.iloadN A1_ hx rfl (Jvm.hb hby d18_18) rfl hr_) ?_
  refine own_caload w1_ hx (x := c0) VC0 (by decide) (g := (mkF m 19 #[.val (.ref ca), .val (.int (0 : Int32)), .val (.int (3 : Int32)), .val (.ref a), .val (.int (0 : Int32))] [(.int (0 : Int32)), (.ref ca), (.int (0 : Int32)), (.ref a)])) rfl rfl (Jvm.hb hby d18_19) rfl ?_
  show own_WP p e _ below s Z _ n0 _ T1_ (mkF m 20 #[.val (.ref ca), .val (.int (0 : Int32)), .val (.int (3 : Int32)), .val (.ref a), .val (.int (0 : Int32))] [(.int c0), (.int (0 : Int32)), (.ref a)])
  refine own_callS w1_ hx (y := (⟨"java/lang/StringUTF16", "putChar", "([BII)V"⟩ : MethodName)) (hw _ (List.mem_of_getElem? (i := 91) rfl)) (hw _ (List.mem_of_getElem? (i := 92) rfl)) (hw _ (List.mem_of_getElem? (i := 70) rfl)) (hw _ (List.mem_of_getElem? (i := 93) rfl)) (by decide) (kc := 0) (ks := 0) (argsL := [(.ref a), (.int (0 : Int32)), (.int c0)]) (rest := []) (own_payCt (W := 0) (ctPut l Z a0 hw US n0 h1_ (own_old w1_) a 0 c0 k (6 : Int32) _ V0 rfl (by simp) (by simp) ga) w1_ (hw _ (List.mem_of_getElem? (i := 93) rfl)) (hw _ (List.mem_of_getElem? (i := 70) rfl)) hEL (by decide) (by decide) (own_one ⟨V0.lt, own_safeB (own_hZ w1_) (hw _ (List.mem_of_getElem? (i := 16) rfl)) V0 (by decide)⟩)) (g := (mkF m 20 #[.val (.ref ca), .val (.int (0 : Int32)), .val (.int (3 : Int32)), .val (.ref a), .val (.int (0 : Int32))] [(.int c0), (.int (0 : Int32)), (.ref a)])) rfl (by rw [hml]; rfl) (lenOf pd_860253318 rfl) rfl (by show 2 * 0 + _ ≤ _; exact Nat.le_of_eq rfl) (Jvm.hb hby d18_20) (by decide) (by decide) (fun v2_ T2_ vm2_ h2_ q2_ C2_ w2_ => ?_)
  obtain ⟨rfl, KP0, VP0⟩ := q2_
  have A2_ := own_at w2_
  show own_WP p e _ below s Z _ n0 _ T2_ (mkF m 23 #[.val (.ref ca), .val (.int (0 : Int32)), .val (.int (3 : Int32)), .val (.ref a), .val (.int (0 : Int32))] [])
  have VD0 := VC0.keep KP0 (ninS nca nin0)
  have EP0 := own_extK E0 KP0 (allS ga0 all0)
  refine own_by (T' := T2_) (g' := (mkF m 26 #[.val (.ref ca), .val (.int ((0 : Int32) + (1 : Int32))), .val (.int (3 : Int32)), .val (.ref a), .val (.int (0 : Int32))] [])) (fun t_ hr_ => XS.iinc A2_ hx rfl (Jvm.hb hby d18_23) rfl (l' := #[.val (.ref ca), .val (.int ((0 : Int32) + (1 : Int32))), .val (.int (3 : Int32)), .val (.ref a), .val (.int (0 : Int32))]) rfl hr_) ?_
  refine own_by (T' := T2_) (g' := (mkF m 29 #[.val (.ref ca), .val (.int ((0 : Int32) + (1 : Int32))), .val (.int (3 : Int32)), .val (.ref a), .val (.int ((0 : Int32) + (1 : Int32)))] [])) (fun t_ hr_ => XS.iinc A2_ hx rfl (Jvm.hb hby d18_26) rfl (l' := #[.val (.ref ca), .val (.int ((0 : Int32) + (1 : Int32))), .val (.int (3 : Int32)), .val (.ref a), .val (.int ((0 : Int32) + (1 : Int32)))]) rfl hr_) ?_
  rw [show ((0 : Int32) + (1 : Int32)) = (1 : Int32) from (by decide)]
  show own_WP p e _ below s Z _ n0 _ T2_ (mkF m 29 #[.val (.ref ca), .val (.int (1 : Int32)), .val (.int (3 : Int32)), .val (.ref a), .val (.int (1 : Int32))] [])
  refine own_by (T' := T2_) (g' := (mkF m 8 #[.val (.ref ca), .val (.int (1 : Int32)), .val (.int (3 : Int32)), .val (.ref a), .val (.int (1 : Int32))] [])) (fun t_ hr_ => XS.goto A2_ hx rfl (pc0 := 29) (pc' := 8) rfl (Jvm.hb hby d18_29) (by decide) (by decide) hr_) ?_
  refine own_by (T' := T2_) (g' := (mkF m 10 #[.val (.ref ca), .val (.int (1 : Int32)), .val (.int (3 : Int32)), .val (.ref a), .val (.int (1 : Int32))] [(.int (1 : Int32))])) (fun t_ hr_ => XS.iload A2_ hx rfl (Jvm.hb hby d18_8) rfl hr_) ?_
  refine own_by (T' := T2_) (g' := (mkF m 11 #[.val (.ref ca), .val (.int (1 : Int32)), .val (.int (3 : Int32)), .val (.ref a), .val (.int (1 : Int32))] [(.int (3 : Int32)), (.int (1 : Int32))])) (fun t_ hr_ => XS.iloadN A2_ hx rfl (Jvm.hb hby d18_10) rfl hr_) ?_
  refine own_by (T' := T2_) (g' := (mkF m 14 #[.val (.ref ca), .val (.int (1 : Int32)), .val (.int (3 : Int32)), .val (.ref a), .val (.int (1 : Int32))] [])) (fun t_ hr_ => XS.icmpNo A2_ hx rfl (Jvm.hb hby d18_11) rfl (tlt (by decide)).2.1 hr_) ?_
  refine own_by (T' := T2_) (g' := (mkF m 15 #[.val (.ref ca), .val (.int (1 : Int32)), .val (.int (3 : Int32)), .val (.ref a), .val (.int (1 : Int32))] [(.ref a)])) (fun t_ hr_ => XS.aloadN A2_ hx rfl (Jvm.hb hby d18_14) rfl rfl hr_) ?_
  refine own_by (T' := T2_) (g' := (mkF m 17 #[.val (.ref ca), .val (.int (1 : Int32)), .val (.int (3 : Int32)), .val (.ref a), .val (.int (1 : Int32))] [(.int (1 : Int32)), (.ref a)])) (fun t_ hr_ => XS.iload A2_ hx rfl (Jvm.hb hby d18_15) rfl hr_) ?_
  refine own_by (T' := T2_) (g' := (mkF m 18 #[.val (.ref ca), .val (.int (1 : Int32)), .val (.int (3 : Int32)), .val (.ref a), .val (.int (1 : Int32))] [(.ref ca), (.int (1 : Int32)), (.ref a)])) (fun t_ hr_ => XS.aloadN A2_ hx rfl (Jvm.hb hby d18_17) rfl rfl hr_) ?_
  refine own_by (T' := T2_) (g' := (mkF m 19 #[.val (.ref ca), .val (.int (1 : Int32)), .val (.int (3 : Int32)), .val (.ref a), .val (.int (1 : Int32))] [(.int (1 : Int32)), (.ref ca), (.int (1 : Int32)), (.ref a)])) (fun t_ hr_ => XS.iloadN A2_ hx rfl (Jvm.hb hby d18_18) rfl hr_) ?_
  refine own_caload w2_ hx (x := c1) VD0 (by decide) (g := (mkF m 19 #[.val (.ref ca), .val (.int (1 : Int32)), .val (.int (3 : Int32)), .val (.ref a), .val (.int (1 : Int32))] [(.int (1 : Int32)), (.ref ca), (.int (1 : Int32)), (.ref a)])) rfl rfl (Jvm.hb hby d18_19) rfl ?_
  show own_WP p e _ below s Z _ n0 _ T2_ (mkF m 20 #[.val (.ref ca), .val (.int (1 : Int32)), .val (.int (3 : Int32)), .val (.ref a), .val (.int (1 : Int32))] [(.int c1), (.int (1 : Int32)), (.ref a)])
  refine own_callS w2_ hx (y := (⟨"java/lang/StringUTF16", "putChar", "([BII)V"⟩ : MethodName)) (hw _ (List.mem_of_getElem? (i := 91) rfl)) (hw _ (List.mem_of_getElem? (i := 92) rfl)) (hw _ (List.mem_of_getElem? (i := 70) rfl)) (hw _ (List.mem_of_getElem? (i := 93) rfl)) (by decide) (kc := 0) (ks := 0) (argsL := [(.ref a), (.int (1 : Int32)), (.int c1)]) (rest := []) (own_payCt (W := 0) (ctPut l Z a0 hw US n0 h2_ (own_old w2_) a 1 c1 k (6 : Int32) _ VP0 rfl (by simp) (by simp) ga) w2_ (hw _ (List.mem_of_getElem? (i := 93) rfl)) (hw _ (List.mem_of_getElem? (i := 70) rfl)) hEL (by decide) (by decide) (own_one ⟨VP0.lt, own_safeB (own_hZ w2_) (hw _ (List.mem_of_getElem? (i := 16) rfl)) VP0 (by decide)⟩)) (g := (mkF m 20 #[.val (.ref ca), .val (.int (1 : Int32)), .val (.int (3 : Int32)), .val (.ref a), .val (.int (1 : Int32))] [(.int c1), (.int (1 : Int32)), (.ref a)])) rfl (by rw [hml]; rfl) (lenOf pd_860253318 rfl) rfl (by show 2 * 0 + _ ≤ _; exact Nat.le_of_eq rfl) (Jvm.hb hby d18_20) (by decide) (by decide) (fun v3_ T3_ vm3_ h3_ q3_ C3_ w3_ => ?_)
  obtain ⟨rfl, KP1, VP1⟩ := q3_
  have A3_ := own_at w3_
  show own_WP p e _ below s Z _ n0 _ T3_ (mkF m 23 #[.val (.ref ca), .val (.int (1 : Int32)), .val (.int (3 : Int32)), .val (.ref a), .val (.int (1 : Int32))] [])
  have VD1 := VD0.keep KP1 (ninS nca nin0)
  have EP1 := own_extK EP0 KP1 (allS ga0 all0)
  refine own_by (T' := T3_) (g' := (mkF m 26 #[.val (.ref ca), .val (.int ((1 : Int32) + (1 : Int32))), .val (.int (3 : Int32)), .val (.ref a), .val (.int (1 : Int32))] [])) (fun t_ hr_ => XS.iinc A3_ hx rfl (Jvm.hb hby d18_23) rfl (l' := #[.val (.ref ca), .val (.int ((1 : Int32) + (1 : Int32))), .val (.int (3 : Int32)), .val (.ref a), .val (.int (1 : Int32))]) rfl hr_) ?_
  refine own_by (T' := T3_) (g' := (mkF m 29 #[.val (.ref ca), .val (.int ((1 : Int32) + (1 : Int32))), .val (.int (3 : Int32)), .val (.ref a), .val (.int ((1 : Int32) + (1 : Int32)))] [])) (fun t_ hr_ => XS.iinc A3_ hx rfl (Jvm.hb hby d18_26) rfl (l' := #[.val (.ref ca), .val (.int ((1 : Int32) + (1 : Int32))), .val (.int (3 : Int32)), .val (.ref a), .val (.int ((1 : Int32) + (1 : Int32)))]) rfl hr_) ?_
  rw [show ((1 : Int32) + (1 : Int32)) = (2 : Int32) from (by decide)]
  show own_WP p e _ below s Z _ n0 _ T3_ (mkF m 29 #[.val (.ref ca), .val (.int (2 : Int32)), .val (.int (3 : Int32)), .val (.ref a), .val (.int (2 : Int32))] [])
  refine own_by (T' := T3_) (g' := (mkF m 8 #[.val (.ref ca), .val (.int (2 : Int32)), .val (.int (3 : Int32)), .val (.ref a), .val (.int (2 : Int32))] [])) (fun t_ hr_ => XS.goto A3_ hx rfl (pc0 := 29) (pc' := 8) rfl (Jvm.hb hby d18_29) (by decide) (by decide) hr_) ?_
  refine own_by (T' := T3_) (g' := (mkF m 10 #[.val (.ref ca), .val (.int (2 : Int32)), .val (.int (3 : Int32)), .val (.ref a), .val (.int (2 : Int32))] [(.int (2 : Int32))])) (fun t_ hr_ => XS.iload A3_ hx rfl (Jvm.hb hby d18_8) rfl hr_) ?_
  refine own_by (T' := T3_) (g' := (mkF m 11 #[.val (.ref ca), .val (.int (2 : Int32)), .val (.int (3 : Int32)), .val (.ref a), .val (.int (2 : Int32))] [(.int (3 : Int32)), (.int (2 : Int32))])) (fun t_ hr_ => XS.iloadN A3_ hx rfl (Jvm.hb hby d18_10) rfl hr_) ?_
  refine own_by (T' := T3_) (g' := (mkF m 14 #[.val (.ref ca), .val (.int (2 : Int32)), .val (.int (3 : Int32)), .val (.ref a), .val (.int (2 : Int32))] [])) (fun t_ hr_ => XS.icmpNo A3_ hx rfl (Jvm.hb hby d18_11) rfl (tlt (by decide)).2.1 hr_) ?_
  refine own_by (T' := T3_) (g' := (mkF m 15 #[.val (.ref ca), .val (.int (2 : Int32)), .val (.int (3 : Int32)), .val (.ref a), .val (.int (2 : Int32))] [(.ref a)])) (fun t_ hr_ => XS.aloadN A3_ hx rfl (Jvm.hb hby d18_14) rfl rfl hr_) ?_
  refine own_by (T' := T3_) (g' := (mkF m 17 #[.val (.ref ca), .val (.int (2 : Int32)), .val (.int (3 : Int32)), .val (.ref a), .val (.int (2 : Int32))] [(.int (2 : Int32)), (.ref a)])) (fun t_ hr_ => XS.iload A3_ hx rfl (Jvm.hb hby d18_15) rfl hr_) ?_
  refine own_by (T' := T3_) (g' := (mkF m 18 #[.val (.ref ca), .val (.int (2 : Int32)), .val (.int (3 : Int32)), .val (.ref a), .val (.int (2 : Int32))] [(.ref ca), (.int (2 : Int32)), (.ref a)])) (fun t_ hr_ => XS.aloadN A3_ hx rfl (Jvm.hb hby d18_17) rfl rfl hr_) ?_
  refine own_by (T' := T3_) (g' := (mkF m 19 #[.val (.ref ca), .val (.int (2 : Int32)), .val (.int (3 : Int32)), .val (.ref a), .val (.int (2 : Int32))] [(.int (2 : Int32)), (.ref ca), (.int (2 : Int32)), (.ref a)])) (fun t_ hr_ => XS.iloadN A3_ hx rfl (Jvm.hb hby d18_18) rfl hr_) ?_
  refine own_caload w3_ hx (x := c2) VD1 (by decide) (g := (mkF m 19 #[.val (.ref ca), .val (.int (2 : Int32)), .val (.int (3 : Int32)), .val (.ref a), .val (.int (2 : Int32))] [(.int (2 : Int32)), (.ref ca), (.int (2 : Int32)), (.ref a)])) rfl rfl (Jvm.hb hby d18_19) rfl ?_
  show own_WP p e _ below s Z _ n0 _ T3_ (mkF m 20 #[.val (.ref ca), .val (.int (2 : Int32)), .val (.int (3 : Int32)), .val (.ref a), .val (.int (2 : Int32))] [(.int c2), (.int (2 : Int32)), (.ref a)])
  refine own_callS w3_ hx (y := (⟨"java/lang/StringUTF16", "putChar", "([BII)V"⟩ : MethodName)) (hw _ (List.mem_of_getElem? (i := 91) rfl)) (hw _ (List.mem_of_getElem? (i := 92) rfl)) (hw _ (List.mem_of_getElem? (i := 70) rfl)) (hw _ (List.mem_of_getElem? (i := 93) rfl)) (by decide) (kc := 0) (ks := 0) (argsL := [(.ref a), (.int (2 : Int32)), (.int c2)]) (rest := []) (own_payCt (W := 0) (ctPut l Z a0 hw US n0 h3_ (own_old w3_) a 2 c2 k (6 : Int32) _ VP1 rfl (by simp) (by simp) ga) w3_ (hw _ (List.mem_of_getElem? (i := 93) rfl)) (hw _ (List.mem_of_getElem? (i := 70) rfl)) hEL (by decide) (by decide) (own_one ⟨VP1.lt, own_safeB (own_hZ w3_) (hw _ (List.mem_of_getElem? (i := 16) rfl)) VP1 (by decide)⟩)) (g := (mkF m 20 #[.val (.ref ca), .val (.int (2 : Int32)), .val (.int (3 : Int32)), .val (.ref a), .val (.int (2 : Int32))] [(.int c2), (.int (2 : Int32)), (.ref a)])) rfl (by rw [hml]; rfl) (lenOf pd_860253318 rfl) rfl (by show 2 * 0 + _ ≤ _; exact Nat.le_of_eq rfl) (Jvm.hb hby d18_20) (by decide) (by decide) (fun v4_ T4_ vm4_ h4_ q4_ C4_ w4_ => ?_)
  obtain ⟨rfl, KP2, VP2⟩ := q4_
  have A4_ := own_at w4_
  show own_WP p e _ below s Z _ n0 _ T4_ (mkF m 23 #[.val (.ref ca), .val (.int (2 : Int32)), .val (.int (3 : Int32)), .val (.ref a), .val (.int (2 : Int32))] [])
  have VD2 := VD1.keep KP2 (ninS nca nin0)
  have EP2 := own_extK EP1 KP2 (allS ga0 all0)
  refine own_by (T' := T4_) (g' := (mkF m 26 #[.val (.ref ca), .val (.int ((2 : Int32) + (1 : Int32))), .val (.int (3 : Int32)), .val (.ref a), .val (.int (2 : Int32))] [])) (fun t_ hr_ => XS.iinc A4_ hx rfl (Jvm.hb hby d18_23) rfl (l' := #[.val (.ref ca), .val (.int ((2 : Int32) + (1 : Int32))), .val (.int (3 : Int32)), .val (.ref a), .val (.int (2 : Int32))]) rfl hr_) ?_
  refine own_by (T' := T4_) (g' := (mkF m 29 #[.val (.ref ca), .val (.int ((2 : Int32) + (1 : Int32))), .val (.int (3 : Int32)), .val (.ref a), .val (.int ((2 : Int32) + (1 : Int32)))] [])) (fun t_ hr_ => XS.iinc A4_ hx rfl (Jvm.hb hby d18_26) rfl (l' := #[.val (.ref ca), .val (.int ((2 : Int32) + (1 : Int32))), .val (.int (3 : Int32)), .val (.ref a), .val (.int ((2 : Int32) + (1 : Int32)))]) rfl hr_) ?_
  rw [show ((2 : Int32) + (1 : Int32)) = (3 : Int32) from (by decide)]
  show own_WP p e _ below s Z _ n0 _ T4_ (mkF m 29 #[.val (.ref ca), .val (.int (3 : Int32)), .val (.int (3 : Int32)), .val (.ref a), .val (.int (3 : Int32))] [])
  refine own_by (T' := T4_) (g' := (mkF m 8 #[.val (.ref ca), .val (.int (3 : Int32)), .val (.int (3 : Int32)), .val (.ref a), .val (.int (3 : Int32))] [])) (fun t_ hr_ => XS.goto A4_ hx rfl (pc0 := 29) (pc' := 8) rfl (Jvm.hb hby d18_29) (by decide) (by decide) hr_) ?_
  refine own_by (T' := T4_) (g' := (mkF m 10 #[.val (.ref ca), .val (.int (3 : Int32)), .val (.int (3 : Int32)), .val (.ref a), .val (.int (3 : Int32))] [(.int (3 : Int32))])) (fun t_ hr_ => XS.iload A4_ hx rfl (Jvm.hb hby d18_8) rfl hr_) ?_
  refine own_by (T' := T4_) (g' := (mkF m 11 #[.val (.ref ca), .val (.int (3 : Int32)), .val (.int (3 : Int32)), .val (.ref a), .val (.int (3 : Int32))] [(.int (3 : Int32)), (.int (3 : Int32))])) (fun t_ hr_ => XS.iloadN A4_ hx rfl (Jvm.hb hby d18_10) rfl hr_) ?_
  refine own_by (T' := T4_) (g' := (mkF m 32 #[.val (.ref ca), .val (.int (3 : Int32)), .val (.int (3 : Int32)), .val (.ref a), .val (.int (3 : Int32))] [])) (fun t_ hr_ => XS.icmpYes A4_ hx rfl (pc0 := 11) (pc' := 32) rfl (Jvm.hb hby d18_11) rfl (flt (by decide)).2.1 (by decide) (by decide) hr_) ?_
  refine own_by (T' := T4_) (g' := (mkF m 33 #[.val (.ref ca), .val (.int (3 : Int32)), .val (.int (3 : Int32)), .val (.ref a), .val (.int (3 : Int32))] [(.ref a)])) (fun t_ hr_ => XS.aloadN A4_ hx rfl (Jvm.hb hby d18_32) rfl rfl hr_) ?_
  exact own_retA w4_ hx hEL hlk hret rfl rfl (Jvm.hb hby d18_33) (by decide) (by decide) ⟨_, _, rfl, EP2, VP2⟩

theorem ef_ctC53 (m : MethodId) (x0 : Addr) (x1 : Int32) (x2 : Addr) (x3 : Int32) (x4 : Int32) : entryFrame m #[(.ref x0), (.int x1), (.ref x2), (.int x3), (.int x4)] 7 = mkF m 0 #[.val (.ref x0), .val (.int x1), .val (.ref x2), .val (.int x3), .val (.int x4), .unset, .unset] [] := by first | (simp [entryFrame, mkF, argsToLocals, Value.category]; done) | rfl
set_option maxRecDepth 65536 in
set_option maxHeartbeats 40000000 in
theorem ctC53 (l : Launch) (Z : State) (a0 : Array Value) (hw : ∀ d ∈ tables_1, d.before a0 Z = true) (n0 : Nat) (h0 : Heap) (O0 : Old Z n0 h0) (ca ba : Addr) (kC kB : ClassId) (c0 c1 c2 : Int32) (VC : Arv Z h0 ca kC .char (3 : Int32) [(.int c0), (.int c1), (.int c2)] (.int 0)) (VB : Arv Z h0 ba kB .byte (3 : Int32) [(.int (0 : Int32)), (.int (0 : Int32)), (.int (0 : Int32))] (.int 0)) (hne : ca ≠ ba) (gb : n0 ≤ ba) :
    own_Ct l (⟨"java/lang/StringUTF16", "compress", "([CI[BII)I"⟩ : MethodName) jdk_52_method_21_code 7 (some .int) ({ frames := 0, cells := 0, slots := 0, locals := 0 } : Room) Z consts_1 n0 #[(.ref ca), (.int (0 : Int32)), (.ref ba), (.int (0 : Int32)), (.int (3 : Int32))] h0 [ba] (fun v h => (v = some (.int 0) ∧ (255 : Int32) < c0 ∧ Keep h0 h [ba]) ∨ (v = some (.int 1) ∧ (255 : Int32) < c1 ∧ Keep h0 h [ba]) ∨ (v = some (.int 2) ∧ (255 : Int32) < c2 ∧ Keep h0 h [ba]) ∨ (v = some (.int 3) ∧ (¬ (255 : Int32) < c0 ∧ ¬ (255 : Int32) < c1 ∧ ¬ (255 : Int32) < c2) ∧ Keep h0 h [ba] ∧ Arv Z h ba kB .byte (3 : Int32) [(.int (c0.toInt8.toInt32)), (.int (c1.toInt8.toInt32)), (.int (c2.toInt8.toInt32))] (.int 0))) := by
  have hEL := own_EL hw
  refine own_body pn_269384959 O0 (fun p e s m below meth cc_ T0 vm0 hx hby hml0 hret hlk hnm hsf w0 => ?_)
  have hml : cc_.maxLocals = 7 := hml0
  have A_0 := own_at w0
  refine own_entry (ef_ctC53 m ca (0 : Int32) ba (0 : Int32) (3 : Int32)) ?_
  refine own_by (T' := T0) (g' := (mkF m 1 #[.val (.ref ca), .val (.int (0 : Int32)), .val (.ref ba), .val (.int (0 : Int32)), .val (.int (3 : Int32)), .unset, .unset] [(.int (0 : Int32))])) (fun t_ hr_ => XS.iconst A_0 hx rfl (Jvm.hb hby d15_0) hr_) ?_
  refine own_by (T' := T0) (g' := (mkF m 3 #[.val (.ref ca), .val (.int (0 : Int32)), .val (.ref ba), .val (.int (0 : Int32)), .val (.int (3 : Int32)), .val (.int (0 : Int32)), .unset] [])) (fun t_ hr_ => XS.istore A_0 hx rfl (Jvm.hb hby d15_1) rfl (l' := #[.val (.ref ca), .val (.int (0 : Int32)), .val (.ref ba), .val (.int (0 : Int32)), .val (.int (3 : Int32)), .val (.int (0 : Int32)), .unset]) rfl hr_) ?_
  refine own_by (T' := T0) (g' := (mkF m 5 #[.val (.ref ca), .val (.int (0 : Int32)), .val (.ref ba), .val (.int (0 : Int32)), .val (.int (3 : Int32)), .val (.int (0 : Int32)), .unset] [(.int (0 : Int32))])) (fun t_ hr_ => XS.iload A_0 hx rfl (Jvm.hb hby d15_3) rfl hr_) ?_
  refine own_by (T' := T0) (g' := (mkF m 7 #[.val (.ref ca), .val (.int (0 : Int32)), .val (.ref ba), .val (.int (0 : Int32)), .val (.int (3 : Int32)), .val (.int (0 : Int32)), .unset] [(.int (3 : Int32)), (.int (0 : Int32))])) (fun t_ hr_ => XS.iload A_0 hx rfl (Jvm.hb hby d15_5) rfl hr_) ?_
  refine own_by (T' := T0) (g' := (mkF m 10 #[.val (.ref ca), .val (.int (0 : Int32)), .val (.ref ba), .val (.int (0 : Int32)), .val (.int (3 : Int32)), .val (.int (0 : Int32)), .unset] [])) (fun t_ hr_ => XS.icmpNo A_0 hx rfl (Jvm.hb hby d15_7) rfl (tlt (by decide)).2.1 hr_) ?_
  refine own_by (T' := T0) (g' := (mkF m 11 #[.val (.ref ca), .val (.int (0 : Int32)), .val (.ref ba), .val (.int (0 : Int32)), .val (.int (3 : Int32)), .val (.int (0 : Int32)), .unset] [(.ref ca)])) (fun t_ hr_ => XS.aloadN A_0 hx rfl (Jvm.hb hby d15_10) rfl rfl hr_) ?_
  refine own_by (T' := T0) (g' := (mkF m 12 #[.val (.ref ca), .val (.int (0 : Int32)), .val (.ref ba), .val (.int (0 : Int32)), .val (.int (3 : Int32)), .val (.int (0 : Int32)), .unset] [(.int (0 : Int32)), (.ref ca)])) (fun t_ hr_ => XS.iloadN A_0 hx rfl (Jvm.hb hby d15_11) rfl hr_) ?_
  refine own_caload w0 hx (x := c0) VC (by decide) (g := (mkF m 12 #[.val (.ref ca), .val (.int (0 : Int32)), .val (.ref ba), .val (.int (0 : Int32)), .val (.int (3 : Int32)), .val (.int (0 : Int32)), .unset] [(.int (0 : Int32)), (.ref ca)])) rfl rfl (Jvm.hb hby d15_12) rfl ?_
  show own_WP p e _ below s Z _ n0 _ T0 (mkF m 13 #[.val (.ref ca), .val (.int (0 : Int32)), .val (.ref ba), .val (.int (0 : Int32)), .val (.int (3 : Int32)), .val (.int (0 : Int32)), .unset] [(.int c0)])
  refine own_by (T' := T0) (g' := (mkF m 15 #[.val (.ref ca), .val (.int (0 : Int32)), .val (.ref ba), .val (.int (0 : Int32)), .val (.int (3 : Int32)), .val (.int (0 : Int32)), .val (.int c0)] [])) (fun t_ hr_ => XS.istore A_0 hx rfl (Jvm.hb hby d15_13) rfl (l' := #[.val (.ref ca), .val (.int (0 : Int32)), .val (.ref ba), .val (.int (0 : Int32)), .val (.int (3 : Int32)), .val (.int (0 : Int32)), .val (.int c0)]) rfl hr_) ?_
  refine own_by (T' := T0) (g' := (mkF m 17 #[.val (.ref ca), .val (.int (0 : Int32)), .val (.ref ba), .val (.int (0 : Int32)), .val (.int (3 : Int32)), .val (.int (0 : Int32)), .val (.int c0)] [(.int c0)])) (fun t_ hr_ => XS.iload A_0 hx rfl (Jvm.hb hby d15_15) rfl hr_) ?_
  refine own_by (T' := T0) (g' := (mkF m 20 #[.val (.ref ca), .val (.int (0 : Int32)), .val (.ref ba), .val (.int (0 : Int32)), .val (.int (3 : Int32)), .val (.int (0 : Int32)), .val (.int c0)] [(.int (255 : Int32)), (.int c0)])) (fun t_ hr_ => XS.sipush A_0 hx rfl (Jvm.hb hby d15_17) hr_) ?_
  by_cases hc1_ : (255 : Int32) < c0
  · refine own_by (T' := T0) (g' := (mkF m 23 #[.val (.ref ca), .val (.int (0 : Int32)), .val (.ref ba), .val (.int (0 : Int32)), .val (.int (3 : Int32)), .val (.int (0 : Int32)), .val (.int c0)] [])) (fun t_ hr_ => XS.icmpNo A_0 hx rfl (Jvm.hb hby d15_20) rfl (tlt hc1_).2.2.2 hr_) ?_
    refine own_by (T' := T0) (g' := (mkF m 25 #[.val (.ref ca), .val (.int (0 : Int32)), .val (.ref ba), .val (.int (0 : Int32)), .val (.int (3 : Int32)), .val (.int (0 : Int32)), .val (.int c0)] [(.int (0 : Int32))])) (fun t_ hr_ => XS.iload A_0 hx rfl (Jvm.hb hby d15_23) rfl hr_) ?_
    exact own_retI w0 hx hEL hlk hret (Jvm.hb hby d15_25) (by decide) (by decide) (Or.inl ⟨rfl, hc1_, (Keep.refl h0 [ba])⟩)
  · refine own_by (T' := T0) (g' := (mkF m 26 #[.val (.ref ca), .val (.int (0 : Int32)), .val (.ref ba), .val (.int (0 : Int32)), .val (.int (3 : Int32)), .val (.int (0 : Int32)), .val (.int c0)] [])) (fun t_ hr_ => XS.icmpYes A_0 hx rfl (pc0 := 20) (pc' := 26) rfl (Jvm.hb hby d15_20) rfl (flt hc1_).2.2.2 (by decide) (by decide) hr_) ?_
    refine own_by (T' := T0) (g' := (mkF m 27 #[.val (.ref ca), .val (.int (0 : Int32)), .val (.ref ba), .val (.int (0 : Int32)), .val (.int (3 : Int32)), .val (.int (0 : Int32)), .val (.int c0)] [(.ref ba)])) (fun t_ hr_ => XS.aloadN A_0 hx rfl (Jvm.hb hby d15_26) rfl rfl hr_) ?_
    refine own_by (T' := T0) (g' := (mkF m 28 #[.val (.ref ca), .val (.int (0 : Int32)), .val (.ref ba), .val (.int (0 : Int32)), .val (.int (3 : Int32)), .val (.int (0 : Int32)), .val (.int c0)] [(.int (0 : Int32)), (.ref ba)])) (fun t_ hr_ => XS.iloadN A_0 hx rfl (Jvm.hb hby d15_27) rfl hr_) ?_
    refine own_by (T' := T0) (g' := (mkF m 30 #[.val (.ref ca), .val (.int (0 : Int32)), .val (.ref ba), .val (.int (0 : Int32)), .val (.int (3 : Int32)), .val (.int (0 : Int32)), .val (.int c0)] [(.int c0), (.int (0 : Int32)), (.ref ba)])) (fun t_ hr_ => XS.iload A_0 hx rfl (Jvm.hb hby d15_28) rfl hr_) ?_
    refine own_by (T' := T0) (g' := (mkF m 31 #[.val (.ref ca), .val (.int (0 : Int32)), .val (.ref ba), .val (.int (0 : Int32)), .val (.int (3 : Int32)), .val (.int (0 : Int32)), .val (.int c0)] [(.int (c0.toInt8.toInt32)), (.int (0 : Int32)), (.ref ba)])) (fun t_ hr_ => XS.i2b A_0 hx rfl (Jvm.hb hby d15_30) rfl hr_) ?_
    refine own_bastore w0 hx VB (by decide) (own_lo8lo8 c0) (hsf ba (List.mem_of_getElem? (i := 0) rfl)) (i := 0) rfl (by simp) gb (g := (mkF m 31 #[.val (.ref ca), .val (.int (0 : Int32)), .val (.ref ba), .val (.int (0 : Int32)), .val (.int (3 : Int32)), .val (.int (0 : Int32)), .val (.int c0)] [(.int (c0.toInt8.toInt32)), (.int (0 : Int32)), (.ref ba)])) rfl rfl (Jvm.hb hby d15_31) (fun T2_ h2_ W2_ V2_ w2_ => ?_)
    have A2_ := own_at w2_
    show own_WP p e _ below s Z _ n0 _ T2_ (mkF m 32 #[.val (.ref ca), .val (.int (0 : Int32)), .val (.ref ba), .val (.int (0 : Int32)), .val (.int (3 : Int32)), .val (.int (0 : Int32)), .val (.int c0)] [])
    refine own_by (T' := T2_) (g' := (mkF m 35 #[.val (.ref ca), .val (.int ((0 : Int32) + (1 : Int32))), .val (.ref ba), .val (.int (0 : Int32)), .val (.int (3 : Int32)), .val (.int (0 : Int32)), .val (.int c0)] [])) (fun t_ hr_ => XS.iinc A2_ hx rfl (Jvm.hb hby d15_32) rfl (l' := #[.val (.ref ca), .val (.int ((0 : Int32) + (1 : Int32))), .val (.ref ba), .val (.int (0 : Int32)), .val (.int (3 : Int32)), .val (.int (0 : Int32)), .val (.int c0)]) rfl hr_) ?_
    refine own_by (T' := T2_) (g' := (mkF m 38 #[.val (.ref ca), .val (.int ((0 : Int32) + (1 : Int32))), .val (.ref ba), .val (.int ((0 : Int32) + (1 : Int32))), .val (.int (3 : Int32)), .val (.int (0 : Int32)), .val (.int c0)] [])) (fun t_ hr_ => XS.iinc A2_ hx rfl (Jvm.hb hby d15_35) rfl (l' := #[.val (.ref ca), .val (.int ((0 : Int32) + (1 : Int32))), .val (.ref ba), .val (.int ((0 : Int32) + (1 : Int32))), .val (.int (3 : Int32)), .val (.int (0 : Int32)), .val (.int c0)]) rfl hr_) ?_
    refine own_by (T' := T2_) (g' := (mkF m 41 #[.val (.ref ca), .val (.int ((0 : Int32) + (1 : Int32))), .val (.ref ba), .val (.int ((0 : Int32) + (1 : Int32))), .val (.int (3 : Int32)), .val (.int ((0 : Int32) + (1 : Int32))), .val (.int c0)] [])) (fun t_ hr_ => XS.iinc A2_ hx rfl (Jvm.hb hby d15_38) rfl (l' := #[.val (.ref ca), .val (.int ((0 : Int32) + (1 : Int32))), .val (.ref ba), .val (.int ((0 : Int32) + (1 : Int32))), .val (.int (3 : Int32)), .val (.int ((0 : Int32) + (1 : Int32))), .val (.int c0)]) rfl hr_) ?_
    rw [show ((0 : Int32) + (1 : Int32)) = (1 : Int32) from (by decide)]
    show own_WP p e _ below s Z _ n0 _ T2_ (mkF m 41 #[.val (.ref ca), .val (.int (1 : Int32)), .val (.ref ba), .val (.int (1 : Int32)), .val (.int (3 : Int32)), .val (.int (1 : Int32)), .val (.int c0)] [])
    refine own_by (T' := T2_) (g' := (mkF m 3 #[.val (.ref ca), .val (.int (1 : Int32)), .val (.ref ba), .val (.int (1 : Int32)), .val (.int (3 : Int32)), .val (.int (1 : Int32)), .val (.int c0)] [])) (fun t_ hr_ => XS.goto A2_ hx rfl (pc0 := 41) (pc' := 3) rfl (Jvm.hb hby d15_41) (by decide) (by decide) hr_) ?_
    have VC2_ := VC.other W2_ hne
    have Sf2_ := Safe.wr W2_ (hsf ba (List.mem_of_getElem? (i := 0) rfl)) (own_chv w0) (hsf ba (List.mem_of_getElem? (i := 0) rfl))
    refine own_by (T' := T2_) (g' := (mkF m 5 #[.val (.ref ca), .val (.int (1 : Int32)), .val (.ref ba), .val (.int (1 : Int32)), .val (.int (3 : Int32)), .val (.int (1 : Int32)), .val (.int c0)] [(.int (1 : Int32))])) (fun t_ hr_ => XS.iload A2_ hx rfl (Jvm.hb hby d15_3) rfl hr_) ?_
    refine own_by (T' := T2_) (g' := (mkF m 7 #[.val (.ref ca), .val (.int (1 : Int32)), .val (.ref ba), .val (.int (1 : Int32)), .val (.int (3 : Int32)), .val (.int (1 : Int32)), .val (.int c0)] [(.int (3 : Int32)), (.int (1 : Int32))])) (fun t_ hr_ => XS.iload A2_ hx rfl (Jvm.hb hby d15_5) rfl hr_) ?_
    refine own_by (T' := T2_) (g' := (mkF m 10 #[.val (.ref ca), .val (.int (1 : Int32)), .val (.ref ba), .val (.int (1 : Int32)), .val (.int (3 : Int32)), .val (.int (1 : Int32)), .val (.int c0)] [])) (fun t_ hr_ => XS.icmpNo A2_ hx rfl (Jvm.hb hby d15_7) rfl (tlt (by decide)).2.1 hr_) ?_
    refine own_by (T' := T2_) (g' := (mkF m 11 #[.val (.ref ca), .val (.int (1 : Int32)), .val (.ref ba), .val (.int (1 : Int32)), .val (.int (3 : Int32)), .val (.int (1 : Int32)), .val (.int c0)] [(.ref ca)])) (fun t_ hr_ => XS.aloadN A2_ hx rfl (Jvm.hb hby d15_10) rfl rfl hr_) ?_
    refine own_by (T' := T2_) (g' := (mkF m 12 #[.val (.ref ca), .val (.int (1 : Int32)), .val (.ref ba), .val (.int (1 : Int32)), .val (.int (3 : Int32)), .val (.int (1 : Int32)), .val (.int c0)] [(.int (1 : Int32)), (.ref ca)])) (fun t_ hr_ => XS.iloadN A2_ hx rfl (Jvm.hb hby d15_11) rfl hr_) ?_
    refine own_caload w2_ hx (x := c1) VC2_ (by decide) (g := (mkF m 12 #[.val (.ref ca), .val (.int (1 : Int32)), .val (.ref ba), .val (.int (1 : Int32)), .val (.int (3 : Int32)), .val (.int (1 : Int32)), .val (.int c0)] [(.int (1 : Int32)), (.ref ca)])) rfl rfl (Jvm.hb hby d15_12) rfl ?_
    show own_WP p e _ below s Z _ n0 _ T2_ (mkF m 13 #[.val (.ref ca), .val (.int (1 : Int32)), .val (.ref ba), .val (.int (1 : Int32)), .val (.int (3 : Int32)), .val (.int (1 : Int32)), .val (.int c0)] [(.int c1)])
    refine own_by (T' := T2_) (g' := (mkF m 15 #[.val (.ref ca), .val (.int (1 : Int32)), .val (.ref ba), .val (.int (1 : Int32)), .val (.int (3 : Int32)), .val (.int (1 : Int32)), .val (.int c1)] [])) (fun t_ hr_ => XS.istore A2_ hx rfl (Jvm.hb hby d15_13) rfl (l' := #[.val (.ref ca), .val (.int (1 : Int32)), .val (.ref ba), .val (.int (1 : Int32)), .val (.int (3 : Int32)), .val (.int (1 : Int32)), .val (.int c1)]) rfl hr_) ?_
    refine own_by (T' := T2_) (g' := (mkF m 17 #[.val (.ref ca), .val (.int (1 : Int32)), .val (.ref ba), .val (.int (1 : Int32)), .val (.int (3 : Int32)), .val (.int (1 : Int32)), .val (.int c1)] [(.int c1)])) (fun t_ hr_ => XS.iload A2_ hx rfl (Jvm.hb hby d15_15) rfl hr_) ?_
    refine own_by (T' := T2_) (g' := (mkF m 20 #[.val (.ref ca), .val (.int (1 : Int32)), .val (.ref ba), .val (.int (1 : Int32)), .val (.int (3 : Int32)), .val (.int (1 : Int32)), .val (.int c1)] [(.int (255 : Int32)), (.int c1)])) (fun t_ hr_ => XS.sipush A2_ hx rfl (Jvm.hb hby d15_17) hr_) ?_
    by_cases hc3_ : (255 : Int32) < c1
    · refine own_by (T' := T2_) (g' := (mkF m 23 #[.val (.ref ca), .val (.int (1 : Int32)), .val (.ref ba), .val (.int (1 : Int32)), .val (.int (3 : Int32)), .val (.int (1 : Int32)), .val (.int c1)] [])) (fun t_ hr_ => XS.icmpNo A2_ hx rfl (Jvm.hb hby d15_20) rfl (tlt hc3_).2.2.2 hr_) ?_
      refine own_by (T' := T2_) (g' := (mkF m 25 #[.val (.ref ca), .val (.int (1 : Int32)), .val (.ref ba), .val (.int (1 : Int32)), .val (.int (3 : Int32)), .val (.int (1 : Int32)), .val (.int c1)] [(.int (1 : Int32))])) (fun t_ hr_ => XS.iload A2_ hx rfl (Jvm.hb hby d15_23) rfl hr_) ?_
      exact own_retI w2_ hx hEL hlk hret (Jvm.hb hby d15_25) (by decide) (by decide) (Or.inr (Or.inl ⟨rfl, hc3_, ((Keep.refl h0 [ba]).wr W2_ (Or.inl (List.mem_of_getElem? (i := 0) rfl)))⟩))
    · refine own_by (T' := T2_) (g' := (mkF m 26 #[.val (.ref ca), .val (.int (1 : Int32)), .val (.ref ba), .val (.int (1 : Int32)), .val (.int (3 : Int32)), .val (.int (1 : Int32)), .val (.int c1)] [])) (fun t_ hr_ => XS.icmpYes A2_ hx rfl (pc0 := 20) (pc' := 26) rfl (Jvm.hb hby d15_20) rfl (flt hc3_).2.2.2 (by decide) (by decide) hr_) ?_
      refine own_by (T' := T2_) (g' := (mkF m 27 #[.val (.ref ca), .val (.int (1 : Int32)), .val (.ref ba), .val (.int (1 : Int32)), .val (.int (3 : Int32)), .val (.int (1 : Int32)), .val (.int c1)] [(.ref ba)])) (fun t_ hr_ => XS.aloadN A2_ hx rfl (Jvm.hb hby d15_26) rfl rfl hr_) ?_
      refine own_by (T' := T2_) (g' := (mkF m 28 #[.val (.ref ca), .val (.int (1 : Int32)), .val (.ref ba), .val (.int (1 : Int32)), .val (.int (3 : Int32)), .val (.int (1 : Int32)), .val (.int c1)] [(.int (1 : Int32)), (.ref ba)])) (fun t_ hr_ => XS.iloadN A2_ hx rfl (Jvm.hb hby d15_27) rfl hr_) ?_
      refine own_by (T' := T2_) (g' := (mkF m 30 #[.val (.ref ca), .val (.int (1 : Int32)), .val (.ref ba), .val (.int (1 : Int32)), .val (.int (3 : Int32)), .val (.int (1 : Int32)), .val (.int c1)] [(.int c1), (.int (1 : Int32)), (.ref ba)])) (fun t_ hr_ => XS.iload A2_ hx rfl (Jvm.hb hby d15_28) rfl hr_) ?_
      refine own_by (T' := T2_) (g' := (mkF m 31 #[.val (.ref ca), .val (.int (1 : Int32)), .val (.ref ba), .val (.int (1 : Int32)), .val (.int (3 : Int32)), .val (.int (1 : Int32)), .val (.int c1)] [(.int (c1.toInt8.toInt32)), (.int (1 : Int32)), (.ref ba)])) (fun t_ hr_ => XS.i2b A2_ hx rfl (Jvm.hb hby d15_30) rfl hr_) ?_
      refine own_bastore w2_ hx V2_ (by decide) (own_lo8lo8 c1) Sf2_ (i := 1) rfl (by simp) gb (g := (mkF m 31 #[.val (.ref ca), .val (.int (1 : Int32)), .val (.ref ba), .val (.int (1 : Int32)), .val (.int (3 : Int32)), .val (.int (1 : Int32)), .val (.int c1)] [(.int (c1.toInt8.toInt32)), (.int (1 : Int32)), (.ref ba)])) rfl rfl (Jvm.hb hby d15_31) (fun T4_ h4_ W4_ V4_ w4_ => ?_)
      have A4_ := own_at w4_
      show own_WP p e _ below s Z _ n0 _ T4_ (mkF m 32 #[.val (.ref ca), .val (.int (1 : Int32)), .val (.ref ba), .val (.int (1 : Int32)), .val (.int (3 : Int32)), .val (.int (1 : Int32)), .val (.int c1)] [])
      refine own_by (T' := T4_) (g' := (mkF m 35 #[.val (.ref ca), .val (.int ((1 : Int32) + (1 : Int32))), .val (.ref ba), .val (.int (1 : Int32)), .val (.int (3 : Int32)), .val (.int (1 : Int32)), .val (.int c1)] [])) (fun t_ hr_ => XS.iinc A4_ hx rfl (Jvm.hb hby d15_32) rfl (l' := #[.val (.ref ca), .val (.int ((1 : Int32) + (1 : Int32))), .val (.ref ba), .val (.int (1 : Int32)), .val (.int (3 : Int32)), .val (.int (1 : Int32)), .val (.int c1)]) rfl hr_) ?_
      refine own_by (T' := T4_) (g' := (mkF m 38 #[.val (.ref ca), .val (.int ((1 : Int32) + (1 : Int32))), .val (.ref ba), .val (.int ((1 : Int32) + (1 : Int32))), .val (.int (3 : Int32)), .val (.int (1 : Int32)), .val (.int c1)] [])) (fun t_ hr_ => XS.iinc A4_ hx rfl (Jvm.hb hby d15_35) rfl (l' := #[.val (.ref ca), .val (.int ((1 : Int32) + (1 : Int32))), .val (.ref ba), .val (.int ((1 : Int32) + (1 : Int32))), .val (.int (3 : Int32)), .val (.int (1 : Int32)), .val (.int c1)]) rfl hr_) ?_
      refine own_by (T' := T4_) (g' := (mkF m 41 #[.val (.ref ca), .val (.int ((1 : Int32) + (1 : Int32))), .val (.ref ba), .val (.int ((1 : Int32) + (1 : Int32))), .val (.int (3 : Int32)), .val (.int ((1 : Int32) + (1 : Int32))), .val (.int c1)] [])) (fun t_ hr_ => XS.iinc A4_ hx rfl (Jvm.hb hby d15_38) rfl (l' := #[.val (.ref ca), .val (.int ((1 : Int32) + (1 : Int32))), .val (.ref ba), .val (.int ((1 : Int32) + (1 : Int32))), .val (.int (3 : Int32)), .val (.int ((1 : Int32) + (1 : Int32))), .val (.int c1)]) rfl hr_) ?_
      rw [show ((1 : Int32) + (1 : Int32)) = (2 : Int32) from (by decide)]
      show own_WP p e _ below s Z _ n0 _ T4_ (mkF m 41 #[.val (.ref ca), .val (.int (2 : Int32)), .val (.ref ba), .val (.int (2 : Int32)), .val (.int (3 : Int32)), .val (.int (2 : Int32)), .val (.int c1)] [])
      refine own_by (T' := T4_) (g' := (mkF m 3 #[.val (.ref ca), .val (.int (2 : Int32)), .val (.ref ba), .val (.int (2 : Int32)), .val (.int (3 : Int32)), .val (.int (2 : Int32)), .val (.int c1)] [])) (fun t_ hr_ => XS.goto A4_ hx rfl (pc0 := 41) (pc' := 3) rfl (Jvm.hb hby d15_41) (by decide) (by decide) hr_) ?_
      have VC4_ := VC2_.other W4_ hne
      have Sf4_ := Safe.wr W4_ Sf2_ (own_chv w2_) Sf2_
      refine own_by (T' := T4_) (g' := (mkF m 5 #[.val (.ref ca), .val (.int (2 : Int32)), .val (.ref ba), .val (.int (2 : Int32)), .val (.int (3 : Int32)), .val (.int (2 : Int32)), .val (.int c1)] [(.int (2 : Int32))])) (fun t_ hr_ => XS.iload A4_ hx rfl (Jvm.hb hby d15_3) rfl hr_) ?_
      refine own_by (T' := T4_) (g' := (mkF m 7 #[.val (.ref ca), .val (.int (2 : Int32)), .val (.ref ba), .val (.int (2 : Int32)), .val (.int (3 : Int32)), .val (.int (2 : Int32)), .val (.int c1)] [(.int (3 : Int32)), (.int (2 : Int32))])) (fun t_ hr_ => XS.iload A4_ hx rfl (Jvm.hb hby d15_5) rfl hr_) ?_
      refine own_by (T' := T4_) (g' := (mkF m 10 #[.val (.ref ca), .val (.int (2 : Int32)), .val (.ref ba), .val (.int (2 : Int32)), .val (.int (3 : Int32)), .val (.int (2 : Int32)), .val (.int c1)] [])) (fun t_ hr_ => XS.icmpNo A4_ hx rfl (Jvm.hb hby d15_7) rfl (tlt (by decide)).2.1 hr_) ?_
      refine own_by (T' := T4_) (g' := (mkF m 11 #[.val (.ref ca), .val (.int (2 : Int32)), .val (.ref ba), .val (.int (2 : Int32)), .val (.int (3 : Int32)), .val (.int (2 : Int32)), .val (.int c1)] [(.ref ca)])) (fun t_ hr_ => XS.aloadN A4_ hx rfl (Jvm.hb hby d15_10) rfl rfl hr_) ?_
      refine own_by (T' := T4_) (g' := (mkF m 12 #[.val (.ref ca), .val (.int (2 : Int32)), .val (.ref ba), .val (.int (2 : Int32)), .val (.int (3 : Int32)), .val (.int (2 : Int32)), .val (.int c1)] [(.int (2 : Int32)), (.ref ca)])) (fun t_ hr_ => XS.iloadN A4_ hx rfl (Jvm.hb hby d15_11) rfl hr_) ?_
      refine own_caload w4_ hx (x := c2) VC4_ (by decide) (g := (mkF m 12 #[.val (.ref ca), .val (.int (2 : Int32)), .val (.ref ba), .val (.int (2 : Int32)), .val (.int (3 : Int32)), .val (.int (2 : Int32)), .val (.int c1)] [(.int (2 : Int32)), (.ref ca)])) rfl rfl (Jvm.hb hby d15_12) rfl ?_
      show own_WP p e _ below s Z _ n0 _ T4_ (mkF m 13 #[.val (.ref ca), .val (.int (2 : Int32)), .val (.ref ba), .val (.int (2 : Int32)), .val (.int (3 : Int32)), .val (.int (2 : Int32)), .val (.int c1)] [(.int c2)])
      refine own_by (T' := T4_) (g' := (mkF m 15 #[.val (.ref ca), .val (.int (2 : Int32)), .val (.ref ba), .val (.int (2 : Int32)), .val (.int (3 : Int32)), .val (.int (2 : Int32)), .val (.int c2)] [])) (fun t_ hr_ => XS.istore A4_ hx rfl (Jvm.hb hby d15_13) rfl (l' := #[.val (.ref ca), .val (.int (2 : Int32)), .val (.ref ba), .val (.int (2 : Int32)), .val (.int (3 : Int32)), .val (.int (2 : Int32)), .val (.int c2)]) rfl hr_) ?_
      refine own_by (T' := T4_) (g' := (mkF m 17 #[.val (.ref ca), .val (.int (2 : Int32)), .val (.ref ba), .val (.int (2 : Int32)), .val (.int (3 : Int32)), .val (.int (2 : Int32)), .val (.int c2)] [(.int c2)])) (fun t_ hr_ => XS.iload A4_ hx rfl (Jvm.hb hby d15_15) rfl hr_) ?_
      refine own_by (T' := T4_) (g' := (mkF m 20 #[.val (.ref ca), .val (.int (2 : Int32)), .val (.ref ba), .val (.int (2 : Int32)), .val (.int (3 : Int32)), .val (.int (2 : Int32)), .val (.int c2)] [(.int (255 : Int32)), (.int c2)])) (fun t_ hr_ => XS.sipush A4_ hx rfl (Jvm.hb hby d15_17) hr_) ?_
      by_cases hc5_ : (255 : Int32) < c2
      · refine own_by (T' := T4_) (g' := (mkF m 23 #[.val (.ref ca), .val (.int (2 : Int32)), .val (.ref ba), .val (.int (2 : Int32)), .val (.int (3 : Int32)), .val (.int (2 : Int32)), .val (.int c2)] [])) (fun t_ hr_ => XS.icmpNo A4_ hx rfl (Jvm.hb hby d15_20) rfl (tlt hc5_).2.2.2 hr_) ?_
        refine own_by (T' := T4_) (g' := (mkF m 25 #[.val (.ref ca), .val (.int (2 : Int32)), .val (.ref ba), .val (.int (2 : Int32)), .val (.int (3 : Int32)), .val (.int (2 : Int32)), .val (.int c2)] [(.int (2 : Int32))])) (fun t_ hr_ => XS.iload A4_ hx rfl (Jvm.hb hby d15_23) rfl hr_) ?_
        exact own_retI w4_ hx hEL hlk hret (Jvm.hb hby d15_25) (by decide) (by decide) (Or.inr (Or.inr (Or.inl ⟨rfl, hc5_, (((Keep.refl h0 [ba]).wr W2_ (Or.inl (List.mem_of_getElem? (i := 0) rfl))).wr W4_ (Or.inl (List.mem_of_getElem? (i := 0) rfl)))⟩)))
      · refine own_by (T' := T4_) (g' := (mkF m 26 #[.val (.ref ca), .val (.int (2 : Int32)), .val (.ref ba), .val (.int (2 : Int32)), .val (.int (3 : Int32)), .val (.int (2 : Int32)), .val (.int c2)] [])) (fun t_ hr_ => XS.icmpYes A4_ hx rfl (pc0 := 20) (pc' := 26) rfl (Jvm.hb hby d15_20) rfl (flt hc5_).2.2.2 (by decide) (by decide) hr_) ?_
        refine own_by (T' := T4_) (g' := (mkF m 27 #[.val (.ref ca), .val (.int (2 : Int32)), .val (.ref ba), .val (.int (2 : Int32)), .val (.int (3 : Int32)), .val (.int (2 : Int32)), .val (.int c2)] [(.ref ba)])) (fun t_ hr_ => XS.aloadN A4_ hx rfl (Jvm.hb hby d15_26) rfl rfl hr_) ?_
        refine own_by (T' := T4_) (g' := (mkF m 28 #[.val (.ref ca), .val (.int (2 : Int32)), .val (.ref ba), .val (.int (2 : Int32)), .val (.int (3 : Int32)), .val (.int (2 : Int32)), .val (.int c2)] [(.int (2 : Int32)), (.ref ba)])) (fun t_ hr_ => XS.iloadN A4_ hx rfl (Jvm.hb hby d15_27) rfl hr_) ?_
        refine own_by (T' := T4_) (g' := (mkF m 30 #[.val (.ref ca), .val (.int (2 : Int32)), .val (.ref ba), .val (.int (2 : Int32)), .val (.int (3 : Int32)), .val (.int (2 : Int32)), .val (.int c2)] [(.int c2), (.int (2 : Int32)), (.ref ba)])) (fun t_ hr_ => XS.iload A4_ hx rfl (Jvm.hb hby d15_28) rfl hr_) ?_
        refine own_by (T' := T4_) (g' := (mkF m 31 #[.val (.ref ca), .val (.int (2 : Int32)), .val (.ref ba), .val (.int (2 : Int32)), .val (.int (3 : Int32)), .val (.int (2 : Int32)), .val (.int c2)] [(.int (c2.toInt8.toInt32)), (.int (2 : Int32)), (.ref ba)])) (fun t_ hr_ => XS.i2b A4_ hx rfl (Jvm.hb hby d15_30) rfl hr_) ?_
        refine own_bastore w4_ hx V4_ (by decide) (own_lo8lo8 c2) Sf4_ (i := 2) rfl (by simp) gb (g := (mkF m 31 #[.val (.ref ca), .val (.int (2 : Int32)), .val (.ref ba), .val (.int (2 : Int32)), .val (.int (3 : Int32)), .val (.int (2 : Int32)), .val (.int c2)] [(.int (c2.toInt8.toInt32)), (.int (2 : Int32)), (.ref ba)])) rfl rfl (Jvm.hb hby d15_31) (fun T6_ h6_ W6_ V6_ w6_ => ?_)
        have A6_ := own_at w6_
        show own_WP p e _ below s Z _ n0 _ T6_ (mkF m 32 #[.val (.ref ca), .val (.int (2 : Int32)), .val (.ref ba), .val (.int (2 : Int32)), .val (.int (3 : Int32)), .val (.int (2 : Int32)), .val (.int c2)] [])
        refine own_by (T' := T6_) (g' := (mkF m 35 #[.val (.ref ca), .val (.int ((2 : Int32) + (1 : Int32))), .val (.ref ba), .val (.int (2 : Int32)), .val (.int (3 : Int32)), .val (.int (2 : Int32)), .val (.int c2)] [])) (fun t_ hr_ => XS.iinc A6_ hx rfl (Jvm.hb hby d15_32) rfl (l' := #[.val (.ref ca), .val (.int ((2 : Int32) + (1 : Int32))), .val (.ref ba), .val (.int (2 : Int32)), .val (.int (3 : Int32)), .val (.int (2 : Int32)), .val (.int c2)]) rfl hr_) ?_
        refine own_by (T' := T6_) (g' := (mkF m 38 #[.val (.ref ca), .val (.int ((2 : Int32) + (1 : Int32))), .val (.ref ba), .val (.int ((2 : Int32) + (1 : Int32))), .val (.int (3 : Int32)), .val (.int (2 : Int32)), .val (.int c2)] [])) (fun t_ hr_ => XS.iinc A6_ hx rfl (Jvm.hb hby d15_35) rfl (l' := #[.val (.ref ca), .val (.int ((2 : Int32) + (1 : Int32))), .val (.ref ba), .val (.int ((2 : Int32) + (1 : Int32))), .val (.int (3 : Int32)), .val (.int (2 : Int32)), .val (.int c2)]) rfl hr_) ?_
        refine own_by (T' := T6_) (g' := (mkF m 41 #[.val (.ref ca), .val (.int ((2 : Int32) + (1 : Int32))), .val (.ref ba), .val (.int ((2 : Int32) + (1 : Int32))), .val (.int (3 : Int32)), .val (.int ((2 : Int32) + (1 : Int32))), .val (.int c2)] [])) (fun t_ hr_ => XS.iinc A6_ hx rfl (Jvm.hb hby d15_38) rfl (l' := #[.val (.ref ca), .val (.int ((2 : Int32) + (1 : Int32))), .val (.ref ba), .val (.int ((2 : Int32) + (1 : Int32))), .val (.int (3 : Int32)), .val (.int ((2 : Int32) + (1 : Int32))), .val (.int c2)]) rfl hr_) ?_
        rw [show ((2 : Int32) + (1 : Int32)) = (3 : Int32) from (by decide)]
        show own_WP p e _ below s Z _ n0 _ T6_ (mkF m 41 #[.val (.ref ca), .val (.int (3 : Int32)), .val (.ref ba), .val (.int (3 : Int32)), .val (.int (3 : Int32)), .val (.int (3 : Int32)), .val (.int c2)] [])
        refine own_by (T' := T6_) (g' := (mkF m 3 #[.val (.ref ca), .val (.int (3 : Int32)), .val (.ref ba), .val (.int (3 : Int32)), .val (.int (3 : Int32)), .val (.int (3 : Int32)), .val (.int c2)] [])) (fun t_ hr_ => XS.goto A6_ hx rfl (pc0 := 41) (pc' := 3) rfl (Jvm.hb hby d15_41) (by decide) (by decide) hr_) ?_
        have VC6_ := VC4_.other W6_ hne
        have Sf6_ := Safe.wr W6_ Sf4_ (own_chv w4_) Sf4_
        refine own_by (T' := T6_) (g' := (mkF m 5 #[.val (.ref ca), .val (.int (3 : Int32)), .val (.ref ba), .val (.int (3 : Int32)), .val (.int (3 : Int32)), .val (.int (3 : Int32)), .val (.int c2)] [(.int (3 : Int32))])) (fun t_ hr_ => XS.iload A6_ hx rfl (Jvm.hb hby d15_3) rfl hr_) ?_
        refine own_by (T' := T6_) (g' := (mkF m 7 #[.val (.ref ca), .val (.int (3 : Int32)), .val (.ref ba), .val (.int (3 : Int32)), .val (.int (3 : Int32)), .val (.int (3 : Int32)), .val (.int c2)] [(.int (3 : Int32)), (.int (3 : Int32))])) (fun t_ hr_ => XS.iload A6_ hx rfl (Jvm.hb hby d15_5) rfl hr_) ?_
        refine own_by (T' := T6_) (g' := (mkF m 44 #[.val (.ref ca), .val (.int (3 : Int32)), .val (.ref ba), .val (.int (3 : Int32)), .val (.int (3 : Int32)), .val (.int (3 : Int32)), .val (.int c2)] [])) (fun t_ hr_ => XS.icmpYes A6_ hx rfl (pc0 := 7) (pc' := 44) rfl (Jvm.hb hby d15_7) rfl (flt (by decide)).2.1 (by decide) (by decide) hr_) ?_
        refine own_by (T' := T6_) (g' := (mkF m 46 #[.val (.ref ca), .val (.int (3 : Int32)), .val (.ref ba), .val (.int (3 : Int32)), .val (.int (3 : Int32)), .val (.int (3 : Int32)), .val (.int c2)] [(.int (3 : Int32))])) (fun t_ hr_ => XS.iload A6_ hx rfl (Jvm.hb hby d15_44) rfl hr_) ?_
        exact own_retI w6_ hx hEL hlk hret (Jvm.hb hby d15_46) (by decide) (by decide) (Or.inr (Or.inr (Or.inr (⟨rfl, ⟨hc1_, hc3_, hc5_⟩, ((((Keep.refl h0 [ba]).wr W2_ (Or.inl (List.mem_of_getElem? (i := 0) rfl))).wr W4_ (Or.inl (List.mem_of_getElem? (i := 0) rfl))).wr W6_ (Or.inl (List.mem_of_getElem? (i := 0) rfl))), V6_⟩))))

theorem ef_ctC33 (m : MethodId) (x0 : Addr) (x1 : Int32) (x2 : Int32) : entryFrame m #[(.ref x0), (.int x1), (.int x2)] 6 = mkF m 0 #[.val (.ref x0), .val (.int x1), .val (.int x2), .unset, .unset, .unset] [] := by first | (simp [entryFrame, mkF, argsToLocals, Value.category]; done) | rfl
set_option maxRecDepth 65536 in
set_option maxHeartbeats 40000000 in
theorem ctC33 (l : Launch) (Z : State) (a0 : Array Value) (hw : ∀ d ∈ tables_1, d.before a0 Z = true) (US : own_US Z) (n0 : Nat) (h0 : Heap) (O0 : Old Z n0 h0) (ca : Addr) (kC : ClassId) (c0 c1 c2 : Int32) (VC : Arv Z h0 ca kC .char (3 : Int32) [(.int c0), (.int c1), (.int c2)] (.int 0)) (r0 : ¬ c0 < 0 ∧ ¬ (65535 : Int32) < c0) (r1 : ¬ c1 < 0 ∧ ¬ (65535 : Int32) < c1) (r2 : ¬ c2 < 0 ∧ ¬ (65535 : Int32) < c2) :
    own_Ct l (⟨"java/lang/StringUTF16", "compress", "([CII)[B"⟩ : MethodName) jdk_52_method_16_code 6 (some (.array .byte)) ({ frames := 3, cells := 2, slots := 9, locals := 40 } : Room) Z consts_1 n0 #[(.ref ca), (.int (0 : Int32)), (.int (3 : Int32))] h0 [] (fun v h => ∃ a k, v = some (.ref a) ∧ Ext h0 h ∧ (Arv Z h a k .byte (6 : Int32) [(.int (c0.toInt8.toInt32)), (.int ((c0 >>> ((8 : Int32) &&& 31)).toInt8.toInt32)), (.int (c1.toInt8.toInt32)), (.int ((c1 >>> ((8 : Int32) &&& 31)).toInt8.toInt32)), (.int (c2.toInt8.toInt32)), (.int ((c2 >>> ((8 : Int32) &&& 31)).toInt8.toInt32))] (.int 0) ∨ (Arv Z h a k .byte (3 : Int32) [(.int (c0.toInt8.toInt32)), (.int (c1.toInt8.toInt32)), (.int (c2.toInt8.toInt32))] (.int 0) ∧ (¬ (255 : Int32) < c0 ∧ ¬ (255 : Int32) < c1 ∧ ¬ (255 : Int32) < c2)))) := by
  have hEL := own_EL hw
  refine own_body pn_465937380 O0 (fun p e s m below meth cc_ T0 vm0 hx hby hml0 hret hlk hnm hsf w0 => ?_)
  have hml : cc_.maxLocals = 6 := hml0
  have A_0 := own_at w0
  refine own_entry (ef_ctC33 m ca (0 : Int32) (3 : Int32)) ?_
  refine own_by (T' := T0) (g' := (mkF m 1 #[.val (.ref ca), .val (.int (0 : Int32)), .val (.int (3 : Int32)), .unset, .unset, .unset] [(.int (3 : Int32))])) (fun t_ hr_ => XS.iloadN A_0 hx rfl (Jvm.hb hby d14_0) rfl hr_) ?_
  refine own_newP w0 hx (hw _ (List.mem_of_getElem? (i := 17) rfl)) (g := (mkF m 1 #[.val (.ref ca), .val (.int (0 : Int32)), .val (.int (3 : Int32)), .unset, .unset, .unset] [(.int (3 : Int32))])) rfl (Jvm.hb hby d14_1) rfl (by decide) (cap := 3) (by decide) (by decide) (by decide) (by decide) (fun T1_ h1_ a1_ k1_ g1_ E1_ V1_ w1_ => ?_)
  have A1_ := own_at w1_
  show own_WP p e _ below s Z _ n0 _ T1_ (mkF m 3 #[.val (.ref ca), .val (.int (0 : Int32)), .val (.int (3 : Int32)), .unset, .unset, .unset] [(.ref a1_)])
  have ga0 : h0.size ≤ a1_ := by rw [g1_]; exact Nat.le_refl _
  have gb : n0 ≤ a1_ := Nat.le_trans (own_n0 w0) ga0
  have U1 : Arv Z h1_ a1_ k1_ .byte (3 : Int32) [(.int (0 : Int32)), (.int (0 : Int32)), (.int (0 : Int32))] (.int 0) := V1_.pad (vs' := [(.int (0 : Int32)), (.int (0 : Int32)), (.int (0 : Int32))]) (fun i => pad_rep [] (.int (0 : Int32)) 3 i)
  have nca : ca ≠ a1_ := Nat.ne_of_lt (Nat.lt_of_lt_of_le VC.lt ga0)
  have VC1 := VC.ext E1_
  refine own_by (T' := T1_) (g' := (mkF m 4 #[.val (.ref ca), .val (.int (0 : Int32)), .val (.int (3 : Int32)), .val (.ref a1_), .unset, .unset] [])) (fun t_ hr_ => XS.astoreN A1_ hx rfl (Jvm.hb hby d14_3) rfl rfl (l' := #[.val (.ref ca), .val (.int (0 : Int32)), .val (.int (3 : Int32)), .val (.ref a1_), .unset, .unset]) rfl hr_) ?_
  refine own_by (T' := T1_) (g' := (mkF m 5 #[.val (.ref ca), .val (.int (0 : Int32)), .val (.int (3 : Int32)), .val (.ref a1_), .unset, .unset] [(.ref ca)])) (fun t_ hr_ => XS.aloadN A1_ hx rfl (Jvm.hb hby d14_4) rfl rfl hr_) ?_
  refine own_by (T' := T1_) (g' := (mkF m 6 #[.val (.ref ca), .val (.int (0 : Int32)), .val (.int (3 : Int32)), .val (.ref a1_), .unset, .unset] [(.int (0 : Int32)), (.ref ca)])) (fun t_ hr_ => XS.iloadN A1_ hx rfl (Jvm.hb hby d14_5) rfl hr_) ?_
  refine own_by (T' := T1_) (g' := (mkF m 7 #[.val (.ref ca), .val (.int (0 : Int32)), .val (.int (3 : Int32)), .val (.ref a1_), .unset, .unset] [(.ref a1_), (.int (0 : Int32)), (.ref ca)])) (fun t_ hr_ => XS.aloadN A1_ hx rfl (Jvm.hb hby d14_6) rfl rfl hr_) ?_
  refine own_by (T' := T1_) (g' := (mkF m 8 #[.val (.ref ca), .val (.int (0 : Int32)), .val (.int (3 : Int32)), .val (.ref a1_), .unset, .unset] [(.int (0 : Int32)), (.ref a1_), (.int (0 : Int32)), (.ref ca)])) (fun t_ hr_ => XS.iconst A1_ hx rfl (Jvm.hb hby d14_7) hr_) ?_
  refine own_by (T' := T1_) (g' := (mkF m 9 #[.val (.ref ca), .val (.int (0 : Int32)), .val (.int (3 : Int32)), .val (.ref a1_), .unset, .unset] [(.int (3 : Int32)), (.int (0 : Int32)), (.ref a1_), (.int (0 : Int32)), (.ref ca)])) (fun t_ hr_ => XS.iloadN A1_ hx rfl (Jvm.hb hby d14_8) rfl hr_) ?_
  refine own_callS w1_ hx (y := (⟨"java/lang/StringUTF16", "compress", "([CI[BII)I"⟩ : MethodName)) (hw _ (List.mem_of_getElem? (i := 72) rfl)) (hw _ (List.mem_of_getElem? (i := 73) rfl)) (hw _ (List.mem_of_getElem? (i := 70) rfl)) (hw _ (List.mem_of_getElem? (i := 74) rfl)) (by decide) (kc := 0) (ks := 0) (argsL := [(.ref ca), (.int (0 : Int32)), (.ref a1_), (.int (0 : Int32)), (.int (3 : Int32))]) (rest := []) (own_payCt (W := 0) (ctC53 l Z a0 hw n0 h1_ (own_old w1_) ca a1_ kC k1_ c0 c1 c2 VC1 U1 nca gb) w1_ (hw _ (List.mem_of_getElem? (i := 74) rfl)) (hw _ (List.mem_of_getElem? (i := 70) rfl)) hEL (by decide) (by decide) (own_one ⟨U1.lt, own_safeB (own_hZ w1_) (hw _ (List.mem_of_getElem? (i := 16) rfl)) U1 (by decide)⟩)) (g := (mkF m 9 #[.val (.ref ca), .val (.int (0 : Int32)), .val (.int (3 : Int32)), .val (.ref a1_), .unset, .unset] [(.int (3 : Int32)), (.int (0 : Int32)), (.ref a1_), (.int (0 : Int32)), (.ref ca)])) rfl (by rw [hml]; rfl) (lenOf pd_110984662 rfl) rfl (by show 2 * 0 + _ ≤ _; exact Nat.le_of_eq rfl) (Jvm.hb hby d14_9) (by decide) (by decide) (fun v2_ T2_ vm2_ h2_ q2_ C2_ w2_ => ?_)
  rcases q2_ with ⟨rfl, hi0, KC⟩ | ⟨rfl, hi0, KC⟩ | ⟨rfl, hi0, KC⟩ | ⟨rfl, hi0, KC, VN⟩
  · have A2_ := own_at w2_
    show own_WP p e _ below s Z _ n0 _ T2_ (mkF m 12 #[.val (.ref ca), .val (.int (0 : Int32)), .val (.int (3 : Int32)), .val (.ref a1_), .unset, .unset] [(.int (0 : Int32))])
    refine own_by (T' := T2_) (g' := (mkF m 14 #[.val (.ref ca), .val (.int (0 : Int32)), .val (.int (3 : Int32)), .val (.ref a1_), .val (.int (0 : Int32)), .unset] [])) (fun t_ hr_ => XS.istore A2_ hx rfl (Jvm.hb hby d14_12) rfl (l' := #[.val (.ref ca), .val (.int (0 : Int32)), .val (.int (3 : Int32)), .val (.ref a1_), .val (.int (0 : Int32)), .unset]) rfl hr_) ?_
    refine own_by (T' := T2_) (g' := (mkF m 16 #[.val (.ref ca), .val (.int (0 : Int32)), .val (.int (3 : Int32)), .val (.ref a1_), .val (.int (0 : Int32)), .unset] [(.int (0 : Int32))])) (fun t_ hr_ => XS.iload A2_ hx rfl (Jvm.hb hby d14_14) rfl hr_) ?_
    refine own_by (T' := T2_) (g' := (mkF m 17 #[.val (.ref ca), .val (.int (0 : Int32)), .val (.int (3 : Int32)), .val (.ref a1_), .val (.int (0 : Int32)), .unset] [(.int (3 : Int32)), (.int (0 : Int32))])) (fun t_ hr_ => XS.iloadN A2_ hx rfl (Jvm.hb hby d14_16) rfl hr_) ?_
    refine own_by (T' := T2_) (g' := (mkF m 20 #[.val (.ref ca), .val (.int (0 : Int32)), .val (.int (3 : Int32)), .val (.ref a1_), .val (.int (0 : Int32)), .unset] [])) (fun t_ hr_ => XS.icmpNo A2_ hx rfl (Jvm.hb hby d14_17) rfl (feq (by decide)).1 hr_) ?_
    refine own_by (T' := T2_) (g' := (mkF m 21 #[.val (.ref ca), .val (.int (0 : Int32)), .val (.int (3 : Int32)), .val (.ref a1_), .val (.int (0 : Int32)), .unset] [(.ref ca)])) (fun t_ hr_ => XS.aloadN A2_ hx rfl (Jvm.hb hby d14_20) rfl rfl hr_) ?_
    refine own_by (T' := T2_) (g' := (mkF m 22 #[.val (.ref ca), .val (.int (0 : Int32)), .val (.int (3 : Int32)), .val (.ref a1_), .val (.int (0 : Int32)), .unset] [(.int (0 : Int32)), (.ref ca)])) (fun t_ hr_ => XS.iloadN A2_ hx rfl (Jvm.hb hby d14_21) rfl hr_) ?_
    refine own_by (T' := T2_) (g' := (mkF m 23 #[.val (.ref ca), .val (.int (0 : Int32)), .val (.int (3 : Int32)), .val (.ref a1_), .val (.int (0 : Int32)), .unset] [(.int (3 : Int32)), (.int (0 : Int32)), (.ref ca)])) (fun t_ hr_ => XS.iloadN A2_ hx rfl (Jvm.hb hby d14_22) rfl hr_) ?_
    have VC2 := VC1.keep KC (ninS nca nin0)
    refine own_callS w2_ hx (y := (⟨"java/lang/StringUTF16", "toBytes", "([CII)[B"⟩ : MethodName)) (hw _ (List.mem_of_getElem? (i := 81) rfl)) (hw _ (List.mem_of_getElem? (i := 82) rfl)) (hw _ (List.mem_of_getElem? (i := 70) rfl)) (hw _ (List.mem_of_getElem? (i := 83) rfl)) (by decide) (kc := 1) (ks := 6) (argsL := [(.ref ca), (.int (0 : Int32)), (.int (3 : Int32))]) (rest := []) (own_payCt (W := 0) (ctTB3 l Z a0 hw US n0 h2_ (own_old w2_) ca kC c0 c1 c2 VC2) w2_ (hw _ (List.mem_of_getElem? (i := 83) rfl)) (hw _ (List.mem_of_getElem? (i := 70) rfl)) hEL (by decide) (by decide)) (g := (mkF m 23 #[.val (.ref ca), .val (.int (0 : Int32)), .val (.int (3 : Int32)), .val (.ref a1_), .val (.int (0 : Int32)), .unset] [(.int (3 : Int32)), (.int (0 : Int32)), (.ref ca)])) rfl (by rw [hml]; rfl) (lenOf pd_272673973 rfl) rfl (by show 2 * 0 + _ ≤ _; exact Nat.le_of_eq rfl) (Jvm.hb hby d14_23) (by decide) (by decide) (fun v3_ T3_ vm3_ h3_ q3_ C3_ w3_ => ?_)
    obtain ⟨a, k, rfl, E3, V3⟩ := q3_
    have A3_ := own_at w3_
    show own_WP p e _ below s Z _ n0 _ T3_ (mkF m 26 #[.val (.ref ca), .val (.int (0 : Int32)), .val (.int (3 : Int32)), .val (.ref a1_), .val (.int (0 : Int32)), .unset] [(.ref a)])
    refine own_by (T' := T3_) (g' := (mkF m 28 #[.val (.ref ca), .val (.int (0 : Int32)), .val (.int (3 : Int32)), .val (.ref a1_), .val (.int (0 : Int32)), .val (.ref a)] [])) (fun t_ hr_ => XS.astore A3_ hx rfl (Jvm.hb hby d14_26) rfl rfl (l' := #[.val (.ref ca), .val (.int (0 : Int32)), .val (.int (3 : Int32)), .val (.ref a1_), .val (.int (0 : Int32)), .val (.ref a)]) rfl hr_) ?_
    refine own_by (T' := T3_) (g' := (mkF m 30 #[.val (.ref ca), .val (.int (0 : Int32)), .val (.int (3 : Int32)), .val (.ref a1_), .val (.int (0 : Int32)), .val (.ref a)] [(.ref a)])) (fun t_ hr_ => XS.aload A3_ hx rfl (Jvm.hb hby d14_28) rfl rfl hr_) ?_
    refine own_by (T' := T3_) (g' := (mkF m 32 #[.val (.ref ca), .val (.int (0 : Int32)), .val (.int (3 : Int32)), .val (.ref a1_), .val (.int (0 : Int32)), .val (.ref a)] [(.int (0 : Int32)), (.ref a)])) (fun t_ hr_ => XS.iload A3_ hx rfl (Jvm.hb hby d14_30) rfl hr_) ?_
    refine own_callS w3_ hx (y := (⟨"java/lang/StringUTF16", "getChar", "([BI)C"⟩ : MethodName)) (hw _ (List.mem_of_getElem? (i := 97) rfl)) (hw _ (List.mem_of_getElem? (i := 98) rfl)) (hw _ (List.mem_of_getElem? (i := 70) rfl)) (hw _ (List.mem_of_getElem? (i := 99) rfl)) (by decide) (kc := 0) (ks := 0) (argsL := [(.ref a), (.int (0 : Int32))]) (rest := []) (own_payCt (W := 0) (ctGet l Z a0 hw US n0 h3_ (own_old w3_) a 0 k [c0, c1, c2] V3 (by simp only [List.forall_mem_cons, List.not_mem_nil, false_imp_iff, implies_true, and_true]; exact ⟨r0, r1, r2⟩) (by simp) (by simp)) w3_ (hw _ (List.mem_of_getElem? (i := 99) rfl)) (hw _ (List.mem_of_getElem? (i := 70) rfl)) hEL (by decide) (by decide)) (g := (mkF m 32 #[.val (.ref ca), .val (.int (0 : Int32)), .val (.int (3 : Int32)), .val (.ref a1_), .val (.int (0 : Int32)), .val (.ref a)] [(.int (0 : Int32)), (.ref a)])) rfl (by rw [hml]; rfl) (lenOf pd_128700058 rfl) rfl (by show 2 * 0 + _ ≤ _; exact Nat.le_of_eq rfl) (Jvm.hb hby d14_32) (by decide) (by decide) (fun v4_ T4_ vm4_ h4_ q4_ C4_ w4_ => ?_)
    obtain ⟨rfl, rfl⟩ := q4_
    have A4_ := own_at w4_
    show own_WP p e _ below s Z _ n0 _ T4_ (mkF m 35 #[.val (.ref ca), .val (.int (0 : Int32)), .val (.int (3 : Int32)), .val (.ref a1_), .val (.int (0 : Int32)), .val (.ref a)] [(.int c0)])
    refine own_by (T' := T4_) (g' := (mkF m 38 #[.val (.ref ca), .val (.int (0 : Int32)), .val (.int (3 : Int32)), .val (.ref a1_), .val (.int (0 : Int32)), .val (.ref a)] [(.int (255 : Int32)), (.int c0)])) (fun t_ hr_ => XS.sipush A4_ hx rfl (Jvm.hb hby d14_35) hr_) ?_
    refine own_by (T' := T4_) (g' := (mkF m 54 #[.val (.ref ca), .val (.int (0 : Int32)), .val (.int (3 : Int32)), .val (.ref a1_), .val (.int (0 : Int32)), .val (.ref a)] [])) (fun t_ hr_ => XS.icmpYes A4_ hx rfl (pc0 := 38) (pc' := 54) rfl (Jvm.hb hby d14_38) rfl (tlt hi0).2.2.1 (by decide) (by decide) hr_) ?_
    refine own_by (T' := T4_) (g' := (mkF m 56 #[.val (.ref ca), .val (.int (0 : Int32)), .val (.int (3 : Int32)), .val (.ref a1_), .val (.int (0 : Int32)), .val (.ref a)] [(.ref a)])) (fun t_ hr_ => XS.aload A4_ hx rfl (Jvm.hb hby d14_54) rfl rfl hr_) ?_
    exact own_retA w4_ hx hEL hlk hret rfl rfl (Jvm.hb hby d14_56) (by decide) (by decide) ⟨_, _, rfl, own_extTrans (own_extK E1_ KC (allS ga0 all0)) E3, Or.inl V3⟩
  · have A2_ := own_at w2_
    show own_WP p e _ below s Z _ n0 _ T2_ (mkF m 12 #[.val (.ref ca), .val (.int (0 : Int32)), .val (.int (3 : Int32)), .val (.ref a1_), .unset, .unset] [(.int (1 : Int32))])
    refine own_by (T' := T2_) (g' := (mkF m 14 #[.val (.ref ca), .val (.int (0 : Int32)), .val (.int (3 : Int32)), .val (.ref a1_), .val (.int (1 : Int32)), .unset] [])) (fun t_ hr_ => XS.istore A2_ hx rfl (Jvm.hb hby d14_12) rfl (l' := #[.val (.ref ca), .val (.int (0 : Int32)), .val (.int (3 : Int32)), .val (.ref a1_), .val (.int (1 : Int32)), .unset]) rfl hr_) ?_
    refine own_by (T' := T2_) (g' := (mkF m 16 #[.val (.ref ca), .val (.int (0 : Int32)), .val (.int (3 : Int32)), .val (.ref a1_), .val (.int (1 : Int32)), .unset] [(.int (1 : Int32))])) (fun t_ hr_ => XS.iload A2_ hx rfl (Jvm.hb hby d14_14) rfl hr_) ?_
    refine own_by (T' := T2_) (g' := (mkF m 17 #[.val (.ref ca), .val (.int (0 : Int32)), .val (.int (3 : Int32)), .val (.ref a1_), .val (.int (1 : Int32)), .unset] [(.int (3 : Int32)), (.int (1 : Int32))])) (fun t_ hr_ => XS.iloadN A2_ hx rfl (Jvm.hb hby d14_16) rfl hr_) ?_
    refine own_by (T' := T2_) (g' := (mkF m 20 #[.val (.ref ca), .val (.int (0 : Int32)), .val (.int (3 : Int32)), .val (.ref a1_), .val (.int (1 : Int32)), .unset] [])) (fun t_ hr_ => XS.icmpNo A2_ hx rfl (Jvm.hb hby d14_17) rfl (feq (by decide)).1 hr_) ?_
    refine own_by (T' := T2_) (g' := (mkF m 21 #[.val (.ref ca), .val (.int (0 : Int32)), .val (.int (3 : Int32)), .val (.ref a1_), .val (.int (1 : Int32)), .unset] [(.ref ca)])) (fun t_ hr_ => XS.aloadN A2_ hx rfl (Jvm.hb hby d14_20) rfl rfl hr_) ?_
    refine own_by (T' := T2_) (g' := (mkF m 22 #[.val (.ref ca), .val (.int (0 : Int32)), .val (.int (3 : Int32)), .val (.ref a1_), .val (.int (1 : Int32)), .unset] [(.int (0 : Int32)), (.ref ca)])) (fun t_ hr_ => XS.iloadN A2_ hx rfl (Jvm.hb hby d14_21) rfl hr_) ?_
    refine own_by (T' := T2_) (g' := (mkF m 23 #[.val (.ref ca), .val (.int (0 : Int32)), .val (.int (3 : Int32)), .val (.ref a1_), .val (.int (1 : Int32)), .unset] [(.int (3 : Int32)), (.int (0 : Int32)), (.ref ca)])) (fun t_ hr_ => XS.iloadN A2_ hx rfl (Jvm.hb hby d14_22) rfl hr_) ?_
    have VC2 := VC1.keep KC (ninS nca nin0)
    refine own_callS w2_ hx (y := (⟨"java/lang/StringUTF16", "toBytes", "([CII)[B"⟩ : MethodName)) (hw _ (List.mem_of_getElem? (i := 81) rfl)) (hw _ (List.mem_of_getElem? (i := 82) rfl)) (hw _ (List.mem_of_getElem? (i := 70) rfl)) (hw _ (List.mem_of_getElem? (i := 83) rfl)) (by decide) (kc := 1) (ks := 6) (argsL := [(.ref ca), (.int (0 : Int32)), (.int (3 : Int32))]) (rest := []) (own_payCt (W := 0) (ctTB3 l Z a0 hw US n0 h2_ (own_old w2_) ca kC c0 c1 c2 VC2) w2_ (hw _ (List.mem_of_getElem? (i := 83) rfl)) (hw _ (List.mem_of_getElem? (i := 70) rfl)) hEL (by decide) (by decide)) (g := (mkF m 23 #[.val (.ref ca), .val (.int (0 : Int32)), .val (.int (3 : Int32)), .val (.ref a1_), .val (.int (1 : Int32)), .unset] [(.int (3 : Int32)), (.int (0 : Int32)), (.ref ca)])) rfl (by rw [hml]; rfl) (lenOf pd_272673973 rfl) rfl (by show 2 * 0 + _ ≤ _; exact Nat.le_of_eq rfl) (Jvm.hb hby d14_23) (by decide) (by decide) (fun v5_ T5_ vm5_ h5_ q5_ C5_ w5_ => ?_)
    obtain ⟨a, k, rfl, E3, V3⟩ := q5_
    have A5_ := own_at w5_
    show own_WP p e _ below s Z _ n0 _ T5_ (mkF m 26 #[.val (.ref ca), .val (.int (0 : Int32)), .val (.int (3 : Int32)), .val (.ref a1_), .val (.int (1 : Int32)), .unset] [(.ref a)])
    refine own_by (T' := T5_) (g' := (mkF m 28 #[.val (.ref ca), .val (.int (0 : Int32)), .val (.int (3 : Int32)), .val (.ref a1_), .val (.int (1 : Int32)), .val (.ref a)] [])) (fun t_ hr_ => XS.astore A5_ hx rfl (Jvm.hb hby d14_26) rfl rfl (l' := #[.val (.ref ca), .val (.int (0 : Int32)), .val (.int (3 : Int32)), .val (.ref a1_), .val (.int (1 : Int32)), .val (.ref a)]) rfl hr_) ?_
    refine own_by (T' := T5_) (g' := (mkF m 30 #[.val (.ref ca), .val (.int (0 : Int32)), .val (.int (3 : Int32)), .val (.ref a1_), .val (.int (1 : Int32)), .val (.ref a)] [(.ref a)])) (fun t_ hr_ => XS.aload A5_ hx rfl (Jvm.hb hby d14_28) rfl rfl hr_) ?_
    refine own_by (T' := T5_) (g' := (mkF m 32 #[.val (.ref ca), .val (.int (0 : Int32)), .val (.int (3 : Int32)), .val (.ref a1_), .val (.int (1 : Int32)), .val (.ref a)] [(.int (1 : Int32)), (.ref a)])) (fun t_ hr_ => XS.iload A5_ hx rfl (Jvm.hb hby d14_30) rfl hr_) ?_
    refine own_callS w5_ hx (y := (⟨"java/lang/StringUTF16", "getChar", "([BI)C"⟩ : MethodName)) (hw _ (List.mem_of_getElem? (i := 97) rfl)) (hw _ (List.mem_of_getElem? (i := 98) rfl)) (hw _ (List.mem_of_getElem? (i := 70) rfl)) (hw _ (List.mem_of_getElem? (i := 99) rfl)) (by decide) (kc := 0) (ks := 0) (argsL := [(.ref a), (.int (1 : Int32))]) (rest := []) (own_payCt (W := 0) (ctGet l Z a0 hw US n0 h5_ (own_old w5_) a 1 k [c0, c1, c2] V3 (by simp only [List.forall_mem_cons, List.not_mem_nil, false_imp_iff, implies_true, and_true]; exact ⟨r0, r1, r2⟩) (by simp) (by simp)) w5_ (hw _ (List.mem_of_getElem? (i := 99) rfl)) (hw _ (List.mem_of_getElem? (i := 70) rfl)) hEL (by decide) (by decide)) (g := (mkF m 32 #[.val (.ref ca), .val (.int (0 : Int32)), .val (.int (3 : Int32)), .val (.ref a1_), .val (.int (1 : Int32)), .val (.ref a)] [(.int (1 : Int32)), (.ref a)])) rfl (by rw [hml]; rfl) (lenOf pd_128700058 rfl) rfl (by show 2 * 0 + _ ≤ _; exact Nat.le_of_eq rfl) (Jvm.hb hby d14_32) (by decide) (by decide) (fun v6_ T6_ vm6_ h6_ q6_ C6_ w6_ => ?_)
    obtain ⟨rfl, rfl⟩ := q6_
    have A6_ := own_at w6_
    show own_WP p e _ below s Z _ n0 _ T6_ (mkF m 35 #[.val (.ref ca), .val (.int (0 : Int32)), .val (.int (3 : Int32)), .val (.ref a1_), .val (.int (1 : Int32)), .val (.ref a)] [(.int c1)])
    refine own_by (T' := T6_) (g' := (mkF m 38 #[.val (.ref ca), .val (.int (0 : Int32)), .val (.int (3 : Int32)), .val (.ref a1_), .val (.int (1 : Int32)), .val (.ref a)] [(.int (255 : Int32)), (.int c1)])) (fun t_ hr_ => XS.sipush A6_ hx rfl (Jvm.hb hby d14_35) hr_) ?_
    refine own_by (T' := T6_) (g' := (mkF m 54 #[.val (.ref ca), .val (.int (0 : Int32)), .val (.int (3 : Int32)), .val (.ref a1_), .val (.int (1 : Int32)), .val (.ref a)] [])) (fun t_ hr_ => XS.icmpYes A6_ hx rfl (pc0 := 38) (pc' := 54) rfl (Jvm.hb hby d14_38) rfl (tlt hi0).2.2.1 (by decide) (by decide) hr_) ?_
    refine own_by (T' := T6_) (g' := (mkF m 56 #[.val (.ref ca), .val (.int (0 : Int32)), .val (.int (3 : Int32)), .val (.ref a1_), .val (.int (1 : Int32)), .val (.ref a)] [(.ref a)])) (fun t_ hr_ => XS.aload A6_ hx rfl (Jvm.hb hby d14_54) rfl rfl hr_) ?_
    exact own_retA w6_ hx hEL hlk hret rfl rfl (Jvm.hb hby d14_56) (by decide) (by decide) ⟨_, _, rfl, own_extTrans (own_extK E1_ KC (allS ga0 all0)) E3, Or.inl V3⟩
  · have A2_ := own_at w2_
    show own_WP p e _ below s Z _ n0 _ T2_ (mkF m 12 #[.val (.ref ca), .val (.int (0 : Int32)), .val (.int (3 : Int32)), .val (.ref a1_), .unset, .unset] [(.int (2 : Int32))])
    refine own_by (T' := T2_) (g' := (mkF m 14 #[.val (.ref ca), .val (.int (0 : Int32)), .val (.int (3 : Int32)), .val (.ref a1_), .val (.int (2 : Int32)), .unset] [])) (fun t_ hr_ => XS.istore A2_ hx rfl (Jvm.hb hby d14_12) rfl (l' := #[.val (.ref ca), .val (.int (0 : Int32)), .val (.int (3 : Int32)), .val (.ref a1_), .val (.int (2 : Int32)), .unset]) rfl hr_) ?_
    refine own_by (T' := T2_) (g' := (mkF m 16 #[.val (.ref ca), .val (.int (0 : Int32)), .val (.int (3 : Int32)), .val (.ref a1_), .val (.int (2 : Int32)), .unset] [(.int (2 : Int32))])) (fun t_ hr_ => XS.iload A2_ hx rfl (Jvm.hb hby d14_14) rfl hr_) ?_
    refine own_by (T' := T2_) (g' := (mkF m 17 #[.val (.ref ca), .val (.int (0 : Int32)), .val (.int (3 : Int32)), .val (.ref a1_), .val (.int (2 : Int32)), .unset] [(.int (3 : Int32)), (.int (2 : Int32))])) (fun t_ hr_ => XS.iloadN A2_ hx rfl (Jvm.hb hby d14_16) rfl hr_) ?_
    refine own_by (T' := T2_) (g' := (mkF m 20 #[.val (.ref ca), .val (.int (0 : Int32)), .val (.int (3 : Int32)), .val (.ref a1_), .val (.int (2 : Int32)), .unset] [])) (fun t_ hr_ => XS.icmpNo A2_ hx rfl (Jvm.hb hby d14_17) rfl (feq (by decide)).1 hr_) ?_
    refine own_by (T' := T2_) (g' := (mkF m 21 #[.val (.ref ca), .val (.int (0 : Int32)), .val (.int (3 : Int32)), .val (.ref a1_), .val (.int (2 : Int32)), .unset] [(.ref ca)])) (fun t_ hr_ => XS.aloadN A2_ hx rfl (Jvm.hb hby d14_20) rfl rfl hr_) ?_
    refine own_by (T' := T2_) (g' := (mkF m 22 #[.val (.ref ca), .val (.int (0 : Int32)), .val (.int (3 : Int32)), .val (.ref a1_), .val (.int (2 : Int32)), .unset] [(.int (0 : Int32)), (.ref ca)])) (fun t_ hr_ => XS.iloadN A2_ hx rfl (Jvm.hb hby d14_21) rfl hr_) ?_
    refine own_by (T' := T2_) (g' := (mkF m 23 #[.val (.ref ca), .val (.int (0 : Int32)), .val (.int (3 : Int32)), .val (.ref a1_), .val (.int (2 : Int32)), .unset] [(.int (3 : Int32)), (.int (0 : Int32)), (.ref ca)])) (fun t_ hr_ => XS.iloadN A2_ hx rfl (Jvm.hb hby d14_22) rfl hr_) ?_
    have VC2 := VC1.keep KC (ninS nca nin0)
    refine own_callS w2_ hx (y := (⟨"java/lang/StringUTF16", "toBytes", "([CII)[B"⟩ : MethodName)) (hw _ (List.mem_of_getElem? (i := 81) rfl)) (hw _ (List.mem_of_getElem? (i := 82) rfl)) (hw _ (List.mem_of_getElem? (i := 70) rfl)) (hw _ (List.mem_of_getElem? (i := 83) rfl)) (by decide) (kc := 1) (ks := 6) (argsL := [(.ref ca), (.int (0 : Int32)), (.int (3 : Int32))]) (rest := []) (own_payCt (W := 0) (ctTB3 l Z a0 hw US n0 h2_ (own_old w2_) ca kC c0 c1 c2 VC2) w2_ (hw _ (List.mem_of_getElem? (i := 83) rfl)) (hw _ (List.mem_of_getElem? (i := 70) rfl)) hEL (by decide) (by decide)) (g := (mkF m 23 #[.val (.ref ca), .val (.int (0 : Int32)), .val (.int (3 : Int32)), .val (.ref a1_), .val (.int (2 : Int32)), .unset] [(.int (3 : Int32)), (.int (0 : Int32)), (.ref ca)])) rfl (by rw [hml]; rfl) (lenOf pd_272673973 rfl) rfl (by show 2 * 0 + _ ≤ _; exact Nat.le_of_eq rfl) (Jvm.hb hby d14_23) (by decide) (by decide) (fun v7_ T7_ vm7_ h7_ q7_ C7_ w7_ => ?_)
    obtain ⟨a, k, rfl, E3, V3⟩ := q7_
    have A7_ := own_at w7_
    show own_WP p e _ below s Z _ n0 _ T7_ (mkF m 26 #[.val (.ref ca), .val (.int (0 : Int32)), .val (.int (3 : Int32)), .val (.ref a1_), .val (.int (2 : Int32)), .unset] [(.ref a)])
    refine own_by (T' := T7_) (g' := (mkF m 28 #[.val (.ref ca), .val (.int (0 : Int32)), .val (.int (3 : Int32)), .val (.ref a1_), .val (.int (2 : Int32)), .val (.ref a)] [])) (fun t_ hr_ => XS.astore A7_ hx rfl (Jvm.hb hby d14_26) rfl rfl (l' := #[.val (.ref ca), .val (.int (0 : Int32)), .val (.int (3 : Int32)), .val (.ref a1_), .val (.int (2 : Int32)), .val (.ref a)]) rfl hr_) ?_
    refine own_by (T' := T7_) (g' := (mkF m 30 #[.val (.ref ca), .val (.int (0 : Int32)), .val (.int (3 : Int32)), .val (.ref a1_), .val (.int (2 : Int32)), .val (.ref a)] [(.ref a)])) (fun t_ hr_ => XS.aload A7_ hx rfl (Jvm.hb hby d14_28) rfl rfl hr_) ?_
    refine own_by (T' := T7_) (g' := (mkF m 32 #[.val (.ref ca), .val (.int (0 : Int32)), .val (.int (3 : Int32)), .val (.ref a1_), .val (.int (2 : Int32)), .val (.ref a)] [(.int (2 : Int32)), (.ref a)])) (fun t_ hr_ => XS.iload A7_ hx rfl (Jvm.hb hby d14_30) rfl hr_) ?_
    refine own_callS w7_ hx (y := (⟨"java/lang/StringUTF16", "getChar", "([BI)C"⟩ : MethodName)) (hw _ (List.mem_of_getElem? (i := 97) rfl)) (hw _ (List.mem_of_getElem? (i := 98) rfl)) (hw _ (List.mem_of_getElem? (i := 70) rfl)) (hw _ (List.mem_of_getElem? (i := 99) rfl)) (by decide) (kc := 0) (ks := 0) (argsL := [(.ref a), (.int (2 : Int32))]) (rest := []) (own_payCt (W := 0) (ctGet l Z a0 hw US n0 h7_ (own_old w7_) a 2 k [c0, c1, c2] V3 (by simp only [List.forall_mem_cons, List.not_mem_nil, false_imp_iff, implies_true, and_true]; exact ⟨r0, r1, r2⟩) (by simp) (by simp)) w7_ (hw _ (List.mem_of_getElem? (i := 99) rfl)) (hw _ (List.mem_of_getElem? (i := 70) rfl)) hEL (by decide) (by decide)) (g := (mkF m 32 #[.val (.ref ca), .val (.int (0 : Int32)), .val (.int (3 : Int32)), .val (.ref a1_), .val (.int (2 : Int32)), .val (.ref a)] [(.int (2 : Int32)), (.ref a)])) rfl (by rw [hml]; rfl) (lenOf pd_128700058 rfl) rfl (by show 2 * 0 + _ ≤ _; exact Nat.le_of_eq rfl) (Jvm.hb hby d14_32) (by decide) (by decide) (fun v8_ T8_ vm8_ h8_ q8_ C8_ w8_ => ?_)
    obtain ⟨rfl, rfl⟩ := q8_
    have A8_ := own_at w8_
    show own_WP p e _ below s Z _ n0 _ T8_ (mkF m 35 #[.val (.ref ca), .val (.int (0 : Int32)), .val (.int (3 : Int32)), .val (.ref a1_), .val (.int (2 : Int32)), .val (.ref a)] [(.int c2)])
    refine own_by (T' := T8_) (g' := (mkF m 38 #[.val (.ref ca), .val (.int (0 : Int32)), .val (.int (3 : Int32)), .val (.ref a1_), .val (.int (2 : Int32)), .val (.ref a)] [(.int (255 : Int32)), (.int c2)])) (fun t_ hr_ => XS.sipush A8_ hx rfl (Jvm.hb hby d14_35) hr_) ?_
    refine own_by (T' := T8_) (g' := (mkF m 54 #[.val (.ref ca), .val (.int (0 : Int32)), .val (.int (3 : Int32)), .val (.ref a1_), .val (.int (2 : Int32)), .val (.ref a)] [])) (fun t_ hr_ => XS.icmpYes A8_ hx rfl (pc0 := 38) (pc' := 54) rfl (Jvm.hb hby d14_38) rfl (tlt hi0).2.2.1 (by decide) (by decide) hr_) ?_
    refine own_by (T' := T8_) (g' := (mkF m 56 #[.val (.ref ca), .val (.int (0 : Int32)), .val (.int (3 : Int32)), .val (.ref a1_), .val (.int (2 : Int32)), .val (.ref a)] [(.ref a)])) (fun t_ hr_ => XS.aload A8_ hx rfl (Jvm.hb hby d14_54) rfl rfl hr_) ?_
    exact own_retA w8_ hx hEL hlk hret rfl rfl (Jvm.hb hby d14_56) (by decide) (by decide) ⟨_, _, rfl, own_extTrans (own_extK E1_ KC (allS ga0 all0)) E3, Or.inl V3⟩
  · have A2_ := own_at w2_
    show own_WP p e _ below s Z _ n0 _ T2_ (mkF m 12 #[.val (.ref ca), .val (.int (0 : Int32)), .val (.int (3 : Int32)), .val (.ref a1_), .unset, .unset] [(.int (3 : Int32))])
    refine own_by (T' := T2_) (g' := (mkF m 14 #[.val (.ref ca), .val (.int (0 : Int32)), .val (.int (3 : Int32)), .val (.ref a1_), .val (.int (3 : Int32)), .unset] [])) (fun t_ hr_ => XS.istore A2_ hx rfl (Jvm.hb hby d14_12) rfl (l' := #[.val (.ref ca), .val (.int (0 : Int32)), .val (.int (3 : Int32)), .val (.ref a1_), .val (.int (3 : Int32)), .unset]) rfl hr_) ?_
    refine own_by (T' := T2_) (g' := (mkF m 16 #[.val (.ref ca), .val (.int (0 : Int32)), .val (.int (3 : Int32)), .val (.ref a1_), .val (.int (3 : Int32)), .unset] [(.int (3 : Int32))])) (fun t_ hr_ => XS.iload A2_ hx rfl (Jvm.hb hby d14_14) rfl hr_) ?_
    refine own_by (T' := T2_) (g' := (mkF m 17 #[.val (.ref ca), .val (.int (0 : Int32)), .val (.int (3 : Int32)), .val (.ref a1_), .val (.int (3 : Int32)), .unset] [(.int (3 : Int32)), (.int (3 : Int32))])) (fun t_ hr_ => XS.iloadN A2_ hx rfl (Jvm.hb hby d14_16) rfl hr_) ?_
    refine own_by (T' := T2_) (g' := (mkF m 57 #[.val (.ref ca), .val (.int (0 : Int32)), .val (.int (3 : Int32)), .val (.ref a1_), .val (.int (3 : Int32)), .unset] [])) (fun t_ hr_ => XS.icmpYes A2_ hx rfl (pc0 := 17) (pc' := 57) rfl (Jvm.hb hby d14_17) rfl (teq (rfl : (3 : Int32) = (3 : Int32))).1 (by decide) (by decide) hr_) ?_
    refine own_by (T' := T2_) (g' := (mkF m 58 #[.val (.ref ca), .val (.int (0 : Int32)), .val (.int (3 : Int32)), .val (.ref a1_), .val (.int (3 : Int32)), .unset] [(.ref a1_)])) (fun t_ hr_ => XS.aloadN A2_ hx rfl (Jvm.hb hby d14_57) rfl rfl hr_) ?_
    exact own_retA w2_ hx hEL hlk hret rfl rfl (Jvm.hb hby d14_58) (by decide) (by decide) ⟨_, _, rfl, own_extK E1_ KC (allS ga0 all0), Or.inr ⟨VN, hi0⟩⟩

theorem ef_ctCo3_1 (m : MethodId) (x0 : Addr) (x1 : Int32) : entryFrame m #[(.ref x0), (.int x1)] 2 = mkF m 0 #[.val (.ref x0), .val (.int x1)] [] := by first | (simp [entryFrame, mkF, argsToLocals, Value.category]; done) | rfl
set_option maxRecDepth 65536 in
set_option maxHeartbeats 40000000 in
theorem ctCo3_1 (l : Launch) (Z : State) (a0 : Array Value) (hw : ∀ d ∈ tables_1, d.before a0 Z = true) (n0 : Nat) (h0 : Heap) (O0 : Old Z n0 h0) (a : Addr) (k : ClassId) (vs : List Value) (V : Arv Z h0 a k .byte (6 : Int32) vs (.int 0)) :
    own_Ct l (⟨"java/lang/StringUTF16", "coderFromArrayLen", "([BI)B"⟩ : MethodName) jdk_52_method_15_code 2 (some .byte) ({ frames := 0, cells := 0, slots := 0, locals := 0 } : Room) Z consts_1 n0 #[(.ref a), (.int (3 : Int32))] h0 [] (fun v h => v = some (.int 1) ∧ h0 = h) := by
  have hEL := own_EL hw
  refine own_body pn_741215687 O0 (fun p e s m below meth cc_ T0 vm0 hx hby hml0 hret hlk hnm hsf w0 => ?_)
  have hml : cc_.maxLocals = 2 := hml0
  have A_0 := own_at w0
  refine own_entry (ef_ctCo3_1 m a (3 : Int32)) ?_
  refine own_by (T' := T0) (g' := (mkF m 1 #[.val (.ref a), .val (.int (3 : Int32))] [(.int (3 : Int32))])) (fun t_ hr_ => XS.iloadN A_0 hx rfl (Jvm.hb hby d16_0) rfl hr_) ?_
  refine own_by (T' := T0) (g' := (mkF m 2 #[.val (.ref a), .val (.int (3 : Int32))] [(.ref a), (.int (3 : Int32))])) (fun t_ hr_ => XS.aloadN A_0 hx rfl (Jvm.hb hby d16_1) rfl rfl hr_) ?_
  refine own_alen w0 hx V (g := (mkF m 2 #[.val (.ref a), .val (.int (3 : Int32))] [(.ref a), (.int (3 : Int32))])) rfl rfl (Jvm.hb hby d16_2) ?_
  show own_WP p e _ below s Z _ n0 _ T0 (mkF m 3 #[.val (.ref a), .val (.int (3 : Int32))] [(.int (6 : Int32)), (.int (3 : Int32))])
  refine own_by (T' := T0) (g' := (mkF m 4 #[.val (.ref a), .val (.int (3 : Int32))] [(.int ((3 : Int32) - (6 : Int32)))])) (fun t_ hr_ => XS.isub A_0 hx rfl (Jvm.hb hby d16_3) rfl hr_) ?_
  refine own_by (T' := T0) (g' := (mkF m 6 #[.val (.ref a), .val (.int (3 : Int32))] [(.int (31 : Int32)), (.int ((3 : Int32) - (6 : Int32)))])) (fun t_ hr_ => XS.bipush A_0 hx rfl (Jvm.hb hby d16_4) hr_) ?_
  refine own_by (T' := T0) (g' := (mkF m 7 #[.val (.ref a), .val (.int (3 : Int32))] [(.int ((((3 : Int32) - (6 : Int32)).toUInt32 >>> ((31 : Int32) &&& 31).toUInt32).toInt32))])) (fun t_ hr_ => XS.iushr A_0 hx rfl (Jvm.hb hby d16_6) rfl hr_) ?_
  refine own_by (T' := T0) (g' := (mkF m 8 #[.val (.ref a), .val (.int (3 : Int32))] [(.int (((((3 : Int32) - (6 : Int32)).toUInt32 >>> ((31 : Int32) &&& 31).toUInt32).toInt32).toInt8.toInt32))])) (fun t_ hr_ => XS.i2b A_0 hx rfl (Jvm.hb hby d16_7) rfl hr_) ?_
  rw [show (((((3 : Int32) - (6 : Int32)).toUInt32 >>> ((31 : Int32) &&& 31).toUInt32).toInt32).toInt8.toInt32) = (1 : Int32) from (by decide)]
  show own_WP p e _ below s Z _ n0 _ T0 (mkF m 8 #[.val (.ref a), .val (.int (3 : Int32))] [(.int (1 : Int32))])
  exact own_retB w0 hx hEL hlk hret rfl (Jvm.hb hby d16_8) (by decide) (by decide) ⟨rfl, rfl⟩

theorem ef_ctCo3_0 (m : MethodId) (x0 : Addr) (x1 : Int32) : entryFrame m #[(.ref x0), (.int x1)] 2 = mkF m 0 #[.val (.ref x0), .val (.int x1)] [] := by first | (simp [entryFrame, mkF, argsToLocals, Value.category]; done) | rfl
set_option maxRecDepth 65536 in
set_option maxHeartbeats 40000000 in
theorem ctCo3_0 (l : Launch) (Z : State) (a0 : Array Value) (hw : ∀ d ∈ tables_1, d.before a0 Z = true) (n0 : Nat) (h0 : Heap) (O0 : Old Z n0 h0) (a : Addr) (k : ClassId) (vs : List Value) (V : Arv Z h0 a k .byte (3 : Int32) vs (.int 0)) :
    own_Ct l (⟨"java/lang/StringUTF16", "coderFromArrayLen", "([BI)B"⟩ : MethodName) jdk_52_method_15_code 2 (some .byte) ({ frames := 0, cells := 0, slots := 0, locals := 0 } : Room) Z consts_1 n0 #[(.ref a), (.int (3 : Int32))] h0 [] (fun v h => v = some (.int 0) ∧ h0 = h) := by
  have hEL := own_EL hw
  refine own_body pn_741215687 O0 (fun p e s m below meth cc_ T0 vm0 hx hby hml0 hret hlk hnm hsf w0 => ?_)
  have hml : cc_.maxLocals = 2 := hml0
  have A_0 := own_at w0
  refine own_entry (ef_ctCo3_0 m a (3 : Int32)) ?_
  refine own_by (T' := T0) (g' := (mkF m 1 #[.val (.ref a), .val (.int (3 : Int32))] [(.int (3 : Int32))])) (fun t_ hr_ => XS.iloadN A_0 hx rfl (Jvm.hb hby d16_0) rfl hr_) ?_
  refine own_by (T' := T0) (g' := (mkF m 2 #[.val (.ref a), .val (.int (3 : Int32))] [(.ref a), (.int (3 : Int32))])) (fun t_ hr_ => XS.aloadN A_0 hx rfl (Jvm.hb hby d16_1) rfl rfl hr_) ?_
  refine own_alen w0 hx V (g := (mkF m 2 #[.val (.ref a), .val (.int (3 : Int32))] [(.ref a), (.int (3 : Int32))])) rfl rfl (Jvm.hb hby d16_2) ?_
  show own_WP p e _ below s Z _ n0 _ T0 (mkF m 3 #[.val (.ref a), .val (.int (3 : Int32))] [(.int (3 : Int32)), (.int (3 : Int32))])
  refine own_by (T' := T0) (g' := (mkF m 4 #[.val (.ref a), .val (.int (3 : Int32))] [(.int ((3 : Int32) - (3 : Int32)))])) (fun t_ hr_ => XS.isub A_0 hx rfl (Jvm.hb hby d16_3) rfl hr_) ?_
  refine own_by (T' := T0) (g' := (mkF m 6 #[.val (.ref a), .val (.int (3 : Int32))] [(.int (31 : Int32)), (.int ((3 : Int32) - (3 : Int32)))])) (fun t_ hr_ => XS.bipush A_0 hx rfl (Jvm.hb hby d16_4) hr_) ?_
  refine own_by (T' := T0) (g' := (mkF m 7 #[.val (.ref a), .val (.int (3 : Int32))] [(.int ((((3 : Int32) - (3 : Int32)).toUInt32 >>> ((31 : Int32) &&& 31).toUInt32).toInt32))])) (fun t_ hr_ => XS.iushr A_0 hx rfl (Jvm.hb hby d16_6) rfl hr_) ?_
  refine own_by (T' := T0) (g' := (mkF m 8 #[.val (.ref a), .val (.int (3 : Int32))] [(.int (((((3 : Int32) - (3 : Int32)).toUInt32 >>> ((31 : Int32) &&& 31).toUInt32).toInt32).toInt8.toInt32))])) (fun t_ hr_ => XS.i2b A_0 hx rfl (Jvm.hb hby d16_7) rfl hr_) ?_
  rw [show (((((3 : Int32) - (3 : Int32)).toUInt32 >>> ((31 : Int32) &&& 31).toUInt32).toInt32).toInt8.toInt32) = (0 : Int32) from (by decide)]
  show own_WP p e _ below s Z _ n0 _ T0 (mkF m 8 #[.val (.ref a), .val (.int (3 : Int32))] [(.int (0 : Int32))])
  exact own_retB w0 hx hEL hlk hret rfl (Jvm.hb hby d16_8) (by decide) (by decide) ⟨rfl, rfl⟩

theorem ef_ctNew4w3 (m : MethodId) (x0 : Addr) (x1 : Addr) (x2 : Int32) (x3 : Int32) : entryFrame m #[(.ref x0), (.ref x1), (.int x2), (.int x3), .null] 6 = mkF m 0 #[.val (.ref x0), .val (.ref x1), .val (.int x2), .val (.int x3), .val .null, .unset] [] := by first | (simp [entryFrame, mkF, argsToLocals, Value.category]; done) | rfl
set_option maxRecDepth 65536 in
set_option maxHeartbeats 40000000 in
theorem ctNew4w3 (l : Launch) (Z : State) (a0 : Array Value) (hw : ∀ d ∈ tables_1, d.before a0 Z = true) (SC : own_SC Z) (US : own_US Z) (n0 : Nat) (h0 : Heap) (O0 : Old Z n0 h0) (x ca : Addr) (kC : ClassId) (c0 c1 c2 : Int32) (F0 : own_Raw Z h0 x) (VC : Arv Z h0 ca kC .char (3 : Int32) [(.int c0), (.int c1), (.int c2)] (.int 0)) (gx : n0 ≤ x) (r0 : ¬ c0 < 0 ∧ ¬ (65535 : Int32) < c0) (r1 : ¬ c1 < 0 ∧ ¬ (65535 : Int32) < c1) (r2 : ¬ c2 < 0 ∧ ¬ (65535 : Int32) < c2) :
    own_Ct l (⟨"java/lang/String", "<init>", "([CIILjava/lang/Void;)V"⟩ : MethodName) jdk_42_method_149_code 6 none ({ frames := 4, cells := 2, slots := 9, locals := 57 } : Room) Z consts_1 n0 #[(.ref x), (.ref ca), (.int (0 : Int32)), (.int (3 : Int32)), .null] h0 [] (fun v h => v = none ∧ Keep h0 h [x] ∧ own_Any Z h x [c0, c1, c2]) := by
  have hEL := own_EL hw
  refine own_body pn_592151507 O0 (fun p e s m below meth cc_ T0 vm0 hx hby hml0 hret hlk hnm hsf w0 => ?_)
  have hml : cc_.maxLocals = 6 := hml0
  have A_0 := own_at w0
  refine own_entry (ef_ctNew4w3 m x ca (0 : Int32) (3 : Int32)) ?_
  obtain ⟨zc, Sz, hz⟩ := SC
  refine own_by (T' := T0) (g' := (mkF m 1 #[.val (.ref x), .val (.ref ca), .val (.int (0 : Int32)), .val (.int (3 : Int32)), .val .null, .unset] [(.ref x)])) (fun t_ hr_ => XS.aloadN A_0 hx rfl (Jvm.hb hby d2_0) rfl rfl hr_) ?_
  refine own_initO w0 hx (hw _ (List.mem_of_getElem? (i := 13) rfl)) (hw _ (List.mem_of_getElem? (i := 14) rfl)) (hw _ (List.mem_of_getElem? (i := 15) rfl)) (g := (mkF m 1 #[.val (.ref x), .val (.ref ca), .val (.int (0 : Int32)), .val (.int (3 : Int32)), .val .null, .unset] [(.ref x)])) rfl (by rw [hml]; rfl) rfl (Jvm.hb hby d2_1) (by decide) (W := 0) (by show 2 * 0 + _ ≤ _; exact Nat.le_of_eq rfl) (by decide) (fun T1_ w1_ => ?_)
  have A1_ := own_at w1_
  show own_WP p e _ below s Z _ n0 _ T1_ (mkF m 4 #[.val (.ref x), .val (.ref ca), .val (.int (0 : Int32)), .val (.int (3 : Int32)), .val .null, .unset] [])
  refine own_by (T' := T1_) (g' := (mkF m 5 #[.val (.ref x), .val (.ref ca), .val (.int (0 : Int32)), .val (.int (3 : Int32)), .val .null, .unset] [(.int (3 : Int32))])) (fun t_ hr_ => XS.iloadN A1_ hx rfl (Jvm.hb hby d2_4) rfl hr_) ?_
  refine own_by (T' := T1_) (g' := (mkF m 27 #[.val (.ref x), .val (.ref ca), .val (.int (0 : Int32)), .val (.int (3 : Int32)), .val .null, .unset] [])) (fun t_ hr_ => XS.ifYes A1_ hx rfl (pc0 := 5) (pc' := 27) rfl (Jvm.hb hby d2_5) rfl ((if0 _ _).trans (feq (by decide)).2) (by decide) (by decide) hr_) ?_
  refine own_getS w1_ hx (hw _ (List.mem_of_getElem? (i := 43) rfl)) (Sz.ext O0.2) (g := (mkF m 27 #[.val (.ref x), .val (.ref ca), .val (.int (0 : Int32)), .val (.int (3 : Int32)), .val .null, .unset] [])) rfl (Jvm.hb hby d2_27) (fun T2_ w2_ => ?_)
  have A2_ := own_at w2_
  show own_WP p e _ below s Z _ n0 _ T2_ (mkF m 30 #[.val (.ref x), .val (.ref ca), .val (.int (0 : Int32)), .val (.int (3 : Int32)), .val .null, .unset] [(.int zc)])
  refine own_by (T' := T2_) (g' := (mkF m 33 #[.val (.ref x), .val (.ref ca), .val (.int (0 : Int32)), .val (.int (3 : Int32)), .val .null, .unset] [])) (fun t_ hr_ => XS.ifNo A2_ hx rfl (Jvm.hb hby d2_30) rfl ((if0 _ _).trans (feq hz).1) hr_) ?_
  refine own_by (T' := T2_) (g' := (mkF m 34 #[.val (.ref x), .val (.ref ca), .val (.int (0 : Int32)), .val (.int (3 : Int32)), .val .null, .unset] [(.ref ca)])) (fun t_ hr_ => XS.aloadN A2_ hx rfl (Jvm.hb hby d2_33) rfl rfl hr_) ?_
  refine own_by (T' := T2_) (g' := (mkF m 35 #[.val (.ref x), .val (.ref ca), .val (.int (0 : Int32)), .val (.int (3 : Int32)), .val .null, .unset] [(.int (0 : Int32)), (.ref ca)])) (fun t_ hr_ => XS.iloadN A2_ hx rfl (Jvm.hb hby d2_34) rfl hr_) ?_
  refine own_by (T' := T2_) (g' := (mkF m 36 #[.val (.ref x), .val (.ref ca), .val (.int (0 : Int32)), .val (.int (3 : Int32)), .val .null, .unset] [(.int (3 : Int32)), (.int (0 : Int32)), (.ref ca)])) (fun t_ hr_ => XS.iloadN A2_ hx rfl (Jvm.hb hby d2_35) rfl hr_) ?_
  refine own_callS w2_ hx (y := (⟨"java/lang/StringUTF16", "compress", "([CII)[B"⟩ : MethodName)) (hw _ (List.mem_of_getElem? (i := 68) rfl)) (hw _ (List.mem_of_getElem? (i := 69) rfl)) (hw _ (List.mem_of_getElem? (i := 70) rfl)) (hw _ (List.mem_of_getElem? (i := 71) rfl)) (by decide) (kc := 2) (ks := 9) (argsL := [(.ref ca), (.int (0 : Int32)), (.int (3 : Int32))]) (rest := []) (own_payCt (W := 0) (ctC33 l Z a0 hw US n0 h0 (own_old w2_) ca kC c0 c1 c2 VC r0 r1 r2) w2_ (hw _ (List.mem_of_getElem? (i := 71) rfl)) (hw _ (List.mem_of_getElem? (i := 70) rfl)) hEL (by decide) (by decide)) (g := (mkF m 36 #[.val (.ref x), .val (.ref ca), .val (.int (0 : Int32)), .val (.int (3 : Int32)), .val .null, .unset] [(.int (3 : Int32)), (.int (0 : Int32)), (.ref ca)])) rfl (by rw [hml]; rfl) (lenOf pd_272673973 rfl) rfl (by show 2 * 0 + _ ≤ _; exact Nat.le_of_eq rfl) (Jvm.hb hby d2_36) (by decide) (by decide) (fun v3_ T3_ vm3_ h3_ q3_ C3_ w3_ => ?_)
  obtain ⟨t, kt, rfl, E1, V1⟩ := q3_
  have A3_ := own_at w3_
  show own_WP p e _ below s Z _ n0 _ T3_ (mkF m 39 #[.val (.ref x), .val (.ref ca), .val (.int (0 : Int32)), .val (.int (3 : Int32)), .val .null, .unset] [(.ref t)])
  refine own_by (T' := T3_) (g' := (mkF m 41 #[.val (.ref x), .val (.ref ca), .val (.int (0 : Int32)), .val (.int (3 : Int32)), .val .null, .val (.ref t)] [])) (fun t_ hr_ => XS.astore A3_ hx rfl (Jvm.hb hby d2_39) rfl rfl (l' := #[.val (.ref x), .val (.ref ca), .val (.int (0 : Int32)), .val (.int (3 : Int32)), .val .null, .val (.ref t)]) rfl hr_) ?_
  refine own_by (T' := T3_) (g' := (mkF m 42 #[.val (.ref x), .val (.ref ca), .val (.int (0 : Int32)), .val (.int (3 : Int32)), .val .null, .val (.ref t)] [(.ref x)])) (fun t_ hr_ => XS.aloadN A3_ hx rfl (Jvm.hb hby d2_41) rfl rfl hr_) ?_
  refine own_by (T' := T3_) (g' := (mkF m 44 #[.val (.ref x), .val (.ref ca), .val (.int (0 : Int32)), .val (.int (3 : Int32)), .val .null, .val (.ref t)] [(.ref t), (.ref x)])) (fun t_ hr_ => XS.aload A3_ hx rfl (Jvm.hb hby d2_42) rfl rfl hr_) ?_
  refine own_by (T' := T3_) (g' := (mkF m 45 #[.val (.ref x), .val (.ref ca), .val (.int (0 : Int32)), .val (.int (3 : Int32)), .val .null, .val (.ref t)] [(.int (3 : Int32)), (.ref t), (.ref x)])) (fun t_ hr_ => XS.iloadN A3_ hx rfl (Jvm.hb hby d2_44) rfl hr_) ?_
  have R1 := F0.ext E1
  rcases V1 with V1 | ⟨V1, hal⟩
  · refine own_callS w3_ hx (y := (⟨"java/lang/StringUTF16", "coderFromArrayLen", "([BI)B"⟩ : MethodName)) (hw _ (List.mem_of_getElem? (i := 75) rfl)) (hw _ (List.mem_of_getElem? (i := 76) rfl)) (hw _ (List.mem_of_getElem? (i := 70) rfl)) (hw _ (List.mem_of_getElem? (i := 77) rfl)) (by decide) (kc := 0) (ks := 0) (argsL := [(.ref t), (.int (3 : Int32))]) (rest := [(.ref x)]) (own_payCt (W := 1) (ctCo3_1 l Z a0 hw n0 h3_ (own_old w3_) t kt _ V1) w3_ (hw _ (List.mem_of_getElem? (i := 77) rfl)) (hw _ (List.mem_of_getElem? (i := 70) rfl)) hEL (by decide) (by decide)) (g := (mkF m 45 #[.val (.ref x), .val (.ref ca), .val (.int (0 : Int32)), .val (.int (3 : Int32)), .val .null, .val (.ref t)] [(.int (3 : Int32)), (.ref t), (.ref x)])) rfl (by rw [hml]; rfl) (lenOf pd_128700057 rfl) rfl (by show 2 * 0 + _ ≤ _; exact Nat.le_of_eq rfl) (Jvm.hb hby d2_45) (by decide) (by decide) (fun v4_ T4_ vm4_ h4_ q4_ C4_ w4_ => ?_)
    obtain ⟨rfl, rfl⟩ := q4_
    have A4_ := own_at w4_
    show own_WP p e _ below s Z _ n0 _ T4_ (mkF m 48 #[.val (.ref x), .val (.ref ca), .val (.int (0 : Int32)), .val (.int (3 : Int32)), .val .null, .val (.ref t)] [(.int (1 : Int32)), (.ref x)])
    have ne1 : x ≠ t := R1.1.neArv V1 (hw _ (List.mem_of_getElem? (i := 4) rfl))
    have Sf1 : Safe Z consts_1 vm4_ h3_ x := R1.safe (own_hZ w4_).alike
    refine own_putF w4_ hx (hw _ (List.mem_of_getElem? (i := 23) rfl)) R1.2.2 R1.1 (Or.inr ⟨(hw _ (List.mem_of_getElem? (i := 19) rfl)), rfl, hnm⟩) (hw _ (List.mem_of_getElem? (i := 4) rfl)) (ty := .byte) (by decide) rfl rfl gx Sf1 (g := (mkF m 48 #[.val (.ref x), .val (.ref ca), .val (.int (0 : Int32)), .val (.int (3 : Int32)), .val .null, .val (.ref t)] [(.int (1 : Int32)), (.ref x)])) rfl rfl (Jvm.hb hby d2_48) (fun T5_ h5_ W5_ w5_ => ?_)
    have A5_ := own_at w5_
    show own_WP p e _ below s Z _ n0 _ T5_ (mkF m 51 #[.val (.ref x), .val (.ref ca), .val (.int (0 : Int32)), .val (.int (3 : Int32)), .val .null, .val (.ref t)] [])
    refine own_by (T' := T5_) (g' := (mkF m 52 #[.val (.ref x), .val (.ref ca), .val (.int (0 : Int32)), .val (.int (3 : Int32)), .val .null, .val (.ref t)] [(.ref x)])) (fun t_ hr_ => XS.aloadN A5_ hx rfl (Jvm.hb hby d2_51) rfl rfl hr_) ?_
    refine own_by (T' := T5_) (g' := (mkF m 54 #[.val (.ref x), .val (.ref ca), .val (.int (0 : Int32)), .val (.int (3 : Int32)), .val .null, .val (.ref t)] [(.ref t), (.ref x)])) (fun t_ hr_ => XS.aload A5_ hx rfl (Jvm.hb hby d2_52) rfl rfl hr_) ?_
    have X2 := R1.1.wr W5_
    have Sf2 : Safe Z consts_1 vm4_ h5_ x := Safe.wr W5_ Sf1 (own_chv w4_) Sf1
    have D2 := R1.2.2.same W5_
    have V2 := R1.2.1.other W5_ (Or.inr (slot_ne (Or.inr (hw _ (List.mem_of_getElem? (i := 18) rfl))) (Or.inr (hw _ (List.mem_of_getElem? (i := 19) rfl))) (by decide) rfl rfl))
    have Y2 := V1.other W5_ (Ne.symm ne1)
    refine own_putF w5_ hx (hw _ (List.mem_of_getElem? (i := 22) rfl)) V2 X2 (Or.inr ⟨(hw _ (List.mem_of_getElem? (i := 18) rfl)), rfl, hnm⟩) (hw _ (List.mem_of_getElem? (i := 4) rfl)) (ty := (.array .byte)) (by decide) rfl rfl gx Sf2 (g := (mkF m 54 #[.val (.ref x), .val (.ref ca), .val (.int (0 : Int32)), .val (.int (3 : Int32)), .val .null, .val (.ref t)] [(.ref t), (.ref x)])) rfl rfl (Jvm.hb hby d2_54) (fun T6_ h6_ W6_ w6_ => ?_)
    have A6_ := own_at w6_
    show own_WP p e _ below s Z _ n0 _ T6_ (mkF m 57 #[.val (.ref x), .val (.ref ca), .val (.int (0 : Int32)), .val (.int (3 : Int32)), .val .null, .val (.ref t)] [])
    exact own_retV w6_ hx hEL hlk hret (Jvm.hb hby d2_57) (by decide) (by decide) ⟨rfl, ((((Keep.refl h0 [x]).ext E1).wr W5_ (Or.inl (List.mem_of_getElem? (i := 0) rfl))).wr W6_ (Or.inl (List.mem_of_getElem? (i := 0) rfl))), Or.inr ⟨X2.wr W6_, D2.other W6_ (Or.inr (slot_ne (Or.inr (hw _ (List.mem_of_getElem? (i := 19) rfl))) (Or.inr (hw _ (List.mem_of_getElem? (i := 18) rfl))) (by decide) rfl rfl)), ⟨t, kt, V2.same W6_, Y2.other W6_ (Ne.symm ne1)⟩, (by simp only [List.forall_mem_cons, List.not_mem_nil, false_imp_iff, implies_true, and_true]; exact ⟨r0, r1, r2⟩), (by simp)⟩⟩
  · refine own_callS w3_ hx (y := (⟨"java/lang/StringUTF16", "coderFromArrayLen", "([BI)B"⟩ : MethodName)) (hw _ (List.mem_of_getElem? (i := 75) rfl)) (hw _ (List.mem_of_getElem? (i := 76) rfl)) (hw _ (List.mem_of_getElem? (i := 70) rfl)) (hw _ (List.mem_of_getElem? (i := 77) rfl)) (by decide) (kc := 0) (ks := 0) (argsL := [(.ref t), (.int (3 : Int32))]) (rest := [(.ref x)]) (own_payCt (W := 1) (ctCo3_0 l Z a0 hw n0 h3_ (own_old w3_) t kt _ V1) w3_ (hw _ (List.mem_of_getElem? (i := 77) rfl)) (hw _ (List.mem_of_getElem? (i := 70) rfl)) hEL (by decide) (by decide)) (g := (mkF m 45 #[.val (.ref x), .val (.ref ca), .val (.int (0 : Int32)), .val (.int (3 : Int32)), .val .null, .val (.ref t)] [(.int (3 : Int32)), (.ref t), (.ref x)])) rfl (by rw [hml]; rfl) (lenOf pd_128700057 rfl) rfl (by show 2 * 0 + _ ≤ _; exact Nat.le_of_eq rfl) (Jvm.hb hby d2_45) (by decide) (by decide) (fun v7_ T7_ vm7_ h7_ q7_ C7_ w7_ => ?_)
    obtain ⟨rfl, rfl⟩ := q7_
    have A7_ := own_at w7_
    show own_WP p e _ below s Z _ n0 _ T7_ (mkF m 48 #[.val (.ref x), .val (.ref ca), .val (.int (0 : Int32)), .val (.int (3 : Int32)), .val .null, .val (.ref t)] [(.int (0 : Int32)), (.ref x)])
    have ne1 : x ≠ t := R1.1.neArv V1 (hw _ (List.mem_of_getElem? (i := 4) rfl))
    have Sf1 : Safe Z consts_1 vm7_ h3_ x := R1.safe (own_hZ w7_).alike
    refine own_putF w7_ hx (hw _ (List.mem_of_getElem? (i := 23) rfl)) R1.2.2 R1.1 (Or.inr ⟨(hw _ (List.mem_of_getElem? (i := 19) rfl)), rfl, hnm⟩) (hw _ (List.mem_of_getElem? (i := 4) rfl)) (ty := .byte) (by decide) rfl rfl gx Sf1 (g := (mkF m 48 #[.val (.ref x), .val (.ref ca), .val (.int (0 : Int32)), .val (.int (3 : Int32)), .val .null, .val (.ref t)] [(.int (0 : Int32)), (.ref x)])) rfl rfl (Jvm.hb hby d2_48) (fun T8_ h8_ W8_ w8_ => ?_)
    have A8_ := own_at w8_
    show own_WP p e _ below s Z _ n0 _ T8_ (mkF m 51 #[.val (.ref x), .val (.ref ca), .val (.int (0 : Int32)), .val (.int (3 : Int32)), .val .null, .val (.ref t)] [])
    refine own_by (T' := T8_) (g' := (mkF m 52 #[.val (.ref x), .val (.ref ca), .val (.int (0 : Int32)), .val (.int (3 : Int32)), .val .null, .val (.ref t)] [(.ref x)])) (fun t_ hr_ => XS.aloadN A8_ hx rfl (Jvm.hb hby d2_51) rfl rfl hr_) ?_
    refine own_by (T' := T8_) (g' := (mkF m 54 #[.val (.ref x), .val (.ref ca), .val (.int (0 : Int32)), .val (.int (3 : Int32)), .val .null, .val (.ref t)] [(.ref t), (.ref x)])) (fun t_ hr_ => XS.aload A8_ hx rfl (Jvm.hb hby d2_52) rfl rfl hr_) ?_
    have X2 := R1.1.wr W8_
    have Sf2 : Safe Z consts_1 vm7_ h8_ x := Safe.wr W8_ Sf1 (own_chv w7_) Sf1
    have D2 := R1.2.2.same W8_
    have V2 := R1.2.1.other W8_ (Or.inr (slot_ne (Or.inr (hw _ (List.mem_of_getElem? (i := 18) rfl))) (Or.inr (hw _ (List.mem_of_getElem? (i := 19) rfl))) (by decide) rfl rfl))
    have Y2 := V1.other W8_ (Ne.symm ne1)
    refine own_putF w8_ hx (hw _ (List.mem_of_getElem? (i := 22) rfl)) V2 X2 (Or.inr ⟨(hw _ (List.mem_of_getElem? (i := 18) rfl)), rfl, hnm⟩) (hw _ (List.mem_of_getElem? (i := 4) rfl)) (ty := (.array .byte)) (by decide) rfl rfl gx Sf2 (g := (mkF m 54 #[.val (.ref x), .val (.ref ca), .val (.int (0 : Int32)), .val (.int (3 : Int32)), .val .null, .val (.ref t)] [(.ref t), (.ref x)])) rfl rfl (Jvm.hb hby d2_54) (fun T9_ h9_ W9_ w9_ => ?_)
    have A9_ := own_at w9_
    show own_WP p e _ below s Z _ n0 _ T9_ (mkF m 57 #[.val (.ref x), .val (.ref ca), .val (.int (0 : Int32)), .val (.int (3 : Int32)), .val .null, .val (.ref t)] [])
    exact own_retV w9_ hx hEL hlk hret (Jvm.hb hby d2_57) (by decide) (by decide) ⟨rfl, ((((Keep.refl h0 [x]).ext E1).wr W8_ (Or.inl (List.mem_of_getElem? (i := 0) rfl))).wr W9_ (Or.inl (List.mem_of_getElem? (i := 0) rfl))), Or.inl ⟨X2.wr W9_, D2.other W9_ (Or.inr (slot_ne (Or.inr (hw _ (List.mem_of_getElem? (i := 19) rfl))) (Or.inr (hw _ (List.mem_of_getElem? (i := 18) rfl))) (by decide) rfl rfl)), ⟨t, kt, V2.same W9_, Y2.other W9_ (Ne.symm ne1)⟩, (by simp only [List.forall_mem_cons, List.not_mem_nil, false_imp_iff, implies_true, and_true]; exact ⟨⟨r0.1, hal.1⟩, ⟨r1.1, hal.2.1⟩, ⟨r2.1, hal.2.2⟩⟩), (by simp)⟩⟩

theorem ef_ctNew1w3 (m : MethodId) (x0 : Addr) (x1 : Addr) : entryFrame m #[(.ref x0), (.ref x1)] 2 = mkF m 0 #[.val (.ref x0), .val (.ref x1)] [] := by first | (simp [entryFrame, mkF, argsToLocals, Value.category]; done) | rfl
set_option maxRecDepth 65536 in
set_option maxHeartbeats 40000000 in
theorem ctNew1w3 (l : Launch) (Z : State) (a0 : Array Value) (hw : ∀ d ∈ tables_1, d.before a0 Z = true) (SC : own_SC Z) (US : own_US Z) (n0 : Nat) (h0 : Heap) (O0 : Old Z n0 h0) (x ca : Addr) (kC : ClassId) (c0 c1 c2 : Int32) (F0 : own_Raw Z h0 x) (VC : Arv Z h0 ca kC .char (3 : Int32) [(.int c0), (.int c1), (.int c2)] (.int 0)) (gx : n0 ≤ x) (r0 : ¬ c0 < 0 ∧ ¬ (65535 : Int32) < c0) (r1 : ¬ c1 < 0 ∧ ¬ (65535 : Int32) < c1) (r2 : ¬ c2 < 0 ∧ ¬ (65535 : Int32) < c2) :
    own_Ct l (⟨"java/lang/String", "<init>", "([C)V"⟩ : MethodName) jdk_42_method_3_code 2 none ({ frames := 5, cells := 2, slots := 9, locals := 74 } : Room) Z consts_1 n0 #[(.ref x), (.ref ca)] h0 [] (fun v h => v = none ∧ Keep h0 h [x] ∧ own_Any Z h x [c0, c1, c2]) := by
  have hEL := own_EL hw
  refine own_body pn_399269609 O0 (fun p e s m below meth cc_ T0 vm0 hx hby hml0 hret hlk hnm hsf w0 => ?_)
  have hml : cc_.maxLocals = 2 := hml0
  have A_0 := own_at w0
  refine own_entry (ef_ctNew1w3 m x ca) ?_
  refine own_by (T' := T0) (g' := (mkF m 1 #[.val (.ref x), .val (.ref ca)] [(.ref x)])) (fun t_ hr_ => XS.aloadN A_0 hx rfl (Jvm.hb hby d1_0) rfl rfl hr_) ?_
  refine own_by (T' := T0) (g' := (mkF m 2 #[.val (.ref x), .val (.ref ca)] [(.ref ca), (.ref x)])) (fun t_ hr_ => XS.aloadN A_0 hx rfl (Jvm.hb hby d1_1) rfl rfl hr_) ?_
  refine own_by (T' := T0) (g' := (mkF m 3 #[.val (.ref x), .val (.ref ca)] [(.int (0 : Int32)), (.ref ca), (.ref x)])) (fun t_ hr_ => XS.iconst A_0 hx rfl (Jvm.hb hby d1_2) hr_) ?_
  refine own_by (T' := T0) (g' := (mkF m 4 #[.val (.ref x), .val (.ref ca)] [(.ref ca), (.int (0 : Int32)), (.ref ca), (.ref x)])) (fun t_ hr_ => XS.aloadN A_0 hx rfl (Jvm.hb hby d1_3) rfl rfl hr_) ?_
  refine own_alen w0 hx VC (g := (mkF m 4 #[.val (.ref x), .val (.ref ca)] [(.ref ca), (.int (0 : Int32)), (.ref ca), (.ref x)])) rfl rfl (Jvm.hb hby d1_4) ?_
  show own_WP p e _ below s Z _ n0 _ T0 (mkF m 5 #[.val (.ref x), .val (.ref ca)] [(.int (3 : Int32)), (.int (0 : Int32)), (.ref ca), (.ref x)])
  refine own_by (T' := T0) (g' := (mkF m 6 #[.val (.ref x), .val (.ref ca)] [.null, (.int (3 : Int32)), (.int (0 : Int32)), (.ref ca), (.ref x)])) (fun t_ hr_ => XS.aconstNull A_0 hx rfl (Jvm.hb hby d1_5) hr_) ?_
  refine own_callC w0 hx (y := (⟨"java/lang/String", "<init>", "([CIILjava/lang/Void;)V"⟩ : MethodName)) rfl (hw _ (List.mem_of_getElem? (i := 9) rfl)) (hw _ (List.mem_of_getElem? (i := 10) rfl)) (hw _ (List.mem_of_getElem? (i := 12) rfl)) (by decide) (kc := 2) (ks := 9) (a := x) (argsL := [(.ref ca), (.int (0 : Int32)), (.int (3 : Int32)), .null]) (rest := []) (own_payCt (W := 0) (ctNew4w3 l Z a0 hw SC US n0 h0 (own_old w0) x ca kC c0 c1 c2 F0 VC gx r0 r1 r2) w0 (hw _ (List.mem_of_getElem? (i := 12) rfl)) (hw _ (List.mem_of_getElem? (i := 5) rfl)) hEL (by decide) (by decide)) (g := (mkF m 6 #[.val (.ref x), .val (.ref ca)] [.null, (.int (3 : Int32)), (.int (0 : Int32)), (.ref ca), (.ref x)])) rfl (by rw [hml]; rfl) (lenOf pd_677231080 rfl) rfl (by show 2 * 0 + _ ≤ _; exact Nat.le_of_eq rfl) (Jvm.hb hby d1_6) (by decide) (by decide) (fun v1_ T1_ vm1_ h1_ q1_ C1_ w1_ => ?_)
  obtain ⟨rfl, K1, S1⟩ := q1_
  have A1_ := own_at w1_
  show own_WP p e _ below s Z _ n0 _ T1_ (mkF m 9 #[.val (.ref x), .val (.ref ca)] [])
  exact own_retV w1_ hx hEL hlk hret (Jvm.hb hby d1_9) (by decide) (by decide) ⟨rfl, K1, S1⟩

theorem ef_ctNBL4 (m : MethodId) (x0 : Int32) : entryFrame m #[(.int x0)] 1 = mkF m 0 #[.val (.int x0)] [] := by first | (simp [entryFrame, mkF, argsToLocals, Value.category]; done) | rfl
set_option maxRecDepth 65536 in
set_option maxHeartbeats 40000000 in
theorem ctNBL4 (l : Launch) (Z : State) (a0 : Array Value) (hw : ∀ d ∈ tables_1, d.before a0 Z = true) (n0 : Nat) (h0 : Heap) (O0 : Old Z n0 h0)   :
    own_Ct l (⟨"java/lang/StringUTF16", "newBytesLength", "(I)I"⟩ : MethodName) jdk_52_method_3_code 1 (some .int) ({ frames := 0, cells := 0, slots := 0, locals := 0 } : Room) Z consts_1 n0 #[(.int (4 : Int32))] h0 [] (fun v h => v = some (.int 8) ∧ h0 = h) := by
  have hEL := own_EL hw
  refine own_body pn_150479481 O0 (fun p e s m below meth cc_ T0 vm0 hx hby hml0 hret hlk hnm hsf w0 => ?_)
  have hml : cc_.maxLocals = 1 := hml0
  have A_0 := own_at w0
  refine own_entry (ef_ctNBL4 m (4 : Int32)) ?_
  refine own_by (T' := T0) (g' := (mkF m 1 #[.val (.int (4 : Int32))] [(.int (4 : Int32))])) (fun t_ hr_ => XS.iloadN A_0 hx rfl (Jvm.hb hby d20_0) rfl hr_) ?_
  refine own_by (T' := T0) (g' := (mkF m 12 #[.val (.int (4 : Int32))] [])) (fun t_ hr_ => XS.ifYes A_0 hx rfl (pc0 := 1) (pc' := 12) rfl (Jvm.hb hby d20_1) rfl ((if0 _ _).trans (flt (by decide)).2.1) (by decide) (by decide) hr_) ?_
  refine own_by (T' := T0) (g' := (mkF m 13 #[.val (.int (4 : Int32))] [(.int (4 : Int32))])) (fun t_ hr_ => XS.iloadN A_0 hx rfl (Jvm.hb hby d20_12) rfl hr_) ?_
  refine own_ldcI w0 hx (hw _ (List.mem_of_getElem? (i := 90) rfl)) (g := (mkF m 13 #[.val (.int (4 : Int32))] [(.int (4 : Int32))])) rfl (Jvm.hb hby d20_13) ?_
  show own_WP p e _ below s Z _ n0 _ T0 (mkF m 15 #[.val (.int (4 : Int32))] [(.int (1073741823 : Int32)), (.int (4 : Int32))])
  refine own_by (T' := T0) (g' := (mkF m 55 #[.val (.int (4 : Int32))] [])) (fun t_ hr_ => XS.icmpYes A_0 hx rfl (pc0 := 15) (pc' := 55) rfl (Jvm.hb hby d20_15) rfl (tlt (by decide)).1 (by decide) (by decide) hr_) ?_
  refine own_by (T' := T0) (g' := (mkF m 56 #[.val (.int (4 : Int32))] [(.int (4 : Int32))])) (fun t_ hr_ => XS.iloadN A_0 hx rfl (Jvm.hb hby d20_55) rfl hr_) ?_
  refine own_by (T' := T0) (g' := (mkF m 57 #[.val (.int (4 : Int32))] [(.int (1 : Int32)), (.int (4 : Int32))])) (fun t_ hr_ => XS.iconst A_0 hx rfl (Jvm.hb hby d20_56) hr_) ?_
  refine own_by (T' := T0) (g' := (mkF m 58 #[.val (.int (4 : Int32))] [(.int ((4 : Int32) <<< ((1 : Int32) &&& 31)))])) (fun t_ hr_ => XS.ishl A_0 hx rfl (Jvm.hb hby d20_57) rfl hr_) ?_
  rw [show ((4 : Int32) <<< ((1 : Int32) &&& 31)) = (8 : Int32) from (by decide)]
  show own_WP p e _ below s Z _ n0 _ T0 (mkF m 58 #[.val (.int (4 : Int32))] [(.int (8 : Int32))])
  exact own_retI w0 hx hEL hlk hret (Jvm.hb hby d20_58) (by decide) (by decide) ⟨rfl, rfl⟩

theorem ef_ctNBF4 (m : MethodId) (x0 : Int32) : entryFrame m #[(.int x0)] 1 = mkF m 0 #[.val (.int x0)] [] := by first | (simp [entryFrame, mkF, argsToLocals, Value.category]; done) | rfl
set_option maxRecDepth 65536 in
set_option maxHeartbeats 40000000 in
theorem ctNBF4 (l : Launch) (Z : State) (a0 : Array Value) (hw : ∀ d ∈ tables_1, d.before a0 Z = true) (n0 : Nat) (h0 : Heap) (O0 : Old Z n0 h0)   :
    own_Ct l (⟨"java/lang/StringUTF16", "newBytesFor", "(I)[B"⟩ : MethodName) jdk_52_method_2_code 1 (some (.array .byte)) ({ frames := 1, cells := 1, slots := 8, locals := 12 } : Room) Z consts_1 n0 #[(.int (4 : Int32))] h0 [] (fun v h => ∃ a k, v = some (.ref a) ∧ h0.size ≤ a ∧ Ext h0 h ∧ Arv Z h a k .byte (8 : Int32) [(.int (0 : Int32)), (.int (0 : Int32)), (.int (0 : Int32)), (.int (0 : Int32)), (.int (0 : Int32)), (.int (0 : Int32)), (.int (0 : Int32)), (.int (0 : Int32))] (.int 0)) := by
  have hEL := own_EL hw
  refine own_body pn_400072370 O0 (fun p e s m below meth cc_ T0 vm0 hx hby hml0 hret hlk hnm hsf w0 => ?_)
  have hml : cc_.maxLocals = 1 := hml0
  have A_0 := own_at w0
  refine own_entry (ef_ctNBF4 m (4 : Int32)) ?_
  refine own_by (T' := T0) (g' := (mkF m 1 #[.val (.int (4 : Int32))] [(.int (4 : Int32))])) (fun t_ hr_ => XS.iloadN A_0 hx rfl (Jvm.hb hby d19_0) rfl hr_) ?_
  refine own_callS w0 hx (y := (⟨"java/lang/StringUTF16", "newBytesLength", "(I)I"⟩ : MethodName)) (hw _ (List.mem_of_getElem? (i := 87) rfl)) (hw _ (List.mem_of_getElem? (i := 88) rfl)) (hw _ (List.mem_of_getElem? (i := 70) rfl)) (hw _ (List.mem_of_getElem? (i := 89) rfl)) (by decide) (kc := 0) (ks := 0) (argsL := [(.int (4 : Int32))]) (rest := []) (own_payCt (W := 0) (ctNBL4 l Z a0 hw n0 h0 (own_old w0)) w0 (hw _ (List.mem_of_getElem? (i := 89) rfl)) (hw _ (List.mem_of_getElem? (i := 70) rfl)) hEL (by decide) (by decide)) (g := (mkF m 1 #[.val (.int (4 : Int32))] [(.int (4 : Int32))])) rfl (by rw [hml]; rfl) (lenOf pd_91181837 rfl) rfl (by show 2 * 0 + _ ≤ _; exact Nat.le_of_eq rfl) (Jvm.hb hby d19_1) (by decide) (by decide) (fun v1_ T1_ vm1_ h1_ q1_ C1_ w1_ => ?_)
  obtain ⟨rfl, rfl⟩ := q1_
  have A1_ := own_at w1_
  show own_WP p e _ below s Z _ n0 _ T1_ (mkF m 4 #[.val (.int (4 : Int32))] [(.int (8 : Int32))])
  refine own_newP w1_ hx (hw _ (List.mem_of_getElem? (i := 17) rfl)) (g := (mkF m 4 #[.val (.int (4 : Int32))] [(.int (8 : Int32))])) rfl (Jvm.hb hby d19_4) rfl (by decide) (cap := 8) (by decide) (by decide) (by decide) (by decide) (fun T2_ h2_ a2_ k2_ g2_ E2_ V2_ w2_ => ?_)
  have A2_ := own_at w2_
  show own_WP p e _ below s Z _ n0 _ T2_ (mkF m 6 #[.val (.int (4 : Int32))] [(.ref a2_)])
  have U1 : Arv Z h2_ a2_ k2_ .byte (8 : Int32) [(.int (0 : Int32)), (.int (0 : Int32)), (.int (0 : Int32)), (.int (0 : Int32)), (.int (0 : Int32)), (.int (0 : Int32)), (.int (0 : Int32)), (.int (0 : Int32))] (.int 0) := V2_.pad (vs' := [(.int (0 : Int32)), (.int (0 : Int32)), (.int (0 : Int32)), (.int (0 : Int32)), (.int (0 : Int32)), (.int (0 : Int32)), (.int (0 : Int32)), (.int (0 : Int32))]) (fun i => pad_rep [] (.int (0 : Int32)) 8 i)
  exact own_retA w2_ hx hEL hlk hret rfl rfl (Jvm.hb hby d19_6) (by decide) (by decide) ⟨_, _, rfl, by rw [g2_]; exact Nat.le_refl _, E2_, U1⟩

theorem ef_ctTB4 (m : MethodId) (x0 : Addr) (x1 : Int32) (x2 : Int32) : entryFrame m #[(.ref x0), (.int x1), (.int x2)] 5 = mkF m 0 #[.val (.ref x0), .val (.int x1), .val (.int x2), .unset, .unset] [] := by first | (simp [entryFrame, mkF, argsToLocals, Value.category]; done) | rfl
set_option maxRecDepth 65536 in
set_option maxHeartbeats 40000000 in
theorem ctTB4 (l : Launch) (Z : State) (a0 : Array Value) (hw : ∀ d ∈ tables_1, d.before a0 Z = true) (US : own_US Z) (n0 : Nat) (h0 : Heap) (O0 : Old Z n0 h0) (ca : Addr) (kC : ClassId) (c0 c1 c2 c3 : Int32) (VC : Arv Z h0 ca kC .char (4 : Int32) [(.int c0), (.int c1), (.int c2), (.int c3)] (.int 0)) :
    own_Ct l (⟨"java/lang/StringUTF16", "toBytes", "([CII)[B"⟩ : MethodName) jdk_52_method_14_code 5 (some (.array .byte)) ({ frames := 2, cells := 1, slots := 8, locals := 24 } : Room) Z consts_1 n0 #[(.ref ca), (.int (0 : Int32)), (.int (4 : Int32))] h0 [] (fun v h => ∃ a k, v = some (.ref a) ∧ Ext h0 h ∧ Arv Z h a k .byte (8 : Int32) [(.int (c0.toInt8.toInt32)), (.int ((c0 >>> ((8 : Int32) &&& 31)).toInt8.toInt32)), (.int (c1.toInt8.toInt32)), (.int ((c1 >>> ((8 : Int32) &&& 31)).toInt8.toInt32)), (.int (c2.toInt8.toInt32)), (.int ((c2 >>> ((8 : Int32) &&& 31)).toInt8.toInt32)), (.int (c3.toInt8.toInt32)), (.int ((c3 >>> ((8 : Int32) &&& 31)).toInt8.toInt32))] (.int 0)) := by
  have hEL := own_EL hw
  refine own_body pn_435542604 O0 (fun p e s m below meth cc_ T0 vm0 hx hby hml0 hret hlk hnm hsf w0 => ?_)
  have hml : cc_.maxLocals = 5 := hml0
  have A_0 := own_at w0
  refine own_entry (ef_ctTB4 m ca (0 : Int32) (4 : Int32)) ?_
  refine own_by (T' := T0) (g' := (mkF m 1 #[.val (.ref ca), .val (.int (0 : Int32)), .val (.int (4 : Int32)), .unset, .unset] [(.int (4 : Int32))])) (fun t_ hr_ => XS.iloadN A_0 hx rfl (Jvm.hb hby d18_0) rfl hr_) ?_
  refine own_callS w0 hx (y := (⟨"java/lang/StringUTF16", "newBytesFor", "(I)[B"⟩ : MethodName)) (hw _ (List.mem_of_getElem? (i := 84) rfl)) (hw _ (List.mem_of_getElem? (i := 85) rfl)) (hw _ (List.mem_of_getElem? (i := 70) rfl)) (hw _ (List.mem_of_getElem? (i := 86) rfl)) (by decide) (kc := 1) (ks := 8) (argsL := [(.int (4 : Int32))]) (rest := []) (own_payCt (W := 0) (ctNBF4 l Z a0 hw n0 h0 (own_old w0)) w0 (hw _ (List.mem_of_getElem? (i := 86) rfl)) (hw _ (List.mem_of_getElem? (i := 70) rfl)) hEL (by decide) (by decide)) (g := (mkF m 1 #[.val (.ref ca), .val (.int (0 : Int32)), .val (.int (4 : Int32)), .unset, .unset] [(.int (4 : Int32))])) rfl (by rw [hml]; rfl) (lenOf pd_944822994 rfl) rfl (by show 2 * 0 + _ ≤ _; exact Nat.le_of_eq rfl) (Jvm.hb hby d18_1) (by decide) (by decide) (fun v1_ T1_ vm1_ h1_ q1_ C1_ w1_ => ?_)
  obtain ⟨a, k, rfl, ga0, E0, V0⟩ := q1_
  have A1_ := own_at w1_
  show own_WP p e _ below s Z _ n0 _ T1_ (mkF m 4 #[.val (.ref ca), .val (.int (0 : Int32)), .val (.int (4 : Int32)), .unset, .unset] [(.ref a)])
  have ga : n0 ≤ a := Nat.le_trans (own_n0 w0) ga0
  have nca : ca ≠ a := Nat.ne_of_lt (Nat.lt_of_lt_of_le VC.lt ga0)
  have VC0 := VC.ext E0
  refine own_by (T' := T1_) (g' := (mkF m 5 #[.val (.ref ca), .val (.int (0 : Int32)), .val (.int (4 : Int32)), .val (.ref a), .unset] [])) (fun t_ hr_ => XS.astoreN A1_ hx rfl (Jvm.hb hby d18_4) rfl rfl (l' := #[.val (.ref ca), .val (.int (0 : Int32)), .val (.int (4 : Int32)), .val (.ref a), .unset]) rfl hr_) ?_
  refine own_by (T' := T1_) (g' := (mkF m 6 #[.val (.ref ca), .val (.int (0 : Int32)), .val (.int (4 : Int32)), .val (.ref a), .unset] [(.int (0 : Int32))])) (fun t_ hr_ => XS.iconst A1_ hx rfl (Jvm.hb hby d18_5) hr_) ?_
  refine own_by (T' := T1_) (g' := (mkF m 8 #[.val (.ref ca), .val (.int (0 : Int32)), .val (.int (4 : Int32)), .val (.ref a), .val (.int (0 : Int32))] [])) (fun t_ hr_ => XS.istore A1_ hx rfl (Jvm.hb hby d18_6) rfl (l' := #[.val (.ref ca), .val (.int (0 : Int32)), .val (.int (4 : Int32)), .val (.ref a), .val (.int (0 : Int32))]) rfl hr_) ?_
  refine own_by (T' := T1_) (g' := (mkF m 10 #[.val (.ref ca), .val (.int (0 : Int32)), .val (.int (4 : Int32)), .val (.ref a), .val (.int (0 : Int32))] [(.int (0 : Int32))])) (fun t_ hr_ => XS.iload A1_ hx rfl (Jvm.hb hby d18_8) rfl hr_) ?_
  refine own_by (T' := T1_) (g' := (mkF m 11 #[.val (.ref ca), .val (.int (0 : Int32)), .val (.int (4 : Int32)), .val (.ref a), .val (.int (0 : Int32))] [(.int (4 : Int32)), (.int (0 : Int32))])) (fun t_ hr_ => XS.iloadN A1_ hx rfl (Jvm.hb hby d18_10) rfl hr_) ?_
  refine own_by (T' := T1_) (g' := (mkF m 14 #[.val (.ref ca), .val (.int (0 : Int32)), .val (.int (4 : Int32)), .val (.ref a), .val (.int (0 : Int32))] [])) (fun t_ hr_ => XS.icmpNo A1_ hx rfl (Jvm.hb hby d18_11) rfl (tlt (by decide)).2.1 hr_) ?_
  refine own_by (T' := T1_) (g' := (mkF m 15 #[.val (.ref ca), .val (.int (0 : Int32)), .val (.int (4 : Int32)), .val (.ref a), .val (.int (0 : Int32))] [(.ref a)])) (fun t_ hr_ => XS.aloadN A1_ hx rfl (Jvm.hb hby d18_14) rfl rfl hr_) ?_
  refine own_by (T' := T1_) (g' := (mkF m 17 #[.val (.ref ca), .val (.int (0 : Int32)), .val (.int (4 : Int32)), .val (.ref a), .val (.int (0 : Int32))] [(.int (0 : Int32)), (.ref a)])) (fun t_ hr_ => XS.iload A1_ hx rfl (Jvm.hb hby d18_15) rfl hr_) ?_
  refine own_by (T' := T1_) (g' := (mkF m 18 #[.val (.ref ca), .val (.int (0 : Int32)), .val (.int (4 : Int32)), .val (.ref a), .val (.int (0 : Int32))] [(.ref ca), (.int (0 : Int32)), (.ref a)])) (fun t_ hr_ => XS.aloadN A1_ hx rfl (Jvm.hb hby d18_17) rfl rfl hr_) ?_
  refine own_by (T' := T1_) (g' := (mkF m 19 #[.val (.ref ca), .val (.int (0 : Int32)), .val (.int (4 : Int32)), .val (.ref a), .val (.int (0 : Int32))] [(.int (0 : Int32)), (.ref ca), (.int (0 : Int32)), (.ref a)])) (fun t_ hr_ => XS.iloadN A1_ hx rfl (Jvm.hb hby d18_18) rfl hr_) ?_
  refine own_caload w1_ hx (x := c0) VC0 (by decide) (g := (mkF m 19 #[.val (.ref ca), .val (.int (0 : Int32)), .val (.int (4 : Int32)), .val (.ref a), .val (.int (0 : Int32))] [(.int (0 : Int32)), (.ref ca), (.int (0 : Int32)), (.ref a)])) rfl rfl (Jvm.hb hby d18_19) rfl ?_
  show own_WP p e _ below s Z _ n0 _ T1_ (mkF m 20 #[.val (.ref ca), .val (.int (0 : Int32)), .val (.int (4 : Int32)), .val (.ref a), .val (.int (0 : Int32))] [(.int c0), (.int (0 : Int32)), (.ref a)])
  refine own_callS w1_ hx (y := (⟨"java/lang/StringUTF16", "putChar", "([BII)V"⟩ : MethodName)) (hw _ (List.mem_of_getElem? (i := 91) rfl)) (hw _ (List.mem_of_getElem? (i := 92) rfl)) (hw _ (List.mem_of_getElem? (i := 70) rfl)) (hw _ (List.mem_of_getElem? (i := 93) rfl)) (by decide) (kc := 0) (ks := 0) (argsL := [(.ref a), (.int (0 : Int32)), (.int c0)]) (rest := []) (own_payCt (W := 0) (ctPut l Z a0 hw US n0 h1_ (own_old w1_) a 0 c0 k (8 : Int32) _ V0 rfl (by simp) (by simp) ga) w1_ (hw _ (List.mem_of_getElem? (i := 93) rfl)) (hw _ (List.mem_of_getElem? (i := 70) rfl)) hEL (by decide) (by decide) (own_one ⟨V0.lt, own_safeB (own_hZ w1_) (hw _ (List.mem_of_getElem? (i := 16) rfl)) V0 (by decide)⟩)) (g := (mkF m 20 #[.val (.ref ca), .val (.int (0 : Int32)), .val (.int (4 : Int32)), .val (.ref a), .val (.int (0 : Int32))] [(.int c0), (.int (0 : Int32)), (.ref a)])) rfl (by rw [hml]; rfl) (lenOf pd_860253318 rfl) rfl (by show 2 * 0 + _ ≤ _; exact Nat.le_of_eq rfl) (Jvm.hb hby d18_20) (by decide) (by decide) (fun v2_ T2_ vm2_ h2_ q2_ C2_ w2_ => ?_)
  obtain ⟨rfl, KP0, VP0⟩ := q2_
  have A2_ := own_at w2_
  show own_WP p e _ below s Z _ n0 _ T2_ (mkF m 23 #[.val (.ref ca), .val (.int (0 : Int32)), .val (.int (4 : Int32)), .val (.ref a), .val (.int (0 : Int32))] [])
  have VD0 := VC0.keep KP0 (ninS nca nin0)
  have EP0 := own_extK E0 KP0 (allS ga0 all0)
  refine own_by (T' := T2_) (g' := (mkF m 26 #[.val (.ref ca), .val (.int ((0 : Int32) + (1 : Int32))), .val (.int (4 : Int32)), .val (.ref a), .val (.int (0 : Int32))] [])) (fun t_ hr_ => XS.iinc A2_ hx rfl (Jvm.hb hby d18_23) rfl (l' := #[.val (.ref ca), .val (.int ((0 : Int32) + (1 : Int32))), .val (.int (4 : Int32)), .val (.ref a), .val (.int (0 : Int32))]) rfl hr_) ?_
  refine own_by (T' := T2_) (g' := (mkF m 29 #[.val (.ref ca), .val (.int ((0 : Int32) + (1 : Int32))), .val (.int (4 : Int32)), .val (.ref a), .val (.int ((0 : Int32) + (1 : Int32)))] [])) (fun t_ hr_ => XS.iinc A2_ hx rfl (Jvm.hb hby d18_26) rfl (l' := #[.val (.ref ca), .val (.int ((0 : Int32) + (1 : Int32))), .val (.int (4 : Int32)), .val (.ref a), .val (.int ((0 : Int32) + (1 : Int32)))]) rfl hr_) ?_
  rw [show ((0 : Int32) + (1 : Int32)) = (1 : Int32) from (by decide)]
  show own_WP p e _ below s Z _ n0 _ T2_ (mkF m 29 #[.val (.ref ca), .val (.int (1 : Int32)), .val (.int (4 : Int32)), .val (.ref a), .val (.int (1 : Int32))] [])
  refine own_by (T' := T2_) (g' := (mkF m 8 #[.val (.ref ca), .val (.int (1 : Int32)), .val (.int (4 : Int32)), .val (.ref a), .val (.int (1 : Int32))] [])) (fun t_ hr_ => XS.goto A2_ hx rfl (pc0 := 29) (pc' := 8) rfl (Jvm.hb hby d18_29) (by decide) (by decide) hr_) ?_
  refine own_by (T' := T2_) (g' := (mkF m 10 #[.val (.ref ca), .val (.int (1 : Int32)), .val (.int (4 : Int32)), .val (.ref a), .val (.int (1 : Int32))] [(.int (1 : Int32))])) (fun t_ hr_ => XS.iload A2_ hx rfl (Jvm.hb hby d18_8) rfl hr_) ?_
  refine own_by (T' := T2_) (g' := (mkF m 11 #[.val (.ref ca), .val (.int (1 : Int32)), .val (.int (4 : Int32)), .val (.ref a), .val (.int (1 : Int32))] [(.int (4 : Int32)), (.int (1 : Int32))])) (fun t_ hr_ => XS.iloadN A2_ hx rfl (Jvm.hb hby d18_10) rfl hr_) ?_
  refine own_by (T' := T2_) (g' := (mkF m 14 #[.val (.ref ca), .val (.int (1 : Int32)), .val (.int (4 : Int32)), .val (.ref a), .val (.int (1 : Int32))] [])) (fun t_ hr_ => XS.icmpNo A2_ hx rfl (Jvm.hb hby d18_11) rfl (tlt (by decide)).2.1 hr_) ?_
  refine own_by (T' := T2_) (g' := (mkF m 15 #[.val (.ref ca), .val (.int (1 : Int32)), .val (.int (4 : Int32)), .val (.ref a), .val (.int (1 : Int32))] [(.ref a)])) (fun t_ hr_ => XS.aloadN A2_ hx rfl (Jvm.hb hby d18_14) rfl rfl hr_) ?_
  refine own_by (T' := T2_) (g' := (mkF m 17 #[.val (.ref ca), .val (.int (1 : Int32)), .val (.int (4 : Int32)), .val (.ref a), .val (.int (1 : Int32))] [(.int (1 : Int32)), (.ref a)])) (fun t_ hr_ => XS.iload A2_ hx rfl (Jvm.hb hby d18_15) rfl hr_) ?_
  refine own_by (T' := T2_) (g' := (mkF m 18 #[.val (.ref ca), .val (.int (1 : Int32)), .val (.int (4 : Int32)), .val (.ref a), .val (.int (1 : Int32))] [(.ref ca), (.int (1 : Int32)), (.ref a)])) (fun t_ hr_ => XS.aloadN A2_ hx rfl (Jvm.hb hby d18_17) rfl rfl hr_) ?_
  refine own_by (T' := T2_) (g' := (mkF m 19 #[.val (.ref ca), .val (.int (1 : Int32)), .val (.int (4 : Int32)), .val (.ref a), .val (.int (1 : Int32))] [(.int (1 : Int32)), (.ref ca), (.int (1 : Int32)), (.ref a)])) (fun t_ hr_ => XS.iloadN A2_ hx rfl (Jvm.hb hby d18_18) rfl hr_) ?_
  refine own_caload w2_ hx (x := c1) VD0 (by decide) (g := (mkF m 19 #[.val (.ref ca), .val (.int (1 : Int32)), .val (.int (4 : Int32)), .val (.ref a), .val (.int (1 : Int32))] [(.int (1 : Int32)), (.ref ca), (.int (1 : Int32)), (.ref a)])) rfl rfl (Jvm.hb hby d18_19) rfl ?_
  show own_WP p e _ below s Z _ n0 _ T2_ (mkF m 20 #[.val (.ref ca), .val (.int (1 : Int32)), .val (.int (4 : Int32)), .val (.ref a), .val (.int (1 : Int32))] [(.int c1), (.int (1 : Int32)), (.ref a)])
  refine own_callS w2_ hx (y := (⟨"java/lang/StringUTF16", "putChar", "([BII)V"⟩ : MethodName)) (hw _ (List.mem_of_getElem? (i := 91) rfl)) (hw _ (List.mem_of_getElem? (i := 92) rfl)) (hw _ (List.mem_of_getElem? (i := 70) rfl)) (hw _ (List.mem_of_getElem? (i := 93) rfl)) (by decide) (kc := 0) (ks := 0) (argsL := [(.ref a), (.int (1 : Int32)), (.int c1)]) (rest := []) (own_payCt (W := 0) (ctPut l Z a0 hw US n0 h2_ (own_old w2_) a 1 c1 k (8 : Int32) _ VP0 rfl (by simp) (by simp) ga) w2_ (hw _ (List.mem_of_getElem? (i := 93) rfl)) (hw _ (List.mem_of_getElem? (i := 70) rfl)) hEL (by decide) (by decide) (own_one ⟨VP0.lt, own_safeB (own_hZ w2_) (hw _ (List.mem_of_getElem? (i := 16) rfl)) VP0 (by decide)⟩)) (g := (mkF m 20 #[.val (.ref ca), .val (.int (1 : Int32)), .val (.int (4 : Int32)), .val (.ref a), .val (.int (1 : Int32))] [(.int c1), (.int (1 : Int32)), (.ref a)])) rfl (by rw [hml]; rfl) (lenOf pd_860253318 rfl) rfl (by show 2 * 0 + _ ≤ _; exact Nat.le_of_eq rfl) (Jvm.hb hby d18_20) (by decide) (by decide) (fun v3_ T3_ vm3_ h3_ q3_ C3_ w3_ => ?_)
  obtain ⟨rfl, KP1, VP1⟩ := q3_
  have A3_ := own_at w3_
  show own_WP p e _ below s Z _ n0 _ T3_ (mkF m 23 #[.val (.ref ca), .val (.int (1 : Int32)), .val (.int (4 : Int32)), .val (.ref a), .val (.int (1 : Int32))] [])
  have VD1 := VD0.keep KP1 (ninS nca nin0)
  have EP1 := own_extK EP0 KP1 (allS ga0 all0)
  refine own_by (T' := T3_) (g' := (mkF m 26 #[.val (.ref ca), .val (.int ((1 : Int32) + (1 : Int32))), .val (.int (4 : Int32)), .val (.ref a), .val (.int (1 : Int32))] [])) (fun t_ hr_ => XS.iinc A3_ hx rfl (Jvm.hb hby d18_23) rfl (l' := #[.val (.ref ca), .val (.int ((1 : Int32) + (1 : Int32))), .val (.int (4 : Int32)), .val (.ref a), .val (.int (1 : Int32))]) rfl hr_) ?_
  refine own_by (T' := T3_) (g' := (mkF m 29 #[.val (.ref ca), .val (.int ((1 : Int32) + (1 : Int32))), .val (.int (4 : Int32)), .val (.ref a), .val (.int ((1 : Int32) + (1 : Int32)))] [])) (fun t_ hr_ => XS.iinc A3_ hx rfl (Jvm.hb hby d18_26) rfl (l' := #[.val (.ref ca), .val (.int ((1 : Int32) + (1 : Int32))), .val (.int (4 : Int32)), .val (.ref a), .val (.int ((1 : Int32) + (1 : Int32)))]) rfl hr_) ?_
  rw [show ((1 : Int32) + (1 : Int32)) = (2 : Int32) from (by decide)]
  show own_WP p e _ below s Z _ n0 _ T3_ (mkF m 29 #[.val (.ref ca), .val (.int (2 : Int32)), .val (.int (4 : Int32)), .val (.ref a), .val (.int (2 : Int32))] [])
  refine own_by (T' := T3_) (g' := (mkF m 8 #[.val (.ref ca), .val (.int (2 : Int32)), .val (.int (4 : Int32)), .val (.ref a), .val (.int (2 : Int32))] [])) (fun t_ hr_ => XS.goto A3_ hx rfl (pc0 := 29) (pc' := 8) rfl (Jvm.hb hby d18_29) (by decide) (by decide) hr_) ?_
  refine own_by (T' := T3_) (g' := (mkF m 10 #[.val (.ref ca), .val (.int (2 : Int32)), .val (.int (4 : Int32)), .val (.ref a), .val (.int (2 : Int32))] [(.int (2 : Int32))])) (fun t_ hr_ => XS.iload A3_ hx rfl (Jvm.hb hby d18_8) rfl hr_) ?_
  refine own_by (T' := T3_) (g' := (mkF m 11 #[.val (.ref ca), .val (.int (2 : Int32)), .val (.int (4 : Int32)), .val (.ref a), .val (.int (2 : Int32))] [(.int (4 : Int32)), (.int (2 : Int32))])) (fun t_ hr_ => XS.iloadN A3_ hx rfl (Jvm.hb hby d18_10) rfl hr_) ?_
  refine own_by (T' := T3_) (g' := (mkF m 14 #[.val (.ref ca), .val (.int (2 : Int32)), .val (.int (4 : Int32)), .val (.ref a), .val (.int (2 : Int32))] [])) (fun t_ hr_ => XS.icmpNo A3_ hx rfl (Jvm.hb hby d18_11) rfl (tlt (by decide)).2.1 hr_) ?_
  refine own_by (T' := T3_) (g' := (mkF m 15 #[.val (.ref ca), .val (.int (2 : Int32)), .val (.int (4 : Int32)), .val (.ref a), .val (.int (2 : Int32))] [(.ref a)])) (fun t_ hr_ => XS.aloadN A3_ hx rfl (Jvm.hb hby d18_14) rfl rfl hr_) ?_
  refine own_by (T' := T3_) (g' := (mkF m 17 #[.val (.ref ca), .val (.int (2 : Int32)), .val (.int (4 : Int32)), .val (.ref a), .val (.int (2 : Int32))] [(.int (2 : Int32)), (.ref a)])) (fun t_ hr_ => XS.iload A3_ hx rfl (Jvm.hb hby d18_15) rfl hr_) ?_
  refine own_by (T' := T3_) (g' := (mkF m 18 #[.val (.ref ca), .val (.int (2 : Int32)), .val (.int (4 : Int32)), .val (.ref a), .val (.int (2 : Int32))] [(.ref ca), (.int (2 : Int32)), (.ref a)])) (fun t_ hr_ => XS.aloadN A3_ hx rfl (Jvm.hb hby d18_17) rfl rfl hr_) ?_
  refine own_by (T' := T3_) (g' := (mkF m 19 #[.val (.ref ca), .val (.int (2 : Int32)), .val (.int (4 : Int32)), .val (.ref a), .val (.int (2 : Int32))] [(.int (2 : Int32)), (.ref ca), (.int (2 : Int32)), (.ref a)])) (fun t_ hr_ => XS.iloadN A3_ hx rfl (Jvm.hb hby d18_18) rfl hr_) ?_
  refine own_caload w3_ hx (x := c2) VD1 (by decide) (g := (mkF m 19 #[.val (.ref ca), .val (.int (2 : Int32)), .val (.int (4 : Int32)), .val (.ref a), .val (.int (2 : Int32))] [(.int (2 : Int32)), (.ref ca), (.int (2 : Int32)), (.ref a)])) rfl rfl (Jvm.hb hby d18_19) rfl ?_
  show own_WP p e _ below s Z _ n0 _ T3_ (mkF m 20 #[.val (.ref ca), .val (.int (2 : Int32)), .val (.int (4 : Int32)), .val (.ref a), .val (.int (2 : Int32))] [(.int c2), (.int (2 : Int32)), (.ref a)])
  refine own_callS w3_ hx (y := (⟨"java/lang/StringUTF16", "putChar", "([BII)V"⟩ : MethodName)) (hw _ (List.mem_of_getElem? (i := 91) rfl)) (hw _ (List.mem_of_getElem? (i := 92) rfl)) (hw _ (List.mem_of_getElem? (i := 70) rfl)) (hw _ (List.mem_of_getElem? (i := 93) rfl)) (by decide) (kc := 0) (ks := 0) (argsL := [(.ref a), (.int (2 : Int32)), (.int c2)]) (rest := []) (own_payCt (W := 0) (ctPut l Z a0 hw US n0 h3_ (own_old w3_) a 2 c2 k (8 : Int32) _ VP1 rfl (by simp) (by simp) ga) w3_ (hw _ (List.mem_of_getElem? (i := 93) rfl)) (hw _ (List.mem_of_getElem? (i := 70) rfl)) hEL (by decide) (by decide) (own_one ⟨VP1.lt, own_safeB (own_hZ w3_) (hw _ (List.mem_of_getElem? (i := 16) rfl)) VP1 (by decide)⟩)) (g := (mkF m 20 #[.val (.ref ca), .val (.int (2 : Int32)), .val (.int (4 : Int32)), .val (.ref a), .val (.int (2 : Int32))] [(.int c2), (.int (2 : Int32)), (.ref a)])) rfl (by rw [hml]; rfl) (lenOf pd_860253318 rfl) rfl (by show 2 * 0 + _ ≤ _; exact Nat.le_of_eq rfl) (Jvm.hb hby d18_20) (by decide) (by decide) (fun v4_ T4_ vm4_ h4_ q4_ C4_ w4_ => ?_)
  obtain ⟨rfl, KP2, VP2⟩ := q4_
  have A4_ := own_at w4_
  show own_WP p e _ below s Z _ n0 _ T4_ (mkF m 23 #[.val (.ref ca), .val (.int (2 : Int32)), .val (.int (4 : Int32)), .val (.ref a), .val (.int (2 : Int32))] [])
  have VD2 := VD1.keep KP2 (ninS nca nin0)
  have EP2 := own_extK EP1 KP2 (allS ga0 all0)
  refine own_by (T' := T4_) (g' := (mkF m 26 #[.val (.ref ca), .val (.int ((2 : Int32) + (1 : Int32))), .val (.int (4 : Int32)), .val (.ref a), .val (.int (2 : Int32))] [])) (fun t_ hr_ => XS.iinc A4_ hx rfl (Jvm.hb hby d18_23) rfl (l' := #[.val (.ref ca), .val (.int ((2 : Int32) + (1 : Int32))), .val (.int (4 : Int32)), .val (.ref a), .val (.int (2 : Int32))]) rfl hr_) ?_
  refine own_by (T' := T4_) (g' := (mkF m 29 #[.val (.ref ca), .val (.int ((2 : Int32) + (1 : Int32))), .val (.int (4 : Int32)), .val (.ref a), .val (.int ((2 : Int32) + (1 : Int32)))] [])) (fun t_ hr_ => XS.iinc A4_ hx rfl (Jvm.hb hby d18_26) rfl (l' := #[.val (.ref ca), .val (.int ((2 : Int32) + (1 : Int32))), .val (.int (4 : Int32)), .val (.ref a), .val (.int ((2 : Int32) + (1 : Int32)))]) rfl hr_) ?_
  rw [show ((2 : Int32) + (1 : Int32)) = (3 : Int32) from (by decide)]
  show own_WP p e _ below s Z _ n0 _ T4_ (mkF m 29 #[.val (.ref ca), .val (.int (3 : Int32)), .val (.int (4 : Int32)), .val (.ref a), .val (.int (3 : Int32))] [])
  refine own_by (T' := T4_) (g' := (mkF m 8 #[.val (.ref ca), .val (.int (3 : Int32)), .val (.int (4 : Int32)), .val (.ref a), .val (.int (3 : Int32))] [])) (fun t_ hr_ => XS.goto A4_ hx rfl (pc0 := 29) (pc' := 8) rfl (Jvm.hb hby d18_29) (by decide) (by decide) hr_) ?_
  refine own_by (T' := T4_) (g' := (mkF m 10 #[.val (.ref ca), .val (.int (3 : Int32)), .val (.int (4 : Int32)), .val (.ref a), .val (.int (3 : Int32))] [(.int (3 : Int32))])) (fun t_ hr_ => XS.iload A4_ hx rfl (Jvm.hb hby d18_8) rfl hr_) ?_
  refine own_by (T' := T4_) (g' := (mkF m 11 #[.val (.ref ca), .val (.int (3 : Int32)), .val (.int (4 : Int32)), .val (.ref a), .val (.int (3 : Int32))] [(.int (4 : Int32)), (.int (3 : Int32))])) (fun t_ hr_ => XS.iloadN A4_ hx rfl (Jvm.hb hby d18_10) rfl hr_) ?_
  refine own_by (T' := T4_) (g' := (mkF m 14 #[.val (.ref ca), .val (.int (3 : Int32)), .val (.int (4 : Int32)), .val (.ref a), .val (.int (3 : Int32))] [])) (fun t_ hr_ => XS.icmpNo A4_ hx rfl (Jvm.hb hby d18_11) rfl (tlt (by decide)).2.1 hr_) ?_
  refine own_by (T' := T4_) (g' := (mkF m 15 #[.val (.ref ca), .val (.int (3 : Int32)), .val (.int (4 : Int32)), .val (.ref a), .val (.int (3 : Int32))] [(.ref a)])) (fun t_ hr_ => XS.aloadN A4_ hx rfl (Jvm.hb hby d18_14) rfl rfl hr_) ?_
  refine own_by (T' := T4_) (g' := (mkF m 17 #[.val (.ref ca), .val (.int (3 : Int32)), .val (.int (4 : Int32)), .val (.ref a), .val (.int (3 : Int32))] [(.int (3 : Int32)), (.ref a)])) (fun t_ hr_ => XS.iload A4_ hx rfl (Jvm.hb hby d18_15) rfl hr_) ?_
  refine own_by (T' := T4_) (g' := (mkF m 18 #[.val (.ref ca), .val (.int (3 : Int32)), .val (.int (4 : Int32)), .val (.ref a), .val (.int (3 : Int32))] [(.ref ca), (.int (3 : Int32)), (.ref a)])) (fun t_ hr_ => XS.aloadN A4_ hx rfl (Jvm.hb hby d18_17) rfl rfl hr_) ?_
  refine own_by (T' := T4_) (g' := (mkF m 19 #[.val (.ref ca), .val (.int (3 : Int32)), .val (.int (4 : Int32)), .val (.ref a), .val (.int (3 : Int32))] [(.int (3 : Int32)), (.ref ca), (.int (3 : Int32)), (.ref a)])) (fun t_ hr_ => XS.iloadN A4_ hx rfl (Jvm.hb hby d18_18) rfl hr_) ?_
  refine own_caload w4_ hx (x := c3) VD2 (by decide) (g := (mkF m 19 #[.val (.ref ca), .val (.int (3 : Int32)), .val (.int (4 : Int32)), .val (.ref a), .val (.int (3 : Int32))] [(.int (3 : Int32)), (.ref ca), (.int (3 : Int32)), (.ref a)])) rfl rfl (Jvm.hb hby d18_19) rfl ?_
  show own_WP p e _ below s Z _ n0 _ T4_ (mkF m 20 #[.val (.ref ca), .val (.int (3 : Int32)), .val (.int (4 : Int32)), .val (.ref a), .val (.int (3 : Int32))] [(.int c3), (.int (3 : Int32)), (.ref a)])
  refine own_callS w4_ hx (y := (⟨"java/lang/StringUTF16", "putChar", "([BII)V"⟩ : MethodName)) (hw _ (List.mem_of_getElem? (i := 91) rfl)) (hw _ (List.mem_of_getElem? (i := 92) rfl)) (hw _ (List.mem_of_getElem? (i := 70) rfl)) (hw _ (List.mem_of_getElem? (i := 93) rfl)) (by decide) (kc := 0) (ks := 0) (argsL := [(.ref a), (.int (3 : Int32)), (.int c3)]) (rest := []) (own_payCt (W := 0) (ctPut l Z a0 hw US n0 h4_ (own_old w4_) a 3 c3 k (8 : Int32) _ VP2 rfl (by simp) (by simp) ga) w4_ (hw _ (List.mem_of_getElem? (i := 93) rfl)) (hw _ (List.mem_of_getElem? (i := 70) rfl)) hEL (by decide) (by decide) (own_one ⟨VP2.lt, own_safeB (own_hZ w4_) (hw _ (List.mem_of_getElem? (i := 16) rfl)) VP2 (by decide)⟩)) (g := (mkF m 20 #[.val (.ref ca), .val (.int (3 : Int32)), .val (.int (4 : Int32)), .val (.ref a), .val (.int (3 : Int32))] [(.int c3), (.int (3 : Int32)), (.ref a)])) rfl (by rw [hml]; rfl) (lenOf pd_860253318 rfl) rfl (by show 2 * 0 + _ ≤ _; exact Nat.le_of_eq rfl) (Jvm.hb hby d18_20) (by decide) (by decide) (fun v5_ T5_ vm5_ h5_ q5_ C5_ w5_ => ?_)
  obtain ⟨rfl, KP3, VP3⟩ := q5_
  have A5_ := own_at w5_
  show own_WP p e _ below s Z _ n0 _ T5_ (mkF m 23 #[.val (.ref ca), .val (.int (3 : Int32)), .val (.int (4 : Int32)), .val (.ref a), .val (.int (3 : Int32))] [])
  have VD3 := VD2.keep KP3 (ninS nca nin0)
  have EP3 := own_extK EP2 KP3 (allS ga0 all0)
  refine own_by (T' := T5_) (g' := (mkF m 26 #[.val (.ref ca), .val (.int ((3 : Int32) + (1 : Int32))), .val (.int (4 : Int32)), .val (.ref a), .val (.int (3 : Int32))] [])) (fun t_ hr_ => XS.iinc A5_ hx rfl (Jvm.hb hby d18_23) rfl (l' := #[.val (.ref ca), .val (.int ((3 : Int32) + (1 : Int32))), .val (.int (4 : Int32)), .val (.ref a), .val (.int (3 : Int32))]) rfl hr_) ?_
  refine own_by (T' := T5_) (g' := (mkF m 29 #[.val (.ref ca), .val (.int ((3 : Int32) + (1 : Int32))), .val (.int (4 : Int32)), .val (.ref a), .val (.int ((3 : Int32) + (1 : Int32)))] [])) (fun t_ hr_ => XS.iinc A5_ hx rfl (Jvm.hb hby d18_26) rfl (l' := #[.val (.ref ca), .val (.int ((3 : Int32) + (1 : Int32))), .val (.int (4 : Int32)), .val (.ref a), .val (.int ((3 : Int32) + (1 : Int32)))]) rfl hr_) ?_
  rw [show ((3 : Int32) + (1 : Int32)) = (4 : Int32) from (by decide)]
  show own_WP p e _ below s Z _ n0 _ T5_ (mkF m 29 #[.val (.ref ca), .val (.int (4 : Int32)), .val (.int (4 : Int32)), .val (.ref a), .val (.int (4 : Int32))] [])
  refine own_by (T' := T5_) (g' := (mkF m 8 #[.val (.ref ca), .val (.int (4 : Int32)), .val (.int (4 : Int32)), .val (.ref a), .val (.int (4 : Int32))] [])) (fun t_ hr_ => XS.goto A5_ hx rfl (pc0 := 29) (pc' := 8) rfl (Jvm.hb hby d18_29) (by decide) (by decide) hr_) ?_
  refine own_by (T' := T5_) (g' := (mkF m 10 #[.val (.ref ca), .val (.int (4 : Int32)), .val (.int (4 : Int32)), .val (.ref a), .val (.int (4 : Int32))] [(.int (4 : Int32))])) (fun t_ hr_ => XS.iload A5_ hx rfl (Jvm.hb hby d18_8) rfl hr_) ?_
  refine own_by (T' := T5_) (g' := (mkF m 11 #[.val (.ref ca), .val (.int (4 : Int32)), .val (.int (4 : Int32)), .val (.ref a), .val (.int (4 : Int32))] [(.int (4 : Int32)), (.int (4 : Int32))])) (fun t_ hr_ => XS.iloadN A5_ hx rfl (Jvm.hb hby d18_10) rfl hr_) ?_
  refine own_by (T' := T5_) (g' := (mkF m 32 #[.val (.ref ca), .val (.int (4 : Int32)), .val (.int (4 : Int32)), .val (.ref a), .val (.int (4 : Int32))] [])) (fun t_ hr_ => XS.icmpYes A5_ hx rfl (pc0 := 11) (pc' := 32) rfl (Jvm.hb hby d18_11) rfl (flt (by decide)).2.1 (by decide) (by decide) hr_) ?_
  refine own_by (T' := T5_) (g' := (mkF m 33 #[.val (.ref ca), .val (.int (4 : Int32)), .val (.int (4 : Int32)), .val (.ref a), .val (.int (4 : Int32))] [(.ref a)])) (fun t_ hr_ => XS.aloadN A5_ hx rfl (Jvm.hb hby d18_32) rfl rfl hr_) ?_
  exact own_retA w5_ hx hEL hlk hret rfl rfl (Jvm.hb hby d18_33) (by decide) (by decide) ⟨_, _, rfl, EP3, VP3⟩

theorem ef_ctC54 (m : MethodId) (x0 : Addr) (x1 : Int32) (x2 : Addr) (x3 : Int32) (x4 : Int32) : entryFrame m #[(.ref x0), (.int x1), (.ref x2), (.int x3), (.int x4)] 7 = mkF m 0 #[.val (.ref x0), .val (.int x1), .val (.ref x2), .val (.int x3), .val (.int x4), .unset, .unset] [] := by first | (simp [entryFrame, mkF, argsToLocals, Value.category]; done) | rfl
set_option maxRecDepth 65536 in
set_option maxHeartbeats 40000000 in
theorem ctC54 (l : Launch) (Z : State) (a0 : Array Value) (hw : ∀ d ∈ tables_1, d.before a0 Z = true) (n0 : Nat) (h0 : Heap) (O0 : Old Z n0 h0) (ca ba : Addr) (kC kB : ClassId) (c0 c1 c2 c3 : Int32) (VC : Arv Z h0 ca kC .char (4 : Int32) [(.int c0), (.int c1), (.int c2), (.int c3)] (.int 0)) (VB : Arv Z h0 ba kB .byte (4 : Int32) [(.int (0 : Int32)), (.int (0 : Int32)), (.int (0 : Int32)), (.int (0 : Int32))] (.int 0)) (hne : ca ≠ ba) (gb : n0 ≤ ba) :
    own_Ct l (⟨"java/lang/StringUTF16", "compress", "([CI[BII)I"⟩ : MethodName) jdk_52_method_21_code 7 (some .int) ({ frames := 0, cells := 0, slots := 0, locals := 0 } : Room) Z consts_1 n0 #[(.ref ca), (.int (0 : Int32)), (.ref ba), (.int (0 : Int32)), (.int (4 : Int32))] h0 [ba] (fun v h => (v = some (.int 0) ∧ (255 : Int32) < c0 ∧ Keep h0 h [ba]) ∨ (v = some (.int 1) ∧ (255 : Int32) < c1 ∧ Keep h0 h [ba]) ∨ (v = some (.int 2) ∧ (255 : Int32) < c2 ∧ Keep h0 h [ba]) ∨ (v = some (.int 3) ∧ (255 : Int32) < c3 ∧ Keep h0 h [ba]) ∨ (v = some (.int 4) ∧ (¬ (255 : Int32) < c0 ∧ ¬ (255 : Int32) < c1 ∧ ¬ (255 : Int32) < c2 ∧ ¬ (255 : Int32) < c3) ∧ Keep h0 h [ba] ∧ Arv Z h ba kB .byte (4 : Int32) [(.int (c0.toInt8.toInt32)), (.int (c1.toInt8.toInt32)), (.int (c2.toInt8.toInt32)), (.int (c3.toInt8.toInt32))] (.int 0))) := by
  have hEL := own_EL hw
  refine own_body pn_269384959 O0 (fun p e s m below meth cc_ T0 vm0 hx hby hml0 hret hlk hnm hsf w0 => ?_)
  have hml : cc_.maxLocals = 7 := hml0
  have A_0 := own_at w0
  refine own_entry (ef_ctC54 m ca (0 : Int32) ba (0 : Int32) (4 : Int32)) ?_
  refine own_by (T' := T0) (g' := (mkF m 1 #[.val (.ref ca), .val (.int (0 : Int32)), .val (.ref ba), .val (.int (0 : Int32)), .val (.int (4 : Int32)), .unset, .unset] [(.int (0 : Int32))])) (fun t_ hr_ => XS.iconst A_0 hx rfl (Jvm.hb hby d15_0) hr_) ?_
  refine own_by (T' := T0) (g' := (mkF m 3 #[.val (.ref ca), .val (.int (0 : Int32)), .val (.ref ba), .val (.int (0 : Int32)), .val (.int (4 : Int32)), .val (.int (0 : Int32)), .unset] [])) (fun t_ hr_ => XS.istore A_0 hx rfl (Jvm.hb hby d15_1) rfl (l' := #[.val (.ref ca), .val (.int (0 : Int32)), .val (.ref ba), .val (.int (0 : Int32)), .val (.int (4 : Int32)), .val (.int (0 : Int32)), .unset]) rfl hr_) ?_
  refine own_by (T' := T0) (g' := (mkF m 5 #[.val (.ref ca), .val (.int (0 : Int32)), .val (.ref ba), .val (.int (0 : Int32)), .val (.int (4 : Int32)), .val (.int (0 : Int32)), .unset] [(.int (0 : Int32))])) (fun t_ hr_ => XS.iload A_0 hx rfl (Jvm.hb hby d15_3) rfl hr_) ?_
  refine own_by (T' := T0) (g' := (mkF m 7 #[.val (.ref ca), .val (.int (0 : Int32)), .val (.ref ba), .val (.int (0 : Int32)), .val (.int (4 : Int32)), .val (.int (0 : Int32)), .unset] [(.int (4 : Int32)), (.int (0 : Int32))])) (fun t_ hr_ => XS.iload A_0 hx rfl (Jvm.hb hby d15_5) rfl hr_) ?_
  refine own_by (T' := T0) (g' := (mkF m 10 #[.val (.ref ca), .val (.int (0 : Int32)), .val (.ref ba), .val (.int (0 : Int32)), .val (.int (4 : Int32)), .val (.int (0 : Int32)), .unset] [])) (fun t_ hr_ => XS.icmpNo A_0 hx rfl (Jvm.hb hby d15_7) rfl (tlt (by decide)).2.1 hr_) ?_
  refine own_by (T' := T0) (g' := (mkF m 11 #[.val (.ref ca), .val (.int (0 : Int32)), .val (.ref ba), .val (.int (0 : Int32)), .val (.int (4 : Int32)), .val (.int (0 : Int32)), .unset] [(.ref ca)])) (fun t_ hr_ => XS.aloadN A_0 hx rfl (Jvm.hb hby d15_10) rfl rfl hr_) ?_
  refine own_by (T' := T0) (g' := (mkF m 12 #[.val (.ref ca), .val (.int (0 : Int32)), .val (.ref ba), .val (.int (0 : Int32)), .val (.int (4 : Int32)), .val (.int (0 : Int32)), .unset] [(.int (0 : Int32)), (.ref ca)])) (fun t_ hr_ => XS.iloadN A_0 hx rfl (Jvm.hb hby d15_11) rfl hr_) ?_
  refine own_caload w0 hx (x := c0) VC (by decide) (g := (mkF m 12 #[.val (.ref ca), .val (.int (0 : Int32)), .val (.ref ba), .val (.int (0 : Int32)), .val (.int (4 : Int32)), .val (.int (0 : Int32)), .unset] [(.int (0 : Int32)), (.ref ca)])) rfl rfl (Jvm.hb hby d15_12) rfl ?_
  show own_WP p e _ below s Z _ n0 _ T0 (mkF m 13 #[.val (.ref ca), .val (.int (0 : Int32)), .val (.ref ba), .val (.int (0 : Int32)), .val (.int (4 : Int32)), .val (.int (0 : Int32)), .unset] [(.int c0)])
  refine own_by (T' := T0) (g' := (mkF m 15 #[.val (.ref ca), .val (.int (0 : Int32)), .val (.ref ba), .val (.int (0 : Int32)), .val (.int (4 : Int32)), .val (.int (0 : Int32)), .val (.int c0)] [])) (fun t_ hr_ => XS.istore A_0 hx rfl (Jvm.hb hby d15_13) rfl (l' := #[.val (.ref ca), .val (.int (0 : Int32)), .val (.ref ba), .val (.int (0 : Int32)), .val (.int (4 : Int32)), .val (.int (0 : Int32)), .val (.int c0)]) rfl hr_) ?_
  refine own_by (T' := T0) (g' := (mkF m 17 #[.val (.ref ca), .val (.int (0 : Int32)), .val (.ref ba), .val (.int (0 : Int32)), .val (.int (4 : Int32)), .val (.int (0 : Int32)), .val (.int c0)] [(.int c0)])) (fun t_ hr_ => XS.iload A_0 hx rfl (Jvm.hb hby d15_15) rfl hr_) ?_
  refine own_by (T' := T0) (g' := (mkF m 20 #[.val (.ref ca), .val (.int (0 : Int32)), .val (.ref ba), .val (.int (0 : Int32)), .val (.int (4 : Int32)), .val (.int (0 : Int32)), .val (.int c0)] [(.int (255 : Int32)), (.int c0)])) (fun t_ hr_ => XS.sipush A_0 hx rfl (Jvm.hb hby d15_17) hr_) ?_
  by_cases hc1_ : (255 : Int32) < c0
  · refine own_by (T' := T0) (g' := (mkF m 23 #[.val (.ref ca), .val (.int (0 : Int32)), .val (.ref ba), .val (.int (0 : Int32)), .val (.int (4 : Int32)), .val (.int (0 : Int32)), .val (.int c0)] [])) (fun t_ hr_ => XS.icmpNo A_0 hx rfl (Jvm.hb hby d15_20) rfl (tlt hc1_).2.2.2 hr_) ?_
    refine own_by (T' := T0) (g' := (mkF m 25 #[.val (.ref ca), .val (.int (0 : Int32)), .val (.ref ba), .val (.int (0 : Int32)), .val (.int (4 : Int32)), .val (.int (0 : Int32)), .val (.int c0)] [(.int (0 : Int32))])) (fun t_ hr_ => XS.iload A_0 hx rfl (Jvm.hb hby d15_23) rfl hr_) ?_
    exact own_retI w0 hx hEL hlk hret (Jvm.hb hby d15_25) (by decide) (by decide) (Or.inl ⟨rfl, hc1_, (Keep.refl h0 [ba])⟩)
  · refine own_by (T' := T0) (g' := (mkF m 26 #[.val (.ref ca), .val (.int (0 : Int32)), .val (.ref ba), .val (.int (0 : Int32)), .val (.int (4 : Int32)), .val (.int (0 : Int32)), .val (.int c0)] [])) (fun t_ hr_ => XS.icmpYes A_0 hx rfl (pc0 := 20) (pc' := 26) rfl (Jvm.hb hby d15_20) rfl (flt hc1_).2.2.2 (by decide) (by decide) hr_) ?_
    refine own_by (T' := T0) (g' := (mkF m 27 #[.val (.ref ca), .val (.int (0 : Int32)), .val (.ref ba), .val (.int (0 : Int32)), .val (.int (4 : Int32)), .val (.int (0 : Int32)), .val (.int c0)] [(.ref ba)])) (fun t_ hr_ => XS.aloadN A_0 hx rfl (Jvm.hb hby d15_26) rfl rfl hr_) ?_
    refine own_by (T' := T0) (g' := (mkF m 28 #[.val (.ref ca), .val (.int (0 : Int32)), .val (.ref ba), .val (.int (0 : Int32)), .val (.int (4 : Int32)), .val (.int (0 : Int32)), .val (.int c0)] [(.int (0 : Int32)), (.ref ba)])) (fun t_ hr_ => XS.iloadN A_0 hx rfl (Jvm.hb hby d15_27) rfl hr_) ?_
    refine own_by (T' := T0) (g' := (mkF m 30 #[.val (.ref ca), .val (.int (0 : Int32)), .val (.ref ba), .val (.int (0 : Int32)), .val (.int (4 : Int32)), .val (.int (0 : Int32)), .val (.int c0)] [(.int c0), (.int (0 : Int32)), (.ref ba)])) (fun t_ hr_ => XS.iload A_0 hx rfl (Jvm.hb hby d15_28) rfl hr_) ?_
    refine own_by (T' := T0) (g' := (mkF m 31 #[.val (.ref ca), .val (.int (0 : Int32)), .val (.ref ba), .val (.int (0 : Int32)), .val (.int (4 : Int32)), .val (.int (0 : Int32)), .val (.int c0)] [(.int (c0.toInt8.toInt32)), (.int (0 : Int32)), (.ref ba)])) (fun t_ hr_ => XS.i2b A_0 hx rfl (Jvm.hb hby d15_30) rfl hr_) ?_
    refine own_bastore w0 hx VB (by decide) (own_lo8lo8 c0) (hsf ba (List.mem_of_getElem? (i := 0) rfl)) (i := 0) rfl (by simp) gb (g := (mkF m 31 #[.val (.ref ca), .val (.int (0 : Int32)), .val (.ref ba), .val (.int (0 : Int32)), .val (.int (4 : Int32)), .val (.int (0 : Int32)), .val (.int c0)] [(.int (c0.toInt8.toInt32)), (.int (0 : Int32)), (.ref ba)])) rfl rfl (Jvm.hb hby d15_31) (fun T2_ h2_ W2_ V2_ w2_ => ?_)
    have A2_ := own_at w2_
    show own_WP p e _ below s Z _ n0 _ T2_ (mkF m 32 #[.val (.ref ca), .val (.int (0 : Int32)), .val (.ref ba), .val (.int (0 : Int32)), .val (.int (4 : Int32)), .val (.int (0 : Int32)), .val (.int c0)] [])
    refine own_by (T' := T2_) (g' := (mkF m 35 #[.val (.ref ca), .val (.int ((0 : Int32) + (1 : Int32))), .val (.ref ba), .val (.int (0 : Int32)), .val (.int (4 : Int32)), .val (.int (0 : Int32)), .val (.int c0)] [])) (fun t_ hr_ => XS.iinc A2_ hx rfl (Jvm.hb hby d15_32) rfl (l' := #[.val (.ref ca), .val (.int ((0 : Int32) + (1 : Int32))), .val (.ref ba), .val (.int (0 : Int32)), .val (.int (4 : Int32)), .val (.int (0 : Int32)), .val (.int c0)]) rfl hr_) ?_
    refine own_by (T' := T2_) (g' := (mkF m 38 #[.val (.ref ca), .val (.int ((0 : Int32) + (1 : Int32))), .val (.ref ba), .val (.int ((0 : Int32) + (1 : Int32))), .val (.int (4 : Int32)), .val (.int (0 : Int32)), .val (.int c0)] [])) (fun t_ hr_ => XS.iinc A2_ hx rfl (Jvm.hb hby d15_35) rfl (l' := #[.val (.ref ca), .val (.int ((0 : Int32) + (1 : Int32))), .val (.ref ba), .val (.int ((0 : Int32) + (1 : Int32))), .val (.int (4 : Int32)), .val (.int (0 : Int32)), .val (.int c0)]) rfl hr_) ?_
    refine own_by (T' := T2_) (g' := (mkF m 41 #[.val (.ref ca), .val (.int ((0 : Int32) + (1 : Int32))), .val (.ref ba), .val (.int ((0 : Int32) + (1 : Int32))), .val (.int (4 : Int32)), .val (.int ((0 : Int32) + (1 : Int32))), .val (.int c0)] [])) (fun t_ hr_ => XS.iinc A2_ hx rfl (Jvm.hb hby d15_38) rfl (l' := #[.val (.ref ca), .val (.int ((0 : Int32) + (1 : Int32))), .val (.ref ba), .val (.int ((0 : Int32) + (1 : Int32))), .val (.int (4 : Int32)), .val (.int ((0 : Int32) + (1 : Int32))), .val (.int c0)]) rfl hr_) ?_
    rw [show ((0 : Int32) + (1 : Int32)) = (1 : Int32) from (by decide)]
    show own_WP p e _ below s Z _ n0 _ T2_ (mkF m 41 #[.val (.ref ca), .val (.int (1 : Int32)), .val (.ref ba), .val (.int (1 : Int32)), .val (.int (4 : Int32)), .val (.int (1 : Int32)), .val (.int c0)] [])
    refine own_by (T' := T2_) (g' := (mkF m 3 #[.val (.ref ca), .val (.int (1 : Int32)), .val (.ref ba), .val (.int (1 : Int32)), .val (.int (4 : Int32)), .val (.int (1 : Int32)), .val (.int c0)] [])) (fun t_ hr_ => XS.goto A2_ hx rfl (pc0 := 41) (pc' := 3) rfl (Jvm.hb hby d15_41) (by decide) (by decide) hr_) ?_
    have VC2_ := VC.other W2_ hne
    have Sf2_ := Safe.wr W2_ (hsf ba (List.mem_of_getElem? (i := 0) rfl)) (own_chv w0) (hsf ba (List.mem_of_getElem? (i := 0) rfl))
    refine own_by (T' := T2_) (g' := (mkF m 5 #[.val (.ref ca), .val (.int (1 : Int32)), .val (.ref ba), .val (.int (1 : Int32)), .val (.int (4 : Int32)), .val (.int (1 : Int32)), .val (.int c0)] [(.int (1 : Int32))])) (fun t_ hr_ => XS.iload A2_ hx rfl (Jvm.hb hby d15_3) rfl hr_) ?_
    refine own_by (T' := T2_) (g' := (mkF m 7 #[.val (.ref ca), .val (.int (1 : Int32)), .val (.ref ba), .val (.int (1 : Int32)), .val (.int (4 : Int32)), .val (.int (1 : Int32)), .val (.int c0)] [(.int (4 : Int32)), (.int (1 : Int32))])) (fun t_ hr_ => XS.iload A2_ hx rfl (Jvm.hb hby d15_5) rfl hr_) ?_
    refine own_by (T' := T2_) (g' := (mkF m 10 #[.val (.ref ca), .val (.int (1 : Int32)), .val (.ref ba), .val (.int (1 : Int32)), .val (.int (4 : Int32)), .val (.int (1 : Int32)), .val (.int c0)] [])) (fun t_ hr_ => XS.icmpNo A2_ hx rfl (Jvm.hb hby d15_7) rfl (tlt (by decide)).2.1 hr_) ?_
    refine own_by (T' := T2_) (g' := (mkF m 11 #[.val (.ref ca), .val (.int (1 : Int32)), .val (.ref ba), .val (.int (1 : Int32)), .val (.int (4 : Int32)), .val (.int (1 : Int32)), .val (.int c0)] [(.ref ca)])) (fun t_ hr_ => XS.aloadN A2_ hx rfl (Jvm.hb hby d15_10) rfl rfl hr_) ?_
    refine own_by (T' := T2_) (g' := (mkF m 12 #[.val (.ref ca), .val (.int (1 : Int32)), .val (.ref ba), .val (.int (1 : Int32)), .val (.int (4 : Int32)), .val (.int (1 : Int32)), .val (.int c0)] [(.int (1 : Int32)), (.ref ca)])) (fun t_ hr_ => XS.iloadN A2_ hx rfl (Jvm.hb hby d15_11) rfl hr_) ?_
    refine own_caload w2_ hx (x := c1) VC2_ (by decide) (g := (mkF m 12 #[.val (.ref ca), .val (.int (1 : Int32)), .val (.ref ba), .val (.int (1 : Int32)), .val (.int (4 : Int32)), .val (.int (1 : Int32)), .val (.int c0)] [(.int (1 : Int32)), (.ref ca)])) rfl rfl (Jvm.hb hby d15_12) rfl ?_
    show own_WP p e _ below s Z _ n0 _ T2_ (mkF m 13 #[.val (.ref ca), .val (.int (1 : Int32)), .val (.ref ba), .val (.int (1 : Int32)), .val (.int (4 : Int32)), .val (.int (1 : Int32)), .val (.int c0)] [(.int c1)])
    refine own_by (T' := T2_) (g' := (mkF m 15 #[.val (.ref ca), .val (.int (1 : Int32)), .val (.ref ba), .val (.int (1 : Int32)), .val (.int (4 : Int32)), .val (.int (1 : Int32)), .val (.int c1)] [])) (fun t_ hr_ => XS.istore A2_ hx rfl (Jvm.hb hby d15_13) rfl (l' := #[.val (.ref ca), .val (.int (1 : Int32)), .val (.ref ba), .val (.int (1 : Int32)), .val (.int (4 : Int32)), .val (.int (1 : Int32)), .val (.int c1)]) rfl hr_) ?_
    refine own_by (T' := T2_) (g' := (mkF m 17 #[.val (.ref ca), .val (.int (1 : Int32)), .val (.ref ba), .val (.int (1 : Int32)), .val (.int (4 : Int32)), .val (.int (1 : Int32)), .val (.int c1)] [(.int c1)])) (fun t_ hr_ => XS.iload A2_ hx rfl (Jvm.hb hby d15_15) rfl hr_) ?_
    refine own_by (T' := T2_) (g' := (mkF m 20 #[.val (.ref ca), .val (.int (1 : Int32)), .val (.ref ba), .val (.int (1 : Int32)), .val (.int (4 : Int32)), .val (.int (1 : Int32)), .val (.int c1)] [(.int (255 : Int32)), (.int c1)])) (fun t_ hr_ => XS.sipush A2_ hx rfl (Jvm.hb hby d15_17) hr_) ?_
    by_cases hc3_ : (255 : Int32) < c1
    · refine own_by (T' := T2_) (g' := (mkF m 23 #[.val (.ref ca), .val (.int (1 : Int32)), .val (.ref ba), .val (.int (1 : Int32)), .val (.int (4 : Int32)), .val (.int (1 : Int32)), .val (.int c1)] [])) (fun t_ hr_ => XS.icmpNo A2_ hx rfl (Jvm.hb hby d15_20) rfl (tlt hc3_).2.2.2 hr_) ?_
      refine own_by (T' := T2_) (g' := (mkF m 25 #[.val (.ref ca), .val (.int (1 : Int32)), .val (.ref ba), .val (.int (1 : Int32)), .val (.int (4 : Int32)), .val (.int (1 : Int32)), .val (.int c1)] [(.int (1 : Int32))])) (fun t_ hr_ => XS.iload A2_ hx rfl (Jvm.hb hby d15_23) rfl hr_) ?_
      exact own_retI w2_ hx hEL hlk hret (Jvm.hb hby d15_25) (by decide) (by decide) (Or.inr (Or.inl ⟨rfl, hc3_, ((Keep.refl h0 [ba]).wr W2_ (Or.inl (List.mem_of_getElem? (i := 0) rfl)))⟩))
    · refine own_by (T' := T2_) (g' := (mkF m 26 #[.val (.ref ca), .val (.int (1 : Int32)), .val (.ref ba), .val (.int (1 : Int32)), .val (.int (4 : Int32)), .val (.int (1 : Int32)), .val (.int c1)] [])) (fun t_ hr_ => XS.icmpYes A2_ hx rfl (pc0 := 20) (pc' := 26) rfl (Jvm.hb hby d15_20) rfl (flt hc3_).2.2.2 (by decide) (by decide) hr_) ?_
      refine own_by (T' := T2_) (g' := (mkF m 27 #[.val (.ref ca), .val (.int (1 : Int32)), .val (.ref ba), .val (.int (1 : Int32)), .val (.int (4 : Int32)), .val (.int (1 : Int32)), .val (.int c1)] [(.ref ba)])) (fun t_ hr_ => XS.aloadN A2_ hx rfl (Jvm.hb hby d15_26) rfl rfl hr_) ?_
      refine own_by (T' := T2_) (g' := (mkF m 28 #[.val (.ref ca), .val (.int (1 : Int32)), .val (.ref ba), .val (.int (1 : Int32)), .val (.int (4 : Int32)), .val (.int (1 : Int32)), .val (.int c1)] [(.int (1 : Int32)), (.ref ba)])) (fun t_ hr_ => XS.iloadN A2_ hx rfl (Jvm.hb hby d15_27) rfl hr_) ?_
      refine own_by (T' := T2_) (g' := (mkF m 30 #[.val (.ref ca), .val (.int (1 : Int32)), .val (.ref ba), .val (.int (1 : Int32)), .val (.int (4 : Int32)), .val (.int (1 : Int32)), .val (.int c1)] [(.int c1), (.int (1 : Int32)), (.ref ba)])) (fun t_ hr_ => XS.iload A2_ hx rfl (Jvm.hb hby d15_28) rfl hr_) ?_
      refine own_by (T' := T2_) (g' := (mkF m 31 #[.val (.ref ca), .val (.int (1 : Int32)), .val (.ref ba), .val (.int (1 : Int32)), .val (.int (4 : Int32)), .val (.int (1 : Int32)), .val (.int c1)] [(.int (c1.toInt8.toInt32)), (.int (1 : Int32)), (.ref ba)])) (fun t_ hr_ => XS.i2b A2_ hx rfl (Jvm.hb hby d15_30) rfl hr_) ?_
      refine own_bastore w2_ hx V2_ (by decide) (own_lo8lo8 c1) Sf2_ (i := 1) rfl (by simp) gb (g := (mkF m 31 #[.val (.ref ca), .val (.int (1 : Int32)), .val (.ref ba), .val (.int (1 : Int32)), .val (.int (4 : Int32)), .val (.int (1 : Int32)), .val (.int c1)] [(.int (c1.toInt8.toInt32)), (.int (1 : Int32)), (.ref ba)])) rfl rfl (Jvm.hb hby d15_31) (fun T4_ h4_ W4_ V4_ w4_ => ?_)
      have A4_ := own_at w4_
      show own_WP p e _ below s Z _ n0 _ T4_ (mkF m 32 #[.val (.ref ca), .val (.int (1 : Int32)), .val (.ref ba), .val (.int (1 : Int32)), .val (.int (4 : Int32)), .val (.int (1 : Int32)), .val (.int c1)] [])
      refine own_by (T' := T4_) (g' := (mkF m 35 #[.val (.ref ca), .val (.int ((1 : Int32) + (1 : Int32))), .val (.ref ba), .val (.int (1 : Int32)), .val (.int (4 : Int32)), .val (.int (1 : Int32)), .val (.int c1)] [])) (fun t_ hr_ => XS.iinc A4_ hx rfl (Jvm.hb hby d15_32) rfl (l' := #[.val (.ref ca), .val (.int ((1 : Int32) + (1 : Int32))), .val (.ref ba), .val (.int (1 : Int32)), .val (.int (4 : Int32)), .val (.int (1 : Int32)), .val (.int c1)]) rfl hr_) ?_
      refine own_by (T' := T4_) (g' := (mkF m 38 #[.val (.ref ca), .val (.int ((1 : Int32) + (1 : Int32))), .val (.ref ba), .val (.int ((1 : Int32) + (1 : Int32))), .val (.int (4 : Int32)), .val (.int (1 : Int32)), .val (.int c1)] [])) (fun t_ hr_ => XS.iinc A4_ hx rfl (Jvm.hb hby d15_35) rfl (l' := #[.val (.ref ca), .val (.int ((1 : Int32) + (1 : Int32))), .val (.ref ba), .val (.int ((1 : Int32) + (1 : Int32))), .val (.int (4 : Int32)), .val (.int (1 : Int32)), .val (.int c1)]) rfl hr_) ?_
      refine own_by (T' := T4_) (g' := (mkF m 41 #[.val (.ref ca), .val (.int ((1 : Int32) + (1 : Int32))), .val (.ref ba), .val (.int ((1 : Int32) + (1 : Int32))), .val (.int (4 : Int32)), .val (.int ((1 : Int32) + (1 : Int32))), .val (.int c1)] [])) (fun t_ hr_ => XS.iinc A4_ hx rfl (Jvm.hb hby d15_38) rfl (l' := #[.val (.ref ca), .val (.int ((1 : Int32) + (1 : Int32))), .val (.ref ba), .val (.int ((1 : Int32) + (1 : Int32))), .val (.int (4 : Int32)), .val (.int ((1 : Int32) + (1 : Int32))), .val (.int c1)]) rfl hr_) ?_
      rw [show ((1 : Int32) + (1 : Int32)) = (2 : Int32) from (by decide)]
      show own_WP p e _ below s Z _ n0 _ T4_ (mkF m 41 #[.val (.ref ca), .val (.int (2 : Int32)), .val (.ref ba), .val (.int (2 : Int32)), .val (.int (4 : Int32)), .val (.int (2 : Int32)), .val (.int c1)] [])
      refine own_by (T' := T4_) (g' := (mkF m 3 #[.val (.ref ca), .val (.int (2 : Int32)), .val (.ref ba), .val (.int (2 : Int32)), .val (.int (4 : Int32)), .val (.int (2 : Int32)), .val (.int c1)] [])) (fun t_ hr_ => XS.goto A4_ hx rfl (pc0 := 41) (pc' := 3) rfl (Jvm.hb hby d15_41) (by decide) (by decide) hr_) ?_
      have VC4_ := VC2_.other W4_ hne
      have Sf4_ := Safe.wr W4_ Sf2_ (own_chv w2_) Sf2_
      refine own_by (T' := T4_) (g' := (mkF m 5 #[.val (.ref ca), .val (.int (2 : Int32)), .val (.ref ba), .val (.int (2 : Int32)), .val (.int (4 : Int32)), .val (.int (2 : Int32)), .val (.int c1)] [(.int (2 : Int32))])) (fun t_ hr_ => XS.iload A4_ hx rfl (Jvm.hb hby d15_3) rfl hr_) ?_
      refine own_by (T' := T4_) (g' := (mkF m 7 #[.val (.ref ca), .val (.int (2 : Int32)), .val (.ref ba), .val (.int (2 : Int32)), .val (.int (4 : Int32)), .val (.int (2 : Int32)), .val (.int c1)] [(.int (4 : Int32)), (.int (2 : Int32))])) (fun t_ hr_ => XS.iload A4_ hx rfl (Jvm.hb hby d15_5) rfl hr_) ?_
      refine own_by (T' := T4_) (g' := (mkF m 10 #[.val (.ref ca), .val (.int (2 : Int32)), .val (.ref ba), .val (.int (2 : Int32)), .val (.int (4 : Int32)), .val (.int (2 : Int32)), .val (.int c1)] [])) (fun t_ hr_ => XS.icmpNo A4_ hx rfl (Jvm.hb hby d15_7) rfl (tlt (by decide)).2.1 hr_) ?_
      refine own_by (T' := T4_) (g' := (mkF m 11 #[.val (.ref ca), .val (.int (2 : Int32)), .val (.ref ba), .val (.int (2 : Int32)), .val (.int (4 : Int32)), .val (.int (2 : Int32)), .val (.int c1)] [(.ref ca)])) (fun t_ hr_ => XS.aloadN A4_ hx rfl (Jvm.hb hby d15_10) rfl rfl hr_) ?_
      refine own_by (T' := T4_) (g' := (mkF m 12 #[.val (.ref ca), .val (.int (2 : Int32)), .val (.ref ba), .val (.int (2 : Int32)), .val (.int (4 : Int32)), .val (.int (2 : Int32)), .val (.int c1)] [(.int (2 : Int32)), (.ref ca)])) (fun t_ hr_ => XS.iloadN A4_ hx rfl (Jvm.hb hby d15_11) rfl hr_) ?_
      refine own_caload w4_ hx (x := c2) VC4_ (by decide) (g := (mkF m 12 #[.val (.ref ca), .val (.int (2 : Int32)), .val (.ref ba), .val (.int (2 : Int32)), .val (.int (4 : Int32)), .val (.int (2 : Int32)), .val (.int c1)] [(.int (2 : Int32)), (.ref ca)])) rfl rfl (Jvm.hb hby d15_12) rfl ?_
      show own_WP p e _ below s Z _ n0 _ T4_ (mkF m 13 #[.val (.ref ca), .val (.int (2 : Int32)), .val (.ref ba), .val (.int (2 : Int32)), .val (.int (4 : Int32)), .val (.int (2 : Int32)), .val (.int c1)] [(.int c2)])
      refine own_by (T' := T4_) (g' := (mkF m 15 #[.val (.ref ca), .val (.int (2 : Int32)), .val (.ref ba), .val (.int (2 : Int32)), .val (.int (4 : Int32)), .val (.int (2 : Int32)), .val (.int c2)] [])) (fun t_ hr_ => XS.istore A4_ hx rfl (Jvm.hb hby d15_13) rfl (l' := #[.val (.ref ca), .val (.int (2 : Int32)), .val (.ref ba), .val (.int (2 : Int32)), .val (.int (4 : Int32)), .val (.int (2 : Int32)), .val (.int c2)]) rfl hr_) ?_
      refine own_by (T' := T4_) (g' := (mkF m 17 #[.val (.ref ca), .val (.int (2 : Int32)), .val (.ref ba), .val (.int (2 : Int32)), .val (.int (4 : Int32)), .val (.int (2 : Int32)), .val (.int c2)] [(.int c2)])) (fun t_ hr_ => XS.iload A4_ hx rfl (Jvm.hb hby d15_15) rfl hr_) ?_
      refine own_by (T' := T4_) (g' := (mkF m 20 #[.val (.ref ca), .val (.int (2 : Int32)), .val (.ref ba), .val (.int (2 : Int32)), .val (.int (4 : Int32)), .val (.int (2 : Int32)), .val (.int c2)] [(.int (255 : Int32)), (.int c2)])) (fun t_ hr_ => XS.sipush A4_ hx rfl (Jvm.hb hby d15_17) hr_) ?_
      by_cases hc5_ : (255 : Int32) < c2
      · refine own_by (T' := T4_) (g' := (mkF m 23 #[.val (.ref ca), .val (.int (2 : Int32)), .val (.ref ba), .val (.int (2 : Int32)), .val (.int (4 : Int32)), .val (.int (2 : Int32)), .val (.int c2)] [])) (fun t_ hr_ => XS.icmpNo A4_ hx rfl (Jvm.hb hby d15_20) rfl (tlt hc5_).2.2.2 hr_) ?_
        refine own_by (T' := T4_) (g' := (mkF m 25 #[.val (.ref ca), .val (.int (2 : Int32)), .val (.ref ba), .val (.int (2 : Int32)), .val (.int (4 : Int32)), .val (.int (2 : Int32)), .val (.int c2)] [(.int (2 : Int32))])) (fun t_ hr_ => XS.iload A4_ hx rfl (Jvm.hb hby d15_23) rfl hr_) ?_
        exact own_retI w4_ hx hEL hlk hret (Jvm.hb hby d15_25) (by decide) (by decide) (Or.inr (Or.inr (Or.inl ⟨rfl, hc5_, (((Keep.refl h0 [ba]).wr W2_ (Or.inl (List.mem_of_getElem? (i := 0) rfl))).wr W4_ (Or.inl (List.mem_of_getElem? (i := 0) rfl)))⟩)))
      · refine own_by (T' := T4_) (g' := (mkF m 26 #[.val (.ref ca), .val (.int (2 : Int32)), .val (.ref ba), .val (.int (2 : Int32)), .val (.int (4 : Int32)), .val (.int (2 : Int32)), .val (.int c2)] [])) (fun t_ hr_ => XS.icmpYes A4_ hx rfl (pc0 := 20) (pc' := 26) rfl (Jvm.hb hby d15_20) rfl (flt hc5_).2.2.2 (by decide) (by decide) hr_) ?_
        refine own_by (T' := T4_) (g' := (mkF m 27 #[.val (.ref ca), .val (.int (2 : Int32)), .val (.ref ba), .val (.int (2 : Int32)), .val (.int (4 : Int32)), .val (.int (2 : Int32)), .val (.int c2)] [(.ref ba)])) (fun t_ hr_ => XS.aloadN A4_ hx rfl (Jvm.hb hby d15_26) rfl rfl hr_) ?_
        refine own_by (T' := T4_) (g' := (mkF m 28 #[.val (.ref ca), .val (.int (2 : Int32)), .val (.ref ba), .val (.int (2 : Int32)), .val (.int (4 : Int32)), .val (.int (2 : Int32)), .val (.int c2)] [(.int (2 : Int32)), (.ref ba)])) (fun t_ hr_ => XS.iloadN A4_ hx rfl (Jvm.hb hby d15_27) rfl hr_) ?_
        refine own_by (T' := T4_) (g' := (mkF m 30 #[.val (.ref ca), .val (.int (2 : Int32)), .val (.ref ba), .val (.int (2 : Int32)), .val (.int (4 : Int32)), .val (.int (2 : Int32)), .val (.int c2)] [(.int c2), (.int (2 : Int32)), (.ref ba)])) (fun t_ hr_ => XS.iload A4_ hx rfl (Jvm.hb hby d15_28) rfl hr_) ?_
        refine own_by (T' := T4_) (g' := (mkF m 31 #[.val (.ref ca), .val (.int (2 : Int32)), .val (.ref ba), .val (.int (2 : Int32)), .val (.int (4 : Int32)), .val (.int (2 : Int32)), .val (.int c2)] [(.int (c2.toInt8.toInt32)), (.int (2 : Int32)), (.ref ba)])) (fun t_ hr_ => XS.i2b A4_ hx rfl (Jvm.hb hby d15_30) rfl hr_) ?_
        refine own_bastore w4_ hx V4_ (by decide) (own_lo8lo8 c2) Sf4_ (i := 2) rfl (by simp) gb (g := (mkF m 31 #[.val (.ref ca), .val (.int (2 : Int32)), .val (.ref ba), .val (.int (2 : Int32)), .val (.int (4 : Int32)), .val (.int (2 : Int32)), .val (.int c2)] [(.int (c2.toInt8.toInt32)), (.int (2 : Int32)), (.ref ba)])) rfl rfl (Jvm.hb hby d15_31) (fun T6_ h6_ W6_ V6_ w6_ => ?_)
        have A6_ := own_at w6_
        show own_WP p e _ below s Z _ n0 _ T6_ (mkF m 32 #[.val (.ref ca), .val (.int (2 : Int32)), .val (.ref ba), .val (.int (2 : Int32)), .val (.int (4 : Int32)), .val (.int (2 : Int32)), .val (.int c2)] [])
        refine own_by (T' := T6_) (g' := (mkF m 35 #[.val (.ref ca), .val (.int ((2 : Int32) + (1 : Int32))), .val (.ref ba), .val (.int (2 : Int32)), .val (.int (4 : Int32)), .val (.int (2 : Int32)), .val (.int c2)] [])) (fun t_ hr_ => XS.iinc A6_ hx rfl (Jvm.hb hby d15_32) rfl (l' := #[.val (.ref ca), .val (.int ((2 : Int32) + (1 : Int32))), .val (.ref ba), .val (.int (2 : Int32)), .val (.int (4 : Int32)), .val (.int (2 : Int32)), .val (.int c2)]) rfl hr_) ?_
        refine own_by (T' := T6_) (g' := (mkF m 38 #[.val (.ref ca), .val (.int ((2 : Int32) + (1 : Int32))), .val (.ref ba), .val (.int ((2 : Int32) + (1 : Int32))), .val (.int (4 : Int32)), .val (.int (2 : Int32)), .val (.int c2)] [])) (fun t_ hr_ => XS.iinc A6_ hx rfl (Jvm.hb hby d15_35) rfl (l' := #[.val (.ref ca), .val (.int ((2 : Int32) + (1 : Int32))), .val (.ref ba), .val (.int ((2 : Int32) + (1 : Int32))), .val (.int (4 : Int32)), .val (.int (2 : Int32)), .val (.int c2)]) rfl hr_) ?_
        refine own_by (T' := T6_) (g' := (mkF m 41 #[.val (.ref ca), .val (.int ((2 : Int32) + (1 : Int32))), .val (.ref ba), .val (.int ((2 : Int32) + (1 : Int32))), .val (.int (4 : Int32)), .val (.int ((2 : Int32) + (1 : Int32))), .val (.int c2)] [])) (fun t_ hr_ => XS.iinc A6_ hx rfl (Jvm.hb hby d15_38) rfl (l' := #[.val (.ref ca), .val (.int ((2 : Int32) + (1 : Int32))), .val (.ref ba), .val (.int ((2 : Int32) + (1 : Int32))), .val (.int (4 : Int32)), .val (.int ((2 : Int32) + (1 : Int32))), .val (.int c2)]) rfl hr_) ?_
        rw [show ((2 : Int32) + (1 : Int32)) = (3 : Int32) from (by decide)]
        show own_WP p e _ below s Z _ n0 _ T6_ (mkF m 41 #[.val (.ref ca), .val (.int (3 : Int32)), .val (.ref ba), .val (.int (3 : Int32)), .val (.int (4 : Int32)), .val (.int (3 : Int32)), .val (.int c2)] [])
        refine own_by (T' := T6_) (g' := (mkF m 3 #[.val (.ref ca), .val (.int (3 : Int32)), .val (.ref ba), .val (.int (3 : Int32)), .val (.int (4 : Int32)), .val (.int (3 : Int32)), .val (.int c2)] [])) (fun t_ hr_ => XS.goto A6_ hx rfl (pc0 := 41) (pc' := 3) rfl (Jvm.hb hby d15_41) (by decide) (by decide) hr_) ?_
        have VC6_ := VC4_.other W6_ hne
        have Sf6_ := Safe.wr W6_ Sf4_ (own_chv w4_) Sf4_
        refine own_by (T' := T6_) (g' := (mkF m 5 #[.val (.ref ca), .val (.int (3 : Int32)), .val (.ref ba), .val (.int (3 : Int32)), .val (.int (4 : Int32)), .val (.int (3 : Int32)), .val (.int c2)] [(.int (3 : Int32))])) (fun t_ hr_ => XS.iload A6_ hx rfl (Jvm.hb hby d15_3) rfl hr_) ?_
        refine own_by (T' := T6_) (g' := (mkF m 7 #[.val (.ref ca), .val (.int (3 : Int32)), .val (.ref ba), .val (.int (3 : Int32)), .val (.int (4 : Int32)), .val (.int (3 : Int32)), .val (.int c2)] [(.int (4 : Int32)), (.int (3 : Int32))])) (fun t_ hr_ => XS.iload A6_ hx rfl (Jvm.hb hby d15_5) rfl hr_) ?_
        refine own_by (T' := T6_) (g' := (mkF m 10 #[.val (.ref ca), .val (.int (3 : Int32)), .val (.ref ba), .val (.int (3 : Int32)), .val (.int (4 : Int32)), .val (.int (3 : Int32)), .val (.int c2)] [])) (fun t_ hr_ => XS.icmpNo A6_ hx rfl (Jvm.hb hby d15_7) rfl (tlt (by decide)).2.1 hr_) ?_
        refine own_by (T' := T6_) (g' := (mkF m 11 #[.val (.ref ca), .val (.int (3 : Int32)), .val (.ref ba), .val (.int (3 : Int32)), .val (.int (4 : Int32)), .val (.int (3 : Int32)), .val (.int c2)] [(.ref ca)])) (fun t_ hr_ => XS.aloadN A6_ hx rfl (Jvm.hb hby d15_10) rfl rfl hr_) ?_
        refine own_by (T' := T6_) (g' := (mkF m 12 #[.val (.ref ca), .val (.int (3 : Int32)), .val (.ref ba), .val (.int (3 : Int32)), .val (.int (4 : Int32)), .val (.int (3 : Int32)), .val (.int c2)] [(.int (3 : Int32)), (.ref ca)])) (fun t_ hr_ => XS.iloadN A6_ hx rfl (Jvm.hb hby d15_11) rfl hr_) ?_
        refine own_caload w6_ hx (x := c3) VC6_ (by decide) (g := (mkF m 12 #[.val (.ref ca), .val (.int (3 : Int32)), .val (.ref ba), .val (.int (3 : Int32)), .val (.int (4 : Int32)), .val (.int (3 : Int32)), .val (.int c2)] [(.int (3 : Int32)), (.ref ca)])) rfl rfl (Jvm.hb hby d15_12) rfl ?_
        show own_WP p e _ below s Z _ n0 _ T6_ (mkF m 13 #[.val (.ref ca), .val (.int (3 : Int32)), .val (.ref ba), .val (.int (3 : Int32)), .val (.int (4 : Int32)), .val (.int (3 : Int32)), .val (.int c2)] [(.int c3)])
        refine own_by (T' := T6_) (g' := (mkF m 15 #[.val (.ref ca), .val (.int (3 : Int32)), .val (.ref ba), .val (.int (3 : Int32)), .val (.int (4 : Int32)), .val (.int (3 : Int32)), .val (.int c3)] [])) (fun t_ hr_ => XS.istore A6_ hx rfl (Jvm.hb hby d15_13) rfl (l' := #[.val (.ref ca), .val (.int (3 : Int32)), .val (.ref ba), .val (.int (3 : Int32)), .val (.int (4 : Int32)), .val (.int (3 : Int32)), .val (.int c3)]) rfl hr_) ?_
        refine own_by (T' := T6_) (g' := (mkF m 17 #[.val (.ref ca), .val (.int (3 : Int32)), .val (.ref ba), .val (.int (3 : Int32)), .val (.int (4 : Int32)), .val (.int (3 : Int32)), .val (.int c3)] [(.int c3)])) (fun t_ hr_ => XS.iload A6_ hx rfl (Jvm.hb hby d15_15) rfl hr_) ?_
        refine own_by (T' := T6_) (g' := (mkF m 20 #[.val (.ref ca), .val (.int (3 : Int32)), .val (.ref ba), .val (.int (3 : Int32)), .val (.int (4 : Int32)), .val (.int (3 : Int32)), .val (.int c3)] [(.int (255 : Int32)), (.int c3)])) (fun t_ hr_ => XS.sipush A6_ hx rfl (Jvm.hb hby d15_17) hr_) ?_
        by_cases hc7_ : (255 : Int32) < c3
        · refine own_by (T' := T6_) (g' := (mkF m 23 #[.val (.ref ca), .val (.int (3 : Int32)), .val (.ref ba), .val (.int (3 : Int32)), .val (.int (4 : Int32)), .val (.int (3 : Int32)), .val (.int c3)] [])) (fun t_ hr_ => XS.icmpNo A6_ hx rfl (Jvm.hb hby d15_20) rfl (tlt hc7_).2.2.2 hr_) ?_
          refine own_by (T' := T6_) (g' := (mkF m 25 #[.val (.ref ca), .val (.int (3 : Int32)), .val (.ref ba), .val (.int (3 : Int32)), .val (.int (4 : Int32)), .val (.int (3 : Int32)), .val (.int c3)] [(.int (3 : Int32))])) (fun t_ hr_ => XS.iload A6_ hx rfl (Jvm.hb hby d15_23) rfl hr_) ?_
          exact own_retI w6_ hx hEL hlk hret (Jvm.hb hby d15_25) (by decide) (by decide) (Or.inr (Or.inr (Or.inr (Or.inl ⟨rfl, hc7_, ((((Keep.refl h0 [ba]).wr W2_ (Or.inl (List.mem_of_getElem? (i := 0) rfl))).wr W4_ (Or.inl (List.mem_of_getElem? (i := 0) rfl))).wr W6_ (Or.inl (List.mem_of_getElem? (i := 0) rfl)))⟩))))
        · refine own_by (T' := T6_) (g' := (mkF m 26 #[.val (.ref ca), .val (.int (3 : Int32)), .val (.ref ba), .val (.int (3 : Int32)), .val (.int (4 : Int32)), .val (.int (3 : Int32)), .val (.int c3)] [])) (fun t_ hr_ => XS.icmpYes A6_ hx rfl (pc0 := 20) (pc' := 26) rfl (Jvm.hb hby d15_20) rfl (flt hc7_).2.2.2 (by decide) (by decide) hr_) ?_
          refine own_by (T' := T6_) (g' := (mkF m 27 #[.val (.ref ca), .val (.int (3 : Int32)), .val (.ref ba), .val (.int (3 : Int32)), .val (.int (4 : Int32)), .val (.int (3 : Int32)), .val (.int c3)] [(.ref ba)])) (fun t_ hr_ => XS.aloadN A6_ hx rfl (Jvm.hb hby d15_26) rfl rfl hr_) ?_
          refine own_by (T' := T6_) (g' := (mkF m 28 #[.val (.ref ca), .val (.int (3 : Int32)), .val (.ref ba), .val (.int (3 : Int32)), .val (.int (4 : Int32)), .val (.int (3 : Int32)), .val (.int c3)] [(.int (3 : Int32)), (.ref ba)])) (fun t_ hr_ => XS.iloadN A6_ hx rfl (Jvm.hb hby d15_27) rfl hr_) ?_
          refine own_by (T' := T6_) (g' := (mkF m 30 #[.val (.ref ca), .val (.int (3 : Int32)), .val (.ref ba), .val (.int (3 : Int32)), .val (.int (4 : Int32)), .val (.int (3 : Int32)), .val (.int c3)] [(.int c3), (.int (3 : Int32)), (.ref ba)])) (fun t_ hr_ => XS.iload A6_ hx rfl (Jvm.hb hby d15_28) rfl hr_) ?_
          refine own_by (T' := T6_) (g' := (mkF m 31 #[.val (.ref ca), .val (.int (3 : Int32)), .val (.ref ba), .val (.int (3 : Int32)), .val (.int (4 : Int32)), .val (.int (3 : Int32)), .val (.int c3)] [(.int (c3.toInt8.toInt32)), (.int (3 : Int32)), (.ref ba)])) (fun t_ hr_ => XS.i2b A6_ hx rfl (Jvm.hb hby d15_30) rfl hr_) ?_
          refine own_bastore w6_ hx V6_ (by decide) (own_lo8lo8 c3) Sf6_ (i := 3) rfl (by simp) gb (g := (mkF m 31 #[.val (.ref ca), .val (.int (3 : Int32)), .val (.ref ba), .val (.int (3 : Int32)), .val (.int (4 : Int32)), .val (.int (3 : Int32)), .val (.int c3)] [(.int (c3.toInt8.toInt32)), (.int (3 : Int32)), (.ref ba)])) rfl rfl (Jvm.hb hby d15_31) (fun T8_ h8_ W8_ V8_ w8_ => ?_)
          have A8_ := own_at w8_
          show own_WP p e _ below s Z _ n0 _ T8_ (mkF m 32 #[.val (.ref ca), .val (.int (3 : Int32)), .val (.ref ba), .val (.int (3 : Int32)), .val (.int (4 : Int32)), .val (.int (3 : Int32)), .val (.int c3)] [])
          refine own_by (T' := T8_) (g' := (mkF m 35 #[.val (.ref ca), .val (.int ((3 : Int32) + (1 : Int32))), .val (.ref ba), .val (.int (3 : Int32)), .val (.int (4 : Int32)), .val (.int (3 : Int32)), .val (.int c3)] [])) (fun t_ hr_ => XS.iinc A8_ hx rfl (Jvm.hb hby d15_32) rfl (l' := #[.val (.ref ca), .val (.int ((3 : Int32) + (1 : Int32))), .val (.ref ba), .val (.int (3 : Int32)), .val (.int (4 : Int32)), .val (.int (3 : Int32)), .val (.int c3)]) rfl hr_) ?_
          refine own_by (T' := T8_) (g' := (mkF m 38 #[.val (.ref ca), .val (.int ((3 : Int32) + (1 : Int32))), .val (.ref ba), .val (.int ((3 : Int32) + (1 : Int32))), .val (.int (4 : Int32)), .val (.int (3 : Int32)), .val (.int c3)] [])) (fun t_ hr_ => XS.iinc A8_ hx rfl (Jvm.hb hby d15_35) rfl (l' := #[.val (.ref ca), .val (.int ((3 : Int32) + (1 : Int32))), .val (.ref ba), .val (.int ((3 : Int32) + (1 : Int32))), .val (.int (4 : Int32)), .val (.int (3 : Int32)), .val (.int c3)]) rfl hr_) ?_
          refine own_by (T' := T8_) (g' := (mkF m 41 #[.val (.ref ca), .val (.int ((3 : Int32) + (1 : Int32))), .val (.ref ba), .val (.int ((3 : Int32) + (1 : Int32))), .val (.int (4 : Int32)), .val (.int ((3 : Int32) + (1 : Int32))), .val (.int c3)] [])) (fun t_ hr_ => XS.iinc A8_ hx rfl (Jvm.hb hby d15_38) rfl (l' := #[.val (.ref ca), .val (.int ((3 : Int32) + (1 : Int32))), .val (.ref ba), .val (.int ((3 : Int32) + (1 : Int32))), .val (.int (4 : Int32)), .val (.int ((3 : Int32) + (1 : Int32))), .val (.int c3)]) rfl hr_) ?_
          rw [show ((3 : Int32) + (1 : Int32)) = (4 : Int32) from (by decide)]
          show own_WP p e _ below s Z _ n0 _ T8_ (mkF m 41 #[.val (.ref ca), .val (.int (4 : Int32)), .val (.ref ba), .val (.int (4 : Int32)), .val (.int (4 : Int32)), .val (.int (4 : Int32)), .val (.int c3)] [])
          refine own_by (T' := T8_) (g' := (mkF m 3 #[.val (.ref ca), .val (.int (4 : Int32)), .val (.ref ba), .val (.int (4 : Int32)), .val (.int (4 : Int32)), .val (.int (4 : Int32)), .val (.int c3)] [])) (fun t_ hr_ => XS.goto A8_ hx rfl (pc0 := 41) (pc' := 3) rfl (Jvm.hb hby d15_41) (by decide) (by decide) hr_) ?_
          have VC8_ := VC6_.other W8_ hne
          have Sf8_ := Safe.wr W8_ Sf6_ (own_chv w6_) Sf6_
          refine own_by (T' := T8_) (g' := (mkF m 5 #[.val (.ref ca), .val (.int (4 : Int32)), .val (.ref ba), .val (.int (4 : Int32)), .val (.int (4 : Int32)), .val (.int (4 : Int32)), .val (.int c3)] [(.int (4 : Int32))])) (fun t_ hr_ => XS.iload A8_ hx rfl (Jvm.hb hby d15_3) rfl hr_) ?_
          refine own_by (T' := T8_) (g' := (mkF m 7 #[.val (.ref ca), .val (.int (4 : Int32)), .val (.ref ba), .val (.int (4 : Int32)), .val (.int (4 : Int32)), .val (.int (4 : Int32)), .val (.int c3)] [(.int (4 : Int32)), (.int (4 : Int32))])) (fun t_ hr_ => XS.iload A8_ hx rfl (Jvm.hb hby d15_5) rfl hr_) ?_
          refine own_by (T' := T8_) (g' := (mkF m 44 #[.val (.ref ca), .val (.int (4 : Int32)), .val (.ref ba), .val (.int (4 : Int32)), .val (.int (4 : Int32)), .val (.int (4 : Int32)), .val (.int c3)] [])) (fun t_ hr_ => XS.icmpYes A8_ hx rfl (pc0 := 7) (pc' := 44) rfl (Jvm.hb hby d15_7) rfl (flt (by decide)).2.1 (by decide) (by decide) hr_) ?_
          refine own_by (T' := T8_) (g' := (mkF m 46 #[.val (.ref ca), .val (.int (4 : Int32)), .val (.ref ba), .val (.int (4 : Int32)), .val (.int (4 : Int32)), .val (.int (4 : Int32)), .val (.int c3)] [(.int (4 : Int32))])) (fun t_ hr_ => XS.iload A8_ hx rfl (Jvm.hb hby d15_44) rfl hr_) ?_
          exact own_retI w8_ hx hEL hlk hret (Jvm.hb hby d15_46) (by decide) (by decide) (Or.inr (Or.inr (Or.inr (Or.inr (⟨rfl, ⟨hc1_, hc3_, hc5_, hc7_⟩, (((((Keep.refl h0 [ba]).wr W2_ (Or.inl (List.mem_of_getElem? (i := 0) rfl))).wr W4_ (Or.inl (List.mem_of_getElem? (i := 0) rfl))).wr W6_ (Or.inl (List.mem_of_getElem? (i := 0) rfl))).wr W8_ (Or.inl (List.mem_of_getElem? (i := 0) rfl))), V8_⟩)))))

theorem ef_ctC34 (m : MethodId) (x0 : Addr) (x1 : Int32) (x2 : Int32) : entryFrame m #[(.ref x0), (.int x1), (.int x2)] 6 = mkF m 0 #[.val (.ref x0), .val (.int x1), .val (.int x2), .unset, .unset, .unset] [] := by first | (simp [entryFrame, mkF, argsToLocals, Value.category]; done) | rfl
set_option maxRecDepth 65536 in
set_option maxHeartbeats 40000000 in
theorem ctC34 (l : Launch) (Z : State) (a0 : Array Value) (hw : ∀ d ∈ tables_1, d.before a0 Z = true) (US : own_US Z) (n0 : Nat) (h0 : Heap) (O0 : Old Z n0 h0) (ca : Addr) (kC : ClassId) (c0 c1 c2 c3 : Int32) (VC : Arv Z h0 ca kC .char (4 : Int32) [(.int c0), (.int c1), (.int c2), (.int c3)] (.int 0)) (r0 : ¬ c0 < 0 ∧ ¬ (65535 : Int32) < c0) (r1 : ¬ c1 < 0 ∧ ¬ (65535 : Int32) < c1) (r2 : ¬ c2 < 0 ∧ ¬ (65535 : Int32) < c2) (r3 : ¬ c3 < 0 ∧ ¬ (65535 : Int32) < c3) :
    own_Ct l (⟨"java/lang/StringUTF16", "compress", "([CII)[B"⟩ : MethodName) jdk_52_method_16_code 6 (some (.array .byte)) ({ frames := 3, cells := 2, slots := 12, locals := 40 } : Room) Z consts_1 n0 #[(.ref ca), (.int (0 : Int32)), (.int (4 : Int32))] h0 [] (fun v h => ∃ a k, v = some (.ref a) ∧ Ext h0 h ∧ (Arv Z h a k .byte (8 : Int32) [(.int (c0.toInt8.toInt32)), (.int ((c0 >>> ((8 : Int32) &&& 31)).toInt8.toInt32)), (.int (c1.toInt8.toInt32)), (.int ((c1 >>> ((8 : Int32) &&& 31)).toInt8.toInt32)), (.int (c2.toInt8.toInt32)), (.int ((c2 >>> ((8 : Int32) &&& 31)).toInt8.toInt32)), (.int (c3.toInt8.toInt32)), (.int ((c3 >>> ((8 : Int32) &&& 31)).toInt8.toInt32))] (.int 0) ∨ (Arv Z h a k .byte (4 : Int32) [(.int (c0.toInt8.toInt32)), (.int (c1.toInt8.toInt32)), (.int (c2.toInt8.toInt32)), (.int (c3.toInt8.toInt32))] (.int 0) ∧ (¬ (255 : Int32) < c0 ∧ ¬ (255 : Int32) < c1 ∧ ¬ (255 : Int32) < c2 ∧ ¬ (255 : Int32) < c3)))) := by
  have hEL := own_EL hw
  refine own_body pn_465937380 O0 (fun p e s m below meth cc_ T0 vm0 hx hby hml0 hret hlk hnm hsf w0 => ?_)
  have hml : cc_.maxLocals = 6 := hml0
  have A_0 := own_at w0
  refine own_entry (ef_ctC34 m ca (0 : Int32) (4 : Int32)) ?_
  refine own_by (T' := T0) (g' := (mkF m 1 #[.val (.ref ca), .val (.int (0 : Int32)), .val (.int (4 : Int32)), .unset, .unset, .unset] [(.int (4 : Int32))])) (fun t_ hr_ => XS.iloadN A_0 hx rfl (Jvm.hb hby d14_0) rfl hr_) ?_
  refine own_newP w0 hx (hw _ (List.mem_of_getElem? (i := 17) rfl)) (g := (mkF m 1 #[.val (.ref ca), .val (.int (0 : Int32)), .val (.int (4 : Int32)), .unset, .unset, .unset] [(.int (4 : Int32))])) rfl (Jvm.hb hby d14_1) rfl (by decide) (cap := 4) (by decide) (by decide) (by decide) (by decide) (fun T1_ h1_ a1_ k1_ g1_ E1_ V1_ w1_ => ?_)
  have A1_ := own_at w1_
  show own_WP p e _ below s Z _ n0 _ T1_ (mkF m 3 #[.val (.ref ca), .val (.int (0 : Int32)), .val (.int (4 : Int32)), .unset, .unset, .unset] [(.ref a1_)])
  have ga0 : h0.size ≤ a1_ := by rw [g1_]; exact Nat.le_refl _
  have gb : n0 ≤ a1_ := Nat.le_trans (own_n0 w0) ga0
  have U1 : Arv Z h1_ a1_ k1_ .byte (4 : Int32) [(.int (0 : Int32)), (.int (0 : Int32)), (.int (0 : Int32)), (.int (0 : Int32))] (.int 0) := V1_.pad (vs' := [(.int (0 : Int32)), (.int (0 : Int32)), (.int (0 : Int32)), (.int (0 : Int32))]) (fun i => pad_rep [] (.int (0 : Int32)) 4 i)
  have nca : ca ≠ a1_ := Nat.ne_of_lt (Nat.lt_of_lt_of_le VC.lt ga0)
  have VC1 := VC.ext E1_
  refine own_by (T' := T1_) (g' := (mkF m 4 #[.val (.ref ca), .val (.int (0 : Int32)), .val (.int (4 : Int32)), .val (.ref a1_), .unset, .unset] [])) (fun t_ hr_ => XS.astoreN A1_ hx rfl (Jvm.hb hby d14_3) rfl rfl (l' := #[.val (.ref ca), .val (.int (0 : Int32)), .val (.int (4 : Int32)), .val (.ref a1_), .unset, .unset]) rfl hr_) ?_
  refine own_by (T' := T1_) (g' := (mkF m 5 #[.val (.ref ca), .val (.int (0 : Int32)), .val (.int (4 : Int32)), .val (.ref a1_), .unset, .unset] [(.ref ca)])) (fun t_ hr_ => XS.aloadN A1_ hx rfl (Jvm.hb hby d14_4) rfl rfl hr_) ?_
  refine own_by (T' := T1_) (g' := (mkF m 6 #[.val (.ref ca), .val (.int (0 : Int32)), .val (.int (4 : Int32)), .val (.ref a1_), .unset, .unset] [(.int (0 : Int32)), (.ref ca)])) (fun t_ hr_ => XS.iloadN A1_ hx rfl (Jvm.hb hby d14_5) rfl hr_) ?_
  refine own_by (T' := T1_) (g' := (mkF m 7 #[.val (.ref ca), .val (.int (0 : Int32)), .val (.int (4 : Int32)), .val (.ref a1_), .unset, .unset] [(.ref a1_), (.int (0 : Int32)), (.ref ca)])) (fun t_ hr_ => XS.aloadN A1_ hx rfl (Jvm.hb hby d14_6) rfl rfl hr_) ?_
  refine own_by (T' := T1_) (g' := (mkF m 8 #[.val (.ref ca), .val (.int (0 : Int32)), .val (.int (4 : Int32)), .val (.ref a1_), .unset, .unset] [(.int (0 : Int32)), (.ref a1_), (.int (0 : Int32)), (.ref ca)])) (fun t_ hr_ => XS.iconst A1_ hx rfl (Jvm.hb hby d14_7) hr_) ?_
  refine own_by (T' := T1_) (g' := (mkF m 9 #[.val (.ref ca), .val (.int (0 : Int32)), .val (.int (4 : Int32)), .val (.ref a1_), .unset, .unset] [(.int (4 : Int32)), (.int (0 : Int32)), (.ref a1_), (.int (0 : Int32)), (.ref ca)])) (fun t_ hr_ => XS.iloadN A1_ hx rfl (Jvm.hb hby d14_8) rfl hr_) ?_
  refine own_callS w1_ hx (y := (⟨"java/lang/StringUTF16", "compress", "([CI[BII)I"⟩ : MethodName)) (hw _ (List.mem_of_getElem? (i := 72) rfl)) (hw _ (List.mem_of_getElem? (i := 73) rfl)) (hw _ (List.mem_of_getElem? (i := 70) rfl)) (hw _ (List.mem_of_getElem? (i := 74) rfl)) (by decide) (kc := 0) (ks := 0) (argsL := [(.ref ca), (.int (0 : Int32)), (.ref a1_), (.int (0 : Int32)), (.int (4 : Int32))]) (rest := []) (own_payCt (W := 0) (ctC54 l Z a0 hw n0 h1_ (own_old w1_) ca a1_ kC k1_ c0 c1 c2 c3 VC1 U1 nca gb) w1_ (hw _ (List.mem_of_getElem? (i := 74) rfl)) (hw _ (List.mem_of_getElem? (i := 70) rfl)) hEL (by decide) (by decide) (own_one ⟨U1.lt, own_safeB (own_hZ w1_) (hw _ (List.mem_of_getElem? (i := 16) rfl)) U1 (by decide)⟩)) (g := (mkF m 9 #[.val (.ref ca), .val (.int (0 : Int32)), .val (.int (4 : Int32)), .val (.ref a1_), .unset, .unset] [(.int (4 : Int32)), (.int (0 : Int32)), (.ref a1_), (.int (0 : Int32)), (.ref ca)])) rfl (by rw [hml]; rfl) (lenOf pd_110984662 rfl) rfl (by show 2 * 0 + _ ≤ _; exact Nat.le_of_eq rfl) (Jvm.hb hby d14_9) (by decide) (by decide) (fun v2_ T2_ vm2_ h2_ q2_ C2_ w2_ => ?_)
  rcases q2_ with ⟨rfl, hi0, KC⟩ | ⟨rfl, hi0, KC⟩ | ⟨rfl, hi0, KC⟩ | ⟨rfl, hi0, KC⟩ | ⟨rfl, hi0, KC, VN⟩
  · have A2_ := own_at w2_
    show own_WP p e _ below s Z _ n0 _ T2_ (mkF m 12 #[.val (.ref ca), .val (.int (0 : Int32)), .val (.int (4 : Int32)), .val (.ref a1_), .unset, .unset] [(.int (0 : Int32))])
    refine own_by (T' := T2_) (g' := (mkF m 14 #[.val (.ref ca), .val (.int (0 : Int32)), .val (.int (4 : Int32)), .val (.ref a1_), .val (.int (0 : Int32)), .unset] [])) (fun t_ hr_ => XS.istore A2_ hx rfl (Jvm.hb hby d14_12) rfl (l' := #[.val (.ref ca), .val (.int (0 : Int32)), .val (.int (4 : Int32)), .val (.ref a1_), .val (.int (0 : Int32)), .unset]) rfl hr_) ?_
    refine own_by (T' := T2_) (g' := (mkF m 16 #[.val (.ref ca), .val (.int (0 : Int32)), .val (.int (4 : Int32)), .val (.ref a1_), .val (.int (0 : Int32)), .unset] [(.int (0 : Int32))])) (fun t_ hr_ => XS.iload A2_ hx rfl (Jvm.hb hby d14_14) rfl hr_) ?_
    refine own_by (T' := T2_) (g' := (mkF m 17 #[.val (.ref ca), .val (.int (0 : Int32)), .val (.int (4 : Int32)), .val (.ref a1_), .val (.int (0 : Int32)), .unset] [(.int (4 : Int32)), (.int (0 : Int32))])) (fun t_ hr_ => XS.iloadN A2_ hx rfl (Jvm.hb hby d14_16) rfl hr_) ?_
    refine own_by (T' := T2_) (g' := (mkF m 20 #[.val (.ref ca), .val (.int (0 : Int32)), .val (.int (4 : Int32)), .val (.ref a1_), .val (.int (0 : Int32)), .unset] [])) (fun t_ hr_ => XS.icmpNo A2_ hx rfl (Jvm.hb hby d14_17) rfl (feq (by decide)).1 hr_) ?_
    refine own_by (T' := T2_) (g' := (mkF m 21 #[.val (.ref ca), .val (.int (0 : Int32)), .val (.int (4 : Int32)), .val (.ref a1_), .val (.int (0 : Int32)), .unset] [(.ref ca)])) (fun t_ hr_ => XS.aloadN A2_ hx rfl (Jvm.hb hby d14_20) rfl rfl hr_) ?_
    refine own_by (T' := T2_) (g' := (mkF m 22 #[.val (.ref ca), .val (.int (0 : Int32)), .val (.int (4 : Int32)), .val (.ref a1_), .val (.int (0 : Int32)), .unset] [(.int (0 : Int32)), (.ref ca)])) (fun t_ hr_ => XS.iloadN A2_ hx rfl (Jvm.hb hby d14_21) rfl hr_) ?_
    refine own_by (T' := T2_) (g' := (mkF m 23 #[.val (.ref ca), .val (.int (0 : Int32)), .val (.int (4 : Int32)), .val (.ref a1_), .val (.int (0 : Int32)), .unset] [(.int (4 : Int32)), (.int (0 : Int32)), (.ref ca)])) (fun t_ hr_ => XS.iloadN A2_ hx rfl (Jvm.hb hby d14_22) rfl hr_) ?_
    have VC2 := VC1.keep KC (ninS nca nin0)
    refine own_callS w2_ hx (y := (⟨"java/lang/StringUTF16", "toBytes", "([CII)[B"⟩ : MethodName)) (hw _ (List.mem_of_getElem? (i := 81) rfl)) (hw _ (List.mem_of_getElem? (i := 82) rfl)) (hw _ (List.mem_of_getElem? (i := 70) rfl)) (hw _ (List.mem_of_getElem? (i := 83) rfl)) (by decide) (kc := 1) (ks := 8) (argsL := [(.ref ca), (.int (0 : Int32)), (.int (4 : Int32))]) (rest := []) (own_payCt (W := 0) (ctTB4 l Z a0 hw US n0 h2_ (own_old w2_) ca kC c0 c1 c2 c3 VC2) w2_ (hw _ (List.mem_of_getElem? (i := 83) rfl)) (hw _ (List.mem_of_getElem? (i := 70) rfl)) hEL (by decide) (by decide)) (g := (mkF m 23 #[.val (.ref ca), .val (.int (0 : Int32)), .val (.int (4 : Int32)), .val (.ref a1_), .val (.int (0 : Int32)), .unset] [(.int (4 : Int32)), (.int (0 : Int32)), (.ref ca)])) rfl (by rw [hml]; rfl) (lenOf pd_272673973 rfl) rfl (by show 2 * 0 + _ ≤ _; exact Nat.le_of_eq rfl) (Jvm.hb hby d14_23) (by decide) (by decide) (fun v3_ T3_ vm3_ h3_ q3_ C3_ w3_ => ?_)
    obtain ⟨a, k, rfl, E3, V3⟩ := q3_
    have A3_ := own_at w3_
    show own_WP p e _ below s Z _ n0 _ T3_ (mkF m 26 #[.val (.ref ca), .val (.int (0 : Int32)), .val (.int (4 : Int32)), .val (.ref a1_), .val (.int (0 : Int32)), .unset] [(.ref a)])
    refine own_by (T' := T3_) (g' := (mkF m 28 #[.val (.ref ca), .val (.int (0 : Int32)), .val (.int (4 : Int32)), .val (.ref a1_), .val (.int (0 : Int32)), .val (.ref a)] [])) (fun t_ hr_ => XS.astore A3_ hx rfl (Jvm.hb hby d14_26) rfl rfl (l' := #[.val (.ref ca), .val (.int (0 : Int32)), .val (.int (4 : Int32)), .val (.ref a1_), .val (.int (0 : Int32)), .val (.ref a)]) rfl hr_) ?_
    refine own_by (T' := T3_) (g' := (mkF m 30 #[.val (.ref ca), .val (.int (0 : Int32)), .val (.int (4 : Int32)), .val (.ref a1_), .val (.int (0 : Int32)), .val (.ref a)] [(.ref a)])) (fun t_ hr_ => XS.aload A3_ hx rfl (Jvm.hb hby d14_28) rfl rfl hr_) ?_
    refine own_by (T' := T3_) (g' := (mkF m 32 #[.val (.ref ca), .val (.int (0 : Int32)), .val (.int (4 : Int32)), .val (.ref a1_), .val (.int (0 : Int32)), .val (.ref a)] [(.int (0 : Int32)), (.ref a)])) (fun t_ hr_ => XS.iload A3_ hx rfl (Jvm.hb hby d14_30) rfl hr_) ?_
    refine own_callS w3_ hx (y := (⟨"java/lang/StringUTF16", "getChar", "([BI)C"⟩ : MethodName)) (hw _ (List.mem_of_getElem? (i := 97) rfl)) (hw _ (List.mem_of_getElem? (i := 98) rfl)) (hw _ (List.mem_of_getElem? (i := 70) rfl)) (hw _ (List.mem_of_getElem? (i := 99) rfl)) (by decide) (kc := 0) (ks := 0) (argsL := [(.ref a), (.int (0 : Int32))]) (rest := []) (own_payCt (W := 0) (ctGet l Z a0 hw US n0 h3_ (own_old w3_) a 0 k [c0, c1, c2, c3] V3 (by simp only [List.forall_mem_cons, List.not_mem_nil, false_imp_iff, implies_true, and_true]; exact ⟨r0, r1, r2, r3⟩) (by simp) (by simp)) w3_ (hw _ (List.mem_of_getElem? (i := 99) rfl)) (hw _ (List.mem_of_getElem? (i := 70) rfl)) hEL (by decide) (by decide)) (g := (mkF m 32 #[.val (.ref ca), .val (.int (0 : Int32)), .val (.int (4 : Int32)), .val (.ref a1_), .val (.int (0 : Int32)), .val (.ref a)] [(.int (0 : Int32)), (.ref a)])) rfl (by rw [hml]; rfl) (lenOf pd_128700058 rfl) rfl (by show 2 * 0 + _ ≤ _; exact Nat.le_of_eq rfl) (Jvm.hb hby d14_32) (by decide) (by decide) (fun v4_ T4_ vm4_ h4_ q4_ C4_ w4_ => ?_)
    obtain ⟨rfl, rfl⟩ := q4_
    have A4_ := own_at w4_
    show own_WP p e _ below s Z _ n0 _ T4_ (mkF m 35 #[.val (.ref ca), .val (.int (0 : Int32)), .val (.int (4 : Int32)), .val (.ref a1_), .val (.int (0 : Int32)), .val (.ref a)] [(.int c0)])
    refine own_by (T' := T4_) (g' := (mkF m 38 #[.val (.ref ca), .val (.int (0 : Int32)), .val (.int (4 : Int32)), .val (.ref a1_), .val (.int (0 : Int32)), .val (.ref a)] [(.int (255 : Int32)), (.int c0)])) (fun t_ hr_ => XS.sipush A4_ hx rfl (Jvm.hb hby d14_35) hr_) ?_
    refine own_by (T' := T4_) (g' := (mkF m 54 #[.val (.ref ca), .val (.int (0 : Int32)), .val (.int (4 : Int32)), .val (.ref a1_), .val (.int (0 : Int32)), .val (.ref a)] [])) (fun t_ hr_ => XS.icmpYes A4_ hx rfl (pc0 := 38) (pc' := 54) rfl (Jvm.hb hby d14_38) rfl (tlt hi0).2.2.1 (by decide) (by decide) hr_) ?_
    refine own_by (T' := T4_) (g' := (mkF m 56 #[.val (.ref ca), .val (.int (0 : Int32)), .val (.int (4 : Int32)), .val (.ref a1_), .val (.int (0 : Int32)), .val (.ref a)] [(.ref a)])) (fun t_ hr_ => XS.aload A4_ hx rfl (Jvm.hb hby d14_54) rfl rfl hr_) ?_
    exact own_retA w4_ hx hEL hlk hret rfl rfl (Jvm.hb hby d14_56) (by decide) (by decide) ⟨_, _, rfl, own_extTrans (own_extK E1_ KC (allS ga0 all0)) E3, Or.inl V3⟩
  · have A2_ := own_at w2_
    show own_WP p e _ below s Z _ n0 _ T2_ (mkF m 12 #[.val (.ref ca), .val (.int (0 : Int32)), .val (.int (4 : Int32)), .val (.ref a1_), .unset, .unset] [(.int (1 : Int32))])
    refine own_by (T' := T2_) (g' := (mkF m 14 #[.val (.ref ca), .val (.int (0 : Int32)), .val (.int (4 : Int32)), .val (.ref a1_), .val (.int (1 : Int32)), .unset] [])) (fun t_ hr_ => XS.istore A2_ hx rfl (Jvm.hb hby d14_12) rfl (l' := #[.val (.ref ca), .val (.int (0 : Int32)), .val (.int (4 : Int32)), .val (.ref a1_), .val (.int (1 : Int32)), .unset]) rfl hr_) ?_
    refine own_by (T' := T2_) (g' := (mkF m 16 #[.val (.ref ca), .val (.int (0 : Int32)), .val (.int (4 : Int32)), .val (.ref a1_), .val (.int (1 : Int32)), .unset] [(.int (1 : Int32))])) (fun t_ hr_ => XS.iload A2_ hx rfl (Jvm.hb hby d14_14) rfl hr_) ?_
    refine own_by (T' := T2_) (g' := (mkF m 17 #[.val (.ref ca), .val (.int (0 : Int32)), .val (.int (4 : Int32)), .val (.ref a1_), .val (.int (1 : Int32)), .unset] [(.int (4 : Int32)), (.int (1 : Int32))])) (fun t_ hr_ => XS.iloadN A2_ hx rfl (Jvm.hb hby d14_16) rfl hr_) ?_
    refine own_by (T' := T2_) (g' := (mkF m 20 #[.val (.ref ca), .val (.int (0 : Int32)), .val (.int (4 : Int32)), .val (.ref a1_), .val (.int (1 : Int32)), .unset] [])) (fun t_ hr_ => XS.icmpNo A2_ hx rfl (Jvm.hb hby d14_17) rfl (feq (by decide)).1 hr_) ?_
    refine own_by (T' := T2_) (g' := (mkF m 21 #[.val (.ref ca), .val (.int (0 : Int32)), .val (.int (4 : Int32)), .val (.ref a1_), .val (.int (1 : Int32)), .unset] [(.ref ca)])) (fun t_ hr_ => XS.aloadN A2_ hx rfl (Jvm.hb hby d14_20) rfl rfl hr_) ?_
    refine own_by (T' := T2_) (g' := (mkF m 22 #[.val (.ref ca), .val (.int (0 : Int32)), .val (.int (4 : Int32)), .val (.ref a1_), .val (.int (1 : Int32)), .unset] [(.int (0 : Int32)), (.ref ca)])) (fun t_ hr_ => XS.iloadN A2_ hx rfl (Jvm.hb hby d14_21) rfl hr_) ?_
    refine own_by (T' := T2_) (g' := (mkF m 23 #[.val (.ref ca), .val (.int (0 : Int32)), .val (.int (4 : Int32)), .val (.ref a1_), .val (.int (1 : Int32)), .unset] [(.int (4 : Int32)), (.int (0 : Int32)), (.ref ca)])) (fun t_ hr_ => XS.iloadN A2_ hx rfl (Jvm.hb hby d14_22) rfl hr_) ?_
    have VC2 := VC1.keep KC (ninS nca nin0)
    refine own_callS w2_ hx (y := (⟨"java/lang/StringUTF16", "toBytes", "([CII)[B"⟩ : MethodName)) (hw _ (List.mem_of_getElem? (i := 81) rfl)) (hw _ (List.mem_of_getElem? (i := 82) rfl)) (hw _ (List.mem_of_getElem? (i := 70) rfl)) (hw _ (List.mem_of_getElem? (i := 83) rfl)) (by decide) (kc := 1) (ks := 8) (argsL := [(.ref ca), (.int (0 : Int32)), (.int (4 : Int32))]) (rest := []) (own_payCt (W := 0) (ctTB4 l Z a0 hw US n0 h2_ (own_old w2_) ca kC c0 c1 c2 c3 VC2) w2_ (hw _ (List.mem_of_getElem? (i := 83) rfl)) (hw _ (List.mem_of_getElem? (i := 70) rfl)) hEL (by decide) (by decide)) (g := (mkF m 23 #[.val (.ref ca), .val (.int (0 : Int32)), .val (.int (4 : Int32)), .val (.ref a1_), .val (.int (1 : Int32)), .unset] [(.int (4 : Int32)), (.int (0 : Int32)), (.ref ca)])) rfl (by rw [hml]; rfl) (lenOf pd_272673973 rfl) rfl (by show 2 * 0 + _ ≤ _; exact Nat.le_of_eq rfl) (Jvm.hb hby d14_23) (by decide) (by decide) (fun v5_ T5_ vm5_ h5_ q5_ C5_ w5_ => ?_)
    obtain ⟨a, k, rfl, E3, V3⟩ := q5_
    have A5_ := own_at w5_
    show own_WP p e _ below s Z _ n0 _ T5_ (mkF m 26 #[.val (.ref ca), .val (.int (0 : Int32)), .val (.int (4 : Int32)), .val (.ref a1_), .val (.int (1 : Int32)), .unset] [(.ref a)])
    refine own_by (T' := T5_) (g' := (mkF m 28 #[.val (.ref ca), .val (.int (0 : Int32)), .val (.int (4 : Int32)), .val (.ref a1_), .val (.int (1 : Int32)), .val (.ref a)] [])) (fun t_ hr_ => XS.astore A5_ hx rfl (Jvm.hb hby d14_26) rfl rfl (l' := #[.val (.ref ca), .val (.int (0 : Int32)), .val (.int (4 : Int32)), .val (.ref a1_), .val (.int (1 : Int32)), .val (.ref a)]) rfl hr_) ?_
    refine own_by (T' := T5_) (g' := (mkF m 30 #[.val (.ref ca), .val (.int (0 : Int32)), .val (.int (4 : Int32)), .val (.ref a1_), .val (.int (1 : Int32)), .val (.ref a)] [(.ref a)])) (fun t_ hr_ => XS.aload A5_ hx rfl (Jvm.hb hby d14_28) rfl rfl hr_) ?_
    refine own_by (T' := T5_) (g' := (mkF m 32 #[.val (.ref ca), .val (.int (0 : Int32)), .val (.int (4 : Int32)), .val (.ref a1_), .val (.int (1 : Int32)), .val (.ref a)] [(.int (1 : Int32)), (.ref a)])) (fun t_ hr_ => XS.iload A5_ hx rfl (Jvm.hb hby d14_30) rfl hr_) ?_
    refine own_callS w5_ hx (y := (⟨"java/lang/StringUTF16", "getChar", "([BI)C"⟩ : MethodName)) (hw _ (List.mem_of_getElem? (i := 97) rfl)) (hw _ (List.mem_of_getElem? (i := 98) rfl)) (hw _ (List.mem_of_getElem? (i := 70) rfl)) (hw _ (List.mem_of_getElem? (i := 99) rfl)) (by decide) (kc := 0) (ks := 0) (argsL := [(.ref a), (.int (1 : Int32))]) (rest := []) (own_payCt (W := 0) (ctGet l Z a0 hw US n0 h5_ (own_old w5_) a 1 k [c0, c1, c2, c3] V3 (by simp only [List.forall_mem_cons, List.not_mem_nil, false_imp_iff, implies_true, and_true]; exact ⟨r0, r1, r2, r3⟩) (by simp) (by simp)) w5_ (hw _ (List.mem_of_getElem? (i := 99) rfl)) (hw _ (List.mem_of_getElem? (i := 70) rfl)) hEL (by decide) (by decide)) (g := (mkF m 32 #[.val (.ref ca), .val (.int (0 : Int32)), .val (.int (4 : Int32)), .val (.ref a1_), .val (.int (1 : Int32)), .val (.ref a)] [(.int (1 : Int32)), (.ref a)])) rfl (by rw [hml]; rfl) (lenOf pd_128700058 rfl) rfl (by show 2 * 0 + _ ≤ _; exact Nat.le_of_eq rfl) (Jvm.hb hby d14_32) (by decide) (by decide) (fun v6_ T6_ vm6_ h6_ q6_ C6_ w6_ => ?_)
    obtain ⟨rfl, rfl⟩ := q6_
    have A6_ := own_at w6_
    show own_WP p e _ below s Z _ n0 _ T6_ (mkF m 35 #[.val (.ref ca), .val (.int (0 : Int32)), .val (.int (4 : Int32)), .val (.ref a1_), .val (.int (1 : Int32)), .val (.ref a)] [(.int c1)])
    refine own_by (T' := T6_) (g' := (mkF m 38 #[.val (.ref ca), .val (.int (0 : Int32)), .val (.int (4 : Int32)), .val (.ref a1_), .val (.int (1 : Int32)), .val (.ref a)] [(.int (255 : Int32)), (.int c1)])) (fun t_ hr_ => XS.sipush A6_ hx rfl (Jvm.hb hby d14_35) hr_) ?_
    refine own_by (T' := T6_) (g' := (mkF m 54 #[.val (.ref ca), .val (.int (0 : Int32)), .val (.int (4 : Int32)), .val (.ref a1_), .val (.int (1 : Int32)), .val (.ref a)] [])) (fun t_ hr_ => XS.icmpYes A6_ hx rfl (pc0 := 38) (pc' := 54) rfl (Jvm.hb hby d14_38) rfl (tlt hi0).2.2.1 (by decide) (by decide) hr_) ?_
    refine own_by (T' := T6_) (g' := (mkF m 56 #[.val (.ref ca), .val (.int (0 : Int32)), .val (.int (4 : Int32)), .val (.ref a1_), .val (.int (1 : Int32)), .val (.ref a)] [(.ref a)])) (fun t_ hr_ => XS.aload A6_ hx rfl (Jvm.hb hby d14_54) rfl rfl hr_) ?_
    exact own_retA w6_ hx hEL hlk hret rfl rfl (Jvm.hb hby d14_56) (by decide) (by decide) ⟨_, _, rfl, own_extTrans (own_extK E1_ KC (allS ga0 all0)) E3, Or.inl V3⟩
  · have A2_ := own_at w2_
    show own_WP p e _ below s Z _ n0 _ T2_ (mkF m 12 #[.val (.ref ca), .val (.int (0 : Int32)), .val (.int (4 : Int32)), .val (.ref a1_), .unset, .unset] [(.int (2 : Int32))])
    refine own_by (T' := T2_) (g' := (mkF m 14 #[.val (.ref ca), .val (.int (0 : Int32)), .val (.int (4 : Int32)), .val (.ref a1_), .val (.int (2 : Int32)), .unset] [])) (fun t_ hr_ => XS.istore A2_ hx rfl (Jvm.hb hby d14_12) rfl (l' := #[.val (.ref ca), .val (.int (0 : Int32)), .val (.int (4 : Int32)), .val (.ref a1_), .val (.int (2 : Int32)), .unset]) rfl hr_) ?_
    refine own_by (T' := T2_) (g' := (mkF m 16 #[.val (.ref ca), .val (.int (0 : Int32)), .val (.int (4 : Int32)), .val (.ref a1_), .val (.int (2 : Int32)), .unset] [(.int (2 : Int32))])) (fun t_ hr_ => XS.iload A2_ hx rfl (Jvm.hb hby d14_14) rfl hr_) ?_
    refine own_by (T' := T2_) (g' := (mkF m 17 #[.val (.ref ca), .val (.int (0 : Int32)), .val (.int (4 : Int32)), .val (.ref a1_), .val (.int (2 : Int32)), .unset] [(.int (4 : Int32)), (.int (2 : Int32))])) (fun t_ hr_ => XS.iloadN A2_ hx rfl (Jvm.hb hby d14_16) rfl hr_) ?_
    refine own_by (T' := T2_) (g' := (mkF m 20 #[.val (.ref ca), .val (.int (0 : Int32)), .val (.int (4 : Int32)), .val (.ref a1_), .val (.int (2 : Int32)), .unset] [])) (fun t_ hr_ => XS.icmpNo A2_ hx rfl (Jvm.hb hby d14_17) rfl (feq (by decide)).1 hr_) ?_
    refine own_by (T' := T2_) (g' := (mkF m 21 #[.val (.ref ca), .val (.int (0 : Int32)), .val (.int (4 : Int32)), .val (.ref a1_), .val (.int (2 : Int32)), .unset] [(.ref ca)])) (fun t_ hr_ => XS.aloadN A2_ hx rfl (Jvm.hb hby d14_20) rfl rfl hr_) ?_
    refine own_by (T' := T2_) (g' := (mkF m 22 #[.val (.ref ca), .val (.int (0 : Int32)), .val (.int (4 : Int32)), .val (.ref a1_), .val (.int (2 : Int32)), .unset] [(.int (0 : Int32)), (.ref ca)])) (fun t_ hr_ => XS.iloadN A2_ hx rfl (Jvm.hb hby d14_21) rfl hr_) ?_
    refine own_by (T' := T2_) (g' := (mkF m 23 #[.val (.ref ca), .val (.int (0 : Int32)), .val (.int (4 : Int32)), .val (.ref a1_), .val (.int (2 : Int32)), .unset] [(.int (4 : Int32)), (.int (0 : Int32)), (.ref ca)])) (fun t_ hr_ => XS.iloadN A2_ hx rfl (Jvm.hb hby d14_22) rfl hr_) ?_
    have VC2 := VC1.keep KC (ninS nca nin0)
    refine own_callS w2_ hx (y := (⟨"java/lang/StringUTF16", "toBytes", "([CII)[B"⟩ : MethodName)) (hw _ (List.mem_of_getElem? (i := 81) rfl)) (hw _ (List.mem_of_getElem? (i := 82) rfl)) (hw _ (List.mem_of_getElem? (i := 70) rfl)) (hw _ (List.mem_of_getElem? (i := 83) rfl)) (by decide) (kc := 1) (ks := 8) (argsL := [(.ref ca), (.int (0 : Int32)), (.int (4 : Int32))]) (rest := []) (own_payCt (W := 0) (ctTB4 l Z a0 hw US n0 h2_ (own_old w2_) ca kC c0 c1 c2 c3 VC2) w2_ (hw _ (List.mem_of_getElem? (i := 83) rfl)) (hw _ (List.mem_of_getElem? (i := 70) rfl)) hEL (by decide) (by decide)) (g := (mkF m 23 #[.val (.ref ca), .val (.int (0 : Int32)), .val (.int (4 : Int32)), .val (.ref a1_), .val (.int (2 : Int32)), .unset] [(.int (4 : Int32)), (.int (0 : Int32)), (.ref ca)])) rfl (by rw [hml]; rfl) (lenOf pd_272673973 rfl) rfl (by show 2 * 0 + _ ≤ _; exact Nat.le_of_eq rfl) (Jvm.hb hby d14_23) (by decide) (by decide) (fun v7_ T7_ vm7_ h7_ q7_ C7_ w7_ => ?_)
    obtain ⟨a, k, rfl, E3, V3⟩ := q7_
    have A7_ := own_at w7_
    show own_WP p e _ below s Z _ n0 _ T7_ (mkF m 26 #[.val (.ref ca), .val (.int (0 : Int32)), .val (.int (4 : Int32)), .val (.ref a1_), .val (.int (2 : Int32)), .unset] [(.ref a)])
    refine own_by (T' := T7_) (g' := (mkF m 28 #[.val (.ref ca), .val (.int (0 : Int32)), .val (.int (4 : Int32)), .val (.ref a1_), .val (.int (2 : Int32)), .val (.ref a)] [])) (fun t_ hr_ => XS.astore A7_ hx rfl (Jvm.hb hby d14_26) rfl rfl (l' := #[.val (.ref ca), .val (.int (0 : Int32)), .val (.int (4 : Int32)), .val (.ref a1_), .val (.int (2 : Int32)), .val (.ref a)]) rfl hr_) ?_
    refine own_by (T' := T7_) (g' := (mkF m 30 #[.val (.ref ca), .val (.int (0 : Int32)), .val (.int (4 : Int32)), .val (.ref a1_), .val (.int (2 : Int32)), .val (.ref a)] [(.ref a)])) (fun t_ hr_ => XS.aload A7_ hx rfl (Jvm.hb hby d14_28) rfl rfl hr_) ?_
    refine own_by (T' := T7_) (g' := (mkF m 32 #[.val (.ref ca), .val (.int (0 : Int32)), .val (.int (4 : Int32)), .val (.ref a1_), .val (.int (2 : Int32)), .val (.ref a)] [(.int (2 : Int32)), (.ref a)])) (fun t_ hr_ => XS.iload A7_ hx rfl (Jvm.hb hby d14_30) rfl hr_) ?_
    refine own_callS w7_ hx (y := (⟨"java/lang/StringUTF16", "getChar", "([BI)C"⟩ : MethodName)) (hw _ (List.mem_of_getElem? (i := 97) rfl)) (hw _ (List.mem_of_getElem? (i := 98) rfl)) (hw _ (List.mem_of_getElem? (i := 70) rfl)) (hw _ (List.mem_of_getElem? (i := 99) rfl)) (by decide) (kc := 0) (ks := 0) (argsL := [(.ref a), (.int (2 : Int32))]) (rest := []) (own_payCt (W := 0) (ctGet l Z a0 hw US n0 h7_ (own_old w7_) a 2 k [c0, c1, c2, c3] V3 (by simp only [List.forall_mem_cons, List.not_mem_nil, false_imp_iff, implies_true, and_true]; exact ⟨r0, r1, r2, r3⟩) (by simp) (by simp)) w7_ (hw _ (List.mem_of_getElem? (i := 99) rfl)) (hw _ (List.mem_of_getElem? (i := 70) rfl)) hEL (by decide) (by decide)) (g := (mkF m 32 #[.val (.ref ca), .val (.int (0 : Int32)), .val (.int (4 : Int32)), .val (.ref a1_), .val (.int (2 : Int32)), .val (.ref a)] [(.int (2 : Int32)), (.ref a)])) rfl (by rw [hml]; rfl) (lenOf pd_128700058 rfl) rfl (by show 2 * 0 + _ ≤ _; exact Nat.le_of_eq rfl) (Jvm.hb hby d14_32) (by decide) (by decide) (fun v8_ T8_ vm8_ h8_ q8_ C8_ w8_ => ?_)
    obtain ⟨rfl, rfl⟩ := q8_
    have A8_ := own_at w8_
    show own_WP p e _ below s Z _ n0 _ T8_ (mkF m 35 #[.val (.ref ca), .val (.int (0 : Int32)), .val (.int (4 : Int32)), .val (.ref a1_), .val (.int (2 : Int32)), .val (.ref a)] [(.int c2)])
    refine own_by (T' := T8_) (g' := (mkF m 38 #[.val (.ref ca), .val (.int (0 : Int32)), .val (.int (4 : Int32)), .val (.ref a1_), .val (.int (2 : Int32)), .val (.ref a)] [(.int (255 : Int32)), (.int c2)])) (fun t_ hr_ => XS.sipush A8_ hx rfl (Jvm.hb hby d14_35) hr_) ?_
    refine own_by (T' := T8_) (g' := (mkF m 54 #[.val (.ref ca), .val (.int (0 : Int32)), .val (.int (4 : Int32)), .val (.ref a1_), .val (.int (2 : Int32)), .val (.ref a)] [])) (fun t_ hr_ => XS.icmpYes A8_ hx rfl (pc0 := 38) (pc' := 54) rfl (Jvm.hb hby d14_38) rfl (tlt hi0).2.2.1 (by decide) (by decide) hr_) ?_
    refine own_by (T' := T8_) (g' := (mkF m 56 #[.val (.ref ca), .val (.int (0 : Int32)), .val (.int (4 : Int32)), .val (.ref a1_), .val (.int (2 : Int32)), .val (.ref a)] [(.ref a)])) (fun t_ hr_ => XS.aload A8_ hx rfl (Jvm.hb hby d14_54) rfl rfl hr_) ?_
    exact own_retA w8_ hx hEL hlk hret rfl rfl (Jvm.hb hby d14_56) (by decide) (by decide) ⟨_, _, rfl, own_extTrans (own_extK E1_ KC (allS ga0 all0)) E3, Or.inl V3⟩
  · have A2_ := own_at w2_
    show own_WP p e _ below s Z _ n0 _ T2_ (mkF m 12 #[.val (.ref ca), .val (.int (0 : Int32)), .val (.int (4 : Int32)), .val (.ref a1_), .unset, .unset] [(.int (3 : Int32))])
    refine own_by (T' := T2_) (g' := (mkF m 14 #[.val (.ref ca), .val (.int (0 : Int32)), .val (.int (4 : Int32)), .val (.ref a1_), .val (.int (3 : Int32)), .unset] [])) (fun t_ hr_ => XS.istore A2_ hx rfl (Jvm.hb hby d14_12) rfl (l' := #[.val (.ref ca), .val (.int (0 : Int32)), .val (.int (4 : Int32)), .val (.ref a1_), .val (.int (3 : Int32)), .unset]) rfl hr_) ?_
    refine own_by (T' := T2_) (g' := (mkF m 16 #[.val (.ref ca), .val (.int (0 : Int32)), .val (.int (4 : Int32)), .val (.ref a1_), .val (.int (3 : Int32)), .unset] [(.int (3 : Int32))])) (fun t_ hr_ => XS.iload A2_ hx rfl (Jvm.hb hby d14_14) rfl hr_) ?_
    refine own_by (T' := T2_) (g' := (mkF m 17 #[.val (.ref ca), .val (.int (0 : Int32)), .val (.int (4 : Int32)), .val (.ref a1_), .val (.int (3 : Int32)), .unset] [(.int (4 : Int32)), (.int (3 : Int32))])) (fun t_ hr_ => XS.iloadN A2_ hx rfl (Jvm.hb hby d14_16) rfl hr_) ?_
    refine own_by (T' := T2_) (g' := (mkF m 20 #[.val (.ref ca), .val (.int (0 : Int32)), .val (.int (4 : Int32)), .val (.ref a1_), .val (.int (3 : Int32)), .unset] [])) (fun t_ hr_ => XS.icmpNo A2_ hx rfl (Jvm.hb hby d14_17) rfl (feq (by decide)).1 hr_) ?_
    refine own_by (T' := T2_) (g' := (mkF m 21 #[.val (.ref ca), .val (.int (0 : Int32)), .val (.int (4 : Int32)), .val (.ref a1_), .val (.int (3 : Int32)), .unset] [(.ref ca)])) (fun t_ hr_ => XS.aloadN A2_ hx rfl (Jvm.hb hby d14_20) rfl rfl hr_) ?_
    refine own_by (T' := T2_) (g' := (mkF m 22 #[.val (.ref ca), .val (.int (0 : Int32)), .val (.int (4 : Int32)), .val (.ref a1_), .val (.int (3 : Int32)), .unset] [(.int (0 : Int32)), (.ref ca)])) (fun t_ hr_ => XS.iloadN A2_ hx rfl (Jvm.hb hby d14_21) rfl hr_) ?_
    refine own_by (T' := T2_) (g' := (mkF m 23 #[.val (.ref ca), .val (.int (0 : Int32)), .val (.int (4 : Int32)), .val (.ref a1_), .val (.int (3 : Int32)), .unset] [(.int (4 : Int32)), (.int (0 : Int32)), (.ref ca)])) (fun t_ hr_ => XS.iloadN A2_ hx rfl (Jvm.hb hby d14_22) rfl hr_) ?_
    have VC2 := VC1.keep KC (ninS nca nin0)
    refine own_callS w2_ hx (y := (⟨"java/lang/StringUTF16", "toBytes", "([CII)[B"⟩ : MethodName)) (hw _ (List.mem_of_getElem? (i := 81) rfl)) (hw _ (List.mem_of_getElem? (i := 82) rfl)) (hw _ (List.mem_of_getElem? (i := 70) rfl)) (hw _ (List.mem_of_getElem? (i := 83) rfl)) (by decide) (kc := 1) (ks := 8) (argsL := [(.ref ca), (.int (0 : Int32)), (.int (4 : Int32))]) (rest := []) (own_payCt (W := 0) (ctTB4 l Z a0 hw US n0 h2_ (own_old w2_) ca kC c0 c1 c2 c3 VC2) w2_ (hw _ (List.mem_of_getElem? (i := 83) rfl)) (hw _ (List.mem_of_getElem? (i := 70) rfl)) hEL (by decide) (by decide)) (g := (mkF m 23 #[.val (.ref ca), .val (.int (0 : Int32)), .val (.int (4 : Int32)), .val (.ref a1_), .val (.int (3 : Int32)), .unset] [(.int (4 : Int32)), (.int (0 : Int32)), (.ref ca)])) rfl (by rw [hml]; rfl) (lenOf pd_272673973 rfl) rfl (by show 2 * 0 + _ ≤ _; exact Nat.le_of_eq rfl) (Jvm.hb hby d14_23) (by decide) (by decide) (fun v9_ T9_ vm9_ h9_ q9_ C9_ w9_ => ?_)
    obtain ⟨a, k, rfl, E3, V3⟩ := q9_
    have A9_ := own_at w9_
    show own_WP p e _ below s Z _ n0 _ T9_ (mkF m 26 #[.val (.ref ca), .val (.int (0 : Int32)), .val (.int (4 : Int32)), .val (.ref a1_), .val (.int (3 : Int32)), .unset] [(.ref a)])
    refine own_by (T' := T9_) (g' := (mkF m 28 #[.val (.ref ca), .val (.int (0 : Int32)), .val (.int (4 : Int32)), .val (.ref a1_), .val (.int (3 : Int32)), .val (.ref a)] [])) (fun t_ hr_ => XS.astore A9_ hx rfl (Jvm.hb hby d14_26) rfl rfl (l' := #[.val (.ref ca), .val (.int (0 : Int32)), .val (.int (4 : Int32)), .val (.ref a1_), .val (.int (3 : Int32)), .val (.ref a)]) rfl hr_) ?_
    refine own_by (T' := T9_) (g' := (mkF m 30 #[.val (.ref ca), .val (.int (0 : Int32)), .val (.int (4 : Int32)), .val (.ref a1_), .val (.int (3 : Int32)), .val (.ref a)] [(.ref a)])) (fun t_ hr_ => XS.aload A9_ hx rfl (Jvm.hb hby d14_28) rfl rfl hr_) ?_
    refine own_by (T' := T9_) (g' := (mkF m 32 #[.val (.ref ca), .val (.int (0 : Int32)), .val (.int (4 : Int32)), .val (.ref a1_), .val (.int (3 : Int32)), .val (.ref a)] [(.int (3 : Int32)), (.ref a)])) (fun t_ hr_ => XS.iload A9_ hx rfl (Jvm.hb hby d14_30) rfl hr_) ?_
    refine own_callS w9_ hx (y := (⟨"java/lang/StringUTF16", "getChar", "([BI)C"⟩ : MethodName)) (hw _ (List.mem_of_getElem? (i := 97) rfl)) (hw _ (List.mem_of_getElem? (i := 98) rfl)) (hw _ (List.mem_of_getElem? (i := 70) rfl)) (hw _ (List.mem_of_getElem? (i := 99) rfl)) (by decide) (kc := 0) (ks := 0) (argsL := [(.ref a), (.int (3 : Int32))]) (rest := []) (own_payCt (W := 0) (ctGet l Z a0 hw US n0 h9_ (own_old w9_) a 3 k [c0, c1, c2, c3] V3 (by simp only [List.forall_mem_cons, List.not_mem_nil, false_imp_iff, implies_true, and_true]; exact ⟨r0, r1, r2, r3⟩) (by simp) (by simp)) w9_ (hw _ (List.mem_of_getElem? (i := 99) rfl)) (hw _ (List.mem_of_getElem? (i := 70) rfl)) hEL (by decide) (by decide)) (g := (mkF m 32 #[.val (.ref ca), .val (.int (0 : Int32)), .val (.int (4 : Int32)), .val (.ref a1_), .val (.int (3 : Int32)), .val (.ref a)] [(.int (3 : Int32)), (.ref a)])) rfl (by rw [hml]; rfl) (lenOf pd_128700058 rfl) rfl (by show 2 * 0 + _ ≤ _; exact Nat.le_of_eq rfl) (Jvm.hb hby d14_32) (by decide) (by decide) (fun v10_ T10_ vm10_ h10_ q10_ C10_ w10_ => ?_)
    obtain ⟨rfl, rfl⟩ := q10_
    have A10_ := own_at w10_
    show own_WP p e _ below s Z _ n0 _ T10_ (mkF m 35 #[.val (.ref ca), .val (.int (0 : Int32)), .val (.int (4 : Int32)), .val (.ref a1_), .val (.int (3 : Int32)), .val (.ref a)] [(.int c3)])
    refine own_by (T' := T10_) (g' := (mkF m 38 #[.val (.ref ca), .val (.int (0 : Int32)), .val (.int (4 : Int32)), .val (.ref a1_), .val (.int (3 : Int32)), .val (.ref a)] [(.int (255 : Int32)), (.int c3)])) (fun t_ hr_ => XS.sipush A10_ hx rfl (Jvm.hb hby d14_35) hr_) ?_
    refine own_by (T' := T10_) (g' := (mkF m 54 #[.val (.ref ca), .val (.int (0 : Int32)), .val (.int (4 : Int32)), .val (.ref a1_), .val (.int (3 : Int32)), .val (.ref a)] [])) (fun t_ hr_ => XS.icmpYes A10_ hx rfl (pc0 := 38) (pc' := 54) rfl (Jvm.hb hby d14_38) rfl (tlt hi0).2.2.1 (by decide) (by decide) hr_) ?_
    refine own_by (T' := T10_) (g' := (mkF m 56 #[.val (.ref ca), .val (.int (0 : Int32)), .val (.int (4 : Int32)), .val (.ref a1_), .val (.int (3 : Int32)), .val (.ref a)] [(.ref a)])) (fun t_ hr_ => XS.aload A10_ hx rfl (Jvm.hb hby d14_54) rfl rfl hr_) ?_
    exact own_retA w10_ hx hEL hlk hret rfl rfl (Jvm.hb hby d14_56) (by decide) (by decide) ⟨_, _, rfl, own_extTrans (own_extK E1_ KC (allS ga0 all0)) E3, Or.inl V3⟩
  · have A2_ := own_at w2_
    show own_WP p e _ below s Z _ n0 _ T2_ (mkF m 12 #[.val (.ref ca), .val (.int (0 : Int32)), .val (.int (4 : Int32)), .val (.ref a1_), .unset, .unset] [(.int (4 : Int32))])
    refine own_by (T' := T2_) (g' := (mkF m 14 #[.val (.ref ca), .val (.int (0 : Int32)), .val (.int (4 : Int32)), .val (.ref a1_), .val (.int (4 : Int32)), .unset] [])) (fun t_ hr_ => XS.istore A2_ hx rfl (Jvm.hb hby d14_12) rfl (l' := #[.val (.ref ca), .val (.int (0 : Int32)), .val (.int (4 : Int32)), .val (.ref a1_), .val (.int (4 : Int32)), .unset]) rfl hr_) ?_
    refine own_by (T' := T2_) (g' := (mkF m 16 #[.val (.ref ca), .val (.int (0 : Int32)), .val (.int (4 : Int32)), .val (.ref a1_), .val (.int (4 : Int32)), .unset] [(.int (4 : Int32))])) (fun t_ hr_ => XS.iload A2_ hx rfl (Jvm.hb hby d14_14) rfl hr_) ?_
    refine own_by (T' := T2_) (g' := (mkF m 17 #[.val (.ref ca), .val (.int (0 : Int32)), .val (.int (4 : Int32)), .val (.ref a1_), .val (.int (4 : Int32)), .unset] [(.int (4 : Int32)), (.int (4 : Int32))])) (fun t_ hr_ => XS.iloadN A2_ hx rfl (Jvm.hb hby d14_16) rfl hr_) ?_
    refine own_by (T' := T2_) (g' := (mkF m 57 #[.val (.ref ca), .val (.int (0 : Int32)), .val (.int (4 : Int32)), .val (.ref a1_), .val (.int (4 : Int32)), .unset] [])) (fun t_ hr_ => XS.icmpYes A2_ hx rfl (pc0 := 17) (pc' := 57) rfl (Jvm.hb hby d14_17) rfl (teq (rfl : (4 : Int32) = (4 : Int32))).1 (by decide) (by decide) hr_) ?_
    refine own_by (T' := T2_) (g' := (mkF m 58 #[.val (.ref ca), .val (.int (0 : Int32)), .val (.int (4 : Int32)), .val (.ref a1_), .val (.int (4 : Int32)), .unset] [(.ref a1_)])) (fun t_ hr_ => XS.aloadN A2_ hx rfl (Jvm.hb hby d14_57) rfl rfl hr_) ?_
    exact own_retA w2_ hx hEL hlk hret rfl rfl (Jvm.hb hby d14_58) (by decide) (by decide) ⟨_, _, rfl, own_extK E1_ KC (allS ga0 all0), Or.inr ⟨VN, hi0⟩⟩

theorem ef_ctCo4_1 (m : MethodId) (x0 : Addr) (x1 : Int32) : entryFrame m #[(.ref x0), (.int x1)] 2 = mkF m 0 #[.val (.ref x0), .val (.int x1)] [] := by first | (simp [entryFrame, mkF, argsToLocals, Value.category]; done) | rfl
set_option maxRecDepth 65536 in
set_option maxHeartbeats 40000000 in
theorem ctCo4_1 (l : Launch) (Z : State) (a0 : Array Value) (hw : ∀ d ∈ tables_1, d.before a0 Z = true) (n0 : Nat) (h0 : Heap) (O0 : Old Z n0 h0) (a : Addr) (k : ClassId) (vs : List Value) (V : Arv Z h0 a k .byte (8 : Int32) vs (.int 0)) :
    own_Ct l (⟨"java/lang/StringUTF16", "coderFromArrayLen", "([BI)B"⟩ : MethodName) jdk_52_method_15_code 2 (some .byte) ({ frames := 0, cells := 0, slots := 0, locals := 0 } : Room) Z consts_1 n0 #[(.ref a), (.int (4 : Int32))] h0 [] (fun v h => v = some (.int 1) ∧ h0 = h) := by
  have hEL := own_EL hw
  refine own_body pn_741215687 O0 (fun p e s m below meth cc_ T0 vm0 hx hby hml0 hret hlk hnm hsf w0 => ?_)
  have hml : cc_.maxLocals = 2 := hml0
  have A_0 := own_at w0
  refine own_entry (ef_ctCo4_1 m a (4 : Int32)) ?_
  refine own_by (T' := T0) (g' := (mkF m 1 #[.val (.ref a), .val (.int (4 : Int32))] [(.int (4 : Int32))])) (fun t_ hr_ => XS.iloadN A_0 hx rfl (Jvm.hb hby d16_0) rfl hr_) ?_
  refine own_by (T' := T0) (g' := (mkF m 2 #[.val (.ref a), .val (.int (4 : Int32))] [(.ref a), (.int (4 : Int32))])) (fun t_ hr_ => XS.aloadN A_0 hx rfl (Jvm.hb hby d16_1) rfl rfl hr_) ?_
  refine own_alen w0 hx V (g := (mkF m 2 #[.val (.ref a), .val (.int (4 : Int32))] [(.ref a), (.int (4 : Int32))])) rfl rfl (Jvm.hb hby d16_2) ?_
  show own_WP p e _ below s Z _ n0 _ T0 (mkF m 3 #[.val (.ref a), .val (.int (4 : Int32))] [(.int (8 : Int32)), (.int (4 : Int32))])
  refine own_by (T' := T0) (g' := (mkF m 4 #[.val (.ref a), .val (.int (4 : Int32))] [(.int ((4 : Int32) - (8 : Int32)))])) (fun t_ hr_ => XS.isub A_0 hx rfl (Jvm.hb hby d16_3) rfl hr_) ?_
  refine own_by (T' := T0) (g' := (mkF m 6 #[.val (.ref a), .val (.int (4 : Int32))] [(.int (31 : Int32)), (.int ((4 : Int32) - (8 : Int32)))])) (fun t_ hr_ => XS.bipush A_0 hx rfl (Jvm.hb hby d16_4) hr_) ?_
  refine own_by (T' := T0) (g' := (mkF m 7 #[.val (.ref a), .val (.int (4 : Int32))] [(.int ((((4 : Int32) - (8 : Int32)).toUInt32 >>> ((31 : Int32) &&& 31).toUInt32).toInt32))])) (fun t_ hr_ => XS.iushr A_0 hx rfl (Jvm.hb hby d16_6) rfl hr_) ?_
  refine own_by (T' := T0) (g' := (mkF m 8 #[.val (.ref a), .val (.int (4 : Int32))] [(.int (((((4 : Int32) - (8 : Int32)).toUInt32 >>> ((31 : Int32) &&& 31).toUInt32).toInt32).toInt8.toInt32))])) (fun t_ hr_ => XS.i2b A_0 hx rfl (Jvm.hb hby d16_7) rfl hr_) ?_
  rw [show (((((4 : Int32) - (8 : Int32)).toUInt32 >>> ((31 : Int32) &&& 31).toUInt32).toInt32).toInt8.toInt32) = (1 : Int32) from (by decide)]
  show own_WP p e _ below s Z _ n0 _ T0 (mkF m 8 #[.val (.ref a), .val (.int (4 : Int32))] [(.int (1 : Int32))])
  exact own_retB w0 hx hEL hlk hret rfl (Jvm.hb hby d16_8) (by decide) (by decide) ⟨rfl, rfl⟩

theorem ef_ctCo4_0 (m : MethodId) (x0 : Addr) (x1 : Int32) : entryFrame m #[(.ref x0), (.int x1)] 2 = mkF m 0 #[.val (.ref x0), .val (.int x1)] [] := by first | (simp [entryFrame, mkF, argsToLocals, Value.category]; done) | rfl
set_option maxRecDepth 65536 in
set_option maxHeartbeats 40000000 in
theorem ctCo4_0 (l : Launch) (Z : State) (a0 : Array Value) (hw : ∀ d ∈ tables_1, d.before a0 Z = true) (n0 : Nat) (h0 : Heap) (O0 : Old Z n0 h0) (a : Addr) (k : ClassId) (vs : List Value) (V : Arv Z h0 a k .byte (4 : Int32) vs (.int 0)) :
    own_Ct l (⟨"java/lang/StringUTF16", "coderFromArrayLen", "([BI)B"⟩ : MethodName) jdk_52_method_15_code 2 (some .byte) ({ frames := 0, cells := 0, slots := 0, locals := 0 } : Room) Z consts_1 n0 #[(.ref a), (.int (4 : Int32))] h0 [] (fun v h => v = some (.int 0) ∧ h0 = h) := by
  have hEL := own_EL hw
  refine own_body pn_741215687 O0 (fun p e s m below meth cc_ T0 vm0 hx hby hml0 hret hlk hnm hsf w0 => ?_)
  have hml : cc_.maxLocals = 2 := hml0
  have A_0 := own_at w0
  refine own_entry (ef_ctCo4_0 m a (4 : Int32)) ?_
  refine own_by (T' := T0) (g' := (mkF m 1 #[.val (.ref a), .val (.int (4 : Int32))] [(.int (4 : Int32))])) (fun t_ hr_ => XS.iloadN A_0 hx rfl (Jvm.hb hby d16_0) rfl hr_) ?_
  refine own_by (T' := T0) (g' := (mkF m 2 #[.val (.ref a), .val (.int (4 : Int32))] [(.ref a), (.int (4 : Int32))])) (fun t_ hr_ => XS.aloadN A_0 hx rfl (Jvm.hb hby d16_1) rfl rfl hr_) ?_
  refine own_alen w0 hx V (g := (mkF m 2 #[.val (.ref a), .val (.int (4 : Int32))] [(.ref a), (.int (4 : Int32))])) rfl rfl (Jvm.hb hby d16_2) ?_
  show own_WP p e _ below s Z _ n0 _ T0 (mkF m 3 #[.val (.ref a), .val (.int (4 : Int32))] [(.int (4 : Int32)), (.int (4 : Int32))])
  refine own_by (T' := T0) (g' := (mkF m 4 #[.val (.ref a), .val (.int (4 : Int32))] [(.int ((4 : Int32) - (4 : Int32)))])) (fun t_ hr_ => XS.isub A_0 hx rfl (Jvm.hb hby d16_3) rfl hr_) ?_
  refine own_by (T' := T0) (g' := (mkF m 6 #[.val (.ref a), .val (.int (4 : Int32))] [(.int (31 : Int32)), (.int ((4 : Int32) - (4 : Int32)))])) (fun t_ hr_ => XS.bipush A_0 hx rfl (Jvm.hb hby d16_4) hr_) ?_
  refine own_by (T' := T0) (g' := (mkF m 7 #[.val (.ref a), .val (.int (4 : Int32))] [(.int ((((4 : Int32) - (4 : Int32)).toUInt32 >>> ((31 : Int32) &&& 31).toUInt32).toInt32))])) (fun t_ hr_ => XS.iushr A_0 hx rfl (Jvm.hb hby d16_6) rfl hr_) ?_
  refine own_by (T' := T0) (g' := (mkF m 8 #[.val (.ref a), .val (.int (4 : Int32))] [(.int (((((4 : Int32) - (4 : Int32)).toUInt32 >>> ((31 : Int32) &&& 31).toUInt32).toInt32).toInt8.toInt32))])) (fun t_ hr_ => XS.i2b A_0 hx rfl (Jvm.hb hby d16_7) rfl hr_) ?_
  rw [show (((((4 : Int32) - (4 : Int32)).toUInt32 >>> ((31 : Int32) &&& 31).toUInt32).toInt32).toInt8.toInt32) = (0 : Int32) from (by decide)]
  show own_WP p e _ below s Z _ n0 _ T0 (mkF m 8 #[.val (.ref a), .val (.int (4 : Int32))] [(.int (0 : Int32))])
  exact own_retB w0 hx hEL hlk hret rfl (Jvm.hb hby d16_8) (by decide) (by decide) ⟨rfl, rfl⟩

theorem ef_ctNew4w4 (m : MethodId) (x0 : Addr) (x1 : Addr) (x2 : Int32) (x3 : Int32) : entryFrame m #[(.ref x0), (.ref x1), (.int x2), (.int x3), .null] 6 = mkF m 0 #[.val (.ref x0), .val (.ref x1), .val (.int x2), .val (.int x3), .val .null, .unset] [] := by first | (simp [entryFrame, mkF, argsToLocals, Value.category]; done) | rfl
set_option maxRecDepth 65536 in
set_option maxHeartbeats 40000000 in
theorem ctNew4w4 (l : Launch) (Z : State) (a0 : Array Value) (hw : ∀ d ∈ tables_1, d.before a0 Z = true) (SC : own_SC Z) (US : own_US Z) (n0 : Nat) (h0 : Heap) (O0 : Old Z n0 h0) (x ca : Addr) (kC : ClassId) (c0 c1 c2 c3 : Int32) (F0 : own_Raw Z h0 x) (VC : Arv Z h0 ca kC .char (4 : Int32) [(.int c0), (.int c1), (.int c2), (.int c3)] (.int 0)) (gx : n0 ≤ x) (r0 : ¬ c0 < 0 ∧ ¬ (65535 : Int32) < c0) (r1 : ¬ c1 < 0 ∧ ¬ (65535 : Int32) < c1) (r2 : ¬ c2 < 0 ∧ ¬ (65535 : Int32) < c2) (r3 : ¬ c3 < 0 ∧ ¬ (65535 : Int32) < c3) :
    own_Ct l (⟨"java/lang/String", "<init>", "([CIILjava/lang/Void;)V"⟩ : MethodName) jdk_42_method_149_code 6 none ({ frames := 4, cells := 2, slots := 12, locals := 57 } : Room) Z consts_1 n0 #[(.ref x), (.ref ca), (.int (0 : Int32)), (.int (4 : Int32)), .null] h0 [] (fun v h => v = none ∧ Keep h0 h [x] ∧ own_Any Z h x [c0, c1, c2, c3]) := by
  have hEL := own_EL hw
  refine own_body pn_592151507 O0 (fun p e s m below meth cc_ T0 vm0 hx hby hml0 hret hlk hnm hsf w0 => ?_)
  have hml : cc_.maxLocals = 6 := hml0
  have A_0 := own_at w0
  refine own_entry (ef_ctNew4w4 m x ca (0 : Int32) (4 : Int32)) ?_
  obtain ⟨zc, Sz, hz⟩ := SC
  refine own_by (T' := T0) (g' := (mkF m 1 #[.val (.ref x), .val (.ref ca), .val (.int (0 : Int32)), .val (.int (4 : Int32)), .val .null, .unset] [(.ref x)])) (fun t_ hr_ => XS.aloadN A_0 hx rfl (Jvm.hb hby d2_0) rfl rfl hr_) ?_
  refine own_initO w0 hx (hw _ (List.mem_of_getElem? (i := 13) rfl)) (hw _ (List.mem_of_getElem? (i := 14) rfl)) (hw _ (List.mem_of_getElem? (i := 15) rfl)) (g := (mkF m 1 #[.val (.ref x), .val (.ref ca), .val (.int (0 : Int32)), .val (.int (4 : Int32)), .val .null, .unset] [(.ref x)])) rfl (by rw [hml]; rfl) rfl (Jvm.hb hby d2_1) (by decide) (W := 0) (by show 2 * 0 + _ ≤ _; exact Nat.le_of_eq rfl) (by decide) (fun T1_ w1_ => ?_)
  have A1_ := own_at w1_
  show own_WP p e _ below s Z _ n0 _ T1_ (mkF m 4 #[.val (.ref x), .val (.ref ca), .val (.int (0 : Int32)), .val (.int (4 : Int32)), .val .null, .unset] [])
  refine own_by (T' := T1_) (g' := (mkF m 5 #[.val (.ref x), .val (.ref ca), .val (.int (0 : Int32)), .val (.int (4 : Int32)), .val .null, .unset] [(.int (4 : Int32))])) (fun t_ hr_ => XS.iloadN A1_ hx rfl (Jvm.hb hby d2_4) rfl hr_) ?_
  refine own_by (T' := T1_) (g' := (mkF m 27 #[.val (.ref x), .val (.ref ca), .val (.int (0 : Int32)), .val (.int (4 : Int32)), .val .null, .unset] [])) (fun t_ hr_ => XS.ifYes A1_ hx rfl (pc0 := 5) (pc' := 27) rfl (Jvm.hb hby d2_5) rfl ((if0 _ _).trans (feq (by decide)).2) (by decide) (by decide) hr_) ?_
  refine own_getS w1_ hx (hw _ (List.mem_of_getElem? (i := 43) rfl)) (Sz.ext O0.2) (g := (mkF m 27 #[.val (.ref x), .val (.ref ca), .val (.int (0 : Int32)), .val (.int (4 : Int32)), .val .null, .unset] [])) rfl (Jvm.hb hby d2_27) (fun T2_ w2_ => ?_)
  have A2_ := own_at w2_
  show own_WP p e _ below s Z _ n0 _ T2_ (mkF m 30 #[.val (.ref x), .val (.ref ca), .val (.int (0 : Int32)), .val (.int (4 : Int32)), .val .null, .unset] [(.int zc)])
  refine own_by (T' := T2_) (g' := (mkF m 33 #[.val (.ref x), .val (.ref ca), .val (.int (0 : Int32)), .val (.int (4 : Int32)), .val .null, .unset] [])) (fun t_ hr_ => XS.ifNo A2_ hx rfl (Jvm.hb hby d2_30) rfl ((if0 _ _).trans (feq hz).1) hr_) ?_
  refine own_by (T' := T2_) (g' := (mkF m 34 #[.val (.ref x), .val (.ref ca), .val (.int (0 : Int32)), .val (.int (4 : Int32)), .val .null, .unset] [(.ref ca)])) (fun t_ hr_ => XS.aloadN A2_ hx rfl (Jvm.hb hby d2_33) rfl rfl hr_) ?_
  refine own_by (T' := T2_) (g' := (mkF m 35 #[.val (.ref x), .val (.ref ca), .val (.int (0 : Int32)), .val (.int (4 : Int32)), .val .null, .unset] [(.int (0 : Int32)), (.ref ca)])) (fun t_ hr_ => XS.iloadN A2_ hx rfl (Jvm.hb hby d2_34) rfl hr_) ?_
  refine own_by (T' := T2_) (g' := (mkF m 36 #[.val (.ref x), .val (.ref ca), .val (.int (0 : Int32)), .val (.int (4 : Int32)), .val .null, .unset] [(.int (4 : Int32)), (.int (0 : Int32)), (.ref ca)])) (fun t_ hr_ => XS.iloadN A2_ hx rfl (Jvm.hb hby d2_35) rfl hr_) ?_
  refine own_callS w2_ hx (y := (⟨"java/lang/StringUTF16", "compress", "([CII)[B"⟩ : MethodName)) (hw _ (List.mem_of_getElem? (i := 68) rfl)) (hw _ (List.mem_of_getElem? (i := 69) rfl)) (hw _ (List.mem_of_getElem? (i := 70) rfl)) (hw _ (List.mem_of_getElem? (i := 71) rfl)) (by decide) (kc := 2) (ks := 12) (argsL := [(.ref ca), (.int (0 : Int32)), (.int (4 : Int32))]) (rest := []) (own_payCt (W := 0) (ctC34 l Z a0 hw US n0 h0 (own_old w2_) ca kC c0 c1 c2 c3 VC r0 r1 r2 r3) w2_ (hw _ (List.mem_of_getElem? (i := 71) rfl)) (hw _ (List.mem_of_getElem? (i := 70) rfl)) hEL (by decide) (by decide)) (g := (mkF m 36 #[.val (.ref x), .val (.ref ca), .val (.int (0 : Int32)), .val (.int (4 : Int32)), .val .null, .unset] [(.int (4 : Int32)), (.int (0 : Int32)), (.ref ca)])) rfl (by rw [hml]; rfl) (lenOf pd_272673973 rfl) rfl (by show 2 * 0 + _ ≤ _; exact Nat.le_of_eq rfl) (Jvm.hb hby d2_36) (by decide) (by decide) (fun v3_ T3_ vm3_ h3_ q3_ C3_ w3_ => ?_)
  obtain ⟨t, kt, rfl, E1, V1⟩ := q3_
  have A3_ := own_at w3_
  show own_WP p e _ below s Z _ n0 _ T3_ (mkF m 39 #[.val (.ref x), .val (.ref ca), .val (.int (0 : Int32)), .val (.int (4 : Int32)), .val .null, .unset] [(.ref t)])
  refine own_by (T' := T3_) (g' := (mkF m 41 #[.val (.ref x), .val (.ref ca), .val (.int (0 : Int32)), .val (.int (4 : Int32)), .val .null, .val (.ref t)] [])) (fun t_ hr_ => XS.astore A3_ hx rfl (Jvm.hb hby d2_39) rfl rfl (l' := #[.val (.ref x), .val (.ref ca), .val (.int (0 : Int32)), .val (.int (4 : Int32)), .val .null, .val (.ref t)]) rfl hr_) ?_
  refine own_by (T' := T3_) (g' := (mkF m 42 #[.val (.ref x), .val (.ref ca), .val (.int (0 : Int32)), .val (.int (4 : Int32)), .val .null, .val (.ref t)] [(.ref x)])) (fun t_ hr_ => XS.aloadN A3_ hx rfl (Jvm.hb hby d2_41) rfl rfl hr_) ?_
  refine own_by (T' := T3_) (g' := (mkF m 44 #[.val (.ref x), .val (.ref ca), .val (.int (0 : Int32)), .val (.int (4 : Int32)), .val .null, .val (.ref t)] [(.ref t), (.ref x)])) (fun t_ hr_ => XS.aload A3_ hx rfl (Jvm.hb hby d2_42) rfl rfl hr_) ?_
  refine own_by (T' := T3_) (g' := (mkF m 45 #[.val (.ref x), .val (.ref ca), .val (.int (0 : Int32)), .val (.int (4 : Int32)), .val .null, .val (.ref t)] [(.int (4 : Int32)), (.ref t), (.ref x)])) (fun t_ hr_ => XS.iloadN A3_ hx rfl (Jvm.hb hby d2_44) rfl hr_) ?_
  have R1 := F0.ext E1
  rcases V1 with V1 | ⟨V1, hal⟩
  · refine own_callS w3_ hx (y := (⟨"java/lang/StringUTF16", "coderFromArrayLen", "([BI)B"⟩ : MethodName)) (hw _ (List.mem_of_getElem? (i := 75) rfl)) (hw _ (List.mem_of_getElem? (i := 76) rfl)) (hw _ (List.mem_of_getElem? (i := 70) rfl)) (hw _ (List.mem_of_getElem? (i := 77) rfl)) (by decide) (kc := 0) (ks := 0) (argsL := [(.ref t), (.int (4 : Int32))]) (rest := [(.ref x)]) (own_payCt (W := 1) (ctCo4_1 l Z a0 hw n0 h3_ (own_old w3_) t kt _ V1) w3_ (hw _ (List.mem_of_getElem? (i := 77) rfl)) (hw _ (List.mem_of_getElem? (i := 70) rfl)) hEL (by decide) (by decide)) (g := (mkF m 45 #[.val (.ref x), .val (.ref ca), .val (.int (0 : Int32)), .val (.int (4 : Int32)), .val .null, .val (.ref t)] [(.int (4 : Int32)), (.ref t), (.ref x)])) rfl (by rw [hml]; rfl) (lenOf pd_128700057 rfl) rfl (by show 2 * 0 + _ ≤ _; exact Nat.le_of_eq rfl) (Jvm.hb hby d2_45) (by decide) (by decide) (fun v4_ T4_ vm4_ h4_ q4_ C4_ w4_ => ?_)
    obtain ⟨rfl, rfl⟩ := q4_
    have A4_ := own_at w4_
    show own_WP p e _ below s Z _ n0 _ T4_ (mkF m 48 #[.val (.ref x), .val (.ref ca), .val (.int (0 : Int32)), .val (.int (4 : Int32)), .val .null, .val (.ref t)] [(.int (1 : Int32)), (.ref x)])
    have ne1 : x ≠ t := R1.1.neArv V1 (hw _ (List.mem_of_getElem? (i := 4) rfl))
    have Sf1 : Safe Z consts_1 vm4_ h3_ x := R1.safe (own_hZ w4_).alike
    refine own_putF w4_ hx (hw _ (List.mem_of_getElem? (i := 23) rfl)) R1.2.2 R1.1 (Or.inr ⟨(hw _ (List.mem_of_getElem? (i := 19) rfl)), rfl, hnm⟩) (hw _ (List.mem_of_getElem? (i := 4) rfl)) (ty := .byte) (by decide) rfl rfl gx Sf1 (g := (mkF m 48 #[.val (.ref x), .val (.ref ca), .val (.int (0 : Int32)), .val (.int (4 : Int32)), .val .null, .val (.ref t)] [(.int (1 : Int32)), (.ref x)])) rfl rfl (Jvm.hb hby d2_48) (fun T5_ h5_ W5_ w5_ => ?_)
    have A5_ := own_at w5_
    show own_WP p e _ below s Z _ n0 _ T5_ (mkF m 51 #[.val (.ref x), .val (.ref ca), .val (.int (0 : Int32)), .val (.int (4 : Int32)), .val .null, .val (.ref t)] [])
    refine own_by (T' := T5_) (g' := (mkF m 52 #[.val (.ref x), .val (.ref ca), .val (.int (0 : Int32)), .val (.int (4 : Int32)), .val .null, .val (.ref t)] [(.ref x)])) (fun t_ hr_ => XS.aloadN A5_ hx rfl (Jvm.hb hby d2_51) rfl rfl hr_) ?_
    refine own_by (T' := T5_) (g' := (mkF m 54 #[.val (.ref x), .val (.ref ca), .val (.int (0 : Int32)), .val (.int (4 : Int32)), .val .null, .val (.ref t)] [(.ref t), (.ref x)])) (fun t_ hr_ => XS.aload A5_ hx rfl (Jvm.hb hby d2_52) rfl rfl hr_) ?_
    have X2 := R1.1.wr W5_
    have Sf2 : Safe Z consts_1 vm4_ h5_ x := Safe.wr W5_ Sf1 (own_chv w4_) Sf1
    have D2 := R1.2.2.same W5_
    have V2 := R1.2.1.other W5_ (Or.inr (slot_ne (Or.inr (hw _ (List.mem_of_getElem? (i := 18) rfl))) (Or.inr (hw _ (List.mem_of_getElem? (i := 19) rfl))) (by decide) rfl rfl))
    have Y2 := V1.other W5_ (Ne.symm ne1)
    refine own_putF w5_ hx (hw _ (List.mem_of_getElem? (i := 22) rfl)) V2 X2 (Or.inr ⟨(hw _ (List.mem_of_getElem? (i := 18) rfl)), rfl, hnm⟩) (hw _ (List.mem_of_getElem? (i := 4) rfl)) (ty := (.array .byte)) (by decide) rfl rfl gx Sf2 (g := (mkF m 54 #[.val (.ref x), .val (.ref ca), .val (.int (0 : Int32)), .val (.int (4 : Int32)), .val .null, .val (.ref t)] [(.ref t), (.ref x)])) rfl rfl (Jvm.hb hby d2_54) (fun T6_ h6_ W6_ w6_ => ?_)
    have A6_ := own_at w6_
    show own_WP p e _ below s Z _ n0 _ T6_ (mkF m 57 #[.val (.ref x), .val (.ref ca), .val (.int (0 : Int32)), .val (.int (4 : Int32)), .val .null, .val (.ref t)] [])
    exact own_retV w6_ hx hEL hlk hret (Jvm.hb hby d2_57) (by decide) (by decide) ⟨rfl, ((((Keep.refl h0 [x]).ext E1).wr W5_ (Or.inl (List.mem_of_getElem? (i := 0) rfl))).wr W6_ (Or.inl (List.mem_of_getElem? (i := 0) rfl))), Or.inr ⟨X2.wr W6_, D2.other W6_ (Or.inr (slot_ne (Or.inr (hw _ (List.mem_of_getElem? (i := 19) rfl))) (Or.inr (hw _ (List.mem_of_getElem? (i := 18) rfl))) (by decide) rfl rfl)), ⟨t, kt, V2.same W6_, Y2.other W6_ (Ne.symm ne1)⟩, (by simp only [List.forall_mem_cons, List.not_mem_nil, false_imp_iff, implies_true, and_true]; exact ⟨r0, r1, r2, r3⟩), (by simp)⟩⟩
  · refine own_callS w3_ hx (y := (⟨"java/lang/StringUTF16", "coderFromArrayLen", "([BI)B"⟩ : MethodName)) (hw _ (List.mem_of_getElem? (i := 75) rfl)) (hw _ (List.mem_of_getElem? (i := 76) rfl)) (hw _ (List.mem_of_getElem? (i := 70) rfl)) (hw _ (List.mem_of_getElem? (i := 77) rfl)) (by decide) (kc := 0) (ks := 0) (argsL := [(.ref t), (.int (4 : Int32))]) (rest := [(.ref x)]) (own_payCt (W := 1) (ctCo4_0 l Z a0 hw n0 h3_ (own_old w3_) t kt _ V1) w3_ (hw _ (List.mem_of_getElem? (i := 77) rfl)) (hw _ (List.mem_of_getElem? (i := 70) rfl)) hEL (by decide) (by decide)) (g := (mkF m 45 #[.val (.ref x), .val (.ref ca), .val (.int (0 : Int32)), .val (.int (4 : Int32)), .val .null, .val (.ref t)] [(.int (4 : Int32)), (.ref t), (.ref x)])) rfl (by rw [hml]; rfl) (lenOf pd_128700057 rfl) rfl (by show 2 * 0 + _ ≤ _; exact Nat.le_of_eq rfl) (Jvm.hb hby d2_45) (by decide) (by decide) (fun v7_ T7_ vm7_ h7_ q7_ C7_ w7_ => ?_)
    obtain ⟨rfl, rfl⟩ := q7_
    have A7_ := own_at w7_
    show own_WP p e _ below s Z _ n0 _ T7_ (mkF m 48 #[.val (.ref x), .val (.ref ca), .val (.int (0 : Int32)), .val (.int (4 : Int32)), .val .null, .val (.ref t)] [(.int (0 : Int32)), (.ref x)])
    have ne1 : x ≠ t := R1.1.neArv V1 (hw _ (List.mem_of_getElem? (i := 4) rfl))
    have Sf1 : Safe Z consts_1 vm7_ h3_ x := R1.safe (own_hZ w7_).alike
    refine own_putF w7_ hx (hw _ (List.mem_of_getElem? (i := 23) rfl)) R1.2.2 R1.1 (Or.inr ⟨(hw _ (List.mem_of_getElem? (i := 19) rfl)), rfl, hnm⟩) (hw _ (List.mem_of_getElem? (i := 4) rfl)) (ty := .byte) (by decide) rfl rfl gx Sf1 (g := (mkF m 48 #[.val (.ref x), .val (.ref ca), .val (.int (0 : Int32)), .val (.int (4 : Int32)), .val .null, .val (.ref t)] [(.int (0 : Int32)), (.ref x)])) rfl rfl (Jvm.hb hby d2_48) (fun T8_ h8_ W8_ w8_ => ?_)
    have A8_ := own_at w8_
    show own_WP p e _ below s Z _ n0 _ T8_ (mkF m 51 #[.val (.ref x), .val (.ref ca), .val (.int (0 : Int32)), .val (.int (4 : Int32)), .val .null, .val (.ref t)] [])
    refine own_by (T' := T8_) (g' := (mkF m 52 #[.val (.ref x), .val (.ref ca), .val (.int (0 : Int32)), .val (.int (4 : Int32)), .val .null, .val (.ref t)] [(.ref x)])) (fun t_ hr_ => XS.aloadN A8_ hx rfl (Jvm.hb hby d2_51) rfl rfl hr_) ?_
    refine own_by (T' := T8_) (g' := (mkF m 54 #[.val (.ref x), .val (.ref ca), .val (.int (0 : Int32)), .val (.int (4 : Int32)), .val .null, .val (.ref t)] [(.ref t), (.ref x)])) (fun t_ hr_ => XS.aload A8_ hx rfl (Jvm.hb hby d2_52) rfl rfl hr_) ?_
    have X2 := R1.1.wr W8_
    have Sf2 : Safe Z consts_1 vm7_ h8_ x := Safe.wr W8_ Sf1 (own_chv w7_) Sf1
    have D2 := R1.2.2.same W8_
    have V2 := R1.2.1.other W8_ (Or.inr (slot_ne (Or.inr (hw _ (List.mem_of_getElem? (i := 18) rfl))) (Or.inr (hw _ (List.mem_of_getElem? (i := 19) rfl))) (by decide) rfl rfl))
    have Y2 := V1.other W8_ (Ne.symm ne1)
    refine own_putF w8_ hx (hw _ (List.mem_of_getElem? (i := 22) rfl)) V2 X2 (Or.inr ⟨(hw _ (List.mem_of_getElem? (i := 18) rfl)), rfl, hnm⟩) (hw _ (List.mem_of_getElem? (i := 4) rfl)) (ty := (.array .byte)) (by decide) rfl rfl gx Sf2 (g := (mkF m 54 #[.val (.ref x), .val (.ref ca), .val (.int (0 : Int32)), .val (.int (4 : Int32)), .val .null, .val (.ref t)] [(.ref t), (.ref x)])) rfl rfl (Jvm.hb hby d2_54) (fun T9_ h9_ W9_ w9_ => ?_)
    have A9_ := own_at w9_
    show own_WP p e _ below s Z _ n0 _ T9_ (mkF m 57 #[.val (.ref x), .val (.ref ca), .val (.int (0 : Int32)), .val (.int (4 : Int32)), .val .null, .val (.ref t)] [])
    exact own_retV w9_ hx hEL hlk hret (Jvm.hb hby d2_57) (by decide) (by decide) ⟨rfl, ((((Keep.refl h0 [x]).ext E1).wr W8_ (Or.inl (List.mem_of_getElem? (i := 0) rfl))).wr W9_ (Or.inl (List.mem_of_getElem? (i := 0) rfl))), Or.inl ⟨X2.wr W9_, D2.other W9_ (Or.inr (slot_ne (Or.inr (hw _ (List.mem_of_getElem? (i := 19) rfl))) (Or.inr (hw _ (List.mem_of_getElem? (i := 18) rfl))) (by decide) rfl rfl)), ⟨t, kt, V2.same W9_, Y2.other W9_ (Ne.symm ne1)⟩, (by simp only [List.forall_mem_cons, List.not_mem_nil, false_imp_iff, implies_true, and_true]; exact ⟨⟨r0.1, hal.1⟩, ⟨r1.1, hal.2.1⟩, ⟨r2.1, hal.2.2.1⟩, ⟨r3.1, hal.2.2.2⟩⟩), (by simp)⟩⟩

theorem ef_ctNew1w4 (m : MethodId) (x0 : Addr) (x1 : Addr) : entryFrame m #[(.ref x0), (.ref x1)] 2 = mkF m 0 #[.val (.ref x0), .val (.ref x1)] [] := by first | (simp [entryFrame, mkF, argsToLocals, Value.category]; done) | rfl
set_option maxRecDepth 65536 in
set_option maxHeartbeats 40000000 in
theorem ctNew1w4 (l : Launch) (Z : State) (a0 : Array Value) (hw : ∀ d ∈ tables_1, d.before a0 Z = true) (SC : own_SC Z) (US : own_US Z) (n0 : Nat) (h0 : Heap) (O0 : Old Z n0 h0) (x ca : Addr) (kC : ClassId) (c0 c1 c2 c3 : Int32) (F0 : own_Raw Z h0 x) (VC : Arv Z h0 ca kC .char (4 : Int32) [(.int c0), (.int c1), (.int c2), (.int c3)] (.int 0)) (gx : n0 ≤ x) (r0 : ¬ c0 < 0 ∧ ¬ (65535 : Int32) < c0) (r1 : ¬ c1 < 0 ∧ ¬ (65535 : Int32) < c1) (r2 : ¬ c2 < 0 ∧ ¬ (65535 : Int32) < c2) (r3 : ¬ c3 < 0 ∧ ¬ (65535 : Int32) < c3) :
    own_Ct l (⟨"java/lang/String", "<init>", "([C)V"⟩ : MethodName) jdk_42_method_3_code 2 none ({ frames := 5, cells := 2, slots := 12, locals := 74 } : Room) Z consts_1 n0 #[(.ref x), (.ref ca)] h0 [] (fun v h => v = none ∧ Keep h0 h [x] ∧ own_Any Z h x [c0, c1, c2, c3]) := by
  have hEL := own_EL hw
  refine own_body pn_399269609 O0 (fun p e s m below meth cc_ T0 vm0 hx hby hml0 hret hlk hnm hsf w0 => ?_)
  have hml : cc_.maxLocals = 2 := hml0
  have A_0 := own_at w0
  refine own_entry (ef_ctNew1w4 m x ca) ?_
  refine own_by (T' := T0) (g' := (mkF m 1 #[.val (.ref x), .val (.ref ca)] [(.ref x)])) (fun t_ hr_ => XS.aloadN A_0 hx rfl (Jvm.hb hby d1_0) rfl rfl hr_) ?_
  refine own_by (T' := T0) (g' := (mkF m 2 #[.val (.ref x), .val (.ref ca)] [(.ref ca), (.ref x)])) (fun t_ hr_ => XS.aloadN A_0 hx rfl (Jvm.hb hby d1_1) rfl rfl hr_) ?_
  refine own_by (T' := T0) (g' := (mkF m 3 #[.val (.ref x), .val (.ref ca)] [(.int (0 : Int32)), (.ref ca), (.ref x)])) (fun t_ hr_ => XS.iconst A_0 hx rfl (Jvm.hb hby d1_2) hr_) ?_
  refine own_by (T' := T0) (g' := (mkF m 4 #[.val (.ref x), .val (.ref ca)] [(.ref ca), (.int (0 : Int32)), (.ref ca), (.ref x)])) (fun t_ hr_ => XS.aloadN A_0 hx rfl (Jvm.hb hby d1_3) rfl rfl hr_) ?_
  refine own_alen w0 hx VC (g := (mkF m 4 #[.val (.ref x), .val (.ref ca)] [(.ref ca), (.int (0 : Int32)), (.ref ca), (.ref x)])) rfl rfl (Jvm.hb hby d1_4) ?_
  show own_WP p e _ below s Z _ n0 _ T0 (mkF m 5 #[.val (.ref x), .val (.ref ca)] [(.int (4 : Int32)), (.int (0 : Int32)), (.ref ca), (.ref x)])
  refine own_by (T' := T0) (g' := (mkF m 6 #[.val (.ref x), .val (.ref ca)] [.null, (.int (4 : Int32)), (.int (0 : Int32)), (.ref ca), (.ref x)])) (fun t_ hr_ => XS.aconstNull A_0 hx rfl (Jvm.hb hby d1_5) hr_) ?_
  refine own_callC w0 hx (y := (⟨"java/lang/String", "<init>", "([CIILjava/lang/Void;)V"⟩ : MethodName)) rfl (hw _ (List.mem_of_getElem? (i := 9) rfl)) (hw _ (List.mem_of_getElem? (i := 10) rfl)) (hw _ (List.mem_of_getElem? (i := 12) rfl)) (by decide) (kc := 2) (ks := 12) (a := x) (argsL := [(.ref ca), (.int (0 : Int32)), (.int (4 : Int32)), .null]) (rest := []) (own_payCt (W := 0) (ctNew4w4 l Z a0 hw SC US n0 h0 (own_old w0) x ca kC c0 c1 c2 c3 F0 VC gx r0 r1 r2 r3) w0 (hw _ (List.mem_of_getElem? (i := 12) rfl)) (hw _ (List.mem_of_getElem? (i := 5) rfl)) hEL (by decide) (by decide)) (g := (mkF m 6 #[.val (.ref x), .val (.ref ca)] [.null, (.int (4 : Int32)), (.int (0 : Int32)), (.ref ca), (.ref x)])) rfl (by rw [hml]; rfl) (lenOf pd_677231080 rfl) rfl (by show 2 * 0 + _ ≤ _; exact Nat.le_of_eq rfl) (Jvm.hb hby d1_6) (by decide) (by decide) (fun v1_ T1_ vm1_ h1_ q1_ C1_ w1_ => ?_)
  obtain ⟨rfl, K1, S1⟩ := q1_
  have A1_ := own_at w1_
  show own_WP p e _ below s Z _ n0 _ T1_ (mkF m 9 #[.val (.ref x), .val (.ref ca)] [])
  exact own_retV w1_ hx hEL hlk hret (Jvm.hb hby d1_9) (by decide) (by decide) ⟨rfl, K1, S1⟩

theorem d7_0 : decode jdk_42_method_154_code 0 = .ok (.getstatic 38, 3) := by decide +kernel
theorem d7_3 : decode jdk_42_method_154_code 3 = .ok (.ifCond .eq 14, 3) := by decide +kernel
theorem d7_6 : decode jdk_42_method_154_code 6 = .ok (.aload_n 0, 1) := by decide +kernel
theorem d7_7 : decode jdk_42_method_154_code 7 = .ok (.getfield 15, 3) := by decide +kernel
theorem d7_10 : decode jdk_42_method_154_code 10 = .ok (.ifCond .ne 7, 3) := by decide +kernel
theorem d7_13 : decode jdk_42_method_154_code 13 = .ok (.iconst 1, 1) := by decide +kernel
theorem d7_14 : decode jdk_42_method_154_code 14 = .ok (.goto 4, 3) := by decide +kernel
theorem d7_18 : decode jdk_42_method_154_code 18 = .ok (.ireturn, 1) := by decide +kernel
theorem pn_370106469 : plainFor (⟨"java/lang/String", "isLatin1", "()Z"⟩ : MethodName) = true := by first | exact plainFor_of_name (by first | (simp [plainName, overriddenIn]; done) | decide +kernel) | decide +kernel
theorem ef_ctIsL (m : MethodId) (x0 : Addr) : entryFrame m #[(.ref x0)] 1 = mkF m 0 #[.val (.ref x0)] [] := by first | (simp [entryFrame, mkF, argsToLocals, Value.category]; done) | rfl
set_option maxRecDepth 65536 in
set_option maxHeartbeats 40000000 in
theorem ctIsL (l : Launch) (Z : State) (a0 : Array Value) (hw : ∀ d ∈ tables_1, d.before a0 Z = true) (SC : own_SC Z) (n0 : Nat) (h0 : Heap) (O0 : Old Z n0 h0) (x : Addr) (cs : List Int32) (S0 : own_Str Z h0 x cs) :
    own_Ct l (⟨"java/lang/String", "isLatin1", "()Z"⟩ : MethodName) jdk_42_method_154_code 1 (some .boolean) ({ frames := 0, cells := 0, slots := 0, locals := 0 } : Room) Z consts_1 n0 #[(.ref x)] h0 [] (fun v h => v = some (.int 1) ∧ h0 = h) := by
  have hEL := own_EL hw
  refine own_body pn_370106469 O0 (fun p e s m below meth cc_ T0 vm0 hx hby hml0 hret hlk hnm hsf w0 => ?_)
  have hml : cc_.maxLocals = 1 := hml0
  have A_0 := own_at w0
  refine own_entry (ef_ctIsL m x) ?_
  obtain ⟨z, Sz, hz⟩ := SC
  refine own_getS w0 hx (hw _ (List.mem_of_getElem? (i := 43) rfl)) (Sz.ext O0.2) (g := (mkF m 0 #[.val (.ref x)] [])) rfl (Jvm.hb hby d7_0) (fun T1_ w1_ => ?_)
  have A1_ := own_at w1_
  show own_WP p e _ below s Z _ n0 _ T1_ (mkF m 3 #[.val (.ref x)] [(.int z)])
  refine own_by (T' := T1_) (g' := (mkF m 6 #[.val (.ref x)] [])) (fun t_ hr_ => XS.ifNo A1_ hx rfl (Jvm.hb hby d7_3) rfl ((if0 _ _).trans (feq hz).1) hr_) ?_
  refine own_by (T' := T1_) (g' := (mkF m 7 #[.val (.ref x)] [(.ref x)])) (fun t_ hr_ => XS.aloadN A1_ hx rfl (Jvm.hb hby d7_6) rfl rfl hr_) ?_
  refine own_getF w1_ hx (hw _ (List.mem_of_getElem? (i := 23) rfl)) S0.2.1 (g := (mkF m 7 #[.val (.ref x)] [(.ref x)])) rfl rfl (Jvm.hb hby d7_7) (fun T2_ w2_ => ?_)
  have A2_ := own_at w2_
  show own_WP p e _ below s Z _ n0 _ T2_ (mkF m 10 #[.val (.ref x)] [(.int (0 : Int32))])
  refine own_by (T' := T2_) (g' := (mkF m 13 #[.val (.ref x)] [])) (fun t_ hr_ => XS.ifNo A2_ hx rfl (Jvm.hb hby d7_10) rfl ((if0 _ _).trans (teq (rfl : (0 : Int32) = 0)).2) hr_) ?_
  refine own_by (T' := T2_) (g' := (mkF m 14 #[.val (.ref x)] [(.int (1 : Int32))])) (fun t_ hr_ => XS.iconst A2_ hx rfl (Jvm.hb hby d7_13) hr_) ?_
  refine own_by (T' := T2_) (g' := (mkF m 18 #[.val (.ref x)] [(.int (1 : Int32))])) (fun t_ hr_ => XS.goto A2_ hx rfl (pc0 := 14) (pc' := 18) rfl (Jvm.hb hby d7_14) (by decide) (by decide) hr_) ?_
  exact own_retZ w2_ hx hEL hlk hret (Or.inr rfl) (Jvm.hb hby d7_18) (by decide) (by decide) ⟨rfl, rfl⟩

theorem d12_0 : decode jdk_29_method_65_code 0 = .ok (.iload_n 0, 1) := by decide +kernel
theorem d12_1 : decode jdk_29_method_65_code 1 = .ok (.iload_n 1, 1) := by decide +kernel
theorem d12_2 : decode jdk_29_method_65_code 2 = .ok (.if_icmp .lt 7, 3) := by decide +kernel
theorem d12_9 : decode jdk_29_method_65_code 9 = .ok (.iload_n 1, 1) := by decide +kernel
theorem d12_10 : decode jdk_29_method_65_code 10 = .ok (.ireturn, 1) := by decide +kernel
theorem d12_5 : decode jdk_29_method_65_code 5 = .ok (.iload_n 0, 1) := by decide +kernel
theorem d12_6 : decode jdk_29_method_65_code 6 = .ok (.goto 4, 3) := by decide +kernel
theorem pn_977053941 : plainFor (⟨"java/lang/Math", "max", "(II)I"⟩ : MethodName) = true := Jvm.Free.JP.mathPlain rfl (by decide +kernel)
theorem ef_ctMax (m : MethodId) (x0 : Int32) (x1 : Int32) : entryFrame m #[(.int x0), (.int x1)] 2 = mkF m 0 #[.val (.int x0), .val (.int x1)] [] := by first | (simp [entryFrame, mkF, argsToLocals, Value.category]; done) | rfl
set_option maxRecDepth 65536 in
set_option maxHeartbeats 40000000 in
theorem ctMax (l : Launch) (Z : State) (a0 : Array Value) (hw : ∀ d ∈ tables_1, d.before a0 Z = true) (n0 : Nat) (h0 : Heap) (O0 : Old Z n0 h0) (a b : Int32)  :
    own_Ct l (⟨"java/lang/Math", "max", "(II)I"⟩ : MethodName) jdk_29_method_65_code 2 (some .int) ({ frames := 0, cells := 0, slots := 0, locals := 0 } : Room) Z consts_1 n0 #[(.int a), (.int b)] h0 [] (fun v h => v = some (.int (if a < b then b else a)) ∧ h0 = h) := by
  have hEL := own_EL hw
  refine own_body pn_977053941 O0 (fun p e s m below meth cc_ T0 vm0 hx hby hml0 hret hlk hnm hsf w0 => ?_)
  have hml : cc_.maxLocals = 2 := hml0
  have A_0 := own_at w0
  refine own_entry (ef_ctMax m a b) ?_
  refine own_by (T' := T0) (g' := (mkF m 1 #[.val (.int a), .val (.int b)] [(.int a)])) (fun t_ hr_ => XS.iloadN A_0 hx rfl (Jvm.hb hby d12_0) rfl hr_) ?_
  refine own_by (T' := T0) (g' := (mkF m 2 #[.val (.int a), .val (.int b)] [(.int b), (.int a)])) (fun t_ hr_ => XS.iloadN A_0 hx rfl (Jvm.hb hby d12_1) rfl hr_) ?_
  by_cases hc1_ : a < b
  · refine own_by (T' := T0) (g' := (mkF m 9 #[.val (.int a), .val (.int b)] [])) (fun t_ hr_ => XS.icmpYes A_0 hx rfl (pc0 := 2) (pc' := 9) rfl (Jvm.hb hby d12_2) rfl (tlt hc1_).1 (by decide) (by decide) hr_) ?_
    refine own_by (T' := T0) (g' := (mkF m 10 #[.val (.int a), .val (.int b)] [(.int b)])) (fun t_ hr_ => XS.iloadN A_0 hx rfl (Jvm.hb hby d12_9) rfl hr_) ?_
    exact own_retI w0 hx hEL hlk hret (Jvm.hb hby d12_10) (by decide) (by decide) ⟨by rw [if_pos hc1_], rfl⟩
  · refine own_by (T' := T0) (g' := (mkF m 5 #[.val (.int a), .val (.int b)] [])) (fun t_ hr_ => XS.icmpNo A_0 hx rfl (Jvm.hb hby d12_2) rfl (flt hc1_).1 hr_) ?_
    refine own_by (T' := T0) (g' := (mkF m 6 #[.val (.int a), .val (.int b)] [(.int a)])) (fun t_ hr_ => XS.iloadN A_0 hx rfl (Jvm.hb hby d12_5) rfl hr_) ?_
    refine own_by (T' := T0) (g' := (mkF m 10 #[.val (.int a), .val (.int b)] [(.int a)])) (fun t_ hr_ => XS.goto A_0 hx rfl (pc0 := 6) (pc' := 10) rfl (Jvm.hb hby d12_6) (by decide) (by decide) hr_) ?_
    exact own_retI w0 hx hEL hlk hret (Jvm.hb hby d12_10) (by decide) (by decide) ⟨by rw [if_neg hc1_], rfl⟩

theorem d13_0 : decode jdk_29_method_69_code 0 = .ok (.iload_n 0, 1) := by decide +kernel
theorem d13_1 : decode jdk_29_method_69_code 1 = .ok (.iload_n 1, 1) := by decide +kernel
theorem d13_2 : decode jdk_29_method_69_code 2 = .ok (.if_icmp .gt 7, 3) := by decide +kernel
theorem d13_9 : decode jdk_29_method_69_code 9 = .ok (.iload_n 1, 1) := by decide +kernel
theorem d13_10 : decode jdk_29_method_69_code 10 = .ok (.ireturn, 1) := by decide +kernel
theorem d13_5 : decode jdk_29_method_69_code 5 = .ok (.iload_n 0, 1) := by decide +kernel
theorem d13_6 : decode jdk_29_method_69_code 6 = .ok (.goto 4, 3) := by decide +kernel
theorem pn_602179938 : plainFor (⟨"java/lang/Math", "min", "(II)I"⟩ : MethodName) = true := Jvm.Free.JP.mathPlain rfl (by decide +kernel)
theorem ef_ctMin (m : MethodId) (x0 : Int32) (x1 : Int32) : entryFrame m #[(.int x0), (.int x1)] 2 = mkF m 0 #[.val (.int x0), .val (.int x1)] [] := by first | (simp [entryFrame, mkF, argsToLocals, Value.category]; done) | rfl
set_option maxRecDepth 65536 in
set_option maxHeartbeats 40000000 in
theorem ctMin (l : Launch) (Z : State) (a0 : Array Value) (hw : ∀ d ∈ tables_1, d.before a0 Z = true) (n0 : Nat) (h0 : Heap) (O0 : Old Z n0 h0) (a b : Int32)  :
    own_Ct l (⟨"java/lang/Math", "min", "(II)I"⟩ : MethodName) jdk_29_method_69_code 2 (some .int) ({ frames := 0, cells := 0, slots := 0, locals := 0 } : Room) Z consts_1 n0 #[(.int a), (.int b)] h0 [] (fun v h => v = some (.int (if b < a then b else a)) ∧ h0 = h) := by
  have hEL := own_EL hw
  refine own_body pn_602179938 O0 (fun p e s m below meth cc_ T0 vm0 hx hby hml0 hret hlk hnm hsf w0 => ?_)
  have hml : cc_.maxLocals = 2 := hml0
  have A_0 := own_at w0
  refine own_entry (ef_ctMin m a b) ?_
  refine own_by (T' := T0) (g' := (mkF m 1 #[.val (.int a), .val (.int b)] [(.int a)])) (fun t_ hr_ => XS.iloadN A_0 hx rfl (Jvm.hb hby d13_0) rfl hr_) ?_
  refine own_by (T' := T0) (g' := (mkF m 2 #[.val (.int a), .val (.int b)] [(.int b), (.int a)])) (fun t_ hr_ => XS.iloadN A_0 hx rfl (Jvm.hb hby d13_1) rfl hr_) ?_
  by_cases hc1_ : b < a
  · refine own_by (T' := T0) (g' := (mkF m 9 #[.val (.int a), .val (.int b)] [])) (fun t_ hr_ => XS.icmpYes A_0 hx rfl (pc0 := 2) (pc' := 9) rfl (Jvm.hb hby d13_2) rfl (tlt hc1_).2.2.1 (by decide) (by decide) hr_) ?_
    refine own_by (T' := T0) (g' := (mkF m 10 #[.val (.int a), .val (.int b)] [(.int b)])) (fun t_ hr_ => XS.iloadN A_0 hx rfl (Jvm.hb hby d13_9) rfl hr_) ?_
    exact own_retI w0 hx hEL hlk hret (Jvm.hb hby d13_10) (by decide) (by decide) ⟨by rw [if_pos hc1_], rfl⟩
  · refine own_by (T' := T0) (g' := (mkF m 5 #[.val (.int a), .val (.int b)] [])) (fun t_ hr_ => XS.icmpNo A_0 hx rfl (Jvm.hb hby d13_2) rfl (flt hc1_).2.2.1 hr_) ?_
    refine own_by (T' := T0) (g' := (mkF m 6 #[.val (.int a), .val (.int b)] [(.int a)])) (fun t_ hr_ => XS.iloadN A_0 hx rfl (Jvm.hb hby d13_5) rfl hr_) ?_
    refine own_by (T' := T0) (g' := (mkF m 10 #[.val (.int a), .val (.int b)] [(.int a)])) (fun t_ hr_ => XS.goto A_0 hx rfl (pc0 := 6) (pc' := 10) rfl (Jvm.hb hby d13_6) (by decide) (by decide) hr_) ?_
    exact own_retI w0 hx hEL hlk hret (Jvm.hb hby d13_10) (by decide) (by decide) ⟨by rw [if_neg hc1_], rfl⟩

theorem d11_0 : decode jdk_43_method_4_code 0 = .ok (.iload_n 0, 1) := by decide +kernel
theorem d11_1 : decode jdk_43_method_4_code 1 = .ok (.ifCond .lt 14, 3) := by decide +kernel
theorem d11_4 : decode jdk_43_method_4_code 4 = .ok (.iload_n 0, 1) := by decide +kernel
theorem d11_5 : decode jdk_43_method_4_code 5 = .ok (.sipush 255, 3) := by decide +kernel
theorem d11_8 : decode jdk_43_method_4_code 8 = .ok (.if_icmp .gt 7, 3) := by decide +kernel
theorem d11_11 : decode jdk_43_method_4_code 11 = .ok (.iconst 1, 1) := by decide +kernel
theorem d11_12 : decode jdk_43_method_4_code 12 = .ok (.goto 4, 3) := by decide +kernel
theorem d11_16 : decode jdk_43_method_4_code 16 = .ok (.ireturn, 1) := by decide +kernel
theorem pn_690803166 : plainFor (⟨"java/lang/StringLatin1", "canEncode", "(I)Z"⟩ : MethodName) = true := by first | exact plainFor_of_name (by first | (simp [plainName, overriddenIn]; done) | decide +kernel) | decide +kernel
theorem ef_ctCanI (m : MethodId) (x0 : Int32) : entryFrame m #[(.int x0)] 1 = mkF m 0 #[.val (.int x0)] [] := by first | (simp [entryFrame, mkF, argsToLocals, Value.category]; done) | rfl
set_option maxRecDepth 65536 in
set_option maxHeartbeats 40000000 in
theorem ctCanI (l : Launch) (Z : State) (a0 : Array Value) (hw : ∀ d ∈ tables_1, d.before a0 Z = true) (n0 : Nat) (h0 : Heap) (O0 : Old Z n0 h0) (c : Int32) (hc : ¬ c < 0 ∧ ¬ (255 : Int32) < c) :
    own_Ct l (⟨"java/lang/StringLatin1", "canEncode", "(I)Z"⟩ : MethodName) jdk_43_method_4_code 1 (some .boolean) ({ frames := 0, cells := 0, slots := 0, locals := 0 } : Room) Z consts_1 n0 #[(.int c)] h0 [] (fun v h => v = some (.int 1) ∧ h0 = h) := by
  have hEL := own_EL hw
  refine own_body pn_690803166 O0 (fun p e s m below meth cc_ T0 vm0 hx hby hml0 hret hlk hnm hsf w0 => ?_)
  have hml : cc_.maxLocals = 1 := hml0
  have A_0 := own_at w0
  refine own_entry (ef_ctCanI m c) ?_
  refine own_by (T' := T0) (g' := (mkF m 1 #[.val (.int c)] [(.int c)])) (fun t_ hr_ => XS.iloadN A_0 hx rfl (Jvm.hb hby d11_0) rfl hr_) ?_
  refine own_by (T' := T0) (g' := (mkF m 4 #[.val (.int c)] [])) (fun t_ hr_ => XS.ifNo A_0 hx rfl (Jvm.hb hby d11_1) rfl ((if0 _ _).trans (flt hc.1).1) hr_) ?_
  refine own_by (T' := T0) (g' := (mkF m 5 #[.val (.int c)] [(.int c)])) (fun t_ hr_ => XS.iloadN A_0 hx rfl (Jvm.hb hby d11_4) rfl hr_) ?_
  refine own_by (T' := T0) (g' := (mkF m 8 #[.val (.int c)] [(.int (255 : Int32)), (.int c)])) (fun t_ hr_ => XS.sipush A_0 hx rfl (Jvm.hb hby d11_5) hr_) ?_
  refine own_by (T' := T0) (g' := (mkF m 11 #[.val (.int c)] [])) (fun t_ hr_ => XS.icmpNo A_0 hx rfl (Jvm.hb hby d11_8) rfl (flt hc.2).2.2.1 hr_) ?_
  refine own_by (T' := T0) (g' := (mkF m 12 #[.val (.int c)] [(.int (1 : Int32))])) (fun t_ hr_ => XS.iconst A_0 hx rfl (Jvm.hb hby d11_11) hr_) ?_
  refine own_by (T' := T0) (g' := (mkF m 16 #[.val (.int c)] [(.int (1 : Int32))])) (fun t_ hr_ => XS.goto A_0 hx rfl (pc0 := 12) (pc' := 16) rfl (Jvm.hb hby d11_12) (by decide) (by decide) hr_) ?_
  exact own_retZ w0 hx hEL hlk hret (Or.inr rfl) (Jvm.hb hby d11_16) (by decide) (by decide) ⟨rfl, rfl⟩

theorem d17_7 : decode jdk_43_method_23_code 7 = .ok (.iload 5, 2) := by decide +kernel
theorem d17_9 : decode jdk_43_method_23_code 9 = .ok (.iload_n 3, 1) := by decide +kernel
theorem d17_10 : decode jdk_43_method_23_code 10 = .ok (.if_icmp .ge 21, 3) := by decide +kernel
theorem d17_31 : decode jdk_43_method_23_code 31 = .ok (.iconst (-1), 1) := by decide +kernel
theorem d17_32 : decode jdk_43_method_23_code 32 = .ok (.ireturn, 1) := by decide +kernel
theorem d17_13 : decode jdk_43_method_23_code 13 = .ok (.aload_n 0, 1) := by decide +kernel
theorem d17_14 : decode jdk_43_method_23_code 14 = .ok (.iload 5, 2) := by decide +kernel
theorem d17_16 : decode jdk_43_method_23_code 16 = .ok (.baload, 1) := by decide +kernel
theorem d17_17 : decode jdk_43_method_23_code 17 = .ok (.iload 4, 2) := by decide +kernel
theorem d17_19 : decode jdk_43_method_23_code 19 = .ok (.if_icmp .ne 6, 3) := by decide +kernel
theorem d17_22 : decode jdk_43_method_23_code 22 = .ok (.iload 5, 2) := by decide +kernel
theorem d17_24 : decode jdk_43_method_23_code 24 = .ok (.ireturn, 1) := by decide +kernel
theorem d17_25 : decode jdk_43_method_23_code 25 = .ok (.iinc 5 1, 3) := by decide +kernel
theorem d17_28 : decode jdk_43_method_23_code 28 = .ok (.goto (-21), 3) := by decide +kernel
set_option maxRecDepth 65536 in
set_option maxHeartbeats 40000000 in
theorem loopIdx {p : Program} {l : Launch} {e : Env} {s : State} {m : MethodId} {args : Array Value} {below : List Frame} {meth : Method} {cc_ : Code} {Z : State} {a0 : Array Value} {n0 : Nat} {T0 : State} {vm0 : Vm} {h0 : Heap} {Q : Option Value → Heap → Prop} (hw : ∀ d ∈ tables_1, d.before a0 Z = true) (hx : p.tables.exec = Jvm.exec) (hby : cc_.code = jdk_43_method_23_code) (hml : cc_.maxLocals = 6) (hret : meth.sig.returnType = some .int) (hlk : meth.locks = false) (t : Addr) (ch fr : Int32) (cs : List Int32) (kA : ClassId) (w0 : own_Wk p l e ({ frames := 0, cells := 0, slots := 0, locals := 0 } : Room) s m args below meth cc_ Z consts_1 "java/lang/StringLatin1" n0 T0 vm0 h0 0 0) (K : Arv Z h0 t kA .byte (Int32.ofNat cs.length) ((cs.map fun c => c.toInt8.toInt32).map Value.int) (.int 0)) (hcs : ∀ c ∈ cs, ¬ c < 0 ∧ ¬ (255 : Int32) < c) (hch : ¬ ch < 0 ∧ ¬ (255 : Int32) < ch) (hlen : cs.length ≤ 4000) :
    ∀ (k i : Nat), i + k = cs.length → Q (some (.int (own_find ch (cs.drop i) i))) h0 → own_WP p e ({ frames := 0, cells := 0, slots := 0, locals := 0 } : Room) below s Z consts_1 n0 Q T0 (mkF m 7 #[.val (.ref t), .val (.int ch), .val (.int fr), .val (.int (Int32.ofNat cs.length)), .val (.int (ch.toInt8.toInt32)), .val (.int (Int32.ofNat i))] []) := by
  have hEL := own_EL hw
  have A_0 := own_at w0
  intro k
  induction k with
  | zero =>
    intro i hi hq
    refine own_by (T' := T0) (g' := (mkF m 9 #[.val (.ref t), .val (.int ch), .val (.int fr), .val (.int (Int32.ofNat cs.length)), .val (.int (ch.toInt8.toInt32)), .val (.int (Int32.ofNat i))] [(.int (Int32.ofNat i))])) (fun t_ hr_ => XS.iload A_0 hx rfl (Jvm.hb hby d17_7) rfl hr_) ?_
    refine own_by (T' := T0) (g' := (mkF m 10 #[.val (.ref t), .val (.int ch), .val (.int fr), .val (.int (Int32.ofNat cs.length)), .val (.int (ch.toInt8.toInt32)), .val (.int (Int32.ofNat i))] [(.int (Int32.ofNat cs.length)), (.int (Int32.ofNat i))])) (fun t_ hr_ => XS.iloadN A_0 hx rfl (Jvm.hb hby d17_9) rfl hr_) ?_
    refine own_by (T' := T0) (g' := (mkF m 31 #[.val (.ref t), .val (.int ch), .val (.int fr), .val (.int (Int32.ofNat cs.length)), .val (.int (ch.toInt8.toInt32)), .val (.int (Int32.ofNat i))] [])) (fun t_ hr_ => XS.icmpYes A_0 hx rfl (pc0 := 10) (pc' := 31) rfl (Jvm.hb hby d17_10) rfl (flt (fun q => by have := (own_olt (by omega) hlen).mp q; omega)).2.1 (by decide) (by decide) hr_) ?_
    refine own_by (T' := T0) (g' := (mkF m 32 #[.val (.ref t), .val (.int ch), .val (.int fr), .val (.int (Int32.ofNat cs.length)), .val (.int (ch.toInt8.toInt32)), .val (.int (Int32.ofNat i))] [(.int (-1 : Int32))])) (fun t_ hr_ => XS.iconst A_0 hx rfl (Jvm.hb hby d17_31) hr_) ?_
    exact own_retI w0 hx hEL hlk hret (Jvm.hb hby d17_32) (by decide) (by decide) (by have e : cs.drop i = [] := List.drop_eq_nil_of_le (by omega); rw [e] at hq; exact hq)
  | succ k ih =>
    intro i hi hq
    refine own_by (T' := T0) (g' := (mkF m 9 #[.val (.ref t), .val (.int ch), .val (.int fr), .val (.int (Int32.ofNat cs.length)), .val (.int (ch.toInt8.toInt32)), .val (.int (Int32.ofNat i))] [(.int (Int32.ofNat i))])) (fun t_ hr_ => XS.iload A_0 hx rfl (Jvm.hb hby d17_7) rfl hr_) ?_
    refine own_by (T' := T0) (g' := (mkF m 10 #[.val (.ref t), .val (.int ch), .val (.int fr), .val (.int (Int32.ofNat cs.length)), .val (.int (ch.toInt8.toInt32)), .val (.int (Int32.ofNat i))] [(.int (Int32.ofNat cs.length)), (.int (Int32.ofNat i))])) (fun t_ hr_ => XS.iloadN A_0 hx rfl (Jvm.hb hby d17_9) rfl hr_) ?_
    refine own_by (T' := T0) (g' := (mkF m 13 #[.val (.ref t), .val (.int ch), .val (.int fr), .val (.int (Int32.ofNat cs.length)), .val (.int (ch.toInt8.toInt32)), .val (.int (Int32.ofNat i))] [])) (fun t_ hr_ => XS.icmpNo A_0 hx rfl (Jvm.hb hby d17_10) rfl (tlt ((own_olt (by omega) hlen).mpr (by omega))).2.1 hr_) ?_
    refine own_by (T' := T0) (g' := (mkF m 14 #[.val (.ref t), .val (.int ch), .val (.int fr), .val (.int (Int32.ofNat cs.length)), .val (.int (ch.toInt8.toInt32)), .val (.int (Int32.ofNat i))] [(.ref t)])) (fun t_ hr_ => XS.aloadN A_0 hx rfl (Jvm.hb hby d17_13) rfl rfl hr_) ?_
    refine own_by (T' := T0) (g' := (mkF m 16 #[.val (.ref t), .val (.int ch), .val (.int fr), .val (.int (Int32.ofNat cs.length)), .val (.int (ch.toInt8.toInt32)), .val (.int (Int32.ofNat i))] [(.int (Int32.ofNat i)), (.ref t)])) (fun t_ hr_ => XS.iload A_0 hx rfl (Jvm.hb hby d17_14) rfl hr_) ?_
    have hd : cs.drop i = cs[i] :: cs.drop (i + 1) := List.drop_eq_getElem_cons (by omega)
    rw [hd] at hq
    refine own_baload w0 hx (x := (cs[i].toInt8.toInt32)) K ⟨own_o0 (by omega), (own_olt (by omega) hlen).mpr (by omega)⟩ (g := (mkF m 16 #[.val (.ref t), .val (.int ch), .val (.int fr), .val (.int (Int32.ofNat cs.length)), .val (.int (ch.toInt8.toInt32)), .val (.int (Int32.ofNat i))] [(.int (Int32.ofNat i)), (.ref t)])) rfl rfl (Jvm.hb hby d17_16) (by rw [own_on (by omega)]; simp [show i < cs.length by omega]) ?_
    show own_WP p e _ below s Z _ n0 _ T0 (mkF m 17 #[.val (.ref t), .val (.int ch), .val (.int fr), .val (.int (Int32.ofNat cs.length)), .val (.int (ch.toInt8.toInt32)), .val (.int (Int32.ofNat i))] [(.int (cs[i].toInt8.toInt32))])
    refine own_by (T' := T0) (g' := (mkF m 19 #[.val (.ref t), .val (.int ch), .val (.int fr), .val (.int (Int32.ofNat cs.length)), .val (.int (ch.toInt8.toInt32)), .val (.int (Int32.ofNat i))] [(.int (ch.toInt8.toInt32)), (.int (cs[i].toInt8.toInt32))])) (fun t_ hr_ => XS.iload A_0 hx rfl (Jvm.hb hby d17_17) rfl hr_) ?_
    by_cases hc1_ : (cs[i].toInt8.toInt32) = (ch.toInt8.toInt32)
    · refine own_by (T' := T0) (g' := (mkF m 22 #[.val (.ref t), .val (.int ch), .val (.int fr), .val (.int (Int32.ofNat cs.length)), .val (.int (ch.toInt8.toInt32)), .val (.int (Int32.ofNat i))] [])) (fun t_ hr_ => XS.icmpNo A_0 hx rfl (Jvm.hb hby d17_19) rfl (teq hc1_).2 hr_) ?_
      refine own_by (T' := T0) (g' := (mkF m 24 #[.val (.ref t), .val (.int ch), .val (.int fr), .val (.int (Int32.ofNat cs.length)), .val (.int (ch.toInt8.toInt32)), .val (.int (Int32.ofNat i))] [(.int (Int32.ofNat i))])) (fun t_ hr_ => XS.iload A_0 hx rfl (Jvm.hb hby d17_22) rfl hr_) ?_
      exact own_retI w0 hx hEL hlk hret (Jvm.hb hby d17_24) (by decide) (by decide) (by rw [own_find, if_pos (own_lo8_inj (hcs _ (List.getElem_mem _)) hch hc1_)] at hq; exact hq)
    · refine own_by (T' := T0) (g' := (mkF m 25 #[.val (.ref t), .val (.int ch), .val (.int fr), .val (.int (Int32.ofNat cs.length)), .val (.int (ch.toInt8.toInt32)), .val (.int (Int32.ofNat i))] [])) (fun t_ hr_ => XS.icmpYes A_0 hx rfl (pc0 := 19) (pc' := 25) rfl (Jvm.hb hby d17_19) rfl (feq hc1_).2 (by decide) (by decide) hr_) ?_
      refine own_by (T' := T0) (g' := (mkF m 28 #[.val (.ref t), .val (.int ch), .val (.int fr), .val (.int (Int32.ofNat cs.length)), .val (.int (ch.toInt8.toInt32)), .val (.int ((Int32.ofNat i) + (1 : Int32)))] [])) (fun t_ hr_ => XS.iinc A_0 hx rfl (Jvm.hb hby d17_25) rfl (l' := #[.val (.ref t), .val (.int ch), .val (.int fr), .val (.int (Int32.ofNat cs.length)), .val (.int (ch.toInt8.toInt32)), .val (.int ((Int32.ofNat i) + (1 : Int32)))]) rfl hr_) ?_
      refine own_by (T' := T0) (g' := (mkF m 7 #[.val (.ref t), .val (.int ch), .val (.int fr), .val (.int (Int32.ofNat cs.length)), .val (.int (ch.toInt8.toInt32)), .val (.int ((Int32.ofNat i) + (1 : Int32)))] [])) (fun t_ hr_ => XS.goto A_0 hx rfl (pc0 := 28) (pc' := 7) rfl (Jvm.hb hby d17_28) (by decide) (by decide) hr_) ?_
      rw [own_osucc]
      exact ih (i + 1) (by omega) (by rw [own_find, if_neg (fun q => hc1_ (by rw [q]))] at hq; exact hq)

theorem d17_0 : decode jdk_43_method_23_code 0 = .ok (.iload_n 1, 1) := by decide +kernel
theorem d17_1 : decode jdk_43_method_23_code 1 = .ok (.i2b, 1) := by decide +kernel
theorem d17_2 : decode jdk_43_method_23_code 2 = .ok (.istore 4, 2) := by decide +kernel
theorem d17_4 : decode jdk_43_method_23_code 4 = .ok (.iload_n 2, 1) := by decide +kernel
theorem d17_5 : decode jdk_43_method_23_code 5 = .ok (.istore 5, 2) := by decide +kernel
theorem pn_368239123 : plainFor (⟨"java/lang/StringLatin1", "indexOfChar", "([BIII)I"⟩ : MethodName) = true := by first | exact plainFor_of_name (by first | (simp [plainName, overriddenIn]; done) | decide +kernel) | decide +kernel
theorem ef_ctIdxChar (m : MethodId) (x0 : Addr) (x1 : Int32) (x2 : Int32) (x3 : Int32) : entryFrame m #[(.ref x0), (.int x1), (.int x2), (.int x3)] 6 = mkF m 0 #[.val (.ref x0), .val (.int x1), .val (.int x2), .val (.int x3), .unset, .unset] [] := by first | (simp [entryFrame, mkF, argsToLocals, Value.category]; done) | rfl
set_option maxRecDepth 65536 in
set_option maxHeartbeats 40000000 in
theorem ctIdxChar (l : Launch) (Z : State) (a0 : Array Value) (hw : ∀ d ∈ tables_1, d.before a0 Z = true) (n0 : Nat) (h0 : Heap) (O0 : Old Z n0 h0) (t : Addr) (ch : Int32) (i0 : Nat) (cs : List Int32) (kA : ClassId) (K : Arv Z h0 t kA .byte (Int32.ofNat cs.length) ((cs.map fun c => c.toInt8.toInt32).map Value.int) (.int 0)) (hcs : ∀ c ∈ cs, ¬ c < 0 ∧ ¬ (255 : Int32) < c) (hch : ¬ ch < 0 ∧ ¬ (255 : Int32) < ch) (hlen : cs.length ≤ 4000) (hi0 : i0 ≤ cs.length) :
    own_Ct l (⟨"java/lang/StringLatin1", "indexOfChar", "([BIII)I"⟩ : MethodName) jdk_43_method_23_code 6 (some .int) ({ frames := 0, cells := 0, slots := 0, locals := 0 } : Room) Z consts_1 n0 #[(.ref t), (.int ch), (.int (Int32.ofNat i0)), (.int (Int32.ofNat cs.length))] h0 [] (fun v h => v = some (.int (own_find ch (cs.drop i0) i0)) ∧ h0 = h) := by
  have hEL := own_EL hw
  refine own_body pn_368239123 O0 (fun p e s m below meth cc_ T0 vm0 hx hby hml0 hret hlk hnm hsf w0 => ?_)
  have hml : cc_.maxLocals = 6 := hml0
  have A_0 := own_at w0
  refine own_entry (ef_ctIdxChar m t ch (Int32.ofNat i0) (Int32.ofNat cs.length)) ?_
  refine own_by (T' := T0) (g' := (mkF m 1 #[.val (.ref t), .val (.int ch), .val (.int (Int32.ofNat i0)), .val (.int (Int32.ofNat cs.length)), .unset, .unset] [(.int ch)])) (fun t_ hr_ => XS.iloadN A_0 hx rfl (Jvm.hb hby d17_0) rfl hr_) ?_
  refine own_by (T' := T0) (g' := (mkF m 2 #[.val (.ref t), .val (.int ch), .val (.int (Int32.ofNat i0)), .val (.int (Int32.ofNat cs.length)), .unset, .unset] [(.int (ch.toInt8.toInt32))])) (fun t_ hr_ => XS.i2b A_0 hx rfl (Jvm.hb hby d17_1) rfl hr_) ?_
  refine own_by (T' := T0) (g' := (mkF m 4 #[.val (.ref t), .val (.int ch), .val (.int (Int32.ofNat i0)), .val (.int (Int32.ofNat cs.length)), .val (.int (ch.toInt8.toInt32)), .unset] [])) (fun t_ hr_ => XS.istore A_0 hx rfl (Jvm.hb hby d17_2) rfl (l' := #[.val (.ref t), .val (.int ch), .val (.int (Int32.ofNat i0)), .val (.int (Int32.ofNat cs.length)), .val (.int (ch.toInt8.toInt32)), .unset]) rfl hr_) ?_
  refine own_by (T' := T0) (g' := (mkF m 5 #[.val (.ref t), .val (.int ch), .val (.int (Int32.ofNat i0)), .val (.int (Int32.ofNat cs.length)), .val (.int (ch.toInt8.toInt32)), .unset] [(.int (Int32.ofNat i0))])) (fun t_ hr_ => XS.iloadN A_0 hx rfl (Jvm.hb hby d17_4) rfl hr_) ?_
  refine own_by (T' := T0) (g' := (mkF m 7 #[.val (.ref t), .val (.int ch), .val (.int (Int32.ofNat i0)), .val (.int (Int32.ofNat cs.length)), .val (.int (ch.toInt8.toInt32)), .val (.int (Int32.ofNat i0))] [])) (fun t_ hr_ => XS.istore A_0 hx rfl (Jvm.hb hby d17_5) rfl (l' := #[.val (.ref t), .val (.int ch), .val (.int (Int32.ofNat i0)), .val (.int (Int32.ofNat cs.length)), .val (.int (ch.toInt8.toInt32)), .val (.int (Int32.ofNat i0))]) rfl hr_) ?_
  exact loopIdx hw hx hby hml hret hlk t ch (Int32.ofNat i0) cs kA w0 K hcs hch hlen (cs.length - i0) i0 (by omega) ⟨rfl, rfl⟩

theorem d10_0 : decode jdk_43_method_22_code 0 = .ok (.iload_n 1, 1) := by decide +kernel
theorem d10_1 : decode jdk_43_method_22_code 1 = .ok (.invokestatic 88, 3) := by decide +kernel
theorem pd_91181854 : parseMethodDescriptor "(I)Z" = some ⟨[.int], some .boolean⟩ := by decide +kernel
theorem d10_4 : decode jdk_43_method_22_code 4 = .ok (.ifCond .ne 5, 3) := by decide +kernel
theorem d10_9 : decode jdk_43_method_22_code 9 = .ok (.iload_n 2, 1) := by decide +kernel
theorem d10_10 : decode jdk_43_method_22_code 10 = .ok (.iconst 0, 1) := by decide +kernel
theorem d10_11 : decode jdk_43_method_22_code 11 = .ok (.invokestatic 92, 3) := by decide +kernel
theorem pd_945365603 : parseMethodDescriptor "(II)I" = some ⟨[.int, .int], some .int⟩ := by decide +kernel
theorem d10_14 : decode jdk_43_method_22_code 14 = .ok (.istore_n 2, 1) := by decide +kernel
theorem d10_15 : decode jdk_43_method_22_code 15 = .ok (.iload_n 3, 1) := by decide +kernel
theorem d10_16 : decode jdk_43_method_22_code 16 = .ok (.aload_n 0, 1) := by decide +kernel
theorem d10_17 : decode jdk_43_method_22_code 17 = .ok (.arraylength, 1) := by decide +kernel
theorem d10_18 : decode jdk_43_method_22_code 18 = .ok (.invokestatic 38, 3) := by decide +kernel
theorem d10_21 : decode jdk_43_method_22_code 21 = .ok (.istore_n 3, 1) := by decide +kernel
theorem d10_22 : decode jdk_43_method_22_code 22 = .ok (.iload_n 2, 1) := by decide +kernel
theorem d10_23 : decode jdk_43_method_22_code 23 = .ok (.iload_n 3, 1) := by decide +kernel
theorem d10_24 : decode jdk_43_method_22_code 24 = .ok (.if_icmp .lt 5, 3) := by decide +kernel
theorem d10_29 : decode jdk_43_method_22_code 29 = .ok (.aload_n 0, 1) := by decide +kernel
theorem d10_30 : decode jdk_43_method_22_code 30 = .ok (.iload_n 1, 1) := by decide +kernel
theorem d10_31 : decode jdk_43_method_22_code 31 = .ok (.iload_n 2, 1) := by decide +kernel
theorem d10_32 : decode jdk_43_method_22_code 32 = .ok (.iload_n 3, 1) := by decide +kernel
theorem d10_33 : decode jdk_43_method_22_code 33 = .ok (.invokestatic 95, 3) := by decide +kernel
theorem pd_693727204 : parseMethodDescriptor "([BIII)I" = some ⟨[(.array .byte), .int, .int, .int], some .int⟩ := by decide +kernel
theorem d10_36 : decode jdk_43_method_22_code 36 = .ok (.ireturn, 1) := by decide +kernel
theorem d10_27 : decode jdk_43_method_22_code 27 = .ok (.iconst (-1), 1) := by decide +kernel
theorem d10_28 : decode jdk_43_method_22_code 28 = .ok (.ireturn, 1) := by decide +kernel
theorem pn_496651508 : plainFor (⟨"java/lang/StringLatin1", "indexOf", "([BIII)I"⟩ : MethodName) = true := by first | exact plainFor_of_name (by first | (simp [plainName, overriddenIn]; done) | decide +kernel) | decide +kernel
theorem ef_ctLatIdx (m : MethodId) (x0 : Addr) (x1 : Int32) (x2 : Int32) (x3 : Int32) : entryFrame m #[(.ref x0), (.int x1), (.int x2), (.int x3)] 4 = mkF m 0 #[.val (.ref x0), .val (.int x1), .val (.int x2), .val (.int x3)] [] := by first | (simp [entryFrame, mkF, argsToLocals, Value.category]; done) | rfl
set_option maxRecDepth 65536 in
set_option maxHeartbeats 40000000 in
theorem ctLatIdx (l : Launch) (Z : State) (a0 : Array Value) (hw : ∀ d ∈ tables_1, d.before a0 Z = true) (n0 : Nat) (h0 : Heap) (O0 : Old Z n0 h0) (t : Addr) (ch : Int32) (i0 : Nat) (cs : List Int32) (kA : ClassId) (K : Arv Z h0 t kA .byte (Int32.ofNat cs.length) ((cs.map fun c => c.toInt8.toInt32).map Value.int) (.int 0)) (hcs : ∀ c ∈ cs, ¬ c < 0 ∧ ¬ (255 : Int32) < c) (hch : ¬ ch < 0 ∧ ¬ (255 : Int32) < ch) (hlen : cs.length ≤ 4000) (hi0 : i0 ≤ 4000) :
    own_Ct l (⟨"java/lang/StringLatin1", "indexOf", "([BIII)I"⟩ : MethodName) jdk_43_method_22_code 4 (some .int) ({ frames := 1, cells := 0, slots := 0, locals := 17 } : Room) Z consts_1 n0 #[(.ref t), (.int ch), (.int (Int32.ofNat i0)), (.int (Int32.ofNat cs.length))] h0 [] (fun v h => v = some (.int (own_find ch (cs.drop i0) i0)) ∧ h0 = h) := by
  have hEL := own_EL hw
  refine own_body pn_496651508 O0 (fun p e s m below meth cc_ T0 vm0 hx hby hml0 hret hlk hnm hsf w0 => ?_)
  have hml : cc_.maxLocals = 4 := hml0
  have A_0 := own_at w0
  refine own_entry (ef_ctLatIdx m t ch (Int32.ofNat i0) (Int32.ofNat cs.length)) ?_
  refine own_by (T' := T0) (g' := (mkF m 1 #[.val (.ref t), .val (.int ch), .val (.int (Int32.ofNat i0)), .val (.int (Int32.ofNat cs.length))] [(.int ch)])) (fun t_ hr_ => XS.iloadN A_0 hx rfl (Jvm.hb hby d10_0) rfl hr_) ?_
  refine own_callS w0 hx (y := (⟨"java/lang/StringLatin1", "canEncode", "(I)Z"⟩ : MethodName)) (hw _ (List.mem_of_getElem? (i := 58) rfl)) (hw _ (List.mem_of_getElem? (i := 59) rfl)) (hw _ (List.mem_of_getElem? (i := 56) rfl)) (hw _ (List.mem_of_getElem? (i := 60) rfl)) (by decide) (kc := 0) (ks := 0) (argsL := [(.int ch)]) (rest := []) (own_payCt (W := 0) (ctCanI l Z a0 hw n0 h0 (own_old w0) ch hch) w0 (hw _ (List.mem_of_getElem? (i := 60) rfl)) (hw _ (List.mem_of_getElem? (i := 56) rfl)) hEL (by decide) (by decide)) (g := (mkF m 1 #[.val (.ref t), .val (.int ch), .val (.int (Int32.ofNat i0)), .val (.int (Int32.ofNat cs.length))] [(.int ch)])) rfl (by rw [hml]; rfl) (lenOf pd_91181854 rfl) rfl (by show 2 * 0 + _ ≤ _; exact Nat.le_of_eq rfl) (Jvm.hb hby d10_1) (by decide) (by decide) (fun v1_ T1_ vm1_ h1_ q1_ C1_ w1_ => ?_)
  obtain ⟨rfl, rfl⟩ := q1_
  have A1_ := own_at w1_
  show own_WP p e _ below s Z _ n0 _ T1_ (mkF m 4 #[.val (.ref t), .val (.int ch), .val (.int (Int32.ofNat i0)), .val (.int (Int32.ofNat cs.length))] [(.int (1 : Int32))])
  refine own_by (T' := T1_) (g' := (mkF m 9 #[.val (.ref t), .val (.int ch), .val (.int (Int32.ofNat i0)), .val (.int (Int32.ofNat cs.length))] [])) (fun t_ hr_ => XS.ifYes A1_ hx rfl (pc0 := 4) (pc' := 9) rfl (Jvm.hb hby d10_4) rfl ((if0 _ _).trans (feq (by decide : ¬ (1 : Int32) = 0)).2) (by decide) (by decide) hr_) ?_
  refine own_by (T' := T1_) (g' := (mkF m 10 #[.val (.ref t), .val (.int ch), .val (.int (Int32.ofNat i0)), .val (.int (Int32.ofNat cs.length))] [(.int (Int32.ofNat i0))])) (fun t_ hr_ => XS.iloadN A1_ hx rfl (Jvm.hb hby d10_9) rfl hr_) ?_
  refine own_by (T' := T1_) (g' := (mkF m 11 #[.val (.ref t), .val (.int ch), .val (.int (Int32.ofNat i0)), .val (.int (Int32.ofNat cs.length))] [(.int (0 : Int32)), (.int (Int32.ofNat i0))])) (fun t_ hr_ => XS.iconst A1_ hx rfl (Jvm.hb hby d10_10) hr_) ?_
  refine own_callS w1_ hx (y := (⟨"java/lang/Math", "max", "(II)I"⟩ : MethodName)) (hw _ (List.mem_of_getElem? (i := 61) rfl)) (hw _ (List.mem_of_getElem? (i := 62) rfl)) (hw _ (List.mem_of_getElem? (i := 63) rfl)) (hw _ (List.mem_of_getElem? (i := 64) rfl)) (by decide) (kc := 0) (ks := 0) (argsL := [(.int (Int32.ofNat i0)), (.int (0 : Int32))]) (rest := []) (own_payCt (W := 0) (ctMax l Z a0 hw n0 h0 (own_old w1_) (Int32.ofNat i0) (0 : Int32)) w1_ (hw _ (List.mem_of_getElem? (i := 64) rfl)) (hw _ (List.mem_of_getElem? (i := 63) rfl)) hEL (by decide) (by decide)) (g := (mkF m 11 #[.val (.ref t), .val (.int ch), .val (.int (Int32.ofNat i0)), .val (.int (Int32.ofNat cs.length))] [(.int (0 : Int32)), (.int (Int32.ofNat i0))])) rfl (by rw [hml]; rfl) (lenOf pd_945365603 rfl) rfl (by show 2 * 0 + _ ≤ _; exact Nat.le_of_eq rfl) (Jvm.hb hby d10_11) (by decide) (by decide) (fun v2_ T2_ vm2_ h2_ q2_ C2_ w2_ => ?_)
  obtain ⟨rfl, rfl⟩ := q2_
  have A2_ := own_at w2_
  show own_WP p e _ below s Z _ n0 _ T2_ (mkF m 14 #[.val (.ref t), .val (.int ch), .val (.int (Int32.ofNat i0)), .val (.int (Int32.ofNat cs.length))] [(.int (if (Int32.ofNat i0) < (0 : Int32) then (0 : Int32) else (Int32.ofNat i0)))])
  rw [if_neg (own_o0 hi0)]
  show own_WP p e _ below s Z _ n0 _ T2_ (mkF m 14 #[.val (.ref t), .val (.int ch), .val (.int (Int32.ofNat i0)), .val (.int (Int32.ofNat cs.length))] [(.int (Int32.ofNat i0))])
  refine own_by (T' := T2_) (g' := (mkF m 15 #[.val (.ref t), .val (.int ch), .val (.int (Int32.ofNat i0)), .val (.int (Int32.ofNat cs.length))] [])) (fun t_ hr_ => XS.istoreN A2_ hx rfl (Jvm.hb hby d10_14) rfl (l' := #[.val (.ref t), .val (.int ch), .val (.int (Int32.ofNat i0)), .val (.int (Int32.ofNat cs.length))]) rfl hr_) ?_
  refine own_by (T' := T2_) (g' := (mkF m 16 #[.val (.ref t), .val (.int ch), .val (.int (Int32.ofNat i0)), .val (.int (Int32.ofNat cs.length))] [(.int (Int32.ofNat cs.length))])) (fun t_ hr_ => XS.iloadN A2_ hx rfl (Jvm.hb hby d10_15) rfl hr_) ?_
  refine own_by (T' := T2_) (g' := (mkF m 17 #[.val (.ref t), .val (.int ch), .val (.int (Int32.ofNat i0)), .val (.int (Int32.ofNat cs.length))] [(.ref t), (.int (Int32.ofNat cs.length))])) (fun t_ hr_ => XS.aloadN A2_ hx rfl (Jvm.hb hby d10_16) rfl rfl hr_) ?_
  refine own_alen w2_ hx K (g := (mkF m 17 #[.val (.ref t), .val (.int ch), .val (.int (Int32.ofNat i0)), .val (.int (Int32.ofNat cs.length))] [(.ref t), (.int (Int32.ofNat cs.length))])) rfl rfl (Jvm.hb hby d10_17) ?_
  show own_WP p e _ below s Z _ n0 _ T2_ (mkF m 18 #[.val (.ref t), .val (.int ch), .val (.int (Int32.ofNat i0)), .val (.int (Int32.ofNat cs.length))] [(.int (Int32.ofNat cs.length)), (.int (Int32.ofNat cs.length))])
  refine own_callS w2_ hx (y := (⟨"java/lang/Math", "min", "(II)I"⟩ : MethodName)) (hw _ (List.mem_of_getElem? (i := 65) rfl)) (hw _ (List.mem_of_getElem? (i := 66) rfl)) (hw _ (List.mem_of_getElem? (i := 63) rfl)) (hw _ (List.mem_of_getElem? (i := 67) rfl)) (by decide) (kc := 0) (ks := 0) (argsL := [(.int (Int32.ofNat cs.length)), (.int (Int32.ofNat cs.length))]) (rest := []) (own_payCt (W := 0) (ctMin l Z a0 hw n0 h0 (own_old w2_) (Int32.ofNat cs.length) (Int32.ofNat cs.length)) w2_ (hw _ (List.mem_of_getElem? (i := 67) rfl)) (hw _ (List.mem_of_getElem? (i := 63) rfl)) hEL (by decide) (by decide)) (g := (mkF m 18 #[.val (.ref t), .val (.int ch), .val (.int (Int32.ofNat i0)), .val (.int (Int32.ofNat cs.length))] [(.int (Int32.ofNat cs.length)), (.int (Int32.ofNat cs.length))])) rfl (by rw [hml]; rfl) (lenOf pd_945365603 rfl) rfl (by show 2 * 0 + _ ≤ _; exact Nat.le_of_eq rfl) (Jvm.hb hby d10_18) (by decide) (by decide) (fun v3_ T3_ vm3_ h3_ q3_ C3_ w3_ => ?_)
  obtain ⟨rfl, rfl⟩ := q3_
  have A3_ := own_at w3_
  show own_WP p e _ below s Z _ n0 _ T3_ (mkF m 21 #[.val (.ref t), .val (.int ch), .val (.int (Int32.ofNat i0)), .val (.int (Int32.ofNat cs.length))] [(.int (if (Int32.ofNat cs.length) < (Int32.ofNat cs.length) then (Int32.ofNat cs.length) else (Int32.ofNat cs.length)))])
  rw [if_neg Int32.lt_irrefl]
  show own_WP p e _ below s Z _ n0 _ T3_ (mkF m 21 #[.val (.ref t), .val (.int ch), .val (.int (Int32.ofNat i0)), .val (.int (Int32.ofNat cs.length))] [(.int (Int32.ofNat cs.length))])
  refine own_by (T' := T3_) (g' := (mkF m 22 #[.val (.ref t), .val (.int ch), .val (.int (Int32.ofNat i0)), .val (.int (Int32.ofNat cs.length))] [])) (fun t_ hr_ => XS.istoreN A3_ hx rfl (Jvm.hb hby d10_21) rfl (l' := #[.val (.ref t), .val (.int ch), .val (.int (Int32.ofNat i0)), .val (.int (Int32.ofNat cs.length))]) rfl hr_) ?_
  refine own_by (T' := T3_) (g' := (mkF m 23 #[.val (.ref t), .val (.int ch), .val (.int (Int32.ofNat i0)), .val (.int (Int32.ofNat cs.length))] [(.int (Int32.ofNat i0))])) (fun t_ hr_ => XS.iloadN A3_ hx rfl (Jvm.hb hby d10_22) rfl hr_) ?_
  refine own_by (T' := T3_) (g' := (mkF m 24 #[.val (.ref t), .val (.int ch), .val (.int (Int32.ofNat i0)), .val (.int (Int32.ofNat cs.length))] [(.int (Int32.ofNat cs.length)), (.int (Int32.ofNat i0))])) (fun t_ hr_ => XS.iloadN A3_ hx rfl (Jvm.hb hby d10_23) rfl hr_) ?_
  by_cases hc4_ : (Int32.ofNat i0) < (Int32.ofNat cs.length)
  · refine own_by (T' := T3_) (g' := (mkF m 29 #[.val (.ref t), .val (.int ch), .val (.int (Int32.ofNat i0)), .val (.int (Int32.ofNat cs.length))] [])) (fun t_ hr_ => XS.icmpYes A3_ hx rfl (pc0 := 24) (pc' := 29) rfl (Jvm.hb hby d10_24) rfl (tlt hc4_).1 (by decide) (by decide) hr_) ?_
    refine own_by (T' := T3_) (g' := (mkF m 30 #[.val (.ref t), .val (.int ch), .val (.int (Int32.ofNat i0)), .val (.int (Int32.ofNat cs.length))] [(.ref t)])) (fun t_ hr_ => XS.aloadN A3_ hx rfl (Jvm.hb hby d10_29) rfl rfl hr_) ?_
    refine own_by (T' := T3_) (g' := (mkF m 31 #[.val (.ref t), .val (.int ch), .val (.int (Int32.ofNat i0)), .val (.int (Int32.ofNat cs.length))] [(.int ch), (.ref t)])) (fun t_ hr_ => XS.iloadN A3_ hx rfl (Jvm.hb hby d10_30) rfl hr_) ?_
    refine own_by (T' := T3_) (g' := (mkF m 32 #[.val (.ref t), .val (.int ch), .val (.int (Int32.ofNat i0)), .val (.int (Int32.ofNat cs.length))] [(.int (Int32.ofNat i0)), (.int ch), (.ref t)])) (fun t_ hr_ => XS.iloadN A3_ hx rfl (Jvm.hb hby d10_31) rfl hr_) ?_
    refine own_by (T' := T3_) (g' := (mkF m 33 #[.val (.ref t), .val (.int ch), .val (.int (Int32.ofNat i0)), .val (.int (Int32.ofNat cs.length))] [(.int (Int32.ofNat cs.length)), (.int (Int32.ofNat i0)), (.int ch), (.ref t)])) (fun t_ hr_ => XS.iloadN A3_ hx rfl (Jvm.hb hby d10_32) rfl hr_) ?_
    refine own_callS w3_ hx (y := (⟨"java/lang/StringLatin1", "indexOfChar", "([BIII)I"⟩ : MethodName)) (hw _ (List.mem_of_getElem? (i := 78) rfl)) (hw _ (List.mem_of_getElem? (i := 79) rfl)) (hw _ (List.mem_of_getElem? (i := 56) rfl)) (hw _ (List.mem_of_getElem? (i := 80) rfl)) (by decide) (kc := 0) (ks := 0) (argsL := [(.ref t), (.int ch), (.int (Int32.ofNat i0)), (.int (Int32.ofNat cs.length))]) (rest := []) (own_payCt (W := 0) (ctIdxChar l Z a0 hw n0 h0 (own_old w3_) t ch i0 cs kA K hcs hch hlen (by have := (own_olt hi0 hlen).mp hc4_; omega)) w3_ (hw _ (List.mem_of_getElem? (i := 80) rfl)) (hw _ (List.mem_of_getElem? (i := 56) rfl)) hEL (by decide) (by decide)) (g := (mkF m 33 #[.val (.ref t), .val (.int ch), .val (.int (Int32.ofNat i0)), .val (.int (Int32.ofNat cs.length))] [(.int (Int32.ofNat cs.length)), (.int (Int32.ofNat i0)), (.int ch), (.ref t)])) rfl (by rw [hml]; rfl) (lenOf pd_693727204 rfl) rfl (by show 2 * 0 + _ ≤ _; exact Nat.le_of_eq rfl) (Jvm.hb hby d10_33) (by decide) (by decide) (fun v5_ T5_ vm5_ h5_ q5_ C5_ w5_ => ?_)
    obtain ⟨rfl, rfl⟩ := q5_
    have A5_ := own_at w5_
    show own_WP p e _ below s Z _ n0 _ T5_ (mkF m 36 #[.val (.ref t), .val (.int ch), .val (.int (Int32.ofNat i0)), .val (.int (Int32.ofNat cs.length))] [(.int (own_find ch (cs.drop i0) i0))])
    exact own_retI w5_ hx hEL hlk hret (Jvm.hb hby d10_36) (by decide) (by decide) ⟨rfl, rfl⟩
  · refine own_by (T' := T3_) (g' := (mkF m 27 #[.val (.ref t), .val (.int ch), .val (.int (Int32.ofNat i0)), .val (.int (Int32.ofNat cs.length))] [])) (fun t_ hr_ => XS.icmpNo A3_ hx rfl (Jvm.hb hby d10_24) rfl (flt hc4_).1 hr_) ?_
    refine own_by (T' := T3_) (g' := (mkF m 28 #[.val (.ref t), .val (.int ch), .val (.int (Int32.ofNat i0)), .val (.int (Int32.ofNat cs.length))] [(.int (-1 : Int32))])) (fun t_ hr_ => XS.iconst A3_ hx rfl (Jvm.hb hby d10_27) hr_) ?_
    exact own_retI w3_ hx hEL hlk hret (Jvm.hb hby d10_28) (by decide) (by decide) ⟨by have q : ¬ i0 < cs.length := fun q => hc4_ ((own_olt hi0 hlen).mpr q); have e : cs.drop i0 = [] := List.drop_eq_nil_of_le (by omega); rw [e] <;> rfl, rfl⟩

theorem d6_0 : decode jdk_42_method_80_code 0 = .ok (.aload_n 0, 1) := by decide +kernel
theorem d6_1 : decode jdk_42_method_80_code 1 = .ok (.invokevirtual 492, 3) := by decide +kernel
theorem pd_691901 : parseMethodDescriptor "()Z" = some ⟨[], some .boolean⟩ := by decide +kernel
theorem d6_4 : decode jdk_42_method_80_code 4 = .ok (.ifCond .eq 19, 3) := by decide +kernel
theorem d6_7 : decode jdk_42_method_80_code 7 = .ok (.aload_n 0, 1) := by decide +kernel
theorem d6_8 : decode jdk_42_method_80_code 8 = .ok (.getfield 9, 3) := by decide +kernel
theorem d6_11 : decode jdk_42_method_80_code 11 = .ok (.iload_n 1, 1) := by decide +kernel
theorem d6_12 : decode jdk_42_method_80_code 12 = .ok (.iload_n 2, 1) := by decide +kernel
theorem d6_13 : decode jdk_42_method_80_code 13 = .ok (.aload_n 0, 1) := by decide +kernel
theorem d6_14 : decode jdk_42_method_80_code 14 = .ok (.invokevirtual 505, 3) := by decide +kernel
theorem pd_691884 : parseMethodDescriptor "()I" = some ⟨[], some .int⟩ := by decide +kernel
theorem d6_17 : decode jdk_42_method_80_code 17 = .ok (.invokestatic 637, 3) := by decide +kernel
theorem d6_20 : decode jdk_42_method_80_code 20 = .ok (.goto 16, 3) := by decide +kernel
theorem d6_36 : decode jdk_42_method_80_code 36 = .ok (.ireturn, 1) := by decide +kernel
theorem pn_434506125 : plainFor (⟨"java/lang/String", "indexOf", "(II)I"⟩ : MethodName) = true := by first | exact plainFor_of_name (by first | (simp [plainName, overriddenIn]; done) | decide +kernel) | decide +kernel
theorem ef_ctIdx2 (m : MethodId) (x0 : Addr) (x1 : Int32) (x2 : Int32) : entryFrame m #[(.ref x0), (.int x1), (.int x2)] 3 = mkF m 0 #[.val (.ref x0), .val (.int x1), .val (.int x2)] [] := by first | (simp [entryFrame, mkF, argsToLocals, Value.category]; done) | rfl
set_option maxRecDepth 65536 in
set_option maxHeartbeats 40000000 in
theorem ctIdx2 (l : Launch) (Z : State) (a0 : Array Value) (hw : ∀ d ∈ tables_1, d.before a0 Z = true) (SC : own_SC Z) (n0 : Nat) (h0 : Heap) (O0 : Old Z n0 h0) (x : Addr) (ch : Int32) (i0 : Nat) (cs : List Int32) (S0 : own_Str Z h0 x cs) (hch : ¬ ch < 0 ∧ ¬ (255 : Int32) < ch) (hi0 : i0 ≤ 4000) :
    own_Ct l (⟨"java/lang/String", "indexOf", "(II)I"⟩ : MethodName) jdk_42_method_80_code 3 (some .int) ({ frames := 2, cells := 0, slots := 0, locals := 32 } : Room) Z consts_1 n0 #[(.ref x), (.int ch), (.int (Int32.ofNat i0))] h0 [] (fun v h => v = some (.int (own_find ch (cs.drop i0) i0)) ∧ h0 = h) := by
  have hEL := own_EL hw
  refine own_body pn_434506125 O0 (fun p e s m below meth cc_ T0 vm0 hx hby hml0 hret hlk hnm hsf w0 => ?_)
  have hml : cc_.maxLocals = 3 := hml0
  have A_0 := own_at w0
  refine own_entry (ef_ctIdx2 m x ch (Int32.ofNat i0)) ?_
  refine own_by (T' := T0) (g' := (mkF m 1 #[.val (.ref x), .val (.int ch), .val (.int (Int32.ofNat i0))] [(.ref x)])) (fun t_ hr_ => XS.aloadN A_0 hx rfl (Jvm.hb hby d6_0) rfl rfl hr_) ?_
  refine own_callV w0 hx (y := (⟨"java/lang/String", "isLatin1", "()Z"⟩ : MethodName)) (z := (⟨"java/lang/String", "isLatin1", "()Z"⟩ : MethodName)) (hw _ (List.mem_of_getElem? (i := 38) rfl)) (hw _ (List.mem_of_getElem? (i := 39) rfl)) (fun u hu => notFace_of_selects (args := #[]) (mvT hu (hw _ (List.mem_of_getElem? (i := 41) rfl)))) (hw _ (List.mem_of_getElem? (i := 41) rfl)) (hw _ (List.mem_of_getElem? (i := 40) rfl)) (by decide) (kc := 0) (ks := 0) (a := x) (argsL := []) (rest := []) (own_payCt (W := 0) (ctIsL l Z a0 hw SC n0 h0 (own_old w0) x cs S0) w0 (hw _ (List.mem_of_getElem? (i := 42) rfl)) (hw _ (List.mem_of_getElem? (i := 5) rfl)) hEL (by decide) (by decide)) S0.exa (g := (mkF m 1 #[.val (.ref x), .val (.int ch), .val (.int (Int32.ofNat i0))] [(.ref x)])) rfl (by rw [hml]; rfl) (lenOf pd_691901 rfl) rfl (by show 2 * 0 + _ ≤ _; exact Nat.le_of_eq rfl) (Jvm.hb hby d6_1) (by decide) (by decide) (fun v1_ T1_ vm1_ h1_ q1_ C1_ w1_ => ?_)
  obtain ⟨rfl, rfl⟩ := q1_
  have A1_ := own_at w1_
  show own_WP p e _ below s Z _ n0 _ T1_ (mkF m 4 #[.val (.ref x), .val (.int ch), .val (.int (Int32.ofNat i0))] [(.int (1 : Int32))])
  refine own_by (T' := T1_) (g' := (mkF m 7 #[.val (.ref x), .val (.int ch), .val (.int (Int32.ofNat i0))] [])) (fun t_ hr_ => XS.ifNo A1_ hx rfl (Jvm.hb hby d6_4) rfl ((if0 _ _).trans (feq (by decide : ¬ (1 : Int32) = 0)).1) hr_) ?_
  refine own_by (T' := T1_) (g' := (mkF m 8 #[.val (.ref x), .val (.int ch), .val (.int (Int32.ofNat i0))] [(.ref x)])) (fun t_ hr_ => XS.aloadN A1_ hx rfl (Jvm.hb hby d6_7) rfl rfl hr_) ?_
  obtain ⟨s1, s2, ⟨t, kA, s3, s4⟩, s5, s6⟩ := id S0
  refine own_getF w1_ hx (hw _ (List.mem_of_getElem? (i := 22) rfl)) s3 (g := (mkF m 8 #[.val (.ref x), .val (.int ch), .val (.int (Int32.ofNat i0))] [(.ref x)])) rfl rfl (Jvm.hb hby d6_8) (fun T2_ w2_ => ?_)
  have A2_ := own_at w2_
  show own_WP p e _ below s Z _ n0 _ T2_ (mkF m 11 #[.val (.ref x), .val (.int ch), .val (.int (Int32.ofNat i0))] [(.ref t)])
  refine own_by (T' := T2_) (g' := (mkF m 12 #[.val (.ref x), .val (.int ch), .val (.int (Int32.ofNat i0))] [(.int ch), (.ref t)])) (fun t_ hr_ => XS.iloadN A2_ hx rfl (Jvm.hb hby d6_11) rfl hr_) ?_
  refine own_by (T' := T2_) (g' := (mkF m 13 #[.val (.ref x), .val (.int ch), .val (.int (Int32.ofNat i0))] [(.int (Int32.ofNat i0)), (.int ch), (.ref t)])) (fun t_ hr_ => XS.iloadN A2_ hx rfl (Jvm.hb hby d6_12) rfl hr_) ?_
  refine own_by (T' := T2_) (g' := (mkF m 14 #[.val (.ref x), .val (.int ch), .val (.int (Int32.ofNat i0))] [(.ref x), (.int (Int32.ofNat i0)), (.int ch), (.ref t)])) (fun t_ hr_ => XS.aloadN A2_ hx rfl (Jvm.hb hby d6_13) rfl rfl hr_) ?_
  refine own_callV w2_ hx (y := (⟨"java/lang/String", "length", "()I"⟩ : MethodName)) (z := (⟨"java/lang/String", "length", "()I"⟩ : MethodName)) (hw _ (List.mem_of_getElem? (i := 44) rfl)) (hw _ (List.mem_of_getElem? (i := 45) rfl)) (fun u hu => notFace_of_selects (args := #[]) (mvT hu (hw _ (List.mem_of_getElem? (i := 47) rfl)))) (hw _ (List.mem_of_getElem? (i := 47) rfl)) (hw _ (List.mem_of_getElem? (i := 46) rfl)) (by decide) (kc := 0) (ks := 0) (a := x) (argsL := []) (rest := [(.int (Int32.ofNat i0)), (.int ch), (.ref t)]) (own_payLen (W := 3) w2_ hEL (own_wLen hw) (hw _ (List.mem_of_getElem? (i := 4) rfl)) SC S0 (by decide) (by decide)) S0.exa (g := (mkF m 14 #[.val (.ref x), .val (.int ch), .val (.int (Int32.ofNat i0))] [(.ref x), (.int (Int32.ofNat i0)), (.int ch), (.ref t)])) rfl (by rw [hml]; rfl) (lenOf pd_691884 rfl) rfl (by show 2 * 0 + _ ≤ _; exact Nat.le_of_eq rfl) (Jvm.hb hby d6_14) (by decide) (by decide) (fun v3_ T3_ vm3_ h3_ q3_ C3_ w3_ => ?_)
  obtain ⟨rfl, rfl⟩ := q3_
  have A3_ := own_at w3_
  show own_WP p e _ below s Z _ n0 _ T3_ (mkF m 17 #[.val (.ref x), .val (.int ch), .val (.int (Int32.ofNat i0))] [(.int (Int32.ofNat cs.length)), (.int (Int32.ofNat i0)), (.int ch), (.ref t)])
  refine own_callS w3_ hx (y := (⟨"java/lang/StringLatin1", "indexOf", "([BIII)I"⟩ : MethodName)) (hw _ (List.mem_of_getElem? (i := 54) rfl)) (hw _ (List.mem_of_getElem? (i := 55) rfl)) (hw _ (List.mem_of_getElem? (i := 56) rfl)) (hw _ (List.mem_of_getElem? (i := 57) rfl)) (by decide) (kc := 0) (ks := 0) (argsL := [(.ref t), (.int ch), (.int (Int32.ofNat i0)), (.int (Int32.ofNat cs.length))]) (rest := []) (own_payCt (W := 0) (ctLatIdx l Z a0 hw n0 h0 (own_old w3_) t ch i0 cs kA s4 s5 hch s6 hi0) w3_ (hw _ (List.mem_of_getElem? (i := 57) rfl)) (hw _ (List.mem_of_getElem? (i := 56) rfl)) hEL (by decide) (by decide)) (g := (mkF m 17 #[.val (.ref x), .val (.int ch), .val (.int (Int32.ofNat i0))] [(.int (Int32.ofNat cs.length)), (.int (Int32.ofNat i0)), (.int ch), (.ref t)])) rfl (by rw [hml]; rfl) (lenOf pd_693727204 rfl) rfl (by show 2 * 0 + _ ≤ _; exact Nat.le_of_eq rfl) (Jvm.hb hby d6_17) (by decide) (by decide) (fun v4_ T4_ vm4_ h4_ q4_ C4_ w4_ => ?_)
  obtain ⟨rfl, rfl⟩ := q4_
  have A4_ := own_at w4_
  show own_WP p e _ below s Z _ n0 _ T4_ (mkF m 20 #[.val (.ref x), .val (.int ch), .val (.int (Int32.ofNat i0))] [(.int (own_find ch (cs.drop i0) i0))])
  refine own_by (T' := T4_) (g' := (mkF m 36 #[.val (.ref x), .val (.int ch), .val (.int (Int32.ofNat i0))] [(.int (own_find ch (cs.drop i0) i0))])) (fun t_ hr_ => XS.goto A4_ hx rfl (pc0 := 20) (pc' := 36) rfl (Jvm.hb hby d6_20) (by decide) (by decide) hr_) ?_
  exact own_retI w4_ hx hEL hlk hret (Jvm.hb hby d6_36) (by decide) (by decide) ⟨rfl, rfl⟩

theorem d5_0 : decode jdk_42_method_79_code 0 = .ok (.aload_n 0, 1) := by decide +kernel
theorem d5_1 : decode jdk_42_method_79_code 1 = .ok (.iload_n 1, 1) := by decide +kernel
theorem d5_2 : decode jdk_42_method_79_code 2 = .ok (.iconst 0, 1) := by decide +kernel
theorem d5_3 : decode jdk_42_method_79_code 3 = .ok (.invokevirtual 633, 3) := by decide +kernel
theorem d5_6 : decode jdk_42_method_79_code 6 = .ok (.ireturn, 1) := by decide +kernel
theorem pn_750784546 : plainFor (⟨"java/lang/String", "indexOf", "(I)I"⟩ : MethodName) = true := by first | exact plainFor_of_name (by first | (simp [plainName, overriddenIn]; done) | decide +kernel) | decide +kernel
theorem ef_ctIdx1 (m : MethodId) (x0 : Addr) (x1 : Int32) : entryFrame m #[(.ref x0), (.int x1)] 2 = mkF m 0 #[.val (.ref x0), .val (.int x1)] [] := by first | (simp [entryFrame, mkF, argsToLocals, Value.category]; done) | rfl
set_option maxRecDepth 65536 in
set_option maxHeartbeats 40000000 in
theorem ctIdx1 (l : Launch) (Z : State) (a0 : Array Value) (hw : ∀ d ∈ tables_1, d.before a0 Z = true) (SC : own_SC Z) (n0 : Nat) (h0 : Heap) (O0 : Old Z n0 h0) (x : Addr) (ch : Int32) (cs : List Int32) (S0 : own_Str Z h0 x cs) (hch : ¬ ch < 0 ∧ ¬ (255 : Int32) < ch) :
    own_Ct l (⟨"java/lang/String", "indexOf", "(I)I"⟩ : MethodName) jdk_42_method_79_code 2 (some .int) ({ frames := 3, cells := 0, slots := 0, locals := 46 } : Room) Z consts_1 n0 #[(.ref x), (.int ch)] h0 [] (fun v h => v = some (.int (own_find ch cs 0)) ∧ h0 = h) := by
  have hEL := own_EL hw
  refine own_body pn_750784546 O0 (fun p e s m below meth cc_ T0 vm0 hx hby hml0 hret hlk hnm hsf w0 => ?_)
  have hml : cc_.maxLocals = 2 := hml0
  have A_0 := own_at w0
  refine own_entry (ef_ctIdx1 m x ch) ?_
  refine own_by (T' := T0) (g' := (mkF m 1 #[.val (.ref x), .val (.int ch)] [(.ref x)])) (fun t_ hr_ => XS.aloadN A_0 hx rfl (Jvm.hb hby d5_0) rfl rfl hr_) ?_
  refine own_by (T' := T0) (g' := (mkF m 2 #[.val (.ref x), .val (.int ch)] [(.int ch), (.ref x)])) (fun t_ hr_ => XS.iloadN A_0 hx rfl (Jvm.hb hby d5_1) rfl hr_) ?_
  refine own_by (T' := T0) (g' := (mkF m 3 #[.val (.ref x), .val (.int ch)] [(.int (0 : Int32)), (.int ch), (.ref x)])) (fun t_ hr_ => XS.iconst A_0 hx rfl (Jvm.hb hby d5_2) hr_) ?_
  refine own_callV w0 hx (y := (⟨"java/lang/String", "indexOf", "(II)I"⟩ : MethodName)) (z := (⟨"java/lang/String", "indexOf", "(II)I"⟩ : MethodName)) (hw _ (List.mem_of_getElem? (i := 33) rfl)) (hw _ (List.mem_of_getElem? (i := 34) rfl)) (fun u hu => notFace_of_selects (args := #[]) (mvT hu (hw _ (List.mem_of_getElem? (i := 36) rfl)))) (hw _ (List.mem_of_getElem? (i := 36) rfl)) (hw _ (List.mem_of_getElem? (i := 35) rfl)) (by decide) (kc := 0) (ks := 0) (a := x) (argsL := [(.int ch), (.int (0 : Int32))]) (rest := []) (own_payCt (W := 0) (ctIdx2 l Z a0 hw SC n0 h0 (own_old w0) x ch 0 cs S0 hch (Nat.zero_le _)) w0 (hw _ (List.mem_of_getElem? (i := 37) rfl)) (hw _ (List.mem_of_getElem? (i := 5) rfl)) hEL (by decide) (by decide)) S0.exa (g := (mkF m 3 #[.val (.ref x), .val (.int ch)] [(.int (0 : Int32)), (.int ch), (.ref x)])) rfl (by rw [hml]; rfl) (lenOf pd_945365603 rfl) rfl (by show 2 * 0 + _ ≤ _; exact Nat.le_of_eq rfl) (Jvm.hb hby d5_3) (by decide) (by decide) (fun v1_ T1_ vm1_ h1_ q1_ C1_ w1_ => ?_)
  obtain ⟨rfl, rfl⟩ := q1_
  have A1_ := own_at w1_
  show own_WP p e _ below s Z _ n0 _ T1_ (mkF m 6 #[.val (.ref x), .val (.int ch)] [(.int (own_find ch cs 0))])
  exact own_retI w1_ hx hEL hlk hret (Jvm.hb hby d5_6) (by decide) (by decide) ⟨rfl, rfl⟩

theorem d7_17 : decode jdk_42_method_154_code 17 = .ok (.iconst 0, 1) := by decide +kernel
theorem ef_ctIsLW (m : MethodId) (x0 : Addr) : entryFrame m #[(.ref x0)] 1 = mkF m 0 #[.val (.ref x0)] [] := by first | (simp [entryFrame, mkF, argsToLocals, Value.category]; done) | rfl
set_option maxRecDepth 65536 in
set_option maxHeartbeats 40000000 in
theorem ctIsLW (l : Launch) (Z : State) (a0 : Array Value) (hw : ∀ d ∈ tables_1, d.before a0 Z = true) (SC : own_SC Z) (n0 : Nat) (h0 : Heap) (O0 : Old Z n0 h0) (x : Addr) (cs : List Int32) (S0 : own_Wid Z h0 x cs) :
    own_Ct l (⟨"java/lang/String", "isLatin1", "()Z"⟩ : MethodName) jdk_42_method_154_code 1 (some .boolean) ({ frames := 0, cells := 0, slots := 0, locals := 0 } : Room) Z consts_1 n0 #[(.ref x)] h0 [] (fun v h => v = some (.int 0) ∧ h0 = h) := by
  have hEL := own_EL hw
  refine own_body pn_370106469 O0 (fun p e s m below meth cc_ T0 vm0 hx hby hml0 hret hlk hnm hsf w0 => ?_)
  have hml : cc_.maxLocals = 1 := hml0
  have A_0 := own_at w0
  refine own_entry (ef_ctIsLW m x) ?_
  obtain ⟨z, Sz, hz⟩ := SC
  refine own_getS w0 hx (hw _ (List.mem_of_getElem? (i := 43) rfl)) (Sz.ext O0.2) (g := (mkF m 0 #[.val (.ref x)] [])) rfl (Jvm.hb hby d7_0) (fun T1_ w1_ => ?_)
  have A1_ := own_at w1_
  show own_WP p e _ below s Z _ n0 _ T1_ (mkF m 3 #[.val (.ref x)] [(.int z)])
  refine own_by (T' := T1_) (g' := (mkF m 6 #[.val (.ref x)] [])) (fun t_ hr_ => XS.ifNo A1_ hx rfl (Jvm.hb hby d7_3) rfl ((if0 _ _).trans (feq hz).1) hr_) ?_
  refine own_by (T' := T1_) (g' := (mkF m 7 #[.val (.ref x)] [(.ref x)])) (fun t_ hr_ => XS.aloadN A1_ hx rfl (Jvm.hb hby d7_6) rfl rfl hr_) ?_
  refine own_getF w1_ hx (hw _ (List.mem_of_getElem? (i := 23) rfl)) S0.2.1 (g := (mkF m 7 #[.val (.ref x)] [(.ref x)])) rfl rfl (Jvm.hb hby d7_7) (fun T2_ w2_ => ?_)
  have A2_ := own_at w2_
  show own_WP p e _ below s Z _ n0 _ T2_ (mkF m 10 #[.val (.ref x)] [(.int (1 : Int32))])
  refine own_by (T' := T2_) (g' := (mkF m 17 #[.val (.ref x)] [])) (fun t_ hr_ => XS.ifYes A2_ hx rfl (pc0 := 10) (pc' := 17) rfl (Jvm.hb hby d7_10) rfl ((if0 _ _).trans (feq (by decide : ¬ (1 : Int32) = 0)).2) (by decide) (by decide) hr_) ?_
  refine own_by (T' := T2_) (g' := (mkF m 18 #[.val (.ref x)] [(.int (0 : Int32))])) (fun t_ hr_ => XS.iconst A2_ hx rfl (Jvm.hb hby d7_17) hr_) ?_
  exact own_retZ w2_ hx hEL hlk hret (Or.inl rfl) (Jvm.hb hby d7_18) (by decide) (by decide) ⟨rfl, rfl⟩

theorem d26_0 : decode jdk_52_method_6_code 0 = .ok (.aload_n 0, 1) := by decide +kernel
theorem d26_1 : decode jdk_52_method_6_code 1 = .ok (.arraylength, 1) := by decide +kernel
theorem d26_2 : decode jdk_52_method_6_code 2 = .ok (.iconst 1, 1) := by decide +kernel
theorem d26_3 : decode jdk_52_method_6_code 3 = .ok (.ishr, 1) := by decide +kernel
theorem d26_4 : decode jdk_52_method_6_code 4 = .ok (.ireturn, 1) := by decide +kernel
theorem pn_436064771 : plainFor (⟨"java/lang/StringUTF16", "length", "([B)I"⟩ : MethodName) = true := by first | exact plainFor_of_name (by first | (simp [plainName, overriddenIn]; done) | decide +kernel) | decide +kernel
theorem ef_ctULen (m : MethodId) (x0 : Addr) : entryFrame m #[(.ref x0)] 1 = mkF m 0 #[.val (.ref x0)] [] := by first | (simp [entryFrame, mkF, argsToLocals, Value.category]; done) | rfl
set_option maxRecDepth 65536 in
set_option maxHeartbeats 40000000 in
theorem ctULen (l : Launch) (Z : State) (a0 : Array Value) (hw : ∀ d ∈ tables_1, d.before a0 Z = true) (n0 : Nat) (h0 : Heap) (O0 : Old Z n0 h0) (t : Addr) (k : ClassId) (cs : List Int32) (K : Arv Z h0 t k .byte (Int32.ofNat (2 * cs.length)) (StrChars.Road.wideBytes cs) (.int 0)) (hl : cs.length ≤ 1000) :
    own_Ct l (⟨"java/lang/StringUTF16", "length", "([B)I"⟩ : MethodName) jdk_52_method_6_code 1 (some .int) ({ frames := 0, cells := 0, slots := 0, locals := 0 } : Room) Z consts_1 n0 #[(.ref t)] h0 [] (fun v h => v = some (.int (Int32.ofNat cs.length)) ∧ h0 = h) := by
  have hEL := own_EL hw
  refine own_body pn_436064771 O0 (fun p e s m below meth cc_ T0 vm0 hx hby hml0 hret hlk hnm hsf w0 => ?_)
  have hml : cc_.maxLocals = 1 := hml0
  have A_0 := own_at w0
  refine own_entry (ef_ctULen m t) ?_
  refine own_by (T' := T0) (g' := (mkF m 1 #[.val (.ref t)] [(.ref t)])) (fun t_ hr_ => XS.aloadN A_0 hx rfl (Jvm.hb hby d26_0) rfl rfl hr_) ?_
  refine own_alen w0 hx K (g := (mkF m 1 #[.val (.ref t)] [(.ref t)])) rfl rfl (Jvm.hb hby d26_1) ?_
  show own_WP p e _ below s Z _ n0 _ T0 (mkF m 2 #[.val (.ref t)] [(.int (Int32.ofNat (2 * cs.length)))])
  refine own_by (T' := T0) (g' := (mkF m 3 #[.val (.ref t)] [(.int (1 : Int32)), (.int (Int32.ofNat (2 * cs.length)))])) (fun t_ hr_ => XS.iconst A_0 hx rfl (Jvm.hb hby d26_2) hr_) ?_
  refine own_by (T' := T0) (g' := (mkF m 4 #[.val (.ref t)] [(.int ((Int32.ofNat (2 * cs.length)) >>> ((1 : Int32) &&& 31)))])) (fun t_ hr_ => XS.ishr A_0 hx rfl (Jvm.hb hby d26_3) rfl hr_) ?_
  rw [show ((Int32.ofNat (2 * cs.length)) >>> ((1 : Int32) &&& 31)) = (Int32.ofNat cs.length) from StrChars.shr1 (by omega)]
  show own_WP p e _ below s Z _ n0 _ T0 (mkF m 4 #[.val (.ref t)] [(.int (Int32.ofNat cs.length))])
  exact own_retI w0 hx hEL hlk hret (Jvm.hb hby d26_4) (by decide) (by decide) ⟨rfl, rfl⟩

theorem d9_0 : decode jdk_42_method_152_code 0 = .ok (.getstatic 38, 3) := by decide +kernel
theorem d9_3 : decode jdk_42_method_152_code 3 = .ok (.ifCond .eq 10, 3) := by decide +kernel
theorem d9_6 : decode jdk_42_method_152_code 6 = .ok (.aload_n 0, 1) := by decide +kernel
theorem d9_7 : decode jdk_42_method_152_code 7 = .ok (.getfield 15, 3) := by decide +kernel
theorem d9_10 : decode jdk_42_method_152_code 10 = .ok (.goto 4, 3) := by decide +kernel
theorem d9_14 : decode jdk_42_method_152_code 14 = .ok (.ireturn, 1) := by decide +kernel
theorem pn_164818843 : plainFor (⟨"java/lang/String", "coder", "()B"⟩ : MethodName) = true := by first | exact plainFor_of_name (by first | (simp [plainName, overriddenIn]; done) | decide +kernel) | decide +kernel
theorem ef_ctCdW (m : MethodId) (x0 : Addr) : entryFrame m #[(.ref x0)] 1 = mkF m 0 #[.val (.ref x0)] [] := by first | (simp [entryFrame, mkF, argsToLocals, Value.category]; done) | rfl
set_option maxRecDepth 65536 in
set_option maxHeartbeats 40000000 in
theorem ctCdW (l : Launch) (Z : State) (a0 : Array Value) (hw : ∀ d ∈ tables_1, d.before a0 Z = true) (SC : own_SC Z) (n0 : Nat) (h0 : Heap) (O0 : Old Z n0 h0) (x : Addr) (cs : List Int32) (S0 : own_Wid Z h0 x cs) :
    own_Ct l (⟨"java/lang/String", "coder", "()B"⟩ : MethodName) jdk_42_method_152_code 1 (some .byte) ({ frames := 0, cells := 0, slots := 0, locals := 0 } : Room) Z consts_1 n0 #[(.ref x)] h0 [] (fun v h => v = some (.int 1) ∧ h0 = h) := by
  have hEL := own_EL hw
  refine own_body pn_164818843 O0 (fun p e s m below meth cc_ T0 vm0 hx hby hml0 hret hlk hnm hsf w0 => ?_)
  have hml : cc_.maxLocals = 1 := hml0
  have A_0 := own_at w0
  refine own_entry (ef_ctCdW m x) ?_
  obtain ⟨z, Sz, hz⟩ := SC
  refine own_getS w0 hx (hw _ (List.mem_of_getElem? (i := 43) rfl)) (Sz.ext O0.2) (g := (mkF m 0 #[.val (.ref x)] [])) rfl (Jvm.hb hby d9_0) (fun T1_ w1_ => ?_)
  have A1_ := own_at w1_
  show own_WP p e _ below s Z _ n0 _ T1_ (mkF m 3 #[.val (.ref x)] [(.int z)])
  refine own_by (T' := T1_) (g' := (mkF m 6 #[.val (.ref x)] [])) (fun t_ hr_ => XS.ifNo A1_ hx rfl (Jvm.hb hby d9_3) rfl ((if0 _ _).trans (feq hz).1) hr_) ?_
  refine own_by (T' := T1_) (g' := (mkF m 7 #[.val (.ref x)] [(.ref x)])) (fun t_ hr_ => XS.aloadN A1_ hx rfl (Jvm.hb hby d9_6) rfl rfl hr_) ?_
  refine own_getF w1_ hx (hw _ (List.mem_of_getElem? (i := 23) rfl)) S0.2.1 (g := (mkF m 7 #[.val (.ref x)] [(.ref x)])) rfl rfl (Jvm.hb hby d9_7) (fun T2_ w2_ => ?_)
  have A2_ := own_at w2_
  show own_WP p e _ below s Z _ n0 _ T2_ (mkF m 10 #[.val (.ref x)] [(.int (1 : Int32))])
  refine own_by (T' := T2_) (g' := (mkF m 14 #[.val (.ref x)] [(.int (1 : Int32))])) (fun t_ hr_ => XS.goto A2_ hx rfl (pc0 := 10) (pc' := 14) rfl (Jvm.hb hby d9_10) (by decide) (by decide) hr_) ?_
  exact own_retB w2_ hx hEL hlk hret rfl (Jvm.hb hby d9_14) (by decide) (by decide) ⟨rfl, rfl⟩

theorem d8_0 : decode jdk_42_method_54_code 0 = .ok (.aload_n 0, 1) := by decide +kernel
theorem d8_1 : decode jdk_42_method_54_code 1 = .ok (.getfield 9, 3) := by decide +kernel
theorem d8_4 : decode jdk_42_method_54_code 4 = .ok (.arraylength, 1) := by decide +kernel
theorem d8_5 : decode jdk_42_method_54_code 5 = .ok (.aload_n 0, 1) := by decide +kernel
theorem d8_6 : decode jdk_42_method_54_code 6 = .ok (.invokevirtual 335, 3) := by decide +kernel
theorem pd_691877 : parseMethodDescriptor "()B" = some ⟨[], some .byte⟩ := by decide +kernel
theorem d8_9 : decode jdk_42_method_54_code 9 = .ok (.ishr, 1) := by decide +kernel
theorem d8_10 : decode jdk_42_method_54_code 10 = .ok (.ireturn, 1) := by decide +kernel
theorem pn_287795204 : plainFor (⟨"java/lang/String", "length", "()I"⟩ : MethodName) = true := by first | exact plainFor_of_name (by first | (simp [plainName, overriddenIn]; done) | decide +kernel) | decide +kernel
theorem ef_ctLnW (m : MethodId) (x0 : Addr) : entryFrame m #[(.ref x0)] 1 = mkF m 0 #[.val (.ref x0)] [] := by first | (simp [entryFrame, mkF, argsToLocals, Value.category]; done) | rfl
set_option maxRecDepth 65536 in
set_option maxHeartbeats 40000000 in
theorem ctLnW (l : Launch) (Z : State) (a0 : Array Value) (hw : ∀ d ∈ tables_1, d.before a0 Z = true) (SC : own_SC Z) (n0 : Nat) (h0 : Heap) (O0 : Old Z n0 h0) (x : Addr) (cs : List Int32) (S0 : own_Wid Z h0 x cs) :
    own_Ct l (⟨"java/lang/String", "length", "()I"⟩ : MethodName) jdk_42_method_54_code 1 (some .int) ({ frames := 1, cells := 0, slots := 0, locals := 13 } : Room) Z consts_1 n0 #[(.ref x)] h0 [] (fun v h => v = some (.int (Int32.ofNat cs.length)) ∧ h0 = h) := by
  have hEL := own_EL hw
  refine own_body pn_287795204 O0 (fun p e s m below meth cc_ T0 vm0 hx hby hml0 hret hlk hnm hsf w0 => ?_)
  have hml : cc_.maxLocals = 1 := hml0
  have A_0 := own_at w0
  refine own_entry (ef_ctLnW m x) ?_
  obtain ⟨s1, s2, ⟨t, k, s3, s4⟩, hcs, hl⟩ := id S0
  refine own_by (T' := T0) (g' := (mkF m 1 #[.val (.ref x)] [(.ref x)])) (fun t_ hr_ => XS.aloadN A_0 hx rfl (Jvm.hb hby d8_0) rfl rfl hr_) ?_
  refine own_getF w0 hx (hw _ (List.mem_of_getElem? (i := 22) rfl)) s3 (g := (mkF m 1 #[.val (.ref x)] [(.ref x)])) rfl rfl (Jvm.hb hby d8_1) (fun T1_ w1_ => ?_)
  have A1_ := own_at w1_
  show own_WP p e _ below s Z _ n0 _ T1_ (mkF m 4 #[.val (.ref x)] [(.ref t)])
  refine own_alen w1_ hx s4 (g := (mkF m 4 #[.val (.ref x)] [(.ref t)])) rfl rfl (Jvm.hb hby d8_4) ?_
  show own_WP p e _ below s Z _ n0 _ T1_ (mkF m 5 #[.val (.ref x)] [(.int (Int32.ofNat (2 * cs.length)))])
  refine own_by (T' := T1_) (g' := (mkF m 6 #[.val (.ref x)] [(.ref x), (.int (Int32.ofNat (2 * cs.length)))])) (fun t_ hr_ => XS.aloadN A1_ hx rfl (Jvm.hb hby d8_5) rfl rfl hr_) ?_
  refine own_callV w1_ hx (y := (⟨"java/lang/String", "coder", "()B"⟩ : MethodName)) (z := (⟨"java/lang/String", "coder", "()B"⟩ : MethodName)) (hw _ (List.mem_of_getElem? (i := 49) rfl)) (hw _ (List.mem_of_getElem? (i := 50) rfl)) (fun u hu => notFace_of_selects (args := #[]) (mvT hu (hw _ (List.mem_of_getElem? (i := 52) rfl)))) (hw _ (List.mem_of_getElem? (i := 52) rfl)) (hw _ (List.mem_of_getElem? (i := 51) rfl)) (by decide) (kc := 0) (ks := 0) (a := x) (argsL := []) (rest := [(.int (Int32.ofNat (2 * cs.length)))]) (own_payCt (W := 1) (ctCdW l Z a0 hw SC n0 h0 (own_old w1_) x cs S0) w1_ (hw _ (List.mem_of_getElem? (i := 53) rfl)) (hw _ (List.mem_of_getElem? (i := 5) rfl)) hEL (by decide) (by decide)) S0.exa (g := (mkF m 6 #[.val (.ref x)] [(.ref x), (.int (Int32.ofNat (2 * cs.length)))])) rfl (by rw [hml]; rfl) (lenOf pd_691877 rfl) rfl (by show 2 * 0 + _ ≤ _; exact Nat.le_of_eq rfl) (Jvm.hb hby d8_6) (by decide) (by decide) (fun v2_ T2_ vm2_ h2_ q2_ C2_ w2_ => ?_)
  obtain ⟨rfl, rfl⟩ := q2_
  have A2_ := own_at w2_
  show own_WP p e _ below s Z _ n0 _ T2_ (mkF m 9 #[.val (.ref x)] [(.int (1 : Int32)), (.int (Int32.ofNat (2 * cs.length)))])
  refine own_by (T' := T2_) (g' := (mkF m 10 #[.val (.ref x)] [(.int ((Int32.ofNat (2 * cs.length)) >>> ((1 : Int32) &&& 31)))])) (fun t_ hr_ => XS.ishr A2_ hx rfl (Jvm.hb hby d8_9) rfl hr_) ?_
  rw [show ((Int32.ofNat (2 * cs.length)) >>> ((1 : Int32) &&& 31)) = (Int32.ofNat cs.length) from StrChars.shr1 (by omega)]
  show own_WP p e _ below s Z _ n0 _ T2_ (mkF m 10 #[.val (.ref x)] [(.int (Int32.ofNat cs.length))])
  exact own_retI w2_ hx hEL hlk hret (Jvm.hb hby d8_10) (by decide) (by decide) ⟨rfl, rfl⟩

theorem d28_0 : decode jdk_41_method_12_code 0 = .ok (.iload_n 0, 1) := by decide +kernel
theorem d28_1 : decode jdk_41_method_12_code 1 = .ok (.ifCond .lt 13, 3) := by decide +kernel
theorem d28_4 : decode jdk_41_method_12_code 4 = .ok (.iload_n 0, 1) := by decide +kernel
theorem d28_5 : decode jdk_41_method_12_code 5 = .ok (.iload_n 1, 1) := by decide +kernel
theorem d28_6 : decode jdk_41_method_12_code 6 = .ok (.if_icmp .gt 8, 3) := by decide +kernel
theorem d28_9 : decode jdk_41_method_12_code 9 = .ok (.iload_n 1, 1) := by decide +kernel
theorem d28_10 : decode jdk_41_method_12_code 10 = .ok (.iload_n 2, 1) := by decide +kernel
theorem d28_11 : decode jdk_41_method_12_code 11 = .ok (.if_icmp .le 11, 3) := by decide +kernel
theorem d28_22 : decode jdk_41_method_12_code 22 = .ok (.iload_n 0, 1) := by decide +kernel
theorem d28_23 : decode jdk_41_method_12_code 23 = .ok (.ireturn, 1) := by decide +kernel
theorem pn_493241617 : plainFor (⟨"jdk/internal/util/Preconditions", "checkFromToIndex", "(IIILjava/util/function/BiFunction;)I"⟩ : MethodName) = true := by first | exact plainFor_of_name (by first | (simp [plainName, overriddenIn]; done) | decide +kernel) | decide +kernel
theorem ef_ctChkFT (m : MethodId) (x0 : Int32) (x1 : Int32) (x2 : Int32) (x3 : Value) (hx3 : x3.isRef = true) : entryFrame m #[(.int x0), (.int x1), (.int x2), x3] 4 = mkF m 0 #[.val (.int x0), .val (.int x1), .val (.int x2), .val x3] [] := by rcases ref_cases hx3 with rfl | ⟨_, rfl⟩ <;> first | (simp [entryFrame, mkF, argsToLocals, Value.category]; done) | rfl
set_option maxRecDepth 65536 in
set_option maxHeartbeats 40000000 in
theorem ctChkFT (l : Launch) (Z : State) (a0 : Array Value) (hw : ∀ d ∈ tables_1, d.before a0 Z = true) (n0 : Nat) (h0 : Heap) (O0 : Old Z n0 h0) (a b c' : Int32) (f : Value) (h1 : ¬ a < 0) (h2 : ¬ b < a) (h3 : ¬ c' < b) (hfR : f.isRef = true) :
    own_Ct l (⟨"jdk/internal/util/Preconditions", "checkFromToIndex", "(IIILjava/util/function/BiFunction;)I"⟩ : MethodName) jdk_41_method_12_code 4 (some .int) ({ frames := 0, cells := 0, slots := 0, locals := 0 } : Room) Z consts_1 n0 #[(.int a), (.int b), (.int c'), f] h0 [] (fun v h => v = some (.int a) ∧ h0 = h) := by
  have hEL := own_EL hw
  refine own_body pn_493241617 O0 (fun p e s m below meth cc_ T0 vm0 hx hby hml0 hret hlk hnm hsf w0 => ?_)
  have hml : cc_.maxLocals = 4 := hml0
  have A_0 := own_at w0
  refine own_entry (ef_ctChkFT m a b c' f hfR) ?_
  refine own_by (T' := T0) (g' := (mkF m 1 #[.val (.int a), .val (.int b), .val (.int c'), .val f] [(.int a)])) (fun t_ hr_ => XS.iloadN A_0 hx rfl (Jvm.hb hby d28_0) rfl hr_) ?_
  refine own_by (T' := T0) (g' := (mkF m 4 #[.val (.int a), .val (.int b), .val (.int c'), .val f] [])) (fun t_ hr_ => XS.ifNo A_0 hx rfl (Jvm.hb hby d28_1) rfl ((if0 _ _).trans (flt h1).1) hr_) ?_
  refine own_by (T' := T0) (g' := (mkF m 5 #[.val (.int a), .val (.int b), .val (.int c'), .val f] [(.int a)])) (fun t_ hr_ => XS.iloadN A_0 hx rfl (Jvm.hb hby d28_4) rfl hr_) ?_
  refine own_by (T' := T0) (g' := (mkF m 6 #[.val (.int a), .val (.int b), .val (.int c'), .val f] [(.int b), (.int a)])) (fun t_ hr_ => XS.iloadN A_0 hx rfl (Jvm.hb hby d28_5) rfl hr_) ?_
  refine own_by (T' := T0) (g' := (mkF m 9 #[.val (.int a), .val (.int b), .val (.int c'), .val f] [])) (fun t_ hr_ => XS.icmpNo A_0 hx rfl (Jvm.hb hby d28_6) rfl (flt h2).2.2.1 hr_) ?_
  refine own_by (T' := T0) (g' := (mkF m 10 #[.val (.int a), .val (.int b), .val (.int c'), .val f] [(.int b)])) (fun t_ hr_ => XS.iloadN A_0 hx rfl (Jvm.hb hby d28_9) rfl hr_) ?_
  refine own_by (T' := T0) (g' := (mkF m 11 #[.val (.int a), .val (.int b), .val (.int c'), .val f] [(.int c'), (.int b)])) (fun t_ hr_ => XS.iloadN A_0 hx rfl (Jvm.hb hby d28_10) rfl hr_) ?_
  refine own_by (T' := T0) (g' := (mkF m 22 #[.val (.int a), .val (.int b), .val (.int c'), .val f] [])) (fun t_ hr_ => XS.icmpYes A_0 hx rfl (pc0 := 11) (pc' := 22) rfl (Jvm.hb hby d28_11) rfl (flt h3).2.2.2 (by decide) (by decide) hr_) ?_
  refine own_by (T' := T0) (g' := (mkF m 23 #[.val (.int a), .val (.int b), .val (.int c'), .val f] [(.int a)])) (fun t_ hr_ => XS.iloadN A_0 hx rfl (Jvm.hb hby d28_22) rfl hr_) ?_
  exact own_retI w0 hx hEL hlk hret (Jvm.hb hby d28_23) (by decide) (by decide) ⟨rfl, rfl⟩

theorem d27_0 : decode jdk_42_method_158_code 0 = .ok (.iload_n 0, 1) := by decide +kernel
theorem d27_1 : decode jdk_42_method_158_code 1 = .ok (.iload_n 1, 1) := by decide +kernel
theorem d27_2 : decode jdk_42_method_158_code 2 = .ok (.iload_n 2, 1) := by decide +kernel
theorem d27_3 : decode jdk_42_method_158_code 3 = .ok (.getstatic 1053, 3) := by decide +kernel
theorem d27_6 : decode jdk_42_method_158_code 6 = .ok (.invokestatic 1062, 3) := by decide +kernel
theorem pd_689413963 : parseMethodDescriptor "(IIILjava/util/function/BiFunction;)I" = some ⟨[.int, .int, .int, (.object "java/util/function/BiFunction")], some .int⟩ := by decide +kernel
theorem d27_9 : decode jdk_42_method_158_code 9 = .ok (.pop, 1) := by decide +kernel
theorem d27_10 : decode jdk_42_method_158_code 10 = .ok (.return_, 1) := by decide +kernel
theorem pn_616570562 : plainFor (⟨"java/lang/String", "checkBoundsBeginEnd", "(III)V"⟩ : MethodName) = true := by first | exact plainFor_of_name (by first | (simp [plainName, overriddenIn]; done) | decide +kernel) | decide +kernel
theorem ef_ctChkB (m : MethodId) (x0 : Int32) (x1 : Int32) (x2 : Int32) : entryFrame m #[(.int x0), (.int x1), (.int x2)] 3 = mkF m 0 #[.val (.int x0), .val (.int x1), .val (.int x2)] [] := by first | (simp [entryFrame, mkF, argsToLocals, Value.category]; done) | rfl
set_option maxRecDepth 65536 in
set_option maxHeartbeats 40000000 in
theorem ctChkB (l : Launch) (Z : State) (a0 : Array Value) (hw : ∀ d ∈ tables_1, d.before a0 Z = true) (SF : own_SF Z) (n0 : Nat) (h0 : Heap) (O0 : Old Z n0 h0) (a b c' : Int32) (h1 : ¬ a < 0) (h2 : ¬ b < a) (h3 : ¬ c' < b) :
    own_Ct l (⟨"java/lang/String", "checkBoundsBeginEnd", "(III)V"⟩ : MethodName) jdk_42_method_158_code 3 none ({ frames := 1, cells := 0, slots := 0, locals := 15 } : Room) Z consts_1 n0 #[(.int a), (.int b), (.int c')] h0 [] (fun v h => v = none ∧ h0 = h) := by
  have hEL := own_EL hw
  refine own_body pn_616570562 O0 (fun p e s m below meth cc_ T0 vm0 hx hby hml0 hret hlk hnm hsf w0 => ?_)
  have hml : cc_.maxLocals = 3 := hml0
  have A_0 := own_at w0
  refine own_entry (ef_ctChkB m a b c') ?_
  obtain ⟨fm, Sm, hm⟩ := SF
  refine own_by (T' := T0) (g' := (mkF m 1 #[.val (.int a), .val (.int b), .val (.int c')] [(.int a)])) (fun t_ hr_ => XS.iloadN A_0 hx rfl (Jvm.hb hby d27_0) rfl hr_) ?_
  refine own_by (T' := T0) (g' := (mkF m 2 #[.val (.int a), .val (.int b), .val (.int c')] [(.int b), (.int a)])) (fun t_ hr_ => XS.iloadN A_0 hx rfl (Jvm.hb hby d27_1) rfl hr_) ?_
  refine own_by (T' := T0) (g' := (mkF m 3 #[.val (.int a), .val (.int b), .val (.int c')] [(.int c'), (.int b), (.int a)])) (fun t_ hr_ => XS.iloadN A_0 hx rfl (Jvm.hb hby d27_2) rfl hr_) ?_
  refine own_getS w0 hx (hw _ (List.mem_of_getElem? (i := 118) rfl)) (Sm.ext O0.2) (g := (mkF m 3 #[.val (.int a), .val (.int b), .val (.int c')] [(.int c'), (.int b), (.int a)])) rfl (Jvm.hb hby d27_3) (fun T1_ w1_ => ?_)
  have A1_ := own_at w1_
  show own_WP p e _ below s Z _ n0 _ T1_ (mkF m 6 #[.val (.int a), .val (.int b), .val (.int c')] [fm, (.int c'), (.int b), (.int a)])
  refine own_callS w1_ hx (y := (⟨"jdk/internal/util/Preconditions", "checkFromToIndex", "(IIILjava/util/function/BiFunction;)I"⟩ : MethodName)) (hw _ (List.mem_of_getElem? (i := 120) rfl)) (hw _ (List.mem_of_getElem? (i := 121) rfl)) (hw _ (List.mem_of_getElem? (i := 119) rfl)) (hw _ (List.mem_of_getElem? (i := 122) rfl)) (by decide) (kc := 0) (ks := 0) (argsL := [(.int a), (.int b), (.int c'), fm]) (rest := []) (own_payCt (W := 0) (ctChkFT l Z a0 hw n0 h0 (own_old w1_) a b c' fm h1 h2 h3 hm) w1_ (hw _ (List.mem_of_getElem? (i := 122) rfl)) (hw _ (List.mem_of_getElem? (i := 119) rfl)) hEL (by decide) (by decide)) (g := (mkF m 6 #[.val (.int a), .val (.int b), .val (.int c')] [fm, (.int c'), (.int b), (.int a)])) rfl (by rw [hml]; rfl) (lenOf pd_689413963 rfl) rfl (by show 2 * 0 + _ ≤ _; exact Nat.le_of_eq rfl) (Jvm.hb hby d27_6) (by decide) (by decide) (fun v2_ T2_ vm2_ h2_ q2_ C2_ w2_ => ?_)
  obtain ⟨rfl, rfl⟩ := q2_
  have A2_ := own_at w2_
  show own_WP p e _ below s Z _ n0 _ T2_ (mkF m 9 #[.val (.int a), .val (.int b), .val (.int c')] [(.int a)])
  refine own_by (T' := T2_) (g' := (mkF m 10 #[.val (.int a), .val (.int b), .val (.int c')] [])) (fun t_ hr_ => XS.pop A2_ hx rfl (Jvm.hb hby d27_9) rfl rfl hr_) ?_
  exact own_retV w2_ hx hEL hlk hret (Jvm.hb hby d27_10) (by decide) (by decide) ⟨rfl, rfl⟩

theorem d25_0 : decode jdk_52_method_93_code 0 = .ok (.iload_n 0, 1) := by decide +kernel
theorem d25_1 : decode jdk_52_method_93_code 1 = .ok (.iload_n 1, 1) := by decide +kernel
theorem d25_2 : decode jdk_52_method_93_code 2 = .ok (.aload_n 2, 1) := by decide +kernel
theorem d25_3 : decode jdk_52_method_93_code 3 = .ok (.invokestatic 48, 3) := by decide +kernel
theorem pd_985711114 : parseMethodDescriptor "([B)I" = some ⟨[(.array .byte)], some .int⟩ := by decide +kernel
theorem d25_6 : decode jdk_52_method_93_code 6 = .ok (.invokestatic 241, 3) := by decide +kernel
theorem pd_843438178 : parseMethodDescriptor "(III)V" = some ⟨[.int, .int, .int], none⟩ := by decide +kernel
theorem d25_9 : decode jdk_52_method_93_code 9 = .ok (.return_, 1) := by decide +kernel
theorem pn_693799462 : plainFor (⟨"java/lang/StringUTF16", "checkBoundsBeginEnd", "(II[B)V"⟩ : MethodName) = true := by first | exact plainFor_of_name (by first | (simp [plainName, overriddenIn]; done) | decide +kernel) | decide +kernel
theorem ef_ctUBnd (m : MethodId) (x0 : Int32) (x1 : Int32) (x2 : Addr) : entryFrame m #[(.int x0), (.int x1), (.ref x2)] 3 = mkF m 0 #[.val (.int x0), .val (.int x1), .val (.ref x2)] [] := by first | (simp [entryFrame, mkF, argsToLocals, Value.category]; done) | rfl
set_option maxRecDepth 65536 in
set_option maxHeartbeats 40000000 in
theorem ctUBnd (l : Launch) (Z : State) (a0 : Array Value) (hw : ∀ d ∈ tables_1, d.before a0 Z = true) (SF : own_SF Z) (n0 : Nat) (h0 : Heap) (O0 : Old Z n0 h0) (t : Addr) (k : ClassId) (cs : List Int32) (K : Arv Z h0 t k .byte (Int32.ofNat (2 * cs.length)) (StrChars.Road.wideBytes cs) (.int 0)) (hcs : ∀ c ∈ cs, ¬ c < 0 ∧ ¬ (65535 : Int32) < c) (hl : cs.length ≤ 1000) :
    own_Ct l (⟨"java/lang/StringUTF16", "checkBoundsBeginEnd", "(II[B)V"⟩ : MethodName) jdk_52_method_93_code 3 none ({ frames := 2, cells := 0, slots := 0, locals := 29 } : Room) Z consts_1 n0 #[(.int (0 : Int32)), (.int (Int32.ofNat cs.length)), (.ref t)] h0 [] (fun v h => v = none ∧ h0 = h) := by
  have hEL := own_EL hw
  refine own_body pn_693799462 O0 (fun p e s m below meth cc_ T0 vm0 hx hby hml0 hret hlk hnm hsf w0 => ?_)
  have hml : cc_.maxLocals = 3 := hml0
  have A_0 := own_at w0
  refine own_entry (ef_ctUBnd m (0 : Int32) (Int32.ofNat cs.length) t) ?_
  refine own_by (T' := T0) (g' := (mkF m 1 #[.val (.int (0 : Int32)), .val (.int (Int32.ofNat cs.length)), .val (.ref t)] [(.int (0 : Int32))])) (fun t_ hr_ => XS.iloadN A_0 hx rfl (Jvm.hb hby d25_0) rfl hr_) ?_
  refine own_by (T' := T0) (g' := (mkF m 2 #[.val (.int (0 : Int32)), .val (.int (Int32.ofNat cs.length)), .val (.ref t)] [(.int (Int32.ofNat cs.length)), (.int (0 : Int32))])) (fun t_ hr_ => XS.iloadN A_0 hx rfl (Jvm.hb hby d25_1) rfl hr_) ?_
  refine own_by (T' := T0) (g' := (mkF m 3 #[.val (.int (0 : Int32)), .val (.int (Int32.ofNat cs.length)), .val (.ref t)] [(.ref t), (.int (Int32.ofNat cs.length)), (.int (0 : Int32))])) (fun t_ hr_ => XS.aloadN A_0 hx rfl (Jvm.hb hby d25_2) rfl rfl hr_) ?_
  refine own_callS w0 hx (y := (⟨"java/lang/StringUTF16", "length", "([B)I"⟩ : MethodName)) (hw _ (List.mem_of_getElem? (i := 112) rfl)) (hw _ (List.mem_of_getElem? (i := 113) rfl)) (hw _ (List.mem_of_getElem? (i := 70) rfl)) (hw _ (List.mem_of_getElem? (i := 114) rfl)) (by decide) (kc := 0) (ks := 0) (argsL := [(.ref t)]) (rest := [(.int (Int32.ofNat cs.length)), (.int (0 : Int32))]) (own_payCt (W := 2) (ctULen l Z a0 hw n0 h0 (own_old w0) t k cs K hl) w0 (hw _ (List.mem_of_getElem? (i := 114) rfl)) (hw _ (List.mem_of_getElem? (i := 70) rfl)) hEL (by decide) (by decide)) (g := (mkF m 3 #[.val (.int (0 : Int32)), .val (.int (Int32.ofNat cs.length)), .val (.ref t)] [(.ref t), (.int (Int32.ofNat cs.length)), (.int (0 : Int32))])) rfl (by rw [hml]; rfl) (lenOf pd_985711114 rfl) rfl (by show 2 * 0 + _ ≤ _; exact Nat.le_of_eq rfl) (Jvm.hb hby d25_3) (by decide) (by decide) (fun v1_ T1_ vm1_ h1_ q1_ C1_ w1_ => ?_)
  obtain ⟨rfl, rfl⟩ := q1_
  have A1_ := own_at w1_
  show own_WP p e _ below s Z _ n0 _ T1_ (mkF m 6 #[.val (.int (0 : Int32)), .val (.int (Int32.ofNat cs.length)), .val (.ref t)] [(.int (Int32.ofNat cs.length)), (.int (Int32.ofNat cs.length)), (.int (0 : Int32))])
  refine own_callS w1_ hx (y := (⟨"java/lang/String", "checkBoundsBeginEnd", "(III)V"⟩ : MethodName)) (hw _ (List.mem_of_getElem? (i := 115) rfl)) (hw _ (List.mem_of_getElem? (i := 116) rfl)) (hw _ (List.mem_of_getElem? (i := 5) rfl)) (hw _ (List.mem_of_getElem? (i := 117) rfl)) (by decide) (kc := 0) (ks := 0) (argsL := [(.int (0 : Int32)), (.int (Int32.ofNat cs.length)), (.int (Int32.ofNat cs.length))]) (rest := []) (own_payCt (W := 0) (ctChkB l Z a0 hw SF n0 h0 (own_old w1_) 0 (Int32.ofNat cs.length) (Int32.ofNat cs.length) (by decide) (own_o0 (by omega)) Int32.lt_irrefl) w1_ (hw _ (List.mem_of_getElem? (i := 117) rfl)) (hw _ (List.mem_of_getElem? (i := 5) rfl)) hEL (by decide) (by decide)) (g := (mkF m 6 #[.val (.int (0 : Int32)), .val (.int (Int32.ofNat cs.length)), .val (.ref t)] [(.int (Int32.ofNat cs.length)), (.int (Int32.ofNat cs.length)), (.int (0 : Int32))])) rfl (by rw [hml]; rfl) (lenOf pd_843438178 rfl) rfl (by show 2 * 0 + _ ≤ _; exact Nat.le_of_eq rfl) (Jvm.hb hby d25_6) (by decide) (by decide) (fun v2_ T2_ vm2_ h2_ q2_ C2_ w2_ => ?_)
  obtain ⟨rfl, rfl⟩ := q2_
  have A2_ := own_at w2_
  show own_WP p e _ below s Z _ n0 _ T2_ (mkF m 9 #[.val (.int (0 : Int32)), .val (.int (Int32.ofNat cs.length)), .val (.ref t)] [])
  exact own_retV w2_ hx hEL hlk hret (Jvm.hb hby d25_9) (by decide) (by decide) ⟨rfl, rfl⟩

theorem d29_3 : decode jdk_52_method_48_code 3 = .ok (.iload 4, 2) := by decide +kernel
theorem d29_5 : decode jdk_52_method_48_code 5 = .ok (.iload_n 3, 1) := by decide +kernel
theorem d29_6 : decode jdk_52_method_48_code 6 = .ok (.if_icmp .ge 22, 3) := by decide +kernel
theorem d29_28 : decode jdk_52_method_48_code 28 = .ok (.iconst (-1), 1) := by decide +kernel
theorem d29_29 : decode jdk_52_method_48_code 29 = .ok (.ireturn, 1) := by decide +kernel
theorem d29_9 : decode jdk_52_method_48_code 9 = .ok (.aload_n 0, 1) := by decide +kernel
theorem d29_10 : decode jdk_52_method_48_code 10 = .ok (.iload 4, 2) := by decide +kernel
theorem d29_12 : decode jdk_52_method_48_code 12 = .ok (.invokestatic 71, 3) := by decide +kernel
theorem d29_15 : decode jdk_52_method_48_code 15 = .ok (.iload_n 1, 1) := by decide +kernel
theorem d29_16 : decode jdk_52_method_48_code 16 = .ok (.if_icmp .ne 6, 3) := by decide +kernel
theorem d29_19 : decode jdk_52_method_48_code 19 = .ok (.iload 4, 2) := by decide +kernel
theorem d29_21 : decode jdk_52_method_48_code 21 = .ok (.ireturn, 1) := by decide +kernel
theorem d29_22 : decode jdk_52_method_48_code 22 = .ok (.iinc 4 1, 3) := by decide +kernel
theorem d29_25 : decode jdk_52_method_48_code 25 = .ok (.goto (-22), 3) := by decide +kernel
set_option maxRecDepth 65536 in
set_option maxHeartbeats 40000000 in
theorem loopU {p : Program} {l : Launch} {e : Env} {s : State} {m : MethodId} {below : List Frame} {meth : Method} {cc_ : Code} {Z : State} {a0 : Array Value} {n0 : Nat} {h0 : Heap} (hw : ∀ d ∈ tables_1, d.before a0 Z = true) (US : own_US Z) (hx : p.tables.exec = Jvm.exec) (hby : cc_.code = jdk_52_method_48_code) (hml : cc_.maxLocals = 5) (hret : meth.sig.returnType = (some .int)) (hlk : meth.locks = false) (hnm : meth.name = "indexOfCharUnsafe") (t : Addr) (k' : ClassId) (cs : List Int32) (K : Arv Z h0 t k' .byte (Int32.ofNat (2 * cs.length)) (StrChars.Road.wideBytes cs) (.int 0)) (hcs : ∀ c ∈ cs, ¬ c < 0 ∧ ¬ (65535 : Int32) < c) (hl : cs.length ≤ 1000) :
    ∀ (k i : Nat)  {T0 : State} {vm0 : Vm}, own_Wk p l e ({ frames := 1, cells := 0, slots := 0, locals := 60 } : Room) s m #[.ref t, .int 124, .int 0, .int (Int32.ofNat cs.length)] below meth cc_ Z consts_1 "java/lang/StringUTF16" n0 T0 vm0 h0 0 0 → (i + k = cs.length) → (own_find 124 (cs.drop i) i = own_find 124 cs 0) → own_WP p e ({ frames := 1, cells := 0, slots := 0, locals := 60 } : Room) below s Z consts_1 n0 (fun v h => v = some (.int (own_find 124 cs 0)) ∧ h0 = h) T0 (mkF m 3 #[.val (.ref t), .val (.int (124 : Int32)), .val (.int (0 : Int32)), .val (.int (Int32.ofNat cs.length)), .val (.int (Int32.ofNat i))] []) := by
  have hEL := own_EL hw
  intro k
  induction k with
  | zero =>
    intro i  T0 vm0 w0 hi hq
    have A_0 := own_at w0
    refine own_by (T' := T0) (g' := (mkF m 5 #[.val (.ref t), .val (.int (124 : Int32)), .val (.int (0 : Int32)), .val (.int (Int32.ofNat cs.length)), .val (.int (Int32.ofNat i))] [(.int (Int32.ofNat i))])) (fun t_ hr_ => XS.iload A_0 hx rfl (Jvm.hb hby d29_3) rfl hr_) ?_
    refine own_by (T' := T0) (g' := (mkF m 6 #[.val (.ref t), .val (.int (124 : Int32)), .val (.int (0 : Int32)), .val (.int (Int32.ofNat cs.length)), .val (.int (Int32.ofNat i))] [(.int (Int32.ofNat cs.length)), (.int (Int32.ofNat i))])) (fun t_ hr_ => XS.iloadN A_0 hx rfl (Jvm.hb hby d29_5) rfl hr_) ?_
    refine own_by (T' := T0) (g' := (mkF m 28 #[.val (.ref t), .val (.int (124 : Int32)), .val (.int (0 : Int32)), .val (.int (Int32.ofNat cs.length)), .val (.int (Int32.ofNat i))] [])) (fun t_ hr_ => XS.icmpYes A_0 hx rfl (pc0 := 6) (pc' := 28) rfl (Jvm.hb hby d29_6) rfl (flt (fun q => by have := (own_olt (by omega) (by omega)).mp q; omega)).2.1 (by decide) (by decide) hr_) ?_
    refine own_by (T' := T0) (g' := (mkF m 29 #[.val (.ref t), .val (.int (124 : Int32)), .val (.int (0 : Int32)), .val (.int (Int32.ofNat cs.length)), .val (.int (Int32.ofNat i))] [(.int (-1 : Int32))])) (fun t_ hr_ => XS.iconst A_0 hx rfl (Jvm.hb hby d29_28) hr_) ?_
    exact own_retI w0 hx hEL hlk hret (Jvm.hb hby d29_29) (by decide) (by decide) ⟨by have e : cs.drop i = [] := List.drop_eq_nil_of_le (by omega); rw [← hq, e] <;> rfl, rfl⟩
  | succ k ih =>
    intro i  T0 vm0 w0 hi hq
    have A_0 := own_at w0
    refine own_by (T' := T0) (g' := (mkF m 5 #[.val (.ref t), .val (.int (124 : Int32)), .val (.int (0 : Int32)), .val (.int (Int32.ofNat cs.length)), .val (.int (Int32.ofNat i))] [(.int (Int32.ofNat i))])) (fun t_ hr_ => XS.iload A_0 hx rfl (Jvm.hb hby d29_3) rfl hr_) ?_
    refine own_by (T' := T0) (g' := (mkF m 6 #[.val (.ref t), .val (.int (124 : Int32)), .val (.int (0 : Int32)), .val (.int (Int32.ofNat cs.length)), .val (.int (Int32.ofNat i))] [(.int (Int32.ofNat cs.length)), (.int (Int32.ofNat i))])) (fun t_ hr_ => XS.iloadN A_0 hx rfl (Jvm.hb hby d29_5) rfl hr_) ?_
    refine own_by (T' := T0) (g' := (mkF m 9 #[.val (.ref t), .val (.int (124 : Int32)), .val (.int (0 : Int32)), .val (.int (Int32.ofNat cs.length)), .val (.int (Int32.ofNat i))] [])) (fun t_ hr_ => XS.icmpNo A_0 hx rfl (Jvm.hb hby d29_6) rfl (tlt ((own_olt (by omega) (by omega)).mpr (by omega))).2.1 hr_) ?_
    refine own_by (T' := T0) (g' := (mkF m 10 #[.val (.ref t), .val (.int (124 : Int32)), .val (.int (0 : Int32)), .val (.int (Int32.ofNat cs.length)), .val (.int (Int32.ofNat i))] [(.ref t)])) (fun t_ hr_ => XS.aloadN A_0 hx rfl (Jvm.hb hby d29_9) rfl rfl hr_) ?_
    refine own_by (T' := T0) (g' := (mkF m 12 #[.val (.ref t), .val (.int (124 : Int32)), .val (.int (0 : Int32)), .val (.int (Int32.ofNat cs.length)), .val (.int (Int32.ofNat i))] [(.int (Int32.ofNat i)), (.ref t)])) (fun t_ hr_ => XS.iload A_0 hx rfl (Jvm.hb hby d29_10) rfl hr_) ?_
    refine own_callS w0 hx (y := (⟨"java/lang/StringUTF16", "getChar", "([BI)C"⟩ : MethodName)) (hw _ (List.mem_of_getElem? (i := 97) rfl)) (hw _ (List.mem_of_getElem? (i := 98) rfl)) (hw _ (List.mem_of_getElem? (i := 70) rfl)) (hw _ (List.mem_of_getElem? (i := 99) rfl)) (by decide) (kc := 0) (ks := 0) (argsL := [(.ref t), (.int (Int32.ofNat i))]) (rest := []) (own_payCt (W := 0) (ctGet l Z a0 hw US n0 h0 (own_old w0) t i k' cs K hcs (by omega) hl) w0 (hw _ (List.mem_of_getElem? (i := 99) rfl)) (hw _ (List.mem_of_getElem? (i := 70) rfl)) hEL (by decide) (by decide)) (g := (mkF m 12 #[.val (.ref t), .val (.int (124 : Int32)), .val (.int (0 : Int32)), .val (.int (Int32.ofNat cs.length)), .val (.int (Int32.ofNat i))] [(.int (Int32.ofNat i)), (.ref t)])) rfl (by rw [hml]; rfl) (lenOf pd_128700058 rfl) rfl (by show 2 * 0 + _ ≤ _; exact Nat.le_of_eq rfl) (Jvm.hb hby d29_12) (by decide) (by decide) (fun v1_ T1_ vm1_ h1_ q1_ C1_ w1_ => ?_)
    obtain ⟨rfl, rfl⟩ := q1_
    have A1_ := own_at w1_
    show own_WP p e _ below s Z _ n0 _ T1_ (mkF m 15 #[.val (.ref t), .val (.int (124 : Int32)), .val (.int (0 : Int32)), .val (.int (Int32.ofNat cs.length)), .val (.int (Int32.ofNat i))] [(.int (cs.getD i 0))])
    have hd : cs.drop i = cs.getD i 0 :: cs.drop (i + 1) := by
      have q : i < cs.length := by omega
      rw [List.drop_eq_getElem_cons q]
      first | (simp [q]; done) | (congr 1; rw [List.getD_eq_getElem?_getD, List.getElem?_eq_getElem q] <;> rfl)
    refine own_by (T' := T1_) (g' := (mkF m 16 #[.val (.ref t), .val (.int (124 : Int32)), .val (.int (0 : Int32)), .val (.int (Int32.ofNat cs.length)), .val (.int (Int32.ofNat i))] [(.int (124 : Int32)), (.int (cs.getD i 0))])) (fun t_ hr_ => XS.iloadN A1_ hx rfl (Jvm.hb hby d29_15) rfl hr_) ?_
    by_cases hc2_ : (cs.getD i 0) = (124 : Int32)
    · refine own_by (T' := T1_) (g' := (mkF m 19 #[.val (.ref t), .val (.int (124 : Int32)), .val (.int (0 : Int32)), .val (.int (Int32.ofNat cs.length)), .val (.int (Int32.ofNat i))] [])) (fun t_ hr_ => XS.icmpNo A1_ hx rfl (Jvm.hb hby d29_16) rfl (teq hc2_).2 hr_) ?_
      refine own_by (T' := T1_) (g' := (mkF m 21 #[.val (.ref t), .val (.int (124 : Int32)), .val (.int (0 : Int32)), .val (.int (Int32.ofNat cs.length)), .val (.int (Int32.ofNat i))] [(.int (Int32.ofNat i))])) (fun t_ hr_ => XS.iload A1_ hx rfl (Jvm.hb hby d29_19) rfl hr_) ?_
      exact own_retI w1_ hx hEL hlk hret (Jvm.hb hby d29_21) (by decide) (by decide) ⟨by rw [← hq, hd, own_find, if_pos hc2_], rfl⟩
    · refine own_by (T' := T1_) (g' := (mkF m 22 #[.val (.ref t), .val (.int (124 : Int32)), .val (.int (0 : Int32)), .val (.int (Int32.ofNat cs.length)), .val (.int (Int32.ofNat i))] [])) (fun t_ hr_ => XS.icmpYes A1_ hx rfl (pc0 := 16) (pc' := 22) rfl (Jvm.hb hby d29_16) rfl (feq hc2_).2 (by decide) (by decide) hr_) ?_
      refine own_by (T' := T1_) (g' := (mkF m 25 #[.val (.ref t), .val (.int (124 : Int32)), .val (.int (0 : Int32)), .val (.int (Int32.ofNat cs.length)), .val (.int ((Int32.ofNat i) + (1 : Int32)))] [])) (fun t_ hr_ => XS.iinc A1_ hx rfl (Jvm.hb hby d29_22) rfl (l' := #[.val (.ref t), .val (.int (124 : Int32)), .val (.int (0 : Int32)), .val (.int (Int32.ofNat cs.length)), .val (.int ((Int32.ofNat i) + (1 : Int32)))]) rfl hr_) ?_
      refine own_by (T' := T1_) (g' := (mkF m 3 #[.val (.ref t), .val (.int (124 : Int32)), .val (.int (0 : Int32)), .val (.int (Int32.ofNat cs.length)), .val (.int ((Int32.ofNat i) + (1 : Int32)))] [])) (fun t_ hr_ => XS.goto A1_ hx rfl (pc0 := 25) (pc' := 3) rfl (Jvm.hb hby d29_25) (by decide) (by decide) hr_) ?_
      rw [own_osucc]
      exact ih (i + 1) w1_ (by omega) (by rw [← hq, hd, own_find, if_neg hc2_])

theorem d29_0 : decode jdk_52_method_48_code 0 = .ok (.iload_n 2, 1) := by decide +kernel
theorem d29_1 : decode jdk_52_method_48_code 1 = .ok (.istore 4, 2) := by decide +kernel
theorem pn_256107356 : plainFor (⟨"java/lang/StringUTF16", "indexOfCharUnsafe", "([BIII)I"⟩ : MethodName) = true := by first | exact plainFor_of_name (by first | (simp [plainName, overriddenIn]; done) | decide +kernel) | decide +kernel
theorem ef_ctUnsafe (m : MethodId) (x0 : Addr) (x1 : Int32) (x2 : Int32) (x3 : Int32) : entryFrame m #[(.ref x0), (.int x1), (.int x2), (.int x3)] 5 = mkF m 0 #[.val (.ref x0), .val (.int x1), .val (.int x2), .val (.int x3), .unset] [] := by first | (simp [entryFrame, mkF, argsToLocals, Value.category]; done) | rfl
set_option maxRecDepth 65536 in
set_option maxHeartbeats 40000000 in
theorem ctUnsafe (l : Launch) (Z : State) (a0 : Array Value) (hw : ∀ d ∈ tables_1, d.before a0 Z = true) (US : own_US Z) (n0 : Nat) (h0 : Heap) (O0 : Old Z n0 h0) (t : Addr) (k : ClassId) (cs : List Int32) (K : Arv Z h0 t k .byte (Int32.ofNat (2 * cs.length)) (StrChars.Road.wideBytes cs) (.int 0)) (hcs : ∀ c ∈ cs, ¬ c < 0 ∧ ¬ (65535 : Int32) < c) (hl : cs.length ≤ 1000) :
    own_Ct l (⟨"java/lang/StringUTF16", "indexOfCharUnsafe", "([BIII)I"⟩ : MethodName) jdk_52_method_48_code 5 (some .int) ({ frames := 1, cells := 0, slots := 0, locals := 60 } : Room) Z consts_1 n0 #[(.ref t), (.int (124 : Int32)), (.int (0 : Int32)), (.int (Int32.ofNat cs.length))] h0 [] (fun v h => v = some (.int (own_find 124 cs 0)) ∧ h0 = h) := by
  have hEL := own_EL hw
  refine own_body pn_256107356 O0 (fun p e s m below meth cc_ T0 vm0 hx hby hml0 hret hlk hnm hsf w0 => ?_)
  have hml : cc_.maxLocals = 5 := hml0
  have A_0 := own_at w0
  refine own_entry (ef_ctUnsafe m t (124 : Int32) (0 : Int32) (Int32.ofNat cs.length)) ?_
  refine own_by (T' := T0) (g' := (mkF m 1 #[.val (.ref t), .val (.int (124 : Int32)), .val (.int (0 : Int32)), .val (.int (Int32.ofNat cs.length)), .unset] [(.int (0 : Int32))])) (fun t_ hr_ => XS.iloadN A_0 hx rfl (Jvm.hb hby d29_0) rfl hr_) ?_
  refine own_by (T' := T0) (g' := (mkF m 3 #[.val (.ref t), .val (.int (124 : Int32)), .val (.int (0 : Int32)), .val (.int (Int32.ofNat cs.length)), .val (.int (0 : Int32))] [])) (fun t_ hr_ => XS.istore A_0 hx rfl (Jvm.hb hby d29_1) rfl (l' := #[.val (.ref t), .val (.int (124 : Int32)), .val (.int (0 : Int32)), .val (.int (Int32.ofNat cs.length)), .val (.int (0 : Int32))]) rfl hr_) ?_
  exact loopU hw US hx hby hml hret hlk hnm t k cs K hcs hl cs.length 0 w0 (by omega) rfl

theorem d24_0 : decode jdk_52_method_47_code 0 = .ok (.iload_n 2, 1) := by decide +kernel
theorem d24_1 : decode jdk_52_method_47_code 1 = .ok (.iload_n 3, 1) := by decide +kernel
theorem d24_2 : decode jdk_52_method_47_code 2 = .ok (.aload_n 0, 1) := by decide +kernel
theorem d24_3 : decode jdk_52_method_47_code 3 = .ok (.invokestatic 96, 3) := by decide +kernel
theorem pd_531289402 : parseMethodDescriptor "(II[B)V" = some ⟨[.int, .int, (.array .byte)], none⟩ := by decide +kernel
theorem d24_6 : decode jdk_52_method_47_code 6 = .ok (.aload_n 0, 1) := by decide +kernel
theorem d24_7 : decode jdk_52_method_47_code 7 = .ok (.iload_n 1, 1) := by decide +kernel
theorem d24_8 : decode jdk_52_method_47_code 8 = .ok (.iload_n 2, 1) := by decide +kernel
theorem d24_9 : decode jdk_52_method_47_code 9 = .ok (.iload_n 3, 1) := by decide +kernel
theorem d24_10 : decode jdk_52_method_47_code 10 = .ok (.invokestatic 244, 3) := by decide +kernel
theorem d24_13 : decode jdk_52_method_47_code 13 = .ok (.ireturn, 1) := by decide +kernel
theorem pn_209754274 : plainFor (⟨"java/lang/StringUTF16", "indexOfChar", "([BIII)I"⟩ : MethodName) = true := by first | exact plainFor_of_name (by first | (simp [plainName, overriddenIn]; done) | decide +kernel) | decide +kernel
theorem ef_ctUIdxC (m : MethodId) (x0 : Addr) (x1 : Int32) (x2 : Int32) (x3 : Int32) : entryFrame m #[(.ref x0), (.int x1), (.int x2), (.int x3)] 4 = mkF m 0 #[.val (.ref x0), .val (.int x1), .val (.int x2), .val (.int x3)] [] := by first | (simp [entryFrame, mkF, argsToLocals, Value.category]; done) | rfl
set_option maxRecDepth 65536 in
set_option maxHeartbeats 40000000 in
theorem ctUIdxC (l : Launch) (Z : State) (a0 : Array Value) (hw : ∀ d ∈ tables_1, d.before a0 Z = true) (SF : own_SF Z) (US : own_US Z) (n0 : Nat) (h0 : Heap) (O0 : Old Z n0 h0) (t : Addr) (k : ClassId) (cs : List Int32) (K : Arv Z h0 t k .byte (Int32.ofNat (2 * cs.length)) (StrChars.Road.wideBytes cs) (.int 0)) (hcs : ∀ c ∈ cs, ¬ c < 0 ∧ ¬ (65535 : Int32) < c) (hl : cs.length ≤ 1000) :
    own_Ct l (⟨"java/lang/StringUTF16", "indexOfChar", "([BIII)I"⟩ : MethodName) jdk_52_method_47_code 4 (some .int) ({ frames := 3, cells := 0, slots := 0, locals := 76 } : Room) Z consts_1 n0 #[(.ref t), (.int (124 : Int32)), (.int (0 : Int32)), (.int (Int32.ofNat cs.length))] h0 [] (fun v h => v = some (.int (own_find 124 cs 0)) ∧ h0 = h) := by
  have hEL := own_EL hw
  refine own_body pn_209754274 O0 (fun p e s m below meth cc_ T0 vm0 hx hby hml0 hret hlk hnm hsf w0 => ?_)
  have hml : cc_.maxLocals = 4 := hml0
  have A_0 := own_at w0
  refine own_entry (ef_ctUIdxC m t (124 : Int32) (0 : Int32) (Int32.ofNat cs.length)) ?_
  refine own_by (T' := T0) (g' := (mkF m 1 #[.val (.ref t), .val (.int (124 : Int32)), .val (.int (0 : Int32)), .val (.int (Int32.ofNat cs.length))] [(.int (0 : Int32))])) (fun t_ hr_ => XS.iloadN A_0 hx rfl (Jvm.hb hby d24_0) rfl hr_) ?_
  refine own_by (T' := T0) (g' := (mkF m 2 #[.val (.ref t), .val (.int (124 : Int32)), .val (.int (0 : Int32)), .val (.int (Int32.ofNat cs.length))] [(.int (Int32.ofNat cs.length)), (.int (0 : Int32))])) (fun t_ hr_ => XS.iloadN A_0 hx rfl (Jvm.hb hby d24_1) rfl hr_) ?_
  refine own_by (T' := T0) (g' := (mkF m 3 #[.val (.ref t), .val (.int (124 : Int32)), .val (.int (0 : Int32)), .val (.int (Int32.ofNat cs.length))] [(.ref t), (.int (Int32.ofNat cs.length)), (.int (0 : Int32))])) (fun t_ hr_ => XS.aloadN A_0 hx rfl (Jvm.hb hby d24_2) rfl rfl hr_) ?_
  refine own_callS w0 hx (y := (⟨"java/lang/StringUTF16", "checkBoundsBeginEnd", "(II[B)V"⟩ : MethodName)) (hw _ (List.mem_of_getElem? (i := 109) rfl)) (hw _ (List.mem_of_getElem? (i := 110) rfl)) (hw _ (List.mem_of_getElem? (i := 70) rfl)) (hw _ (List.mem_of_getElem? (i := 111) rfl)) (by decide) (kc := 0) (ks := 0) (argsL := [(.int (0 : Int32)), (.int (Int32.ofNat cs.length)), (.ref t)]) (rest := []) (own_payCt (W := 0) (ctUBnd l Z a0 hw SF n0 h0 (own_old w0) t k cs K hcs hl) w0 (hw _ (List.mem_of_getElem? (i := 111) rfl)) (hw _ (List.mem_of_getElem? (i := 70) rfl)) hEL (by decide) (by decide)) (g := (mkF m 3 #[.val (.ref t), .val (.int (124 : Int32)), .val (.int (0 : Int32)), .val (.int (Int32.ofNat cs.length))] [(.ref t), (.int (Int32.ofNat cs.length)), (.int (0 : Int32))])) rfl (by rw [hml]; rfl) (lenOf pd_531289402 rfl) rfl (by show 2 * 0 + _ ≤ _; exact Nat.le_of_eq rfl) (Jvm.hb hby d24_3) (by decide) (by decide) (fun v1_ T1_ vm1_ h1_ q1_ C1_ w1_ => ?_)
  obtain ⟨rfl, rfl⟩ := q1_
  have A1_ := own_at w1_
  show own_WP p e _ below s Z _ n0 _ T1_ (mkF m 6 #[.val (.ref t), .val (.int (124 : Int32)), .val (.int (0 : Int32)), .val (.int (Int32.ofNat cs.length))] [])
  refine own_by (T' := T1_) (g' := (mkF m 7 #[.val (.ref t), .val (.int (124 : Int32)), .val (.int (0 : Int32)), .val (.int (Int32.ofNat cs.length))] [(.ref t)])) (fun t_ hr_ => XS.aloadN A1_ hx rfl (Jvm.hb hby d24_6) rfl rfl hr_) ?_
  refine own_by (T' := T1_) (g' := (mkF m 8 #[.val (.ref t), .val (.int (124 : Int32)), .val (.int (0 : Int32)), .val (.int (Int32.ofNat cs.length))] [(.int (124 : Int32)), (.ref t)])) (fun t_ hr_ => XS.iloadN A1_ hx rfl (Jvm.hb hby d24_7) rfl hr_) ?_
  refine own_by (T' := T1_) (g' := (mkF m 9 #[.val (.ref t), .val (.int (124 : Int32)), .val (.int (0 : Int32)), .val (.int (Int32.ofNat cs.length))] [(.int (0 : Int32)), (.int (124 : Int32)), (.ref t)])) (fun t_ hr_ => XS.iloadN A1_ hx rfl (Jvm.hb hby d24_8) rfl hr_) ?_
  refine own_by (T' := T1_) (g' := (mkF m 10 #[.val (.ref t), .val (.int (124 : Int32)), .val (.int (0 : Int32)), .val (.int (Int32.ofNat cs.length))] [(.int (Int32.ofNat cs.length)), (.int (0 : Int32)), (.int (124 : Int32)), (.ref t)])) (fun t_ hr_ => XS.iloadN A1_ hx rfl (Jvm.hb hby d24_9) rfl hr_) ?_
  refine own_callS w1_ hx (y := (⟨"java/lang/StringUTF16", "indexOfCharUnsafe", "([BIII)I"⟩ : MethodName)) (hw _ (List.mem_of_getElem? (i := 123) rfl)) (hw _ (List.mem_of_getElem? (i := 124) rfl)) (hw _ (List.mem_of_getElem? (i := 70) rfl)) (hw _ (List.mem_of_getElem? (i := 125) rfl)) (by decide) (kc := 0) (ks := 0) (argsL := [(.ref t), (.int (124 : Int32)), (.int (0 : Int32)), (.int (Int32.ofNat cs.length))]) (rest := []) (own_payCt (W := 0) (ctUnsafe l Z a0 hw US n0 h0 (own_old w1_) t k cs K hcs hl) w1_ (hw _ (List.mem_of_getElem? (i := 125) rfl)) (hw _ (List.mem_of_getElem? (i := 70) rfl)) hEL (by decide) (by decide)) (g := (mkF m 10 #[.val (.ref t), .val (.int (124 : Int32)), .val (.int (0 : Int32)), .val (.int (Int32.ofNat cs.length))] [(.int (Int32.ofNat cs.length)), (.int (0 : Int32)), (.int (124 : Int32)), (.ref t)])) rfl (by rw [hml]; rfl) (lenOf pd_693727204 rfl) rfl (by show 2 * 0 + _ ≤ _; exact Nat.le_of_eq rfl) (Jvm.hb hby d24_10) (by decide) (by decide) (fun v2_ T2_ vm2_ h2_ q2_ C2_ w2_ => ?_)
  obtain ⟨rfl, rfl⟩ := q2_
  have A2_ := own_at w2_
  show own_WP p e _ below s Z _ n0 _ T2_ (mkF m 13 #[.val (.ref t), .val (.int (124 : Int32)), .val (.int (0 : Int32)), .val (.int (Int32.ofNat cs.length))] [(.int (own_find 124 cs 0))])
  exact own_retI w2_ hx hEL hlk hret (Jvm.hb hby d24_13) (by decide) (by decide) ⟨rfl, rfl⟩

theorem d23_0 : decode jdk_52_method_40_code 0 = .ok (.iload_n 2, 1) := by decide +kernel
theorem d23_1 : decode jdk_52_method_40_code 1 = .ok (.iconst 0, 1) := by decide +kernel
theorem d23_2 : decode jdk_52_method_40_code 2 = .ok (.invokestatic 224, 3) := by decide +kernel
theorem d23_5 : decode jdk_52_method_40_code 5 = .ok (.istore_n 2, 1) := by decide +kernel
theorem d23_6 : decode jdk_52_method_40_code 6 = .ok (.iload_n 3, 1) := by decide +kernel
theorem d23_7 : decode jdk_52_method_40_code 7 = .ok (.aload_n 0, 1) := by decide +kernel
theorem d23_8 : decode jdk_52_method_40_code 8 = .ok (.arraylength, 1) := by decide +kernel
theorem d23_9 : decode jdk_52_method_40_code 9 = .ok (.iconst 1, 1) := by decide +kernel
theorem d23_10 : decode jdk_52_method_40_code 10 = .ok (.ishr, 1) := by decide +kernel
theorem d23_11 : decode jdk_52_method_40_code 11 = .ok (.invokestatic 183, 3) := by decide +kernel
theorem d23_14 : decode jdk_52_method_40_code 14 = .ok (.istore_n 3, 1) := by decide +kernel
theorem d23_15 : decode jdk_52_method_40_code 15 = .ok (.iload_n 2, 1) := by decide +kernel
theorem d23_16 : decode jdk_52_method_40_code 16 = .ok (.iload_n 3, 1) := by decide +kernel
theorem d23_17 : decode jdk_52_method_40_code 17 = .ok (.if_icmp .lt 5, 3) := by decide +kernel
theorem d23_22 : decode jdk_52_method_40_code 22 = .ok (.iload_n 1, 1) := by decide +kernel
theorem d23_23 : decode jdk_52_method_40_code 23 = .ok (.ldc 227, 2) := by decide +kernel
theorem d23_25 : decode jdk_52_method_40_code 25 = .ok (.if_icmp .ge 11, 3) := by decide +kernel
theorem d23_28 : decode jdk_52_method_40_code 28 = .ok (.aload_n 0, 1) := by decide +kernel
theorem d23_29 : decode jdk_52_method_40_code 29 = .ok (.iload_n 1, 1) := by decide +kernel
theorem d23_30 : decode jdk_52_method_40_code 30 = .ok (.iload_n 2, 1) := by decide +kernel
theorem d23_31 : decode jdk_52_method_40_code 31 = .ok (.iload_n 3, 1) := by decide +kernel
theorem d23_32 : decode jdk_52_method_40_code 32 = .ok (.invokestatic 228, 3) := by decide +kernel
theorem d23_35 : decode jdk_52_method_40_code 35 = .ok (.ireturn, 1) := by decide +kernel
theorem d23_20 : decode jdk_52_method_40_code 20 = .ok (.iconst (-1), 1) := by decide +kernel
theorem d23_21 : decode jdk_52_method_40_code 21 = .ok (.ireturn, 1) := by decide +kernel
theorem pn_284676461 : plainFor (⟨"java/lang/StringUTF16", "indexOf", "([BIII)I"⟩ : MethodName) = true := by first | exact plainFor_of_name (by first | (simp [plainName, overriddenIn]; done) | decide +kernel) | decide +kernel
theorem ef_ctUIdx (m : MethodId) (x0 : Addr) (x1 : Int32) (x2 : Int32) (x3 : Int32) : entryFrame m #[(.ref x0), (.int x1), (.int x2), (.int x3)] 4 = mkF m 0 #[.val (.ref x0), .val (.int x1), .val (.int x2), .val (.int x3)] [] := by first | (simp [entryFrame, mkF, argsToLocals, Value.category]; done) | rfl
set_option maxRecDepth 65536 in
set_option maxHeartbeats 40000000 in
theorem ctUIdx (l : Launch) (Z : State) (a0 : Array Value) (hw : ∀ d ∈ tables_1, d.before a0 Z = true) (SF : own_SF Z) (US : own_US Z) (n0 : Nat) (h0 : Heap) (O0 : Old Z n0 h0) (t : Addr) (k : ClassId) (cs : List Int32) (K : Arv Z h0 t k .byte (Int32.ofNat (2 * cs.length)) (StrChars.Road.wideBytes cs) (.int 0)) (hcs : ∀ c ∈ cs, ¬ c < 0 ∧ ¬ (65535 : Int32) < c) (hl : cs.length ≤ 1000) :
    own_Ct l (⟨"java/lang/StringUTF16", "indexOf", "([BIII)I"⟩ : MethodName) jdk_52_method_40_code 4 (some .int) ({ frames := 4, cells := 0, slots := 0, locals := 91 } : Room) Z consts_1 n0 #[(.ref t), (.int (124 : Int32)), (.int (0 : Int32)), (.int (Int32.ofNat cs.length))] h0 [] (fun v h => v = some (.int (own_find 124 cs 0)) ∧ h0 = h) := by
  have hEL := own_EL hw
  refine own_body pn_284676461 O0 (fun p e s m below meth cc_ T0 vm0 hx hby hml0 hret hlk hnm hsf w0 => ?_)
  have hml : cc_.maxLocals = 4 := hml0
  have A_0 := own_at w0
  refine own_entry (ef_ctUIdx m t (124 : Int32) (0 : Int32) (Int32.ofNat cs.length)) ?_
  refine own_by (T' := T0) (g' := (mkF m 1 #[.val (.ref t), .val (.int (124 : Int32)), .val (.int (0 : Int32)), .val (.int (Int32.ofNat cs.length))] [(.int (0 : Int32))])) (fun t_ hr_ => XS.iloadN A_0 hx rfl (Jvm.hb hby d23_0) rfl hr_) ?_
  refine own_by (T' := T0) (g' := (mkF m 2 #[.val (.ref t), .val (.int (124 : Int32)), .val (.int (0 : Int32)), .val (.int (Int32.ofNat cs.length))] [(.int (0 : Int32)), (.int (0 : Int32))])) (fun t_ hr_ => XS.iconst A_0 hx rfl (Jvm.hb hby d23_1) hr_) ?_
  refine own_callS w0 hx (y := (⟨"java/lang/Math", "max", "(II)I"⟩ : MethodName)) (hw _ (List.mem_of_getElem? (i := 103) rfl)) (hw _ (List.mem_of_getElem? (i := 62) rfl)) (hw _ (List.mem_of_getElem? (i := 63) rfl)) (hw _ (List.mem_of_getElem? (i := 64) rfl)) (by decide) (kc := 0) (ks := 0) (argsL := [(.int (0 : Int32)), (.int (0 : Int32))]) (rest := []) (own_payCt (W := 0) (ctMax l Z a0 hw n0 h0 (own_old w0) (0 : Int32) (0 : Int32)) w0 (hw _ (List.mem_of_getElem? (i := 64) rfl)) (hw _ (List.mem_of_getElem? (i := 63) rfl)) hEL (by decide) (by decide)) (g := (mkF m 2 #[.val (.ref t), .val (.int (124 : Int32)), .val (.int (0 : Int32)), .val (.int (Int32.ofNat cs.length))] [(.int (0 : Int32)), (.int (0 : Int32))])) rfl (by rw [hml]; rfl) (lenOf pd_945365603 rfl) rfl (by show 2 * 0 + _ ≤ _; exact Nat.le_of_eq rfl) (Jvm.hb hby d23_2) (by decide) (by decide) (fun v1_ T1_ vm1_ h1_ q1_ C1_ w1_ => ?_)
  obtain ⟨rfl, rfl⟩ := q1_
  have A1_ := own_at w1_
  show own_WP p e _ below s Z _ n0 _ T1_ (mkF m 5 #[.val (.ref t), .val (.int (124 : Int32)), .val (.int (0 : Int32)), .val (.int (Int32.ofNat cs.length))] [(.int (if (0 : Int32) < (0 : Int32) then (0 : Int32) else (0 : Int32)))])
  rw [show (if (0 : Int32) < (0 : Int32) then (0 : Int32) else (0 : Int32)) = (0 : Int32) from (ite_self _)]
  show own_WP p e _ below s Z _ n0 _ T1_ (mkF m 5 #[.val (.ref t), .val (.int (124 : Int32)), .val (.int (0 : Int32)), .val (.int (Int32.ofNat cs.length))] [(.int (0 : Int32))])
  refine own_by (T' := T1_) (g' := (mkF m 6 #[.val (.ref t), .val (.int (124 : Int32)), .val (.int (0 : Int32)), .val (.int (Int32.ofNat cs.length))] [])) (fun t_ hr_ => XS.istoreN A1_ hx rfl (Jvm.hb hby d23_5) rfl (l' := #[.val (.ref t), .val (.int (124 : Int32)), .val (.int (0 : Int32)), .val (.int (Int32.ofNat cs.length))]) rfl hr_) ?_
  refine own_by (T' := T1_) (g' := (mkF m 7 #[.val (.ref t), .val (.int (124 : Int32)), .val (.int (0 : Int32)), .val (.int (Int32.ofNat cs.length))] [(.int (Int32.ofNat cs.length))])) (fun t_ hr_ => XS.iloadN A1_ hx rfl (Jvm.hb hby d23_6) rfl hr_) ?_
  refine own_by (T' := T1_) (g' := (mkF m 8 #[.val (.ref t), .val (.int (124 : Int32)), .val (.int (0 : Int32)), .val (.int (Int32.ofNat cs.length))] [(.ref t), (.int (Int32.ofNat cs.length))])) (fun t_ hr_ => XS.aloadN A1_ hx rfl (Jvm.hb hby d23_7) rfl rfl hr_) ?_
  refine own_alen w1_ hx K (g := (mkF m 8 #[.val (.ref t), .val (.int (124 : Int32)), .val (.int (0 : Int32)), .val (.int (Int32.ofNat cs.length))] [(.ref t), (.int (Int32.ofNat cs.length))])) rfl rfl (Jvm.hb hby d23_8) ?_
  show own_WP p e _ below s Z _ n0 _ T1_ (mkF m 9 #[.val (.ref t), .val (.int (124 : Int32)), .val (.int (0 : Int32)), .val (.int (Int32.ofNat cs.length))] [(.int (Int32.ofNat (2 * cs.length))), (.int (Int32.ofNat cs.length))])
  refine own_by (T' := T1_) (g' := (mkF m 10 #[.val (.ref t), .val (.int (124 : Int32)), .val (.int (0 : Int32)), .val (.int (Int32.ofNat cs.length))] [(.int (1 : Int32)), (.int (Int32.ofNat (2 * cs.length))), (.int (Int32.ofNat cs.length))])) (fun t_ hr_ => XS.iconst A1_ hx rfl (Jvm.hb hby d23_9) hr_) ?_
  refine own_by (T' := T1_) (g' := (mkF m 11 #[.val (.ref t), .val (.int (124 : Int32)), .val (.int (0 : Int32)), .val (.int (Int32.ofNat cs.length))] [(.int ((Int32.ofNat (2 * cs.length)) >>> ((1 : Int32) &&& 31))), (.int (Int32.ofNat cs.length))])) (fun t_ hr_ => XS.ishr A1_ hx rfl (Jvm.hb hby d23_10) rfl hr_) ?_
  rw [show ((Int32.ofNat (2 * cs.length)) >>> ((1 : Int32) &&& 31)) = (Int32.ofNat cs.length) from StrChars.shr1 (by omega)]
  show own_WP p e _ below s Z _ n0 _ T1_ (mkF m 11 #[.val (.ref t), .val (.int (124 : Int32)), .val (.int (0 : Int32)), .val (.int (Int32.ofNat cs.length))] [(.int (Int32.ofNat cs.length)), (.int (Int32.ofNat cs.length))])
  refine own_callS w1_ hx (y := (⟨"java/lang/Math", "min", "(II)I"⟩ : MethodName)) (hw _ (List.mem_of_getElem? (i := 104) rfl)) (hw _ (List.mem_of_getElem? (i := 66) rfl)) (hw _ (List.mem_of_getElem? (i := 63) rfl)) (hw _ (List.mem_of_getElem? (i := 67) rfl)) (by decide) (kc := 0) (ks := 0) (argsL := [(.int (Int32.ofNat cs.length)), (.int (Int32.ofNat cs.length))]) (rest := []) (own_payCt (W := 0) (ctMin l Z a0 hw n0 h0 (own_old w1_) (Int32.ofNat cs.length) (Int32.ofNat cs.length)) w1_ (hw _ (List.mem_of_getElem? (i := 67) rfl)) (hw _ (List.mem_of_getElem? (i := 63) rfl)) hEL (by decide) (by decide)) (g := (mkF m 11 #[.val (.ref t), .val (.int (124 : Int32)), .val (.int (0 : Int32)), .val (.int (Int32.ofNat cs.length))] [(.int (Int32.ofNat cs.length)), (.int (Int32.ofNat cs.length))])) rfl (by rw [hml]; rfl) (lenOf pd_945365603 rfl) rfl (by show 2 * 0 + _ ≤ _; exact Nat.le_of_eq rfl) (Jvm.hb hby d23_11) (by decide) (by decide) (fun v2_ T2_ vm2_ h2_ q2_ C2_ w2_ => ?_)
  obtain ⟨rfl, rfl⟩ := q2_
  have A2_ := own_at w2_
  show own_WP p e _ below s Z _ n0 _ T2_ (mkF m 14 #[.val (.ref t), .val (.int (124 : Int32)), .val (.int (0 : Int32)), .val (.int (Int32.ofNat cs.length))] [(.int (if (Int32.ofNat cs.length) < (Int32.ofNat cs.length) then (Int32.ofNat cs.length) else (Int32.ofNat cs.length)))])
  rw [show (if (Int32.ofNat cs.length) < (Int32.ofNat cs.length) then (Int32.ofNat cs.length) else (Int32.ofNat cs.length)) = (Int32.ofNat cs.length) from (ite_self _)]
  show own_WP p e _ below s Z _ n0 _ T2_ (mkF m 14 #[.val (.ref t), .val (.int (124 : Int32)), .val (.int (0 : Int32)), .val (.int (Int32.ofNat cs.length))] [(.int (Int32.ofNat cs.length))])
  refine own_by (T' := T2_) (g' := (mkF m 15 #[.val (.ref t), .val (.int (124 : Int32)), .val (.int (0 : Int32)), .val (.int (Int32.ofNat cs.length))] [])) (fun t_ hr_ => XS.istoreN A2_ hx rfl (Jvm.hb hby d23_14) rfl (l' := #[.val (.ref t), .val (.int (124 : Int32)), .val (.int (0 : Int32)), .val (.int (Int32.ofNat cs.length))]) rfl hr_) ?_
  refine own_by (T' := T2_) (g' := (mkF m 16 #[.val (.ref t), .val (.int (124 : Int32)), .val (.int (0 : Int32)), .val (.int (Int32.ofNat cs.length))] [(.int (0 : Int32))])) (fun t_ hr_ => XS.iloadN A2_ hx rfl (Jvm.hb hby d23_15) rfl hr_) ?_
  refine own_by (T' := T2_) (g' := (mkF m 17 #[.val (.ref t), .val (.int (124 : Int32)), .val (.int (0 : Int32)), .val (.int (Int32.ofNat cs.length))] [(.int (Int32.ofNat cs.length)), (.int (0 : Int32))])) (fun t_ hr_ => XS.iloadN A2_ hx rfl (Jvm.hb hby d23_16) rfl hr_) ?_
  by_cases hc3_ : (0 : Int32) < (Int32.ofNat cs.length)
  · refine own_by (T' := T2_) (g' := (mkF m 22 #[.val (.ref t), .val (.int (124 : Int32)), .val (.int (0 : Int32)), .val (.int (Int32.ofNat cs.length))] [])) (fun t_ hr_ => XS.icmpYes A2_ hx rfl (pc0 := 17) (pc' := 22) rfl (Jvm.hb hby d23_17) rfl (tlt hc3_).1 (by decide) (by decide) hr_) ?_
    refine own_by (T' := T2_) (g' := (mkF m 23 #[.val (.ref t), .val (.int (124 : Int32)), .val (.int (0 : Int32)), .val (.int (Int32.ofNat cs.length))] [(.int (124 : Int32))])) (fun t_ hr_ => XS.iloadN A2_ hx rfl (Jvm.hb hby d23_22) rfl hr_) ?_
    refine own_ldcI w2_ hx (hw _ (List.mem_of_getElem? (i := 105) rfl)) (g := (mkF m 23 #[.val (.ref t), .val (.int (124 : Int32)), .val (.int (0 : Int32)), .val (.int (Int32.ofNat cs.length))] [(.int (124 : Int32))])) rfl (Jvm.hb hby d23_23) ?_
    show own_WP p e _ below s Z _ n0 _ T2_ (mkF m 25 #[.val (.ref t), .val (.int (124 : Int32)), .val (.int (0 : Int32)), .val (.int (Int32.ofNat cs.length))] [(.int (65536 : Int32)), (.int (124 : Int32))])
    refine own_by (T' := T2_) (g' := (mkF m 28 #[.val (.ref t), .val (.int (124 : Int32)), .val (.int (0 : Int32)), .val (.int (Int32.ofNat cs.length))] [])) (fun t_ hr_ => XS.icmpNo A2_ hx rfl (Jvm.hb hby d23_25) rfl (tlt (by decide)).2.1 hr_) ?_
    refine own_by (T' := T2_) (g' := (mkF m 29 #[.val (.ref t), .val (.int (124 : Int32)), .val (.int (0 : Int32)), .val (.int (Int32.ofNat cs.length))] [(.ref t)])) (fun t_ hr_ => XS.aloadN A2_ hx rfl (Jvm.hb hby d23_28) rfl rfl hr_) ?_
    refine own_by (T' := T2_) (g' := (mkF m 30 #[.val (.ref t), .val (.int (124 : Int32)), .val (.int (0 : Int32)), .val (.int (Int32.ofNat cs.length))] [(.int (124 : Int32)), (.ref t)])) (fun t_ hr_ => XS.iloadN A2_ hx rfl (Jvm.hb hby d23_29) rfl hr_) ?_
    refine own_by (T' := T2_) (g' := (mkF m 31 #[.val (.ref t), .val (.int (124 : Int32)), .val (.int (0 : Int32)), .val (.int (Int32.ofNat cs.length))] [(.int (0 : Int32)), (.int (124 : Int32)), (.ref t)])) (fun t_ hr_ => XS.iloadN A2_ hx rfl (Jvm.hb hby d23_30) rfl hr_) ?_
    refine own_by (T' := T2_) (g' := (mkF m 32 #[.val (.ref t), .val (.int (124 : Int32)), .val (.int (0 : Int32)), .val (.int (Int32.ofNat cs.length))] [(.int (Int32.ofNat cs.length)), (.int (0 : Int32)), (.int (124 : Int32)), (.ref t)])) (fun t_ hr_ => XS.iloadN A2_ hx rfl (Jvm.hb hby d23_31) rfl hr_) ?_
    refine own_callS w2_ hx (y := (⟨"java/lang/StringUTF16", "indexOfChar", "([BIII)I"⟩ : MethodName)) (hw _ (List.mem_of_getElem? (i := 106) rfl)) (hw _ (List.mem_of_getElem? (i := 107) rfl)) (hw _ (List.mem_of_getElem? (i := 70) rfl)) (hw _ (List.mem_of_getElem? (i := 108) rfl)) (by decide) (kc := 0) (ks := 0) (argsL := [(.ref t), (.int (124 : Int32)), (.int (0 : Int32)), (.int (Int32.ofNat cs.length))]) (rest := []) (own_payCt (W := 0) (ctUIdxC l Z a0 hw SF US n0 h0 (own_old w2_) t k cs K hcs hl) w2_ (hw _ (List.mem_of_getElem? (i := 108) rfl)) (hw _ (List.mem_of_getElem? (i := 70) rfl)) hEL (by decide) (by decide)) (g := (mkF m 32 #[.val (.ref t), .val (.int (124 : Int32)), .val (.int (0 : Int32)), .val (.int (Int32.ofNat cs.length))] [(.int (Int32.ofNat cs.length)), (.int (0 : Int32)), (.int (124 : Int32)), (.ref t)])) rfl (by rw [hml]; rfl) (lenOf pd_693727204 rfl) rfl (by show 2 * 0 + _ ≤ _; exact Nat.le_of_eq rfl) (Jvm.hb hby d23_32) (by decide) (by decide) (fun v4_ T4_ vm4_ h4_ q4_ C4_ w4_ => ?_)
    obtain ⟨rfl, rfl⟩ := q4_
    have A4_ := own_at w4_
    show own_WP p e _ below s Z _ n0 _ T4_ (mkF m 35 #[.val (.ref t), .val (.int (124 : Int32)), .val (.int (0 : Int32)), .val (.int (Int32.ofNat cs.length))] [(.int (own_find 124 cs 0))])
    exact own_retI w4_ hx hEL hlk hret (Jvm.hb hby d23_35) (by decide) (by decide) ⟨rfl, rfl⟩
  · refine own_by (T' := T2_) (g' := (mkF m 20 #[.val (.ref t), .val (.int (124 : Int32)), .val (.int (0 : Int32)), .val (.int (Int32.ofNat cs.length))] [])) (fun t_ hr_ => XS.icmpNo A2_ hx rfl (Jvm.hb hby d23_17) rfl (flt hc3_).1 hr_) ?_
    refine own_by (T' := T2_) (g' := (mkF m 21 #[.val (.ref t), .val (.int (124 : Int32)), .val (.int (0 : Int32)), .val (.int (Int32.ofNat cs.length))] [(.int (-1 : Int32))])) (fun t_ hr_ => XS.iconst A2_ hx rfl (Jvm.hb hby d23_20) hr_) ?_
    exact own_retI w2_ hx hEL hlk hret (Jvm.hb hby d23_21) (by decide) (by decide) ⟨by have q : ¬ 0 < cs.length := fun q => hc3_ ((own_olt (a := 0) (by omega) (by omega)).mpr q); have e : cs = [] := List.eq_nil_of_length_eq_zero (by omega); rw [e] <;> rfl, rfl⟩

theorem d6_23 : decode jdk_42_method_80_code 23 = .ok (.aload_n 0, 1) := by decide +kernel
theorem d6_24 : decode jdk_42_method_80_code 24 = .ok (.getfield 9, 3) := by decide +kernel
theorem d6_27 : decode jdk_42_method_80_code 27 = .ok (.iload_n 1, 1) := by decide +kernel
theorem d6_28 : decode jdk_42_method_80_code 28 = .ok (.iload_n 2, 1) := by decide +kernel
theorem d6_29 : decode jdk_42_method_80_code 29 = .ok (.aload_n 0, 1) := by decide +kernel
theorem d6_30 : decode jdk_42_method_80_code 30 = .ok (.invokevirtual 505, 3) := by decide +kernel
theorem d6_33 : decode jdk_42_method_80_code 33 = .ok (.invokestatic 640, 3) := by decide +kernel
theorem ef_ctIdx2W (m : MethodId) (x0 : Addr) (x1 : Int32) (x2 : Int32) : entryFrame m #[(.ref x0), (.int x1), (.int x2)] 3 = mkF m 0 #[.val (.ref x0), .val (.int x1), .val (.int x2)] [] := by first | (simp [entryFrame, mkF, argsToLocals, Value.category]; done) | rfl
set_option maxRecDepth 65536 in
set_option maxHeartbeats 40000000 in
theorem ctIdx2W (l : Launch) (Z : State) (a0 : Array Value) (hw : ∀ d ∈ tables_1, d.before a0 Z = true) (SC : own_SC Z) (SF : own_SF Z) (US : own_US Z) (n0 : Nat) (h0 : Heap) (O0 : Old Z n0 h0) (x : Addr) (cs : List Int32) (S0 : own_Wid Z h0 x cs) :
    own_Ct l (⟨"java/lang/String", "indexOf", "(II)I"⟩ : MethodName) jdk_42_method_80_code 3 (some .int) ({ frames := 5, cells := 0, slots := 0, locals := 106 } : Room) Z consts_1 n0 #[(.ref x), (.int (124 : Int32)), (.int (0 : Int32))] h0 [] (fun v h => v = some (.int (own_find 124 cs 0)) ∧ h0 = h) := by
  have hEL := own_EL hw
  refine own_body pn_434506125 O0 (fun p e s m below meth cc_ T0 vm0 hx hby hml0 hret hlk hnm hsf w0 => ?_)
  have hml : cc_.maxLocals = 3 := hml0
  have A_0 := own_at w0
  refine own_entry (ef_ctIdx2W m x (124 : Int32) (0 : Int32)) ?_
  refine own_by (T' := T0) (g' := (mkF m 1 #[.val (.ref x), .val (.int (124 : Int32)), .val (.int (0 : Int32))] [(.ref x)])) (fun t_ hr_ => XS.aloadN A_0 hx rfl (Jvm.hb hby d6_0) rfl rfl hr_) ?_
  refine own_callV w0 hx (y := (⟨"java/lang/String", "isLatin1", "()Z"⟩ : MethodName)) (z := (⟨"java/lang/String", "isLatin1", "()Z"⟩ : MethodName)) (hw _ (List.mem_of_getElem? (i := 38) rfl)) (hw _ (List.mem_of_getElem? (i := 39) rfl)) (fun u hu => notFace_of_selects (args := #[]) (mvT hu (hw _ (List.mem_of_getElem? (i := 41) rfl)))) (hw _ (List.mem_of_getElem? (i := 41) rfl)) (hw _ (List.mem_of_getElem? (i := 40) rfl)) (by decide) (kc := 0) (ks := 0) (a := x) (argsL := []) (rest := []) (own_payCt (W := 0) (ctIsLW l Z a0 hw SC n0 h0 (own_old w0) x cs S0) w0 (hw _ (List.mem_of_getElem? (i := 42) rfl)) (hw _ (List.mem_of_getElem? (i := 5) rfl)) hEL (by decide) (by decide)) S0.exa (g := (mkF m 1 #[.val (.ref x), .val (.int (124 : Int32)), .val (.int (0 : Int32))] [(.ref x)])) rfl (by rw [hml]; rfl) (lenOf pd_691901 rfl) rfl (by show 2 * 0 + _ ≤ _; exact Nat.le_of_eq rfl) (Jvm.hb hby d6_1) (by decide) (by decide) (fun v1_ T1_ vm1_ h1_ q1_ C1_ w1_ => ?_)
  obtain ⟨rfl, rfl⟩ := q1_
  have A1_ := own_at w1_
  show own_WP p e _ below s Z _ n0 _ T1_ (mkF m 4 #[.val (.ref x), .val (.int (124 : Int32)), .val (.int (0 : Int32))] [(.int (0 : Int32))])
  refine own_by (T' := T1_) (g' := (mkF m 23 #[.val (.ref x), .val (.int (124 : Int32)), .val (.int (0 : Int32))] [])) (fun t_ hr_ => XS.ifYes A1_ hx rfl (pc0 := 4) (pc' := 23) rfl (Jvm.hb hby d6_4) rfl ((if0 _ _).trans (teq (rfl : (0 : Int32) = 0)).1) (by decide) (by decide) hr_) ?_
  refine own_by (T' := T1_) (g' := (mkF m 24 #[.val (.ref x), .val (.int (124 : Int32)), .val (.int (0 : Int32))] [(.ref x)])) (fun t_ hr_ => XS.aloadN A1_ hx rfl (Jvm.hb hby d6_23) rfl rfl hr_) ?_
  obtain ⟨s1, s2, ⟨t, k, s3, s4⟩, hcs, hl⟩ := id S0
  refine own_getF w1_ hx (hw _ (List.mem_of_getElem? (i := 22) rfl)) s3 (g := (mkF m 24 #[.val (.ref x), .val (.int (124 : Int32)), .val (.int (0 : Int32))] [(.ref x)])) rfl rfl (Jvm.hb hby d6_24) (fun T2_ w2_ => ?_)
  have A2_ := own_at w2_
  show own_WP p e _ below s Z _ n0 _ T2_ (mkF m 27 #[.val (.ref x), .val (.int (124 : Int32)), .val (.int (0 : Int32))] [(.ref t)])
  refine own_by (T' := T2_) (g' := (mkF m 28 #[.val (.ref x), .val (.int (124 : Int32)), .val (.int (0 : Int32))] [(.int (124 : Int32)), (.ref t)])) (fun t_ hr_ => XS.iloadN A2_ hx rfl (Jvm.hb hby d6_27) rfl hr_) ?_
  refine own_by (T' := T2_) (g' := (mkF m 29 #[.val (.ref x), .val (.int (124 : Int32)), .val (.int (0 : Int32))] [(.int (0 : Int32)), (.int (124 : Int32)), (.ref t)])) (fun t_ hr_ => XS.iloadN A2_ hx rfl (Jvm.hb hby d6_28) rfl hr_) ?_
  refine own_by (T' := T2_) (g' := (mkF m 30 #[.val (.ref x), .val (.int (124 : Int32)), .val (.int (0 : Int32))] [(.ref x), (.int (0 : Int32)), (.int (124 : Int32)), (.ref t)])) (fun t_ hr_ => XS.aloadN A2_ hx rfl (Jvm.hb hby d6_29) rfl rfl hr_) ?_
  refine own_callV w2_ hx (y := (⟨"java/lang/String", "length", "()I"⟩ : MethodName)) (z := (⟨"java/lang/String", "length", "()I"⟩ : MethodName)) (hw _ (List.mem_of_getElem? (i := 44) rfl)) (hw _ (List.mem_of_getElem? (i := 45) rfl)) (fun u hu => notFace_of_selects (args := #[]) (mvT hu (hw _ (List.mem_of_getElem? (i := 47) rfl)))) (hw _ (List.mem_of_getElem? (i := 47) rfl)) (hw _ (List.mem_of_getElem? (i := 46) rfl)) (by decide) (kc := 0) (ks := 0) (a := x) (argsL := []) (rest := [(.int (0 : Int32)), (.int (124 : Int32)), (.ref t)]) (own_payCt (W := 3) (ctLnW l Z a0 hw SC n0 h0 (own_old w2_) x cs S0) w2_ (hw _ (List.mem_of_getElem? (i := 48) rfl)) (hw _ (List.mem_of_getElem? (i := 5) rfl)) hEL (by decide) (by decide)) S0.exa (g := (mkF m 30 #[.val (.ref x), .val (.int (124 : Int32)), .val (.int (0 : Int32))] [(.ref x), (.int (0 : Int32)), (.int (124 : Int32)), (.ref t)])) rfl (by rw [hml]; rfl) (lenOf pd_691884 rfl) rfl (by show 2 * 0 + _ ≤ _; exact Nat.le_of_eq rfl) (Jvm.hb hby d6_30) (by decide) (by decide) (fun v3_ T3_ vm3_ h3_ q3_ C3_ w3_ => ?_)
  obtain ⟨rfl, rfl⟩ := q3_
  have A3_ := own_at w3_
  show own_WP p e _ below s Z _ n0 _ T3_ (mkF m 33 #[.val (.ref x), .val (.int (124 : Int32)), .val (.int (0 : Int32))] [(.int (Int32.ofNat cs.length)), (.int (0 : Int32)), (.int (124 : Int32)), (.ref t)])
  refine own_callS w3_ hx (y := (⟨"java/lang/StringUTF16", "indexOf", "([BIII)I"⟩ : MethodName)) (hw _ (List.mem_of_getElem? (i := 100) rfl)) (hw _ (List.mem_of_getElem? (i := 101) rfl)) (hw _ (List.mem_of_getElem? (i := 70) rfl)) (hw _ (List.mem_of_getElem? (i := 102) rfl)) (by decide) (kc := 0) (ks := 0) (argsL := [(.ref t), (.int (124 : Int32)), (.int (0 : Int32)), (.int (Int32.ofNat cs.length))]) (rest := []) (own_payCt (W := 0) (ctUIdx l Z a0 hw SF US n0 h0 (own_old w3_) t k cs s4 hcs hl) w3_ (hw _ (List.mem_of_getElem? (i := 102) rfl)) (hw _ (List.mem_of_getElem? (i := 70) rfl)) hEL (by decide) (by decide)) (g := (mkF m 33 #[.val (.ref x), .val (.int (124 : Int32)), .val (.int (0 : Int32))] [(.int (Int32.ofNat cs.length)), (.int (0 : Int32)), (.int (124 : Int32)), (.ref t)])) rfl (by rw [hml]; rfl) (lenOf pd_693727204 rfl) rfl (by show 2 * 0 + _ ≤ _; exact Nat.le_of_eq rfl) (Jvm.hb hby d6_33) (by decide) (by decide) (fun v4_ T4_ vm4_ h4_ q4_ C4_ w4_ => ?_)
  obtain ⟨rfl, rfl⟩ := q4_
  have A4_ := own_at w4_
  show own_WP p e _ below s Z _ n0 _ T4_ (mkF m 36 #[.val (.ref x), .val (.int (124 : Int32)), .val (.int (0 : Int32))] [(.int (own_find 124 cs 0))])
  exact own_retI w4_ hx hEL hlk hret (Jvm.hb hby d6_36) (by decide) (by decide) ⟨rfl, rfl⟩

theorem ef_ctIdx1W (m : MethodId) (x0 : Addr) (x1 : Int32) : entryFrame m #[(.ref x0), (.int x1)] 2 = mkF m 0 #[.val (.ref x0), .val (.int x1)] [] := by first | (simp [entryFrame, mkF, argsToLocals, Value.category]; done) | rfl
set_option maxRecDepth 65536 in
set_option maxHeartbeats 40000000 in
theorem ctIdx1W (l : Launch) (Z : State) (a0 : Array Value) (hw : ∀ d ∈ tables_1, d.before a0 Z = true) (SC : own_SC Z) (SF : own_SF Z) (US : own_US Z) (n0 : Nat) (h0 : Heap) (O0 : Old Z n0 h0) (x : Addr) (cs : List Int32) (S0 : own_Wid Z h0 x cs) :
    own_Ct l (⟨"java/lang/String", "indexOf", "(I)I"⟩ : MethodName) jdk_42_method_79_code 2 (some .int) ({ frames := 6, cells := 0, slots := 0, locals := 120 } : Room) Z consts_1 n0 #[(.ref x), (.int (124 : Int32))] h0 [] (fun v h => v = some (.int (own_find 124 cs 0)) ∧ h0 = h) := by
  have hEL := own_EL hw
  refine own_body pn_750784546 O0 (fun p e s m below meth cc_ T0 vm0 hx hby hml0 hret hlk hnm hsf w0 => ?_)
  have hml : cc_.maxLocals = 2 := hml0
  have A_0 := own_at w0
  refine own_entry (ef_ctIdx1W m x (124 : Int32)) ?_
  refine own_by (T' := T0) (g' := (mkF m 1 #[.val (.ref x), .val (.int (124 : Int32))] [(.ref x)])) (fun t_ hr_ => XS.aloadN A_0 hx rfl (Jvm.hb hby d5_0) rfl rfl hr_) ?_
  refine own_by (T' := T0) (g' := (mkF m 2 #[.val (.ref x), .val (.int (124 : Int32))] [(.int (124 : Int32)), (.ref x)])) (fun t_ hr_ => XS.iloadN A_0 hx rfl (Jvm.hb hby d5_1) rfl hr_) ?_
  refine own_by (T' := T0) (g' := (mkF m 3 #[.val (.ref x), .val (.int (124 : Int32))] [(.int (0 : Int32)), (.int (124 : Int32)), (.ref x)])) (fun t_ hr_ => XS.iconst A_0 hx rfl (Jvm.hb hby d5_2) hr_) ?_
  refine own_callV w0 hx (y := (⟨"java/lang/String", "indexOf", "(II)I"⟩ : MethodName)) (z := (⟨"java/lang/String", "indexOf", "(II)I"⟩ : MethodName)) (hw _ (List.mem_of_getElem? (i := 33) rfl)) (hw _ (List.mem_of_getElem? (i := 34) rfl)) (fun u hu => notFace_of_selects (args := #[]) (mvT hu (hw _ (List.mem_of_getElem? (i := 36) rfl)))) (hw _ (List.mem_of_getElem? (i := 36) rfl)) (hw _ (List.mem_of_getElem? (i := 35) rfl)) (by decide) (kc := 0) (ks := 0) (a := x) (argsL := [(.int (124 : Int32)), (.int (0 : Int32))]) (rest := []) (own_payCt (W := 0) (ctIdx2W l Z a0 hw SC SF US n0 h0 (own_old w0) x cs S0) w0 (hw _ (List.mem_of_getElem? (i := 37) rfl)) (hw _ (List.mem_of_getElem? (i := 5) rfl)) hEL (by decide) (by decide)) S0.exa (g := (mkF m 3 #[.val (.ref x), .val (.int (124 : Int32))] [(.int (0 : Int32)), (.int (124 : Int32)), (.ref x)])) rfl (by rw [hml]; rfl) (lenOf pd_945365603 rfl) rfl (by show 2 * 0 + _ ≤ _; exact Nat.le_of_eq rfl) (Jvm.hb hby d5_3) (by decide) (by decide) (fun v1_ T1_ vm1_ h1_ q1_ C1_ w1_ => ?_)
  obtain ⟨rfl, rfl⟩ := q1_
  have A1_ := own_at w1_
  show own_WP p e _ below s Z _ n0 _ T1_ (mkF m 6 #[.val (.ref x), .val (.int (124 : Int32))] [(.int (own_find 124 cs 0))])
  exact own_retI w1_ hx hEL hlk hret (Jvm.hb hby d5_6) (by decide) (by decide) ⟨rfl, rfl⟩

theorem own_find_mem (ch : Int32) : ∀ (cs : List Int32) (i : Nat), i + cs.length ≤ 4000 → (own_find ch cs i < 0 ↔ ¬ ch ∈ cs)
  | [], i, _ => by rw [own_find]; exact ⟨fun _ q => (by cases q), fun _ => (by decide)⟩
  | c :: cs, i, h => by
    by_cases q : c = ch
    · rw [own_find, if_pos q]
      exact ⟨fun r => absurd r (own_o0 (by simp at h; omega)), fun r => absurd (by rw [q]; exact List.mem_cons_self) r⟩
    · rw [own_find, if_neg q, own_find_mem ch cs (i + 1) (by simp at h; omega), List.mem_cons]
      exact ⟨fun r => fun t => t.elim (fun t => q t.symm) r, fun r => fun t => r (Or.inr t)⟩
theorem d4_0 : decode prog_35_method_4_code 0 = .ok (.aload_n 0, 1) := by decide +kernel
theorem d4_1 : decode prog_35_method_4_code 1 = .ok (.bipush 124, 2) := by decide +kernel
theorem d4_3 : decode prog_35_method_4_code 3 = .ok (.invokevirtual 67, 3) := by decide +kernel
theorem d4_6 : decode prog_35_method_4_code 6 = .ok (.ifCond .lt 7, 3) := by decide +kernel
theorem d4_13 : decode prog_35_method_4_code 13 = .ok (.iconst 0, 1) := by decide +kernel
theorem d4_14 : decode prog_35_method_4_code 14 = .ok (.ireturn, 1) := by decide +kernel
theorem d4_9 : decode prog_35_method_4_code 9 = .ok (.iconst 1, 1) := by decide +kernel
theorem d4_10 : decode prog_35_method_4_code 10 = .ok (.goto 4, 3) := by decide +kernel
theorem pn_388654760 : plainFor (⟨"com/example/hecate/hecate/identity/IdentitySigner", "holdsSeparator", "(Ljava/lang/String;)Z"⟩ : MethodName) = true := by first | exact plainFor_of_name (by first | (simp [plainName, overriddenIn]; done) | decide +kernel) | decide +kernel
theorem ef_ctHS (m : MethodId) (x0 : Addr) : entryFrame m #[(.ref x0)] 1 = mkF m 0 #[.val (.ref x0)] [] := by first | (simp [entryFrame, mkF, argsToLocals, Value.category]; done) | rfl
set_option maxRecDepth 65536 in
set_option maxHeartbeats 40000000 in
theorem ctHS (l : Launch) (Z : State) (a0 : Array Value) (hw : ∀ d ∈ tables_1, d.before a0 Z = true) (SC : own_SC Z) (SF : own_SF Z) (US : own_US Z) (n0 : Nat) (h0 : Heap) (O0 : Old Z n0 h0) (x : Addr) (cs : List Int32) (S0 : own_Any Z h0 x cs) (hl4 : cs.length ≤ 4) :
    own_Ct l (⟨"com/example/hecate/hecate/identity/IdentitySigner", "holdsSeparator", "(Ljava/lang/String;)Z"⟩ : MethodName) prog_35_method_4_code 1 (some .boolean) ({ frames := 7, cells := 0, slots := 0, locals := 133 } : Room) Z consts_1 n0 #[(.ref x)] h0 [] (fun v h => ((v = some (.int 1) ∧ (124 : Int32) ∈ cs) ∨ (v = some (.int 0) ∧ ¬ (124 : Int32) ∈ cs)) ∧ h0 = h) := by
  have hEL := own_EL hw
  refine own_body pn_388654760 O0 (fun p e s m below meth cc_ T0 vm0 hx hby hml0 hret hlk hnm hsf w0 => ?_)
  have hml : cc_.maxLocals = 1 := hml0
  have A_0 := own_at w0
  refine own_entry (ef_ctHS m x) ?_
  refine own_by (T' := T0) (g' := (mkF m 1 #[.val (.ref x)] [(.ref x)])) (fun t_ hr_ => XS.aloadN A_0 hx rfl (Jvm.hb hby d4_0) rfl rfl hr_) ?_
  refine own_by (T' := T0) (g' := (mkF m 3 #[.val (.ref x)] [(.int (124 : Int32)), (.ref x)])) (fun t_ hr_ => XS.bipush A_0 hx rfl (Jvm.hb hby d4_1) hr_) ?_
  refine own_callV w0 hx (y := (⟨"java/lang/String", "indexOf", "(I)I"⟩ : MethodName)) (z := (⟨"java/lang/String", "indexOf", "(I)I"⟩ : MethodName)) (hw _ (List.mem_of_getElem? (i := 28) rfl)) (hw _ (List.mem_of_getElem? (i := 29) rfl)) (fun u hu => notFace_of_selects (args := #[]) (mvT hu (hw _ (List.mem_of_getElem? (i := 31) rfl)))) (hw _ (List.mem_of_getElem? (i := 31) rfl)) (hw _ (List.mem_of_getElem? (i := 30) rfl)) (by decide) (kc := 0) (ks := 0) (a := x) (argsL := [(.int (124 : Int32))]) (rest := []) (S0.elim (fun S' => (own_payCt (W := 0) (ctIdx1 l Z a0 hw SC n0 h0 (own_old w0) x 124 cs S' (by decide)) w0 (hw _ (List.mem_of_getElem? (i := 32) rfl)) (hw _ (List.mem_of_getElem? (i := 5) rfl)) hEL (by decide) (by decide))) (fun S' => (own_payCt (W := 0) (ctIdx1W l Z a0 hw SC SF US n0 h0 (own_old w0) x cs S') w0 (hw _ (List.mem_of_getElem? (i := 32) rfl)) (hw _ (List.mem_of_getElem? (i := 5) rfl)) hEL (by decide) (by decide)))) (own_Any.exa S0) (g := (mkF m 3 #[.val (.ref x)] [(.int (124 : Int32)), (.ref x)])) rfl (by rw [hml]; rfl) (lenOf pd_91181837 rfl) rfl (by show 2 * 0 + _ ≤ _; exact Nat.le_of_eq rfl) (Jvm.hb hby d4_3) (by decide) (by decide) (fun v1_ T1_ vm1_ h1_ q1_ C1_ w1_ => ?_)
  obtain ⟨rfl, rfl⟩ := q1_
  have A1_ := own_at w1_
  show own_WP p e _ below s Z _ n0 _ T1_ (mkF m 6 #[.val (.ref x)] [(.int (own_find 124 cs 0))])
  by_cases hc2_ : (own_find 124 cs 0) < (0 : Int32)
  · refine own_by (T' := T1_) (g' := (mkF m 13 #[.val (.ref x)] [])) (fun t_ hr_ => XS.ifYes A1_ hx rfl (pc0 := 6) (pc' := 13) rfl (Jvm.hb hby d4_6) rfl ((if0 _ _).trans (tlt hc2_).1) (by decide) (by decide) hr_) ?_
    refine own_by (T' := T1_) (g' := (mkF m 14 #[.val (.ref x)] [(.int (0 : Int32))])) (fun t_ hr_ => XS.iconst A1_ hx rfl (Jvm.hb hby d4_13) hr_) ?_
    exact own_retZ w1_ hx hEL hlk hret (Or.inl rfl) (Jvm.hb hby d4_14) (by decide) (by decide) ⟨Or.inr ⟨rfl, (own_find_mem 124 cs 0 (by omega)).mp hc2_⟩, rfl⟩
  · refine own_by (T' := T1_) (g' := (mkF m 9 #[.val (.ref x)] [])) (fun t_ hr_ => XS.ifNo A1_ hx rfl (Jvm.hb hby d4_6) rfl ((if0 _ _).trans (flt hc2_).1) hr_) ?_
    refine own_by (T' := T1_) (g' := (mkF m 10 #[.val (.ref x)] [(.int (1 : Int32))])) (fun t_ hr_ => XS.iconst A1_ hx rfl (Jvm.hb hby d4_9) hr_) ?_
    refine own_by (T' := T1_) (g' := (mkF m 14 #[.val (.ref x)] [(.int (1 : Int32))])) (fun t_ hr_ => XS.goto A1_ hx rfl (pc0 := 10) (pc' := 14) rfl (Jvm.hb hby d4_10) (by decide) (by decide) hr_) ?_
    exact own_retZ w1_ hx hEL hlk hret (Or.inr rfl) (Jvm.hb hby d4_14) (by decide) (by decide) ⟨Or.inl ⟨rfl, Classical.not_not.mp fun q => hc2_ ((own_find_mem 124 cs 0 (by omega)).mpr q)⟩, rfl⟩

theorem pd_445242158 : parseMethodDescriptor "(Ljava/lang/String;)Z" = some ⟨[(.object "java/lang/String")], some .boolean⟩ := by decide +kernel
set_option maxRecDepth 65536 in
set_option maxHeartbeats 40000000 in
theorem J216 {p : Program} {l : Launch} {e : Env} {s : State} {m : MethodId} {below : List Frame} {meth : Method} {cc_ : Code} {Z : State} {a0 : Array Value} {n0 : Nat} {T0 : State} {vm0 : Vm} {h0 : Heap} (hw : ∀ d ∈ tables_1, d.before a0 Z = true) (SC : own_SC Z) (SF : own_SF Z) (US : own_US Z) (hx : p.tables.exec = Jvm.exec) (hby : cc_.code = code) (hml : cc_.maxLocals = 13) (hret : meth.sig.returnType = ret) (hlk : meth.locks = false) (hnm : meth.name = "law") (i0 i1 i2 i3 i4 n c0 c1 c2 c3 ex : Int32) (ar x : Addr) (cs : List Int32) (w0 : own_Wk p l e room_1 s m #[.int i0, .int i1, .int i2, .int i3, .int i4] below meth cc_ Z consts_1 "com/example/hecate/hecate/identity/IdentitySignerHoldsSeparatorPinLaw" n0 T0 vm0 h0 9 60) (S0 : own_Any Z h0 x cs) (hl4 : cs.length ≤ 4) (he : (ex = 1 ∧ (124 : Int32) ∈ cs) ∨ (ex = 0 ∧ ¬ (124 : Int32) ∈ cs)) :
    own_WP p e room_1 below s Z consts_1 n0 (fun v h => v = some (.int 1)) T0 (mkF m 216 #[.val (.int i0), .val (.int i1), .val (.int i2), .val (.int i3), .val (.int i4), .val (.int n), .val (.int c0), .val (.int c1), .val (.int c2), .val (.int c3), .val (.ref ar), .val (.ref x), .val (.int ex)] []) := by
  have hEL := own_EL hw
  have A_0 := own_at w0
  refine own_by (T' := T0) (g' := (mkF m 218 #[.val (.int i0), .val (.int i1), .val (.int i2), .val (.int i3), .val (.int i4), .val (.int n), .val (.int c0), .val (.int c1), .val (.int c2), .val (.int c3), .val (.ref ar), .val (.ref x), .val (.int ex)] [(.ref x)])) (fun t_ hr_ => XS.aload A_0 hx rfl (Jvm.hb hby at_216) rfl rfl hr_) ?_
  refine own_callS w0 hx (y := (⟨"com/example/hecate/hecate/identity/IdentitySigner", "holdsSeparator", "(Ljava/lang/String;)Z"⟩ : MethodName)) (hw _ (List.mem_of_getElem? (i := 24) rfl)) (hw _ (List.mem_of_getElem? (i := 25) rfl)) (hw _ (List.mem_of_getElem? (i := 26) rfl)) (hw _ (List.mem_of_getElem? (i := 27) rfl)) (by decide) (kc := 0) (ks := 0) (argsL := [(.ref x)]) (rest := []) (own_payCt (W := 0) (ctHS l Z a0 hw SC SF US n0 h0 (own_old w0) x cs S0 hl4) w0 (hw _ (List.mem_of_getElem? (i := 27) rfl)) (hw _ (List.mem_of_getElem? (i := 26) rfl)) hEL (by decide) (by decide)) (g := (mkF m 218 #[.val (.int i0), .val (.int i1), .val (.int i2), .val (.int i3), .val (.int i4), .val (.int n), .val (.int c0), .val (.int c1), .val (.int c2), .val (.int c3), .val (.ref ar), .val (.ref x), .val (.int ex)] [(.ref x)])) rfl (by rw [hml]; rfl) (lenOf pd_445242158 rfl) rfl (by show 2 * 0 + _ ≤ _; exact Nat.le_of_eq rfl) (Jvm.hb hby at_218) (by decide) (by decide) (fun v1_ T1_ vm1_ h1_ q1_ C1_ w1_ => ?_)
  rcases q1_ with ⟨⟨rfl, hq⟩ | ⟨rfl, hq⟩, rfl⟩
  · have A1_ := own_at w1_
    show own_WP p e _ below s Z _ n0 _ T1_ (mkF m 221 #[.val (.int i0), .val (.int i1), .val (.int i2), .val (.int i3), .val (.int i4), .val (.int n), .val (.int c0), .val (.int c1), .val (.int c2), .val (.int c3), .val (.ref ar), .val (.ref x), .val (.int ex)] [(.int (1 : Int32))])
    refine own_by (T' := T1_) (g' := (mkF m 223 #[.val (.int i0), .val (.int i1), .val (.int i2), .val (.int i3), .val (.int i4), .val (.int n), .val (.int c0), .val (.int c1), .val (.int c2), .val (.int c3), .val (.ref ar), .val (.ref x), .val (.int ex)] [(.int ex), (.int (1 : Int32))])) (fun t_ hr_ => XS.iload A1_ hx rfl (Jvm.hb hby at_221) rfl hr_) ?_
    rcases he with ⟨rfl, he⟩ | ⟨rfl, he⟩
    · show own_WP p e _ below s Z _ n0 _ T1_ (mkF m 223 #[.val (.int i0), .val (.int i1), .val (.int i2), .val (.int i3), .val (.int i4), .val (.int n), .val (.int c0), .val (.int c1), .val (.int c2), .val (.int c3), .val (.ref ar), .val (.ref x), .val (.int (1 : Int32))] [(.int (1 : Int32)), (.int (1 : Int32))])
      refine own_by (T' := T1_) (g' := (mkF m 226 #[.val (.int i0), .val (.int i1), .val (.int i2), .val (.int i3), .val (.int i4), .val (.int n), .val (.int c0), .val (.int c1), .val (.int c2), .val (.int c3), .val (.ref ar), .val (.ref x), .val (.int (1 : Int32))] [])) (fun t_ hr_ => XS.icmpNo A1_ hx rfl (Jvm.hb hby at_223) rfl (teq (rfl : (1 : Int32) = 1)).2 hr_) ?_
      refine own_by (T' := T1_) (g' := (mkF m 227 #[.val (.int i0), .val (.int i1), .val (.int i2), .val (.int i3), .val (.int i4), .val (.int n), .val (.int c0), .val (.int c1), .val (.int c2), .val (.int c3), .val (.ref ar), .val (.ref x), .val (.int (1 : Int32))] [(.int (1 : Int32))])) (fun t_ hr_ => XS.iconst A1_ hx rfl (Jvm.hb hby at_226) hr_) ?_
      refine own_by (T' := T1_) (g' := (mkF m 231 #[.val (.int i0), .val (.int i1), .val (.int i2), .val (.int i3), .val (.int i4), .val (.int n), .val (.int c0), .val (.int c1), .val (.int c2), .val (.int c3), .val (.ref ar), .val (.ref x), .val (.int (1 : Int32))] [(.int (1 : Int32))])) (fun t_ hr_ => XS.goto A1_ hx rfl (pc0 := 227) (pc' := 231) rfl (Jvm.hb hby at_227) (by decide) (by decide) hr_) ?_
      exact own_retZ w1_ hx hEL hlk hret (Or.inr rfl) (Jvm.hb hby at_231) (by decide) (by decide) rfl
    · show own_WP p e _ below s Z _ n0 _ T1_ (mkF m 223 #[.val (.int i0), .val (.int i1), .val (.int i2), .val (.int i3), .val (.int i4), .val (.int n), .val (.int c0), .val (.int c1), .val (.int c2), .val (.int c3), .val (.ref ar), .val (.ref x), .val (.int (0 : Int32))] [(.int (0 : Int32)), (.int (1 : Int32))])
      exact absurd hq he
  · have A1_ := own_at w1_
    show own_WP p e _ below s Z _ n0 _ T1_ (mkF m 221 #[.val (.int i0), .val (.int i1), .val (.int i2), .val (.int i3), .val (.int i4), .val (.int n), .val (.int c0), .val (.int c1), .val (.int c2), .val (.int c3), .val (.ref ar), .val (.ref x), .val (.int ex)] [(.int (0 : Int32))])
    refine own_by (T' := T1_) (g' := (mkF m 223 #[.val (.int i0), .val (.int i1), .val (.int i2), .val (.int i3), .val (.int i4), .val (.int n), .val (.int c0), .val (.int c1), .val (.int c2), .val (.int c3), .val (.ref ar), .val (.ref x), .val (.int ex)] [(.int ex), (.int (0 : Int32))])) (fun t_ hr_ => XS.iload A1_ hx rfl (Jvm.hb hby at_221) rfl hr_) ?_
    rcases he with ⟨rfl, he⟩ | ⟨rfl, he⟩
    · show own_WP p e _ below s Z _ n0 _ T1_ (mkF m 223 #[.val (.int i0), .val (.int i1), .val (.int i2), .val (.int i3), .val (.int i4), .val (.int n), .val (.int c0), .val (.int c1), .val (.int c2), .val (.int c3), .val (.ref ar), .val (.ref x), .val (.int (1 : Int32))] [(.int (1 : Int32)), (.int (0 : Int32))])
      exact absurd he hq
    · show own_WP p e _ below s Z _ n0 _ T1_ (mkF m 223 #[.val (.int i0), .val (.int i1), .val (.int i2), .val (.int i3), .val (.int i4), .val (.int n), .val (.int c0), .val (.int c1), .val (.int c2), .val (.int c3), .val (.ref ar), .val (.ref x), .val (.int (0 : Int32))] [(.int (0 : Int32)), (.int (0 : Int32))])
      refine own_by (T' := T1_) (g' := (mkF m 226 #[.val (.int i0), .val (.int i1), .val (.int i2), .val (.int i3), .val (.int i4), .val (.int n), .val (.int c0), .val (.int c1), .val (.int c2), .val (.int c3), .val (.ref ar), .val (.ref x), .val (.int (0 : Int32))] [])) (fun t_ hr_ => XS.icmpNo A1_ hx rfl (Jvm.hb hby at_223) rfl (teq (rfl : (0 : Int32) = 0)).2 hr_) ?_
      refine own_by (T' := T1_) (g' := (mkF m 227 #[.val (.int i0), .val (.int i1), .val (.int i2), .val (.int i3), .val (.int i4), .val (.int n), .val (.int c0), .val (.int c1), .val (.int c2), .val (.int c3), .val (.ref ar), .val (.ref x), .val (.int (0 : Int32))] [(.int (1 : Int32))])) (fun t_ hr_ => XS.iconst A1_ hx rfl (Jvm.hb hby at_226) hr_) ?_
      refine own_by (T' := T1_) (g' := (mkF m 231 #[.val (.int i0), .val (.int i1), .val (.int i2), .val (.int i3), .val (.int i4), .val (.int n), .val (.int c0), .val (.int c1), .val (.int c2), .val (.int c3), .val (.ref ar), .val (.ref x), .val (.int (0 : Int32))] [(.int (1 : Int32))])) (fun t_ hr_ => XS.goto A1_ hx rfl (pc0 := 227) (pc' := 231) rfl (Jvm.hb hby at_227) (by decide) (by decide) hr_) ?_
      exact own_retZ w1_ hx hEL hlk hret (Or.inr rfl) (Jvm.hb hby at_231) (by decide) (by decide) rfl

theorem pd_985728288 : parseMethodDescriptor "([C)V" = some ⟨[(.array .char)], none⟩ := by decide +kernel
theorem pn_120 : plainFor x = true := by first | exact plainFor_of_name (by first | (simp [plainName, overriddenIn]; done) | decide +kernel) | decide +kernel
theorem ef_ct0 (m : MethodId) (x0 : Int32) (x1 : Int32) (x2 : Int32) (x3 : Int32) (x4 : Int32) : entryFrame m #[(.int x0), (.int x1), (.int x2), (.int x3), (.int x4)] maxLocals = mkF m 0 #[.val (.int x0), .val (.int x1), .val (.int x2), .val (.int x3), .val (.int x4), .unset, .unset, .unset, .unset, .unset, .unset, .unset, .unset] [] := by first | (simp [entryFrame, mkF, argsToLocals, Value.category, maxLocals]; done) | rfl
set_option maxRecDepth 65536 in
set_option maxHeartbeats 40000000 in
theorem ct0 (l : Launch) (Z : State) (a0 : Array Value) (hw : ∀ d ∈ tables_1, d.before a0 Z = true) (SC : own_SC Z) (SF : own_SF Z) (US : own_US Z) (n0 : Nat) (h0 : Heap) (O0 : Old Z n0 h0) (i0 i1 i2 i3 i4 : Int32)  :
    own_Ct l x code maxLocals ret room_1 Z consts_1 n0 #[(.int i0), (.int i1), (.int i2), (.int i3), (.int i4)] h0 [] (fun v h => v = some (.int 1)) := by
  have hEL := own_EL hw
  refine own_body pn_120 O0 (fun p e s m below meth cc_ T0 vm0 hx hby hml0 hret hlk hnm hsf w0 => ?_)
  have hml : cc_.maxLocals = 13 := hml0
  have A_0 := own_at w0
  refine own_entry (ef_ct0 m i0 i1 i2 i3 i4) ?_
  refine own_by (T' := T0) (g' := (mkF m 1 #[.val (.int i0), .val (.int i1), .val (.int i2), .val (.int i3), .val (.int i4), .unset, .unset, .unset, .unset, .unset, .unset, .unset, .unset] [(.int i0)])) (fun t_ hr_ => XS.iloadN A_0 hx rfl (Jvm.hb hby at_0) rfl hr_) ?_
  refine own_ldcI w0 hx (hw _ (List.mem_of_getElem? (i := 0) rfl)) (g := (mkF m 1 #[.val (.int i0), .val (.int i1), .val (.int i2), .val (.int i3), .val (.int i4), .unset, .unset, .unset, .unset, .unset, .unset, .unset, .unset] [(.int i0)])) rfl (Jvm.hb hby at_1) ?_
  show own_WP p e _ below s Z _ n0 _ T0 (mkF m 3 #[.val (.int i0), .val (.int i1), .val (.int i2), .val (.int i3), .val (.int i4), .unset, .unset, .unset, .unset, .unset, .unset, .unset, .unset] [(.int (2147483647 : Int32)), (.int i0)])
  refine own_by (T' := T0) (g' := (mkF m 4 #[.val (.int i0), .val (.int i1), .val (.int i2), .val (.int i3), .val (.int i4), .unset, .unset, .unset, .unset, .unset, .unset, .unset, .unset] [(.int (i0 &&& (2147483647 : Int32)))])) (fun t_ hr_ => XS.iand A_0 hx rfl (Jvm.hb hby at_3) rfl hr_) ?_
  refine own_by (T' := T0) (g' := (mkF m 5 #[.val (.int i0), .val (.int i1), .val (.int i2), .val (.int i3), .val (.int i4), .unset, .unset, .unset, .unset, .unset, .unset, .unset, .unset] [(.int (5 : Int32)), (.int (i0 &&& (2147483647 : Int32)))])) (fun t_ hr_ => XS.iconst A_0 hx rfl (Jvm.hb hby at_4) hr_) ?_
  refine own_by (T' := T0) (g' := (mkF m 6 #[.val (.int i0), .val (.int i1), .val (.int i2), .val (.int i3), .val (.int i4), .unset, .unset, .unset, .unset, .unset, .unset, .unset, .unset] [(.int ((i0 &&& (2147483647 : Int32)) % (5 : Int32)))])) (fun t_ hr_ => own_irem A_0 hx rfl (Jvm.hb hby at_5) rfl (by decide) hr_) ?_
  obtain ⟨n, en⟩ : ∃ z, z = ((i0 &&& (2147483647 : Int32)) % (5 : Int32)) := ⟨_, rfl⟩
  rw [← en]
  have hn5 := own_cases5 (own_rem (own_mask i0 2147483647 (by decide)).1 (by decide))
  rw [← en] at hn5
  clear en
  show own_WP p e _ below s Z _ n0 _ T0 (mkF m 6 #[.val (.int i0), .val (.int i1), .val (.int i2), .val (.int i3), .val (.int i4), .unset, .unset, .unset, .unset, .unset, .unset, .unset, .unset] [(.int n)])
  refine own_by (T' := T0) (g' := (mkF m 8 #[.val (.int i0), .val (.int i1), .val (.int i2), .val (.int i3), .val (.int i4), .val (.int n), .unset, .unset, .unset, .unset, .unset, .unset, .unset] [])) (fun t_ hr_ => XS.istore A_0 hx rfl (Jvm.hb hby at_6) rfl (l' := #[.val (.int i0), .val (.int i1), .val (.int i2), .val (.int i3), .val (.int i4), .val (.int n), .unset, .unset, .unset, .unset, .unset, .unset, .unset]) rfl hr_) ?_
  refine own_by (T' := T0) (g' := (mkF m 9 #[.val (.int i0), .val (.int i1), .val (.int i2), .val (.int i3), .val (.int i4), .val (.int n), .unset, .unset, .unset, .unset, .unset, .unset, .unset] [(.int i1)])) (fun t_ hr_ => XS.iloadN A_0 hx rfl (Jvm.hb hby at_8) rfl hr_) ?_
  refine own_ldcI w0 hx (hw _ (List.mem_of_getElem? (i := 1) rfl)) (g := (mkF m 9 #[.val (.int i0), .val (.int i1), .val (.int i2), .val (.int i3), .val (.int i4), .val (.int n), .unset, .unset, .unset, .unset, .unset, .unset, .unset] [(.int i1)])) rfl (Jvm.hb hby at_9) ?_
  show own_WP p e _ below s Z _ n0 _ T0 (mkF m 11 #[.val (.int i0), .val (.int i1), .val (.int i2), .val (.int i3), .val (.int i4), .val (.int n), .unset, .unset, .unset, .unset, .unset, .unset, .unset] [(.int (65535 : Int32)), (.int i1)])
  refine own_by (T' := T0) (g' := (mkF m 12 #[.val (.int i0), .val (.int i1), .val (.int i2), .val (.int i3), .val (.int i4), .val (.int n), .unset, .unset, .unset, .unset, .unset, .unset, .unset] [(.int (i1 &&& (65535 : Int32)))])) (fun t_ hr_ => XS.iand A_0 hx rfl (Jvm.hb hby at_11) rfl hr_) ?_
  refine own_by (T' := T0) (g' := (mkF m 13 #[.val (.int i0), .val (.int i1), .val (.int i2), .val (.int i3), .val (.int i4), .val (.int n), .unset, .unset, .unset, .unset, .unset, .unset, .unset] [(.int ((i1 &&& (65535 : Int32)).toUInt32.toUInt16.toUInt32.toInt32))])) (fun t_ hr_ => XS.i2c A_0 hx rfl (Jvm.hb hby at_12) rfl hr_) ?_
  obtain ⟨c0, ec0⟩ : ∃ z, z = ((i1 &&& (65535 : Int32)).toUInt32.toUInt16.toUInt32.toInt32) := ⟨_, rfl⟩
  have r0 : ¬ c0 < 0 ∧ ¬ (65535 : Int32) < c0 := by rw [ec0]; exact own_i2c _
  rw [← ec0]
  clear ec0
  show own_WP p e _ below s Z _ n0 _ T0 (mkF m 13 #[.val (.int i0), .val (.int i1), .val (.int i2), .val (.int i3), .val (.int i4), .val (.int n), .unset, .unset, .unset, .unset, .unset, .unset, .unset] [(.int c0)])
  refine own_by (T' := T0) (g' := (mkF m 15 #[.val (.int i0), .val (.int i1), .val (.int i2), .val (.int i3), .val (.int i4), .val (.int n), .val (.int c0), .unset, .unset, .unset, .unset, .unset, .unset] [])) (fun t_ hr_ => XS.istore A_0 hx rfl (Jvm.hb hby at_13) rfl (l' := #[.val (.int i0), .val (.int i1), .val (.int i2), .val (.int i3), .val (.int i4), .val (.int n), .val (.int c0), .unset, .unset, .unset, .unset, .unset, .unset]) rfl hr_) ?_
  refine own_by (T' := T0) (g' := (mkF m 16 #[.val (.int i0), .val (.int i1), .val (.int i2), .val (.int i3), .val (.int i4), .val (.int n), .val (.int c0), .unset, .unset, .unset, .unset, .unset, .unset] [(.int i2)])) (fun t_ hr_ => XS.iloadN A_0 hx rfl (Jvm.hb hby at_15) rfl hr_) ?_
  refine own_ldcI w0 hx (hw _ (List.mem_of_getElem? (i := 1) rfl)) (g := (mkF m 16 #[.val (.int i0), .val (.int i1), .val (.int i2), .val (.int i3), .val (.int i4), .val (.int n), .val (.int c0), .unset, .unset, .unset, .unset, .unset, .unset] [(.int i2)])) rfl (Jvm.hb hby at_16) ?_
  show own_WP p e _ below s Z _ n0 _ T0 (mkF m 18 #[.val (.int i0), .val (.int i1), .val (.int i2), .val (.int i3), .val (.int i4), .val (.int n), .val (.int c0), .unset, .unset, .unset, .unset, .unset, .unset] [(.int (65535 : Int32)), (.int i2)])
  refine own_by (T' := T0) (g' := (mkF m 19 #[.val (.int i0), .val (.int i1), .val (.int i2), .val (.int i3), .val (.int i4), .val (.int n), .val (.int c0), .unset, .unset, .unset, .unset, .unset, .unset] [(.int (i2 &&& (65535 : Int32)))])) (fun t_ hr_ => XS.iand A_0 hx rfl (Jvm.hb hby at_18) rfl hr_) ?_
  refine own_by (T' := T0) (g' := (mkF m 20 #[.val (.int i0), .val (.int i1), .val (.int i2), .val (.int i3), .val (.int i4), .val (.int n), .val (.int c0), .unset, .unset, .unset, .unset, .unset, .unset] [(.int ((i2 &&& (65535 : Int32)).toUInt32.toUInt16.toUInt32.toInt32))])) (fun t_ hr_ => XS.i2c A_0 hx rfl (Jvm.hb hby at_19) rfl hr_) ?_
  obtain ⟨c1, ec1⟩ : ∃ z, z = ((i2 &&& (65535 : Int32)).toUInt32.toUInt16.toUInt32.toInt32) := ⟨_, rfl⟩
  have r1 : ¬ c1 < 0 ∧ ¬ (65535 : Int32) < c1 := by rw [ec1]; exact own_i2c _
  rw [← ec1]
  clear ec1
  show own_WP p e _ below s Z _ n0 _ T0 (mkF m 20 #[.val (.int i0), .val (.int i1), .val (.int i2), .val (.int i3), .val (.int i4), .val (.int n), .val (.int c0), .unset, .unset, .unset, .unset, .unset, .unset] [(.int c1)])
  refine own_by (T' := T0) (g' := (mkF m 22 #[.val (.int i0), .val (.int i1), .val (.int i2), .val (.int i3), .val (.int i4), .val (.int n), .val (.int c0), .val (.int c1), .unset, .unset, .unset, .unset, .unset] [])) (fun t_ hr_ => XS.istore A_0 hx rfl (Jvm.hb hby at_20) rfl (l' := #[.val (.int i0), .val (.int i1), .val (.int i2), .val (.int i3), .val (.int i4), .val (.int n), .val (.int c0), .val (.int c1), .unset, .unset, .unset, .unset, .unset]) rfl hr_) ?_
  refine own_by (T' := T0) (g' := (mkF m 23 #[.val (.int i0), .val (.int i1), .val (.int i2), .val (.int i3), .val (.int i4), .val (.int n), .val (.int c0), .val (.int c1), .unset, .unset, .unset, .unset, .unset] [(.int i3)])) (fun t_ hr_ => XS.iloadN A_0 hx rfl (Jvm.hb hby at_22) rfl hr_) ?_
  refine own_ldcI w0 hx (hw _ (List.mem_of_getElem? (i := 1) rfl)) (g := (mkF m 23 #[.val (.int i0), .val (.int i1), .val (.int i2), .val (.int i3), .val (.int i4), .val (.int n), .val (.int c0), .val (.int c1), .unset, .unset, .unset, .unset, .unset] [(.int i3)])) rfl (Jvm.hb hby at_23) ?_
  show own_WP p e _ below s Z _ n0 _ T0 (mkF m 25 #[.val (.int i0), .val (.int i1), .val (.int i2), .val (.int i3), .val (.int i4), .val (.int n), .val (.int c0), .val (.int c1), .unset, .unset, .unset, .unset, .unset] [(.int (65535 : Int32)), (.int i3)])
  refine own_by (T' := T0) (g' := (mkF m 26 #[.val (.int i0), .val (.int i1), .val (.int i2), .val (.int i3), .val (.int i4), .val (.int n), .val (.int c0), .val (.int c1), .unset, .unset, .unset, .unset, .unset] [(.int (i3 &&& (65535 : Int32)))])) (fun t_ hr_ => XS.iand A_0 hx rfl (Jvm.hb hby at_25) rfl hr_) ?_
  refine own_by (T' := T0) (g' := (mkF m 27 #[.val (.int i0), .val (.int i1), .val (.int i2), .val (.int i3), .val (.int i4), .val (.int n), .val (.int c0), .val (.int c1), .unset, .unset, .unset, .unset, .unset] [(.int ((i3 &&& (65535 : Int32)).toUInt32.toUInt16.toUInt32.toInt32))])) (fun t_ hr_ => XS.i2c A_0 hx rfl (Jvm.hb hby at_26) rfl hr_) ?_
  obtain ⟨c2, ec2⟩ : ∃ z, z = ((i3 &&& (65535 : Int32)).toUInt32.toUInt16.toUInt32.toInt32) := ⟨_, rfl⟩
  have r2 : ¬ c2 < 0 ∧ ¬ (65535 : Int32) < c2 := by rw [ec2]; exact own_i2c _
  rw [← ec2]
  clear ec2
  show own_WP p e _ below s Z _ n0 _ T0 (mkF m 27 #[.val (.int i0), .val (.int i1), .val (.int i2), .val (.int i3), .val (.int i4), .val (.int n), .val (.int c0), .val (.int c1), .unset, .unset, .unset, .unset, .unset] [(.int c2)])
  refine own_by (T' := T0) (g' := (mkF m 29 #[.val (.int i0), .val (.int i1), .val (.int i2), .val (.int i3), .val (.int i4), .val (.int n), .val (.int c0), .val (.int c1), .val (.int c2), .unset, .unset, .unset, .unset] [])) (fun t_ hr_ => XS.istore A_0 hx rfl (Jvm.hb hby at_27) rfl (l' := #[.val (.int i0), .val (.int i1), .val (.int i2), .val (.int i3), .val (.int i4), .val (.int n), .val (.int c0), .val (.int c1), .val (.int c2), .unset, .unset, .unset, .unset]) rfl hr_) ?_
  refine own_by (T' := T0) (g' := (mkF m 31 #[.val (.int i0), .val (.int i1), .val (.int i2), .val (.int i3), .val (.int i4), .val (.int n), .val (.int c0), .val (.int c1), .val (.int c2), .unset, .unset, .unset, .unset] [(.int i4)])) (fun t_ hr_ => XS.iload A_0 hx rfl (Jvm.hb hby at_29) rfl hr_) ?_
  refine own_ldcI w0 hx (hw _ (List.mem_of_getElem? (i := 1) rfl)) (g := (mkF m 31 #[.val (.int i0), .val (.int i1), .val (.int i2), .val (.int i3), .val (.int i4), .val (.int n), .val (.int c0), .val (.int c1), .val (.int c2), .unset, .unset, .unset, .unset] [(.int i4)])) rfl (Jvm.hb hby at_31) ?_
  show own_WP p e _ below s Z _ n0 _ T0 (mkF m 33 #[.val (.int i0), .val (.int i1), .val (.int i2), .val (.int i3), .val (.int i4), .val (.int n), .val (.int c0), .val (.int c1), .val (.int c2), .unset, .unset, .unset, .unset] [(.int (65535 : Int32)), (.int i4)])
  refine own_by (T' := T0) (g' := (mkF m 34 #[.val (.int i0), .val (.int i1), .val (.int i2), .val (.int i3), .val (.int i4), .val (.int n), .val (.int c0), .val (.int c1), .val (.int c2), .unset, .unset, .unset, .unset] [(.int (i4 &&& (65535 : Int32)))])) (fun t_ hr_ => XS.iand A_0 hx rfl (Jvm.hb hby at_33) rfl hr_) ?_
  refine own_by (T' := T0) (g' := (mkF m 35 #[.val (.int i0), .val (.int i1), .val (.int i2), .val (.int i3), .val (.int i4), .val (.int n), .val (.int c0), .val (.int c1), .val (.int c2), .unset, .unset, .unset, .unset] [(.int ((i4 &&& (65535 : Int32)).toUInt32.toUInt16.toUInt32.toInt32))])) (fun t_ hr_ => XS.i2c A_0 hx rfl (Jvm.hb hby at_34) rfl hr_) ?_
  obtain ⟨c3, ec3⟩ : ∃ z, z = ((i4 &&& (65535 : Int32)).toUInt32.toUInt16.toUInt32.toInt32) := ⟨_, rfl⟩
  have r3 : ¬ c3 < 0 ∧ ¬ (65535 : Int32) < c3 := by rw [ec3]; exact own_i2c _
  rw [← ec3]
  clear ec3
  show own_WP p e _ below s Z _ n0 _ T0 (mkF m 35 #[.val (.int i0), .val (.int i1), .val (.int i2), .val (.int i3), .val (.int i4), .val (.int n), .val (.int c0), .val (.int c1), .val (.int c2), .unset, .unset, .unset, .unset] [(.int c3)])
  refine own_by (T' := T0) (g' := (mkF m 37 #[.val (.int i0), .val (.int i1), .val (.int i2), .val (.int i3), .val (.int i4), .val (.int n), .val (.int c0), .val (.int c1), .val (.int c2), .val (.int c3), .unset, .unset, .unset] [])) (fun t_ hr_ => XS.istore A_0 hx rfl (Jvm.hb hby at_35) rfl (l' := #[.val (.int i0), .val (.int i1), .val (.int i2), .val (.int i3), .val (.int i4), .val (.int n), .val (.int c0), .val (.int c1), .val (.int c2), .val (.int c3), .unset, .unset, .unset]) rfl hr_) ?_
  refine own_by (T' := T0) (g' := (mkF m 39 #[.val (.int i0), .val (.int i1), .val (.int i2), .val (.int i3), .val (.int i4), .val (.int n), .val (.int c0), .val (.int c1), .val (.int c2), .val (.int c3), .unset, .unset, .unset] [(.int n)])) (fun t_ hr_ => XS.iload A_0 hx rfl (Jvm.hb hby at_37) rfl hr_) ?_
  rcases hn5 with rfl | rfl | rfl | rfl | rfl
  · show own_WP p e _ below s Z _ n0 _ T0 (mkF m 39 #[.val (.int i0), .val (.int i1), .val (.int i2), .val (.int i3), .val (.int i4), .val (.int (0 : Int32)), .val (.int c0), .val (.int c1), .val (.int c2), .val (.int c3), .unset, .unset, .unset] [(.int (0 : Int32))])
    refine own_by (T' := T0) (g' := (mkF m 42 #[.val (.int i0), .val (.int i1), .val (.int i2), .val (.int i3), .val (.int i4), .val (.int (0 : Int32)), .val (.int c0), .val (.int c1), .val (.int c2), .val (.int c3), .unset, .unset, .unset] [])) (fun t_ hr_ => XS.ifNo A_0 hx rfl (Jvm.hb hby at_39) rfl ((if0 _ _).trans (teq (by decide)).2) hr_) ?_
    refine own_by (T' := T0) (g' := (mkF m 43 #[.val (.int i0), .val (.int i1), .val (.int i2), .val (.int i3), .val (.int i4), .val (.int (0 : Int32)), .val (.int c0), .val (.int c1), .val (.int c2), .val (.int c3), .unset, .unset, .unset] [(.int (0 : Int32))])) (fun t_ hr_ => XS.iconst A_0 hx rfl (Jvm.hb hby at_42) hr_) ?_
    refine own_newP w0 hx (hw _ (List.mem_of_getElem? (i := 2) rfl)) (g := (mkF m 43 #[.val (.int i0), .val (.int i1), .val (.int i2), .val (.int i3), .val (.int i4), .val (.int (0 : Int32)), .val (.int c0), .val (.int c1), .val (.int c2), .val (.int c3), .unset, .unset, .unset] [(.int (0 : Int32))])) rfl (Jvm.hb hby at_43) rfl (by decide) (cap := 0) (by decide) (by decide) (by decide) (by decide) (fun T1_ h1_ a1_ k1_ g1_ E1_ V1_ w1_ => ?_)
    have A1_ := own_at w1_
    show own_WP p e _ below s Z _ n0 _ T1_ (mkF m 45 #[.val (.int i0), .val (.int i1), .val (.int i2), .val (.int i3), .val (.int i4), .val (.int (0 : Int32)), .val (.int c0), .val (.int c1), .val (.int c2), .val (.int c3), .unset, .unset, .unset] [(.ref a1_)])
    have gn1_ : n0 ≤ a1_ := by rw [g1_]; exact own_n0 w0
    have ge1_ : h0.size ≤ a1_ := by rw [g1_]; exact Nat.le_refl _
    refine own_by (T' := T1_) (g' := (mkF m 47 #[.val (.int i0), .val (.int i1), .val (.int i2), .val (.int i3), .val (.int i4), .val (.int (0 : Int32)), .val (.int c0), .val (.int c1), .val (.int c2), .val (.int c3), .val (.ref a1_), .unset, .unset] [])) (fun t_ hr_ => XS.astore A1_ hx rfl (Jvm.hb hby at_45) rfl rfl (l' := #[.val (.int i0), .val (.int i1), .val (.int i2), .val (.int i3), .val (.int i4), .val (.int (0 : Int32)), .val (.int c0), .val (.int c1), .val (.int c2), .val (.int c3), .val (.ref a1_), .unset, .unset]) rfl hr_) ?_
    refine own_by (T' := T1_) (g' := (mkF m 147 #[.val (.int i0), .val (.int i1), .val (.int i2), .val (.int i3), .val (.int i4), .val (.int (0 : Int32)), .val (.int c0), .val (.int c1), .val (.int c2), .val (.int c3), .val (.ref a1_), .unset, .unset] [])) (fun t_ hr_ => XS.goto A1_ hx rfl (pc0 := 47) (pc' := 147) rfl (Jvm.hb hby at_47) (by decide) (by decide) hr_) ?_
    refine own_new w1_ hx (hw _ (List.mem_of_getElem? (i := 3) rfl)) (hw _ (List.mem_of_getElem? (i := 4) rfl)) (hw _ (List.mem_of_getElem? (i := 5) rfl)) (g := (mkF m 147 #[.val (.int i0), .val (.int i1), .val (.int i2), .val (.int i3), .val (.int i4), .val (.int (0 : Int32)), .val (.int c0), .val (.int c1), .val (.int c2), .val (.int c3), .val (.ref a1_), .unset, .unset] [])) rfl (Jvm.hb hby at_147) (by decide) (by decide) (fun T2_ h2_ a2_ g2_ E2_ ⟨X2_, D2_⟩ w2_ => ?_)
    have A2_ := own_at w2_
    show own_WP p e _ below s Z _ n0 _ T2_ (mkF m 150 #[.val (.int i0), .val (.int i1), .val (.int i2), .val (.int i3), .val (.int i4), .val (.int (0 : Int32)), .val (.int c0), .val (.int c1), .val (.int c2), .val (.int c3), .val (.ref a1_), .unset, .unset] [(.ref a2_)])
    have R2_ : own_Raw Z h2_ a2_ := ⟨X2_, D2_ (Or.inr (hw _ (List.mem_of_getElem? (i := 18) rfl))) (ty := (.array .byte)) (by decide), D2_ (Or.inr (hw _ (List.mem_of_getElem? (i := 19) rfl))) (ty := .byte) (by decide)⟩
    have gn2_ : n0 ≤ a2_ := by rw [g2_]; exact own_n0 w1_
    refine own_by (T' := T2_) (g' := (mkF m 151 #[.val (.int i0), .val (.int i1), .val (.int i2), .val (.int i3), .val (.int i4), .val (.int (0 : Int32)), .val (.int c0), .val (.int c1), .val (.int c2), .val (.int c3), .val (.ref a1_), .unset, .unset] [(.ref a2_), (.ref a2_)])) (fun t_ hr_ => XS.dup A2_ hx rfl (Jvm.hb hby at_150) rfl rfl hr_) ?_
    refine own_by (T' := T2_) (g' := (mkF m 153 #[.val (.int i0), .val (.int i1), .val (.int i2), .val (.int i3), .val (.int i4), .val (.int (0 : Int32)), .val (.int c0), .val (.int c1), .val (.int c2), .val (.int c3), .val (.ref a1_), .unset, .unset] [(.ref a1_), (.ref a2_), (.ref a2_)])) (fun t_ hr_ => XS.aload A2_ hx rfl (Jvm.hb hby at_151) rfl rfl hr_) ?_
    refine own_callC w2_ hx (y := (⟨"java/lang/String", "<init>", "([C)V"⟩ : MethodName)) rfl (hw _ (List.mem_of_getElem? (i := 6) rfl)) (hw _ (List.mem_of_getElem? (i := 7) rfl)) (hw _ (List.mem_of_getElem? (i := 8) rfl)) (by decide) (kc := 4) (ks := 8) (a := a2_) (argsL := [(.ref a1_)]) (rest := [(.ref a2_)]) (own_payCt (W := 1) (ctNew1e l Z a0 hw n0 h2_ (own_old w2_) a2_ a1_ k1_ _ _ R2_ (V1_.ext E2_) gn2_) w2_ (hw _ (List.mem_of_getElem? (i := 8) rfl)) (hw _ (List.mem_of_getElem? (i := 5) rfl)) hEL (by decide) (by decide)) (g := (mkF m 153 #[.val (.int i0), .val (.int i1), .val (.int i2), .val (.int i3), .val (.int i4), .val (.int (0 : Int32)), .val (.int c0), .val (.int c1), .val (.int c2), .val (.int c3), .val (.ref a1_), .unset, .unset] [(.ref a1_), (.ref a2_), (.ref a2_)])) rfl (by rw [hml]; rfl) (lenOf pd_985728288 rfl) rfl (by show 2 * 0 + _ ≤ _; exact Nat.le_of_eq rfl) (Jvm.hb hby at_153) (by decide) (by decide) (fun v4_ T4_ vm4_ h4_ q4_ C4_ w4_ => ?_)
    obtain ⟨rfl, K3_, S3_⟩ := q4_
    have A4_ := own_at w4_
    show own_WP p e _ below s Z _ n0 _ T4_ (mkF m 156 #[.val (.int i0), .val (.int i1), .val (.int i2), .val (.int i3), .val (.int i4), .val (.int (0 : Int32)), .val (.int c0), .val (.int c1), .val (.int c2), .val (.int c3), .val (.ref a1_), .unset, .unset] [(.ref a2_)])
    have SA3_ : own_Any Z h4_ a2_ [] := Or.inl S3_
    have F_3_ := own_extK E2_ K3_ (allS (by rw [g2_]; exact Nat.le_refl _) all0)
    refine own_by (T' := T4_) (g' := (mkF m 158 #[.val (.int i0), .val (.int i1), .val (.int i2), .val (.int i3), .val (.int i4), .val (.int (0 : Int32)), .val (.int c0), .val (.int c1), .val (.int c2), .val (.int c3), .val (.ref a1_), .val (.ref a2_), .unset] [])) (fun t_ hr_ => XS.astore A4_ hx rfl (Jvm.hb hby at_156) rfl rfl (l' := #[.val (.int i0), .val (.int i1), .val (.int i2), .val (.int i3), .val (.int i4), .val (.int (0 : Int32)), .val (.int c0), .val (.int c1), .val (.int c2), .val (.int c3), .val (.ref a1_), .val (.ref a2_), .unset]) rfl hr_) ?_
    refine own_by (T' := T4_) (g' := (mkF m 160 #[.val (.int i0), .val (.int i1), .val (.int i2), .val (.int i3), .val (.int i4), .val (.int (0 : Int32)), .val (.int c0), .val (.int c1), .val (.int c2), .val (.int c3), .val (.ref a1_), .val (.ref a2_), .unset] [(.int (0 : Int32))])) (fun t_ hr_ => XS.iload A4_ hx rfl (Jvm.hb hby at_158) rfl hr_) ?_
    refine own_by (T' := T4_) (g' := (mkF m 170 #[.val (.int i0), .val (.int i1), .val (.int i2), .val (.int i3), .val (.int i4), .val (.int (0 : Int32)), .val (.int c0), .val (.int c1), .val (.int c2), .val (.int c3), .val (.ref a1_), .val (.ref a2_), .unset] [])) (fun t_ hr_ => XS.ifYes A4_ hx rfl (pc0 := 160) (pc' := 170) rfl (Jvm.hb hby at_160) rfl ((if0 _ _).trans (flt (by decide)).2.2.2) (by decide) (by decide) hr_) ?_
    refine own_by (T' := T4_) (g' := (mkF m 172 #[.val (.int i0), .val (.int i1), .val (.int i2), .val (.int i3), .val (.int i4), .val (.int (0 : Int32)), .val (.int c0), .val (.int c1), .val (.int c2), .val (.int c3), .val (.ref a1_), .val (.ref a2_), .unset] [(.int (0 : Int32))])) (fun t_ hr_ => XS.iload A4_ hx rfl (Jvm.hb hby at_170) rfl hr_) ?_
    refine own_by (T' := T4_) (g' := (mkF m 173 #[.val (.int i0), .val (.int i1), .val (.int i2), .val (.int i3), .val (.int i4), .val (.int (0 : Int32)), .val (.int c0), .val (.int c1), .val (.int c2), .val (.int c3), .val (.ref a1_), .val (.ref a2_), .unset] [(.int (1 : Int32)), (.int (0 : Int32))])) (fun t_ hr_ => XS.iconst A4_ hx rfl (Jvm.hb hby at_172) hr_) ?_
    refine own_by (T' := T4_) (g' := (mkF m 183 #[.val (.int i0), .val (.int i1), .val (.int i2), .val (.int i3), .val (.int i4), .val (.int (0 : Int32)), .val (.int c0), .val (.int c1), .val (.int c2), .val (.int c3), .val (.ref a1_), .val (.ref a2_), .unset] [])) (fun t_ hr_ => XS.icmpYes A4_ hx rfl (pc0 := 173) (pc' := 183) rfl (Jvm.hb hby at_173) rfl (flt (by decide)).2.2.2 (by decide) (by decide) hr_) ?_
    refine own_by (T' := T4_) (g' := (mkF m 185 #[.val (.int i0), .val (.int i1), .val (.int i2), .val (.int i3), .val (.int i4), .val (.int (0 : Int32)), .val (.int c0), .val (.int c1), .val (.int c2), .val (.int c3), .val (.ref a1_), .val (.ref a2_), .unset] [(.int (0 : Int32))])) (fun t_ hr_ => XS.iload A4_ hx rfl (Jvm.hb hby at_183) rfl hr_) ?_
    refine own_by (T' := T4_) (g' := (mkF m 186 #[.val (.int i0), .val (.int i1), .val (.int i2), .val (.int i3), .val (.int i4), .val (.int (0 : Int32)), .val (.int c0), .val (.int c1), .val (.int c2), .val (.int c3), .val (.ref a1_), .val (.ref a2_), .unset] [(.int (2 : Int32)), (.int (0 : Int32))])) (fun t_ hr_ => XS.iconst A4_ hx rfl (Jvm.hb hby at_185) hr_) ?_
    refine own_by (T' := T4_) (g' := (mkF m 196 #[.val (.int i0), .val (.int i1), .val (.int i2), .val (.int i3), .val (.int i4), .val (.int (0 : Int32)), .val (.int c0), .val (.int c1), .val (.int c2), .val (.int c3), .val (.ref a1_), .val (.ref a2_), .unset] [])) (fun t_ hr_ => XS.icmpYes A4_ hx rfl (pc0 := 186) (pc' := 196) rfl (Jvm.hb hby at_186) rfl (flt (by decide)).2.2.2 (by decide) (by decide) hr_) ?_
    refine own_by (T' := T4_) (g' := (mkF m 198 #[.val (.int i0), .val (.int i1), .val (.int i2), .val (.int i3), .val (.int i4), .val (.int (0 : Int32)), .val (.int c0), .val (.int c1), .val (.int c2), .val (.int c3), .val (.ref a1_), .val (.ref a2_), .unset] [(.int (0 : Int32))])) (fun t_ hr_ => XS.iload A4_ hx rfl (Jvm.hb hby at_196) rfl hr_) ?_
    refine own_by (T' := T4_) (g' := (mkF m 199 #[.val (.int i0), .val (.int i1), .val (.int i2), .val (.int i3), .val (.int i4), .val (.int (0 : Int32)), .val (.int c0), .val (.int c1), .val (.int c2), .val (.int c3), .val (.ref a1_), .val (.ref a2_), .unset] [(.int (3 : Int32)), (.int (0 : Int32))])) (fun t_ hr_ => XS.iconst A4_ hx rfl (Jvm.hb hby at_198) hr_) ?_
    refine own_by (T' := T4_) (g' := (mkF m 213 #[.val (.int i0), .val (.int i1), .val (.int i2), .val (.int i3), .val (.int i4), .val (.int (0 : Int32)), .val (.int c0), .val (.int c1), .val (.int c2), .val (.int c3), .val (.ref a1_), .val (.ref a2_), .unset] [])) (fun t_ hr_ => XS.icmpYes A4_ hx rfl (pc0 := 199) (pc' := 213) rfl (Jvm.hb hby at_199) rfl (flt (by decide)).2.2.2 (by decide) (by decide) hr_) ?_
    refine own_by (T' := T4_) (g' := (mkF m 214 #[.val (.int i0), .val (.int i1), .val (.int i2), .val (.int i3), .val (.int i4), .val (.int (0 : Int32)), .val (.int c0), .val (.int c1), .val (.int c2), .val (.int c3), .val (.ref a1_), .val (.ref a2_), .unset] [(.int (0 : Int32))])) (fun t_ hr_ => XS.iconst A4_ hx rfl (Jvm.hb hby at_213) hr_) ?_
    refine own_by (T' := T4_) (g' := (mkF m 216 #[.val (.int i0), .val (.int i1), .val (.int i2), .val (.int i3), .val (.int i4), .val (.int (0 : Int32)), .val (.int c0), .val (.int c1), .val (.int c2), .val (.int c3), .val (.ref a1_), .val (.ref a2_), .val (.int (0 : Int32))] [])) (fun t_ hr_ => XS.istore A4_ hx rfl (Jvm.hb hby at_214) rfl (l' := #[.val (.int i0), .val (.int i1), .val (.int i2), .val (.int i3), .val (.int i4), .val (.int (0 : Int32)), .val (.int c0), .val (.int c1), .val (.int c2), .val (.int c3), .val (.ref a1_), .val (.ref a2_), .val (.int (0 : Int32))]) rfl hr_) ?_
    exact J216 hw SC SF US hx hby hml hret hlk hnm i0 i1 i2 i3 i4 0 c0 c1 c2 c3 0 a1_ a2_ [] (own_mono w4_ (by decide : 6 ≤ 9) (by decide : 12 ≤ 60)) SA3_ (by simp) (Or.inr ⟨rfl, fun q => by cases q⟩)
  · show own_WP p e _ below s Z _ n0 _ T0 (mkF m 39 #[.val (.int i0), .val (.int i1), .val (.int i2), .val (.int i3), .val (.int i4), .val (.int (1 : Int32)), .val (.int c0), .val (.int c1), .val (.int c2), .val (.int c3), .unset, .unset, .unset] [(.int (1 : Int32))])
    refine own_by (T' := T0) (g' := (mkF m 50 #[.val (.int i0), .val (.int i1), .val (.int i2), .val (.int i3), .val (.int i4), .val (.int (1 : Int32)), .val (.int c0), .val (.int c1), .val (.int c2), .val (.int c3), .unset, .unset, .unset] [])) (fun t_ hr_ => XS.ifYes A_0 hx rfl (pc0 := 39) (pc' := 50) rfl (Jvm.hb hby at_39) rfl ((if0 _ _).trans (feq (by decide)).2) (by decide) (by decide) hr_) ?_
    refine own_by (T' := T0) (g' := (mkF m 52 #[.val (.int i0), .val (.int i1), .val (.int i2), .val (.int i3), .val (.int i4), .val (.int (1 : Int32)), .val (.int c0), .val (.int c1), .val (.int c2), .val (.int c3), .unset, .unset, .unset] [(.int (1 : Int32))])) (fun t_ hr_ => XS.iload A_0 hx rfl (Jvm.hb hby at_50) rfl hr_) ?_
    refine own_by (T' := T0) (g' := (mkF m 53 #[.val (.int i0), .val (.int i1), .val (.int i2), .val (.int i3), .val (.int i4), .val (.int (1 : Int32)), .val (.int c0), .val (.int c1), .val (.int c2), .val (.int c3), .unset, .unset, .unset] [(.int (1 : Int32)), (.int (1 : Int32))])) (fun t_ hr_ => XS.iconst A_0 hx rfl (Jvm.hb hby at_52) hr_) ?_
    refine own_by (T' := T0) (g' := (mkF m 56 #[.val (.int i0), .val (.int i1), .val (.int i2), .val (.int i3), .val (.int i4), .val (.int (1 : Int32)), .val (.int c0), .val (.int c1), .val (.int c2), .val (.int c3), .unset, .unset, .unset] [])) (fun t_ hr_ => XS.icmpNo A_0 hx rfl (Jvm.hb hby at_53) rfl (teq (by decide)).2 hr_) ?_
    refine own_by (T' := T0) (g' := (mkF m 57 #[.val (.int i0), .val (.int i1), .val (.int i2), .val (.int i3), .val (.int i4), .val (.int (1 : Int32)), .val (.int c0), .val (.int c1), .val (.int c2), .val (.int c3), .unset, .unset, .unset] [(.int (1 : Int32))])) (fun t_ hr_ => XS.iconst A_0 hx rfl (Jvm.hb hby at_56) hr_) ?_
    refine own_newP w0 hx (hw _ (List.mem_of_getElem? (i := 2) rfl)) (g := (mkF m 57 #[.val (.int i0), .val (.int i1), .val (.int i2), .val (.int i3), .val (.int i4), .val (.int (1 : Int32)), .val (.int c0), .val (.int c1), .val (.int c2), .val (.int c3), .unset, .unset, .unset] [(.int (1 : Int32))])) rfl (Jvm.hb hby at_57) rfl (by decide) (cap := 1) (by decide) (by decide) (by decide) (by decide) (fun T5_ h5_ a5_ k5_ g5_ E5_ V5_ w5_ => ?_)
    have A5_ := own_at w5_
    show own_WP p e _ below s Z _ n0 _ T5_ (mkF m 59 #[.val (.int i0), .val (.int i1), .val (.int i2), .val (.int i3), .val (.int i4), .val (.int (1 : Int32)), .val (.int c0), .val (.int c1), .val (.int c2), .val (.int c3), .unset, .unset, .unset] [(.ref a5_)])
    have gn5_ : n0 ≤ a5_ := by rw [g5_]; exact own_n0 w0
    have ge5_ : h0.size ≤ a5_ := by rw [g5_]; exact Nat.le_refl _
    have U5_ : Arv Z h5_ a5_ k5_ .char (1 : Int32) [(.int (0 : Int32))] (.int 0) := V5_.pad (vs' := [(.int (0 : Int32))]) (fun i => pad_rep [] (.int (0 : Int32)) 1 i)
    refine own_by (T' := T5_) (g' := (mkF m 60 #[.val (.int i0), .val (.int i1), .val (.int i2), .val (.int i3), .val (.int i4), .val (.int (1 : Int32)), .val (.int c0), .val (.int c1), .val (.int c2), .val (.int c3), .unset, .unset, .unset] [(.ref a5_), (.ref a5_)])) (fun t_ hr_ => XS.dup A5_ hx rfl (Jvm.hb hby at_59) rfl rfl hr_) ?_
    refine own_by (T' := T5_) (g' := (mkF m 61 #[.val (.int i0), .val (.int i1), .val (.int i2), .val (.int i3), .val (.int i4), .val (.int (1 : Int32)), .val (.int c0), .val (.int c1), .val (.int c2), .val (.int c3), .unset, .unset, .unset] [(.int (0 : Int32)), (.ref a5_), (.ref a5_)])) (fun t_ hr_ => XS.iconst A5_ hx rfl (Jvm.hb hby at_60) hr_) ?_
    refine own_by (T' := T5_) (g' := (mkF m 63 #[.val (.int i0), .val (.int i1), .val (.int i2), .val (.int i3), .val (.int i4), .val (.int (1 : Int32)), .val (.int c0), .val (.int c1), .val (.int c2), .val (.int c3), .unset, .unset, .unset] [(.int c0), (.int (0 : Int32)), (.ref a5_), (.ref a5_)])) (fun t_ hr_ => XS.iload A5_ hx rfl (Jvm.hb hby at_61) rfl hr_) ?_
    refine own_castore w5_ hx U5_ (by decide) r0 (i := 0) rfl (by simp) gn5_ (g := (mkF m 63 #[.val (.int i0), .val (.int i1), .val (.int i2), .val (.int i3), .val (.int i4), .val (.int (1 : Int32)), .val (.int c0), .val (.int c1), .val (.int c2), .val (.int c3), .unset, .unset, .unset] [(.int c0), (.int (0 : Int32)), (.ref a5_), (.ref a5_)])) rfl rfl (Jvm.hb hby at_63) (fun T6_ h6_ W6_ V6_ w6_ => ?_)
    have A6_ := own_at w6_
    show own_WP p e _ below s Z _ n0 _ T6_ (mkF m 64 #[.val (.int i0), .val (.int i1), .val (.int i2), .val (.int i3), .val (.int i4), .val (.int (1 : Int32)), .val (.int c0), .val (.int c1), .val (.int c2), .val (.int c3), .unset, .unset, .unset] [(.ref a5_)])
    have E_6_ := own_extWr E5_ W6_ ge5_
    refine own_by (T' := T6_) (g' := (mkF m 66 #[.val (.int i0), .val (.int i1), .val (.int i2), .val (.int i3), .val (.int i4), .val (.int (1 : Int32)), .val (.int c0), .val (.int c1), .val (.int c2), .val (.int c3), .val (.ref a5_), .unset, .unset] [])) (fun t_ hr_ => XS.astore A6_ hx rfl (Jvm.hb hby at_64) rfl rfl (l' := #[.val (.int i0), .val (.int i1), .val (.int i2), .val (.int i3), .val (.int i4), .val (.int (1 : Int32)), .val (.int c0), .val (.int c1), .val (.int c2), .val (.int c3), .val (.ref a5_), .unset, .unset]) rfl hr_) ?_
    refine own_by (T' := T6_) (g' := (mkF m 147 #[.val (.int i0), .val (.int i1), .val (.int i2), .val (.int i3), .val (.int i4), .val (.int (1 : Int32)), .val (.int c0), .val (.int c1), .val (.int c2), .val (.int c3), .val (.ref a5_), .unset, .unset] [])) (fun t_ hr_ => XS.goto A6_ hx rfl (pc0 := 66) (pc' := 147) rfl (Jvm.hb hby at_66) (by decide) (by decide) hr_) ?_
    refine own_new w6_ hx (hw _ (List.mem_of_getElem? (i := 3) rfl)) (hw _ (List.mem_of_getElem? (i := 4) rfl)) (hw _ (List.mem_of_getElem? (i := 5) rfl)) (g := (mkF m 147 #[.val (.int i0), .val (.int i1), .val (.int i2), .val (.int i3), .val (.int i4), .val (.int (1 : Int32)), .val (.int c0), .val (.int c1), .val (.int c2), .val (.int c3), .val (.ref a5_), .unset, .unset] [])) rfl (Jvm.hb hby at_147) (by decide) (by decide) (fun T7_ h7_ a7_ g7_ E7_ ⟨X7_, D7_⟩ w7_ => ?_)
    have A7_ := own_at w7_
    show own_WP p e _ below s Z _ n0 _ T7_ (mkF m 150 #[.val (.int i0), .val (.int i1), .val (.int i2), .val (.int i3), .val (.int i4), .val (.int (1 : Int32)), .val (.int c0), .val (.int c1), .val (.int c2), .val (.int c3), .val (.ref a5_), .unset, .unset] [(.ref a7_)])
    have R7_ : own_Raw Z h7_ a7_ := ⟨X7_, D7_ (Or.inr (hw _ (List.mem_of_getElem? (i := 18) rfl))) (ty := (.array .byte)) (by decide), D7_ (Or.inr (hw _ (List.mem_of_getElem? (i := 19) rfl))) (ty := .byte) (by decide)⟩
    have gn7_ : n0 ≤ a7_ := by rw [g7_]; exact own_n0 w6_
    refine own_by (T' := T7_) (g' := (mkF m 151 #[.val (.int i0), .val (.int i1), .val (.int i2), .val (.int i3), .val (.int i4), .val (.int (1 : Int32)), .val (.int c0), .val (.int c1), .val (.int c2), .val (.int c3), .val (.ref a5_), .unset, .unset] [(.ref a7_), (.ref a7_)])) (fun t_ hr_ => XS.dup A7_ hx rfl (Jvm.hb hby at_150) rfl rfl hr_) ?_
    refine own_by (T' := T7_) (g' := (mkF m 153 #[.val (.int i0), .val (.int i1), .val (.int i2), .val (.int i3), .val (.int i4), .val (.int (1 : Int32)), .val (.int c0), .val (.int c1), .val (.int c2), .val (.int c3), .val (.ref a5_), .unset, .unset] [(.ref a5_), (.ref a7_), (.ref a7_)])) (fun t_ hr_ => XS.aload A7_ hx rfl (Jvm.hb hby at_151) rfl rfl hr_) ?_
    refine own_callC w7_ hx (y := (⟨"java/lang/String", "<init>", "([C)V"⟩ : MethodName)) rfl (hw _ (List.mem_of_getElem? (i := 6) rfl)) (hw _ (List.mem_of_getElem? (i := 7) rfl)) (hw _ (List.mem_of_getElem? (i := 8) rfl)) (by decide) (kc := 2) (ks := 3) (a := a7_) (argsL := [(.ref a5_)]) (rest := [(.ref a7_)]) (own_payCt (W := 1) (ctNew1w1 l Z a0 hw SC US n0 h7_ (own_old w7_) a7_ a5_ k5_ c0 R7_ (V6_.ext E7_) gn7_ r0) w7_ (hw _ (List.mem_of_getElem? (i := 8) rfl)) (hw _ (List.mem_of_getElem? (i := 5) rfl)) hEL (by decide) (by decide)) (g := (mkF m 153 #[.val (.int i0), .val (.int i1), .val (.int i2), .val (.int i3), .val (.int i4), .val (.int (1 : Int32)), .val (.int c0), .val (.int c1), .val (.int c2), .val (.int c3), .val (.ref a5_), .unset, .unset] [(.ref a5_), (.ref a7_), (.ref a7_)])) rfl (by rw [hml]; rfl) (lenOf pd_985728288 rfl) rfl (by show 2 * 0 + _ ≤ _; exact Nat.le_of_eq rfl) (Jvm.hb hby at_153) (by decide) (by decide) (fun v9_ T9_ vm9_ h9_ q9_ C9_ w9_ => ?_)
    obtain ⟨rfl, K8_, SA8_⟩ := q9_
    have A9_ := own_at w9_
    show own_WP p e _ below s Z _ n0 _ T9_ (mkF m 156 #[.val (.int i0), .val (.int i1), .val (.int i2), .val (.int i3), .val (.int i4), .val (.int (1 : Int32)), .val (.int c0), .val (.int c1), .val (.int c2), .val (.int c3), .val (.ref a5_), .unset, .unset] [(.ref a7_)])
    have F_8_ := own_extK E7_ K8_ (allS (by rw [g7_]; exact Nat.le_refl _) all0)
    refine own_by (T' := T9_) (g' := (mkF m 158 #[.val (.int i0), .val (.int i1), .val (.int i2), .val (.int i3), .val (.int i4), .val (.int (1 : Int32)), .val (.int c0), .val (.int c1), .val (.int c2), .val (.int c3), .val (.ref a5_), .val (.ref a7_), .unset] [])) (fun t_ hr_ => XS.astore A9_ hx rfl (Jvm.hb hby at_156) rfl rfl (l' := #[.val (.int i0), .val (.int i1), .val (.int i2), .val (.int i3), .val (.int i4), .val (.int (1 : Int32)), .val (.int c0), .val (.int c1), .val (.int c2), .val (.int c3), .val (.ref a5_), .val (.ref a7_), .unset]) rfl hr_) ?_
    refine own_by (T' := T9_) (g' := (mkF m 160 #[.val (.int i0), .val (.int i1), .val (.int i2), .val (.int i3), .val (.int i4), .val (.int (1 : Int32)), .val (.int c0), .val (.int c1), .val (.int c2), .val (.int c3), .val (.ref a5_), .val (.ref a7_), .unset] [(.int (1 : Int32))])) (fun t_ hr_ => XS.iload A9_ hx rfl (Jvm.hb hby at_158) rfl hr_) ?_
    refine own_by (T' := T9_) (g' := (mkF m 163 #[.val (.int i0), .val (.int i1), .val (.int i2), .val (.int i3), .val (.int i4), .val (.int (1 : Int32)), .val (.int c0), .val (.int c1), .val (.int c2), .val (.int c3), .val (.ref a5_), .val (.ref a7_), .unset] [])) (fun t_ hr_ => XS.ifNo A9_ hx rfl (Jvm.hb hby at_160) rfl ((if0 _ _).trans (tlt (by decide)).2.2.2) hr_) ?_
    refine own_by (T' := T9_) (g' := (mkF m 165 #[.val (.int i0), .val (.int i1), .val (.int i2), .val (.int i3), .val (.int i4), .val (.int (1 : Int32)), .val (.int c0), .val (.int c1), .val (.int c2), .val (.int c3), .val (.ref a5_), .val (.ref a7_), .unset] [(.int c0)])) (fun t_ hr_ => XS.iload A9_ hx rfl (Jvm.hb hby at_163) rfl hr_) ?_
    refine own_by (T' := T9_) (g' := (mkF m 167 #[.val (.int i0), .val (.int i1), .val (.int i2), .val (.int i3), .val (.int i4), .val (.int (1 : Int32)), .val (.int c0), .val (.int c1), .val (.int c2), .val (.int c3), .val (.ref a5_), .val (.ref a7_), .unset] [(.int (124 : Int32)), (.int c0)])) (fun t_ hr_ => XS.bipush A9_ hx rfl (Jvm.hb hby at_165) hr_) ?_
    by_cases hx0 : c0 = (124 : Int32)
    · refine own_by (T' := T9_) (g' := (mkF m 209 #[.val (.int i0), .val (.int i1), .val (.int i2), .val (.int i3), .val (.int i4), .val (.int (1 : Int32)), .val (.int c0), .val (.int c1), .val (.int c2), .val (.int c3), .val (.ref a5_), .val (.ref a7_), .unset] [])) (fun t_ hr_ => XS.icmpYes A9_ hx rfl (pc0 := 167) (pc' := 209) rfl (Jvm.hb hby at_167) rfl (teq hx0).1 (by decide) (by decide) hr_) ?_
      refine own_by (T' := T9_) (g' := (mkF m 210 #[.val (.int i0), .val (.int i1), .val (.int i2), .val (.int i3), .val (.int i4), .val (.int (1 : Int32)), .val (.int c0), .val (.int c1), .val (.int c2), .val (.int c3), .val (.ref a5_), .val (.ref a7_), .unset] [(.int (1 : Int32))])) (fun t_ hr_ => XS.iconst A9_ hx rfl (Jvm.hb hby at_209) hr_) ?_
      refine own_by (T' := T9_) (g' := (mkF m 214 #[.val (.int i0), .val (.int i1), .val (.int i2), .val (.int i3), .val (.int i4), .val (.int (1 : Int32)), .val (.int c0), .val (.int c1), .val (.int c2), .val (.int c3), .val (.ref a5_), .val (.ref a7_), .unset] [(.int (1 : Int32))])) (fun t_ hr_ => XS.goto A9_ hx rfl (pc0 := 210) (pc' := 214) rfl (Jvm.hb hby at_210) (by decide) (by decide) hr_) ?_
      refine own_by (T' := T9_) (g' := (mkF m 216 #[.val (.int i0), .val (.int i1), .val (.int i2), .val (.int i3), .val (.int i4), .val (.int (1 : Int32)), .val (.int c0), .val (.int c1), .val (.int c2), .val (.int c3), .val (.ref a5_), .val (.ref a7_), .val (.int (1 : Int32))] [])) (fun t_ hr_ => XS.istore A9_ hx rfl (Jvm.hb hby at_214) rfl (l' := #[.val (.int i0), .val (.int i1), .val (.int i2), .val (.int i3), .val (.int i4), .val (.int (1 : Int32)), .val (.int c0), .val (.int c1), .val (.int c2), .val (.int c3), .val (.ref a5_), .val (.ref a7_), .val (.int (1 : Int32))]) rfl hr_) ?_
      exact J216 hw SC SF US hx hby hml hret hlk hnm i0 i1 i2 i3 i4 1 c0 c1 c2 c3 1 a5_ a7_ [c0] (own_mono w9_ (by decide : 4 ≤ 9) (by decide : 8 ≤ 60)) SA8_ (by simp) (Or.inl ⟨rfl, by simp [hx0]⟩)
    · refine own_by (T' := T9_) (g' := (mkF m 170 #[.val (.int i0), .val (.int i1), .val (.int i2), .val (.int i3), .val (.int i4), .val (.int (1 : Int32)), .val (.int c0), .val (.int c1), .val (.int c2), .val (.int c3), .val (.ref a5_), .val (.ref a7_), .unset] [])) (fun t_ hr_ => XS.icmpNo A9_ hx rfl (Jvm.hb hby at_167) rfl (feq hx0).1 hr_) ?_
      refine own_by (T' := T9_) (g' := (mkF m 172 #[.val (.int i0), .val (.int i1), .val (.int i2), .val (.int i3), .val (.int i4), .val (.int (1 : Int32)), .val (.int c0), .val (.int c1), .val (.int c2), .val (.int c3), .val (.ref a5_), .val (.ref a7_), .unset] [(.int (1 : Int32))])) (fun t_ hr_ => XS.iload A9_ hx rfl (Jvm.hb hby at_170) rfl hr_) ?_
      refine own_by (T' := T9_) (g' := (mkF m 173 #[.val (.int i0), .val (.int i1), .val (.int i2), .val (.int i3), .val (.int i4), .val (.int (1 : Int32)), .val (.int c0), .val (.int c1), .val (.int c2), .val (.int c3), .val (.ref a5_), .val (.ref a7_), .unset] [(.int (1 : Int32)), (.int (1 : Int32))])) (fun t_ hr_ => XS.iconst A9_ hx rfl (Jvm.hb hby at_172) hr_) ?_
      refine own_by (T' := T9_) (g' := (mkF m 183 #[.val (.int i0), .val (.int i1), .val (.int i2), .val (.int i3), .val (.int i4), .val (.int (1 : Int32)), .val (.int c0), .val (.int c1), .val (.int c2), .val (.int c3), .val (.ref a5_), .val (.ref a7_), .unset] [])) (fun t_ hr_ => XS.icmpYes A9_ hx rfl (pc0 := 173) (pc' := 183) rfl (Jvm.hb hby at_173) rfl (flt (by decide)).2.2.2 (by decide) (by decide) hr_) ?_
      refine own_by (T' := T9_) (g' := (mkF m 185 #[.val (.int i0), .val (.int i1), .val (.int i2), .val (.int i3), .val (.int i4), .val (.int (1 : Int32)), .val (.int c0), .val (.int c1), .val (.int c2), .val (.int c3), .val (.ref a5_), .val (.ref a7_), .unset] [(.int (1 : Int32))])) (fun t_ hr_ => XS.iload A9_ hx rfl (Jvm.hb hby at_183) rfl hr_) ?_
      refine own_by (T' := T9_) (g' := (mkF m 186 #[.val (.int i0), .val (.int i1), .val (.int i2), .val (.int i3), .val (.int i4), .val (.int (1 : Int32)), .val (.int c0), .val (.int c1), .val (.int c2), .val (.int c3), .val (.ref a5_), .val (.ref a7_), .unset] [(.int (2 : Int32)), (.int (1 : Int32))])) (fun t_ hr_ => XS.iconst A9_ hx rfl (Jvm.hb hby at_185) hr_) ?_
      refine own_by (T' := T9_) (g' := (mkF m 196 #[.val (.int i0), .val (.int i1), .val (.int i2), .val (.int i3), .val (.int i4), .val (.int (1 : Int32)), .val (.int c0), .val (.int c1), .val (.int c2), .val (.int c3), .val (.ref a5_), .val (.ref a7_), .unset] [])) (fun t_ hr_ => XS.icmpYes A9_ hx rfl (pc0 := 186) (pc' := 196) rfl (Jvm.hb hby at_186) rfl (flt (by decide)).2.2.2 (by decide) (by decide) hr_) ?_
      refine own_by (T' := T9_) (g' := (mkF m 198 #[.val (.int i0), .val (.int i1), .val (.int i2), .val (.int i3), .val (.int i4), .val (.int (1 : Int32)), .val (.int c0), .val (.int c1), .val (.int c2), .val (.int c3), .val (.ref a5_), .val (.ref a7_), .unset] [(.int (1 : Int32))])) (fun t_ hr_ => XS.iload A9_ hx rfl (Jvm.hb hby at_196) rfl hr_) ?_
      refine own_by (T' := T9_) (g' := (mkF m 199 #[.val (.int i0), .val (.int i1), .val (.int i2), .val (.int i3), .val (.int i4), .val (.int (1 : Int32)), .val (.int c0), .val (.int c1), .val (.int c2), .val (.int c3), .val (.ref a5_), .val (.ref a7_), .unset] [(.int (3 : Int32)), (.int (1 : Int32))])) (fun t_ hr_ => XS.iconst A9_ hx rfl (Jvm.hb hby at_198) hr_) ?_
      refine own_by (T' := T9_) (g' := (mkF m 213 #[.val (.int i0), .val (.int i1), .val (.int i2), .val (.int i3), .val (.int i4), .val (.int (1 : Int32)), .val (.int c0), .val (.int c1), .val (.int c2), .val (.int c3), .val (.ref a5_), .val (.ref a7_), .unset] [])) (fun t_ hr_ => XS.icmpYes A9_ hx rfl (pc0 := 199) (pc' := 213) rfl (Jvm.hb hby at_199) rfl (flt (by decide)).2.2.2 (by decide) (by decide) hr_) ?_
      refine own_by (T' := T9_) (g' := (mkF m 214 #[.val (.int i0), .val (.int i1), .val (.int i2), .val (.int i3), .val (.int i4), .val (.int (1 : Int32)), .val (.int c0), .val (.int c1), .val (.int c2), .val (.int c3), .val (.ref a5_), .val (.ref a7_), .unset] [(.int (0 : Int32))])) (fun t_ hr_ => XS.iconst A9_ hx rfl (Jvm.hb hby at_213) hr_) ?_
      refine own_by (T' := T9_) (g' := (mkF m 216 #[.val (.int i0), .val (.int i1), .val (.int i2), .val (.int i3), .val (.int i4), .val (.int (1 : Int32)), .val (.int c0), .val (.int c1), .val (.int c2), .val (.int c3), .val (.ref a5_), .val (.ref a7_), .val (.int (0 : Int32))] [])) (fun t_ hr_ => XS.istore A9_ hx rfl (Jvm.hb hby at_214) rfl (l' := #[.val (.int i0), .val (.int i1), .val (.int i2), .val (.int i3), .val (.int i4), .val (.int (1 : Int32)), .val (.int c0), .val (.int c1), .val (.int c2), .val (.int c3), .val (.ref a5_), .val (.ref a7_), .val (.int (0 : Int32))]) rfl hr_) ?_
      exact J216 hw SC SF US hx hby hml hret hlk hnm i0 i1 i2 i3 i4 1 c0 c1 c2 c3 0 a5_ a7_ [c0] (own_mono w9_ (by decide : 4 ≤ 9) (by decide : 8 ≤ 60)) SA8_ (by simp) (Or.inr ⟨rfl, fun q => by simp only [List.mem_cons, List.not_mem_nil, or_false] at q; rcases q with q; exact hx0 q.symm⟩)
  · show own_WP p e _ below s Z _ n0 _ T0 (mkF m 39 #[.val (.int i0), .val (.int i1), .val (.int i2), .val (.int i3), .val (.int i4), .val (.int (2 : Int32)), .val (.int c0), .val (.int c1), .val (.int c2), .val (.int c3), .unset, .unset, .unset] [(.int (2 : Int32))])
    refine own_by (T' := T0) (g' := (mkF m 50 #[.val (.int i0), .val (.int i1), .val (.int i2), .val (.int i3), .val (.int i4), .val (.int (2 : Int32)), .val (.int c0), .val (.int c1), .val (.int c2), .val (.int c3), .unset, .unset, .unset] [])) (fun t_ hr_ => XS.ifYes A_0 hx rfl (pc0 := 39) (pc' := 50) rfl (Jvm.hb hby at_39) rfl ((if0 _ _).trans (feq (by decide)).2) (by decide) (by decide) hr_) ?_
    refine own_by (T' := T0) (g' := (mkF m 52 #[.val (.int i0), .val (.int i1), .val (.int i2), .val (.int i3), .val (.int i4), .val (.int (2 : Int32)), .val (.int c0), .val (.int c1), .val (.int c2), .val (.int c3), .unset, .unset, .unset] [(.int (2 : Int32))])) (fun t_ hr_ => XS.iload A_0 hx rfl (Jvm.hb hby at_50) rfl hr_) ?_
    refine own_by (T' := T0) (g' := (mkF m 53 #[.val (.int i0), .val (.int i1), .val (.int i2), .val (.int i3), .val (.int i4), .val (.int (2 : Int32)), .val (.int c0), .val (.int c1), .val (.int c2), .val (.int c3), .unset, .unset, .unset] [(.int (1 : Int32)), (.int (2 : Int32))])) (fun t_ hr_ => XS.iconst A_0 hx rfl (Jvm.hb hby at_52) hr_) ?_
    refine own_by (T' := T0) (g' := (mkF m 69 #[.val (.int i0), .val (.int i1), .val (.int i2), .val (.int i3), .val (.int i4), .val (.int (2 : Int32)), .val (.int c0), .val (.int c1), .val (.int c2), .val (.int c3), .unset, .unset, .unset] [])) (fun t_ hr_ => XS.icmpYes A_0 hx rfl (pc0 := 53) (pc' := 69) rfl (Jvm.hb hby at_53) rfl (feq (by decide)).2 (by decide) (by decide) hr_) ?_
    refine own_by (T' := T0) (g' := (mkF m 71 #[.val (.int i0), .val (.int i1), .val (.int i2), .val (.int i3), .val (.int i4), .val (.int (2 : Int32)), .val (.int c0), .val (.int c1), .val (.int c2), .val (.int c3), .unset, .unset, .unset] [(.int (2 : Int32))])) (fun t_ hr_ => XS.iload A_0 hx rfl (Jvm.hb hby at_69) rfl hr_) ?_
    refine own_by (T' := T0) (g' := (mkF m 72 #[.val (.int i0), .val (.int i1), .val (.int i2), .val (.int i3), .val (.int i4), .val (.int (2 : Int32)), .val (.int c0), .val (.int c1), .val (.int c2), .val (.int c3), .unset, .unset, .unset] [(.int (2 : Int32)), (.int (2 : Int32))])) (fun t_ hr_ => XS.iconst A_0 hx rfl (Jvm.hb hby at_71) hr_) ?_
    refine own_by (T' := T0) (g' := (mkF m 75 #[.val (.int i0), .val (.int i1), .val (.int i2), .val (.int i3), .val (.int i4), .val (.int (2 : Int32)), .val (.int c0), .val (.int c1), .val (.int c2), .val (.int c3), .unset, .unset, .unset] [])) (fun t_ hr_ => XS.icmpNo A_0 hx rfl (Jvm.hb hby at_72) rfl (teq (by decide)).2 hr_) ?_
    refine own_by (T' := T0) (g' := (mkF m 76 #[.val (.int i0), .val (.int i1), .val (.int i2), .val (.int i3), .val (.int i4), .val (.int (2 : Int32)), .val (.int c0), .val (.int c1), .val (.int c2), .val (.int c3), .unset, .unset, .unset] [(.int (2 : Int32))])) (fun t_ hr_ => XS.iconst A_0 hx rfl (Jvm.hb hby at_75) hr_) ?_
    refine own_newP w0 hx (hw _ (List.mem_of_getElem? (i := 2) rfl)) (g := (mkF m 76 #[.val (.int i0), .val (.int i1), .val (.int i2), .val (.int i3), .val (.int i4), .val (.int (2 : Int32)), .val (.int c0), .val (.int c1), .val (.int c2), .val (.int c3), .unset, .unset, .unset] [(.int (2 : Int32))])) rfl (Jvm.hb hby at_76) rfl (by decide) (cap := 2) (by decide) (by decide) (by decide) (by decide) (fun T10_ h10_ a10_ k10_ g10_ E10_ V10_ w10_ => ?_)
    have A10_ := own_at w10_
    show own_WP p e _ below s Z _ n0 _ T10_ (mkF m 78 #[.val (.int i0), .val (.int i1), .val (.int i2), .val (.int i3), .val (.int i4), .val (.int (2 : Int32)), .val (.int c0), .val (.int c1), .val (.int c2), .val (.int c3), .unset, .unset, .unset] [(.ref a10_)])
    have gn10_ : n0 ≤ a10_ := by rw [g10_]; exact own_n0 w0
    have ge10_ : h0.size ≤ a10_ := by rw [g10_]; exact Nat.le_refl _
    have U10_ : Arv Z h10_ a10_ k10_ .char (2 : Int32) [(.int (0 : Int32)), (.int (0 : Int32))] (.int 0) := V10_.pad (vs' := [(.int (0 : Int32)), (.int (0 : Int32))]) (fun i => pad_rep [] (.int (0 : Int32)) 2 i)
    refine own_by (T' := T10_) (g' := (mkF m 79 #[.val (.int i0), .val (.int i1), .val (.int i2), .val (.int i3), .val (.int i4), .val (.int (2 : Int32)), .val (.int c0), .val (.int c1), .val (.int c2), .val (.int c3), .unset, .unset, .unset] [(.ref a10_), (.ref a10_)])) (fun t_ hr_ => XS.dup A10_ hx rfl (Jvm.hb hby at_78) rfl rfl hr_) ?_
    refine own_by (T' := T10_) (g' := (mkF m 80 #[.val (.int i0), .val (.int i1), .val (.int i2), .val (.int i3), .val (.int i4), .val (.int (2 : Int32)), .val (.int c0), .val (.int c1), .val (.int c2), .val (.int c3), .unset, .unset, .unset] [(.int (0 : Int32)), (.ref a10_), (.ref a10_)])) (fun t_ hr_ => XS.iconst A10_ hx rfl (Jvm.hb hby at_79) hr_) ?_
    refine own_by (T' := T10_) (g' := (mkF m 82 #[.val (.int i0), .val (.int i1), .val (.int i2), .val (.int i3), .val (.int i4), .val (.int (2 : Int32)), .val (.int c0), .val (.int c1), .val (.int c2), .val (.int c3), .unset, .unset, .unset] [(.int c0), (.int (0 : Int32)), (.ref a10_), (.ref a10_)])) (fun t_ hr_ => XS.iload A10_ hx rfl (Jvm.hb hby at_80) rfl hr_) ?_
    refine own_castore w10_ hx U10_ (by decide) r0 (i := 0) rfl (by simp) gn10_ (g := (mkF m 82 #[.val (.int i0), .val (.int i1), .val (.int i2), .val (.int i3), .val (.int i4), .val (.int (2 : Int32)), .val (.int c0), .val (.int c1), .val (.int c2), .val (.int c3), .unset, .unset, .unset] [(.int c0), (.int (0 : Int32)), (.ref a10_), (.ref a10_)])) rfl rfl (Jvm.hb hby at_82) (fun T11_ h11_ W11_ V11_ w11_ => ?_)
    have A11_ := own_at w11_
    show own_WP p e _ below s Z _ n0 _ T11_ (mkF m 83 #[.val (.int i0), .val (.int i1), .val (.int i2), .val (.int i3), .val (.int i4), .val (.int (2 : Int32)), .val (.int c0), .val (.int c1), .val (.int c2), .val (.int c3), .unset, .unset, .unset] [(.ref a10_)])
    have E_11_ := own_extWr E10_ W11_ ge10_
    refine own_by (T' := T11_) (g' := (mkF m 84 #[.val (.int i0), .val (.int i1), .val (.int i2), .val (.int i3), .val (.int i4), .val (.int (2 : Int32)), .val (.int c0), .val (.int c1), .val (.int c2), .val (.int c3), .unset, .unset, .unset] [(.ref a10_), (.ref a10_)])) (fun t_ hr_ => XS.dup A11_ hx rfl (Jvm.hb hby at_83) rfl rfl hr_) ?_
    refine own_by (T' := T11_) (g' := (mkF m 85 #[.val (.int i0), .val (.int i1), .val (.int i2), .val (.int i3), .val (.int i4), .val (.int (2 : Int32)), .val (.int c0), .val (.int c1), .val (.int c2), .val (.int c3), .unset, .unset, .unset] [(.int (1 : Int32)), (.ref a10_), (.ref a10_)])) (fun t_ hr_ => XS.iconst A11_ hx rfl (Jvm.hb hby at_84) hr_) ?_
    refine own_by (T' := T11_) (g' := (mkF m 87 #[.val (.int i0), .val (.int i1), .val (.int i2), .val (.int i3), .val (.int i4), .val (.int (2 : Int32)), .val (.int c0), .val (.int c1), .val (.int c2), .val (.int c3), .unset, .unset, .unset] [(.int c1), (.int (1 : Int32)), (.ref a10_), (.ref a10_)])) (fun t_ hr_ => XS.iload A11_ hx rfl (Jvm.hb hby at_85) rfl hr_) ?_
    refine own_castore w11_ hx V11_ (by decide) r1 (i := 1) rfl (by simp) gn10_ (g := (mkF m 87 #[.val (.int i0), .val (.int i1), .val (.int i2), .val (.int i3), .val (.int i4), .val (.int (2 : Int32)), .val (.int c0), .val (.int c1), .val (.int c2), .val (.int c3), .unset, .unset, .unset] [(.int c1), (.int (1 : Int32)), (.ref a10_), (.ref a10_)])) rfl rfl (Jvm.hb hby at_87) (fun T12_ h12_ W12_ V12_ w12_ => ?_)
    have A12_ := own_at w12_
    show own_WP p e _ below s Z _ n0 _ T12_ (mkF m 88 #[.val (.int i0), .val (.int i1), .val (.int i2), .val (.int i3), .val (.int i4), .val (.int (2 : Int32)), .val (.int c0), .val (.int c1), .val (.int c2), .val (.int c3), .unset, .unset, .unset] [(.ref a10_)])
    have E_12_ := own_extWr E_11_ W12_ ge10_
    refine own_by (T' := T12_) (g' := (mkF m 90 #[.val (.int i0), .val (.int i1), .val (.int i2), .val (.int i3), .val (.int i4), .val (.int (2 : Int32)), .val (.int c0), .val (.int c1), .val (.int c2), .val (.int c3), .val (.ref a10_), .unset, .unset] [])) (fun t_ hr_ => XS.astore A12_ hx rfl (Jvm.hb hby at_88) rfl rfl (l' := #[.val (.int i0), .val (.int i1), .val (.int i2), .val (.int i3), .val (.int i4), .val (.int (2 : Int32)), .val (.int c0), .val (.int c1), .val (.int c2), .val (.int c3), .val (.ref a10_), .unset, .unset]) rfl hr_) ?_
    refine own_by (T' := T12_) (g' := (mkF m 147 #[.val (.int i0), .val (.int i1), .val (.int i2), .val (.int i3), .val (.int i4), .val (.int (2 : Int32)), .val (.int c0), .val (.int c1), .val (.int c2), .val (.int c3), .val (.ref a10_), .unset, .unset] [])) (fun t_ hr_ => XS.goto A12_ hx rfl (pc0 := 90) (pc' := 147) rfl (Jvm.hb hby at_90) (by decide) (by decide) hr_) ?_
    refine own_new w12_ hx (hw _ (List.mem_of_getElem? (i := 3) rfl)) (hw _ (List.mem_of_getElem? (i := 4) rfl)) (hw _ (List.mem_of_getElem? (i := 5) rfl)) (g := (mkF m 147 #[.val (.int i0), .val (.int i1), .val (.int i2), .val (.int i3), .val (.int i4), .val (.int (2 : Int32)), .val (.int c0), .val (.int c1), .val (.int c2), .val (.int c3), .val (.ref a10_), .unset, .unset] [])) rfl (Jvm.hb hby at_147) (by decide) (by decide) (fun T13_ h13_ a13_ g13_ E13_ ⟨X13_, D13_⟩ w13_ => ?_)
    have A13_ := own_at w13_
    show own_WP p e _ below s Z _ n0 _ T13_ (mkF m 150 #[.val (.int i0), .val (.int i1), .val (.int i2), .val (.int i3), .val (.int i4), .val (.int (2 : Int32)), .val (.int c0), .val (.int c1), .val (.int c2), .val (.int c3), .val (.ref a10_), .unset, .unset] [(.ref a13_)])
    have R13_ : own_Raw Z h13_ a13_ := ⟨X13_, D13_ (Or.inr (hw _ (List.mem_of_getElem? (i := 18) rfl))) (ty := (.array .byte)) (by decide), D13_ (Or.inr (hw _ (List.mem_of_getElem? (i := 19) rfl))) (ty := .byte) (by decide)⟩
    have gn13_ : n0 ≤ a13_ := by rw [g13_]; exact own_n0 w12_
    refine own_by (T' := T13_) (g' := (mkF m 151 #[.val (.int i0), .val (.int i1), .val (.int i2), .val (.int i3), .val (.int i4), .val (.int (2 : Int32)), .val (.int c0), .val (.int c1), .val (.int c2), .val (.int c3), .val (.ref a10_), .unset, .unset] [(.ref a13_), (.ref a13_)])) (fun t_ hr_ => XS.dup A13_ hx rfl (Jvm.hb hby at_150) rfl rfl hr_) ?_
    refine own_by (T' := T13_) (g' := (mkF m 153 #[.val (.int i0), .val (.int i1), .val (.int i2), .val (.int i3), .val (.int i4), .val (.int (2 : Int32)), .val (.int c0), .val (.int c1), .val (.int c2), .val (.int c3), .val (.ref a10_), .unset, .unset] [(.ref a10_), (.ref a13_), (.ref a13_)])) (fun t_ hr_ => XS.aload A13_ hx rfl (Jvm.hb hby at_151) rfl rfl hr_) ?_
    refine own_callC w13_ hx (y := (⟨"java/lang/String", "<init>", "([C)V"⟩ : MethodName)) rfl (hw _ (List.mem_of_getElem? (i := 6) rfl)) (hw _ (List.mem_of_getElem? (i := 7) rfl)) (hw _ (List.mem_of_getElem? (i := 8) rfl)) (by decide) (kc := 2) (ks := 6) (a := a13_) (argsL := [(.ref a10_)]) (rest := [(.ref a13_)]) (own_payCt (W := 1) (ctNew1w2 l Z a0 hw SC US n0 h13_ (own_old w13_) a13_ a10_ k10_ c0 c1 R13_ (V12_.ext E13_) gn13_ r0 r1) w13_ (hw _ (List.mem_of_getElem? (i := 8) rfl)) (hw _ (List.mem_of_getElem? (i := 5) rfl)) hEL (by decide) (by decide)) (g := (mkF m 153 #[.val (.int i0), .val (.int i1), .val (.int i2), .val (.int i3), .val (.int i4), .val (.int (2 : Int32)), .val (.int c0), .val (.int c1), .val (.int c2), .val (.int c3), .val (.ref a10_), .unset, .unset] [(.ref a10_), (.ref a13_), (.ref a13_)])) rfl (by rw [hml]; rfl) (lenOf pd_985728288 rfl) rfl (by show 2 * 0 + _ ≤ _; exact Nat.le_of_eq rfl) (Jvm.hb hby at_153) (by decide) (by decide) (fun v15_ T15_ vm15_ h15_ q15_ C15_ w15_ => ?_)
    obtain ⟨rfl, K14_, SA14_⟩ := q15_
    have A15_ := own_at w15_
    show own_WP p e _ below s Z _ n0 _ T15_ (mkF m 156 #[.val (.int i0), .val (.int i1), .val (.int i2), .val (.int i3), .val (.int i4), .val (.int (2 : Int32)), .val (.int c0), .val (.int c1), .val (.int c2), .val (.int c3), .val (.ref a10_), .unset, .unset] [(.ref a13_)])
    have F_14_ := own_extK E13_ K14_ (allS (by rw [g13_]; exact Nat.le_refl _) all0)
    refine own_by (T' := T15_) (g' := (mkF m 158 #[.val (.int i0), .val (.int i1), .val (.int i2), .val (.int i3), .val (.int i4), .val (.int (2 : Int32)), .val (.int c0), .val (.int c1), .val (.int c2), .val (.int c3), .val (.ref a10_), .val (.ref a13_), .unset] [])) (fun t_ hr_ => XS.astore A15_ hx rfl (Jvm.hb hby at_156) rfl rfl (l' := #[.val (.int i0), .val (.int i1), .val (.int i2), .val (.int i3), .val (.int i4), .val (.int (2 : Int32)), .val (.int c0), .val (.int c1), .val (.int c2), .val (.int c3), .val (.ref a10_), .val (.ref a13_), .unset]) rfl hr_) ?_
    refine own_by (T' := T15_) (g' := (mkF m 160 #[.val (.int i0), .val (.int i1), .val (.int i2), .val (.int i3), .val (.int i4), .val (.int (2 : Int32)), .val (.int c0), .val (.int c1), .val (.int c2), .val (.int c3), .val (.ref a10_), .val (.ref a13_), .unset] [(.int (2 : Int32))])) (fun t_ hr_ => XS.iload A15_ hx rfl (Jvm.hb hby at_158) rfl hr_) ?_
    refine own_by (T' := T15_) (g' := (mkF m 163 #[.val (.int i0), .val (.int i1), .val (.int i2), .val (.int i3), .val (.int i4), .val (.int (2 : Int32)), .val (.int c0), .val (.int c1), .val (.int c2), .val (.int c3), .val (.ref a10_), .val (.ref a13_), .unset] [])) (fun t_ hr_ => XS.ifNo A15_ hx rfl (Jvm.hb hby at_160) rfl ((if0 _ _).trans (tlt (by decide)).2.2.2) hr_) ?_
    refine own_by (T' := T15_) (g' := (mkF m 165 #[.val (.int i0), .val (.int i1), .val (.int i2), .val (.int i3), .val (.int i4), .val (.int (2 : Int32)), .val (.int c0), .val (.int c1), .val (.int c2), .val (.int c3), .val (.ref a10_), .val (.ref a13_), .unset] [(.int c0)])) (fun t_ hr_ => XS.iload A15_ hx rfl (Jvm.hb hby at_163) rfl hr_) ?_
    refine own_by (T' := T15_) (g' := (mkF m 167 #[.val (.int i0), .val (.int i1), .val (.int i2), .val (.int i3), .val (.int i4), .val (.int (2 : Int32)), .val (.int c0), .val (.int c1), .val (.int c2), .val (.int c3), .val (.ref a10_), .val (.ref a13_), .unset] [(.int (124 : Int32)), (.int c0)])) (fun t_ hr_ => XS.bipush A15_ hx rfl (Jvm.hb hby at_165) hr_) ?_
    by_cases hx0 : c0 = (124 : Int32)
    · refine own_by (T' := T15_) (g' := (mkF m 209 #[.val (.int i0), .val (.int i1), .val (.int i2), .val (.int i3), .val (.int i4), .val (.int (2 : Int32)), .val (.int c0), .val (.int c1), .val (.int c2), .val (.int c3), .val (.ref a10_), .val (.ref a13_), .unset] [])) (fun t_ hr_ => XS.icmpYes A15_ hx rfl (pc0 := 167) (pc' := 209) rfl (Jvm.hb hby at_167) rfl (teq hx0).1 (by decide) (by decide) hr_) ?_
      refine own_by (T' := T15_) (g' := (mkF m 210 #[.val (.int i0), .val (.int i1), .val (.int i2), .val (.int i3), .val (.int i4), .val (.int (2 : Int32)), .val (.int c0), .val (.int c1), .val (.int c2), .val (.int c3), .val (.ref a10_), .val (.ref a13_), .unset] [(.int (1 : Int32))])) (fun t_ hr_ => XS.iconst A15_ hx rfl (Jvm.hb hby at_209) hr_) ?_
      refine own_by (T' := T15_) (g' := (mkF m 214 #[.val (.int i0), .val (.int i1), .val (.int i2), .val (.int i3), .val (.int i4), .val (.int (2 : Int32)), .val (.int c0), .val (.int c1), .val (.int c2), .val (.int c3), .val (.ref a10_), .val (.ref a13_), .unset] [(.int (1 : Int32))])) (fun t_ hr_ => XS.goto A15_ hx rfl (pc0 := 210) (pc' := 214) rfl (Jvm.hb hby at_210) (by decide) (by decide) hr_) ?_
      refine own_by (T' := T15_) (g' := (mkF m 216 #[.val (.int i0), .val (.int i1), .val (.int i2), .val (.int i3), .val (.int i4), .val (.int (2 : Int32)), .val (.int c0), .val (.int c1), .val (.int c2), .val (.int c3), .val (.ref a10_), .val (.ref a13_), .val (.int (1 : Int32))] [])) (fun t_ hr_ => XS.istore A15_ hx rfl (Jvm.hb hby at_214) rfl (l' := #[.val (.int i0), .val (.int i1), .val (.int i2), .val (.int i3), .val (.int i4), .val (.int (2 : Int32)), .val (.int c0), .val (.int c1), .val (.int c2), .val (.int c3), .val (.ref a10_), .val (.ref a13_), .val (.int (1 : Int32))]) rfl hr_) ?_
      exact J216 hw SC SF US hx hby hml hret hlk hnm i0 i1 i2 i3 i4 2 c0 c1 c2 c3 1 a10_ a13_ [c0, c1] (own_mono w15_ (by decide : 4 ≤ 9) (by decide : 12 ≤ 60)) SA14_ (by simp) (Or.inl ⟨rfl, by simp [hx0]⟩)
    · refine own_by (T' := T15_) (g' := (mkF m 170 #[.val (.int i0), .val (.int i1), .val (.int i2), .val (.int i3), .val (.int i4), .val (.int (2 : Int32)), .val (.int c0), .val (.int c1), .val (.int c2), .val (.int c3), .val (.ref a10_), .val (.ref a13_), .unset] [])) (fun t_ hr_ => XS.icmpNo A15_ hx rfl (Jvm.hb hby at_167) rfl (feq hx0).1 hr_) ?_
      refine own_by (T' := T15_) (g' := (mkF m 172 #[.val (.int i0), .val (.int i1), .val (.int i2), .val (.int i3), .val (.int i4), .val (.int (2 : Int32)), .val (.int c0), .val (.int c1), .val (.int c2), .val (.int c3), .val (.ref a10_), .val (.ref a13_), .unset] [(.int (2 : Int32))])) (fun t_ hr_ => XS.iload A15_ hx rfl (Jvm.hb hby at_170) rfl hr_) ?_
      refine own_by (T' := T15_) (g' := (mkF m 173 #[.val (.int i0), .val (.int i1), .val (.int i2), .val (.int i3), .val (.int i4), .val (.int (2 : Int32)), .val (.int c0), .val (.int c1), .val (.int c2), .val (.int c3), .val (.ref a10_), .val (.ref a13_), .unset] [(.int (1 : Int32)), (.int (2 : Int32))])) (fun t_ hr_ => XS.iconst A15_ hx rfl (Jvm.hb hby at_172) hr_) ?_
      refine own_by (T' := T15_) (g' := (mkF m 176 #[.val (.int i0), .val (.int i1), .val (.int i2), .val (.int i3), .val (.int i4), .val (.int (2 : Int32)), .val (.int c0), .val (.int c1), .val (.int c2), .val (.int c3), .val (.ref a10_), .val (.ref a13_), .unset] [])) (fun t_ hr_ => XS.icmpNo A15_ hx rfl (Jvm.hb hby at_173) rfl (tlt (by decide)).2.2.2 hr_) ?_
      refine own_by (T' := T15_) (g' := (mkF m 178 #[.val (.int i0), .val (.int i1), .val (.int i2), .val (.int i3), .val (.int i4), .val (.int (2 : Int32)), .val (.int c0), .val (.int c1), .val (.int c2), .val (.int c3), .val (.ref a10_), .val (.ref a13_), .unset] [(.int c1)])) (fun t_ hr_ => XS.iload A15_ hx rfl (Jvm.hb hby at_176) rfl hr_) ?_
      refine own_by (T' := T15_) (g' := (mkF m 180 #[.val (.int i0), .val (.int i1), .val (.int i2), .val (.int i3), .val (.int i4), .val (.int (2 : Int32)), .val (.int c0), .val (.int c1), .val (.int c2), .val (.int c3), .val (.ref a10_), .val (.ref a13_), .unset] [(.int (124 : Int32)), (.int c1)])) (fun t_ hr_ => XS.bipush A15_ hx rfl (Jvm.hb hby at_178) hr_) ?_
      by_cases hx1 : c1 = (124 : Int32)
      · refine own_by (T' := T15_) (g' := (mkF m 209 #[.val (.int i0), .val (.int i1), .val (.int i2), .val (.int i3), .val (.int i4), .val (.int (2 : Int32)), .val (.int c0), .val (.int c1), .val (.int c2), .val (.int c3), .val (.ref a10_), .val (.ref a13_), .unset] [])) (fun t_ hr_ => XS.icmpYes A15_ hx rfl (pc0 := 180) (pc' := 209) rfl (Jvm.hb hby at_180) rfl (teq hx1).1 (by decide) (by decide) hr_) ?_
        refine own_by (T' := T15_) (g' := (mkF m 210 #[.val (.int i0), .val (.int i1), .val (.int i2), .val (.int i3), .val (.int i4), .val (.int (2 : Int32)), .val (.int c0), .val (.int c1), .val (.int c2), .val (.int c3), .val (.ref a10_), .val (.ref a13_), .unset] [(.int (1 : Int32))])) (fun t_ hr_ => XS.iconst A15_ hx rfl (Jvm.hb hby at_209) hr_) ?_
        refine own_by (T' := T15_) (g' := (mkF m 214 #[.val (.int i0), .val (.int i1), .val (.int i2), .val (.int i3), .val (.int i4), .val (.int (2 : Int32)), .val (.int c0), .val (.int c1), .val (.int c2), .val (.int c3), .val (.ref a10_), .val (.ref a13_), .unset] [(.int (1 : Int32))])) (fun t_ hr_ => XS.goto A15_ hx rfl (pc0 := 210) (pc' := 214) rfl (Jvm.hb hby at_210) (by decide) (by decide) hr_) ?_
        refine own_by (T' := T15_) (g' := (mkF m 216 #[.val (.int i0), .val (.int i1), .val (.int i2), .val (.int i3), .val (.int i4), .val (.int (2 : Int32)), .val (.int c0), .val (.int c1), .val (.int c2), .val (.int c3), .val (.ref a10_), .val (.ref a13_), .val (.int (1 : Int32))] [])) (fun t_ hr_ => XS.istore A15_ hx rfl (Jvm.hb hby at_214) rfl (l' := #[.val (.int i0), .val (.int i1), .val (.int i2), .val (.int i3), .val (.int i4), .val (.int (2 : Int32)), .val (.int c0), .val (.int c1), .val (.int c2), .val (.int c3), .val (.ref a10_), .val (.ref a13_), .val (.int (1 : Int32))]) rfl hr_) ?_
        exact J216 hw SC SF US hx hby hml hret hlk hnm i0 i1 i2 i3 i4 2 c0 c1 c2 c3 1 a10_ a13_ [c0, c1] (own_mono w15_ (by decide : 4 ≤ 9) (by decide : 12 ≤ 60)) SA14_ (by simp) (Or.inl ⟨rfl, by simp [hx1]⟩)
      · refine own_by (T' := T15_) (g' := (mkF m 183 #[.val (.int i0), .val (.int i1), .val (.int i2), .val (.int i3), .val (.int i4), .val (.int (2 : Int32)), .val (.int c0), .val (.int c1), .val (.int c2), .val (.int c3), .val (.ref a10_), .val (.ref a13_), .unset] [])) (fun t_ hr_ => XS.icmpNo A15_ hx rfl (Jvm.hb hby at_180) rfl (feq hx1).1 hr_) ?_
        refine own_by (T' := T15_) (g' := (mkF m 185 #[.val (.int i0), .val (.int i1), .val (.int i2), .val (.int i3), .val (.int i4), .val (.int (2 : Int32)), .val (.int c0), .val (.int c1), .val (.int c2), .val (.int c3), .val (.ref a10_), .val (.ref a13_), .unset] [(.int (2 : Int32))])) (fun t_ hr_ => XS.iload A15_ hx rfl (Jvm.hb hby at_183) rfl hr_) ?_
        refine own_by (T' := T15_) (g' := (mkF m 186 #[.val (.int i0), .val (.int i1), .val (.int i2), .val (.int i3), .val (.int i4), .val (.int (2 : Int32)), .val (.int c0), .val (.int c1), .val (.int c2), .val (.int c3), .val (.ref a10_), .val (.ref a13_), .unset] [(.int (2 : Int32)), (.int (2 : Int32))])) (fun t_ hr_ => XS.iconst A15_ hx rfl (Jvm.hb hby at_185) hr_) ?_
        refine own_by (T' := T15_) (g' := (mkF m 196 #[.val (.int i0), .val (.int i1), .val (.int i2), .val (.int i3), .val (.int i4), .val (.int (2 : Int32)), .val (.int c0), .val (.int c1), .val (.int c2), .val (.int c3), .val (.ref a10_), .val (.ref a13_), .unset] [])) (fun t_ hr_ => XS.icmpYes A15_ hx rfl (pc0 := 186) (pc' := 196) rfl (Jvm.hb hby at_186) rfl (flt (by decide)).2.2.2 (by decide) (by decide) hr_) ?_
        refine own_by (T' := T15_) (g' := (mkF m 198 #[.val (.int i0), .val (.int i1), .val (.int i2), .val (.int i3), .val (.int i4), .val (.int (2 : Int32)), .val (.int c0), .val (.int c1), .val (.int c2), .val (.int c3), .val (.ref a10_), .val (.ref a13_), .unset] [(.int (2 : Int32))])) (fun t_ hr_ => XS.iload A15_ hx rfl (Jvm.hb hby at_196) rfl hr_) ?_
        refine own_by (T' := T15_) (g' := (mkF m 199 #[.val (.int i0), .val (.int i1), .val (.int i2), .val (.int i3), .val (.int i4), .val (.int (2 : Int32)), .val (.int c0), .val (.int c1), .val (.int c2), .val (.int c3), .val (.ref a10_), .val (.ref a13_), .unset] [(.int (3 : Int32)), (.int (2 : Int32))])) (fun t_ hr_ => XS.iconst A15_ hx rfl (Jvm.hb hby at_198) hr_) ?_
        refine own_by (T' := T15_) (g' := (mkF m 213 #[.val (.int i0), .val (.int i1), .val (.int i2), .val (.int i3), .val (.int i4), .val (.int (2 : Int32)), .val (.int c0), .val (.int c1), .val (.int c2), .val (.int c3), .val (.ref a10_), .val (.ref a13_), .unset] [])) (fun t_ hr_ => XS.icmpYes A15_ hx rfl (pc0 := 199) (pc' := 213) rfl (Jvm.hb hby at_199) rfl (flt (by decide)).2.2.2 (by decide) (by decide) hr_) ?_
        refine own_by (T' := T15_) (g' := (mkF m 214 #[.val (.int i0), .val (.int i1), .val (.int i2), .val (.int i3), .val (.int i4), .val (.int (2 : Int32)), .val (.int c0), .val (.int c1), .val (.int c2), .val (.int c3), .val (.ref a10_), .val (.ref a13_), .unset] [(.int (0 : Int32))])) (fun t_ hr_ => XS.iconst A15_ hx rfl (Jvm.hb hby at_213) hr_) ?_
        refine own_by (T' := T15_) (g' := (mkF m 216 #[.val (.int i0), .val (.int i1), .val (.int i2), .val (.int i3), .val (.int i4), .val (.int (2 : Int32)), .val (.int c0), .val (.int c1), .val (.int c2), .val (.int c3), .val (.ref a10_), .val (.ref a13_), .val (.int (0 : Int32))] [])) (fun t_ hr_ => XS.istore A15_ hx rfl (Jvm.hb hby at_214) rfl (l' := #[.val (.int i0), .val (.int i1), .val (.int i2), .val (.int i3), .val (.int i4), .val (.int (2 : Int32)), .val (.int c0), .val (.int c1), .val (.int c2), .val (.int c3), .val (.ref a10_), .val (.ref a13_), .val (.int (0 : Int32))]) rfl hr_) ?_
        exact J216 hw SC SF US hx hby hml hret hlk hnm i0 i1 i2 i3 i4 2 c0 c1 c2 c3 0 a10_ a13_ [c0, c1] (own_mono w15_ (by decide : 4 ≤ 9) (by decide : 12 ≤ 60)) SA14_ (by simp) (Or.inr ⟨rfl, fun q => by simp only [List.mem_cons, List.not_mem_nil, or_false] at q; rcases q with q | q; exact hx0 q.symm; exact hx1 q.symm⟩)
  · show own_WP p e _ below s Z _ n0 _ T0 (mkF m 39 #[.val (.int i0), .val (.int i1), .val (.int i2), .val (.int i3), .val (.int i4), .val (.int (3 : Int32)), .val (.int c0), .val (.int c1), .val (.int c2), .val (.int c3), .unset, .unset, .unset] [(.int (3 : Int32))])
    refine own_by (T' := T0) (g' := (mkF m 50 #[.val (.int i0), .val (.int i1), .val (.int i2), .val (.int i3), .val (.int i4), .val (.int (3 : Int32)), .val (.int c0), .val (.int c1), .val (.int c2), .val (.int c3), .unset, .unset, .unset] [])) (fun t_ hr_ => XS.ifYes A_0 hx rfl (pc0 := 39) (pc' := 50) rfl (Jvm.hb hby at_39) rfl ((if0 _ _).trans (feq (by decide)).2) (by decide) (by decide) hr_) ?_
    refine own_by (T' := T0) (g' := (mkF m 52 #[.val (.int i0), .val (.int i1), .val (.int i2), .val (.int i3), .val (.int i4), .val (.int (3 : Int32)), .val (.int c0), .val (.int c1), .val (.int c2), .val (.int c3), .unset, .unset, .unset] [(.int (3 : Int32))])) (fun t_ hr_ => XS.iload A_0 hx rfl (Jvm.hb hby at_50) rfl hr_) ?_
    refine own_by (T' := T0) (g' := (mkF m 53 #[.val (.int i0), .val (.int i1), .val (.int i2), .val (.int i3), .val (.int i4), .val (.int (3 : Int32)), .val (.int c0), .val (.int c1), .val (.int c2), .val (.int c3), .unset, .unset, .unset] [(.int (1 : Int32)), (.int (3 : Int32))])) (fun t_ hr_ => XS.iconst A_0 hx rfl (Jvm.hb hby at_52) hr_) ?_
    refine own_by (T' := T0) (g' := (mkF m 69 #[.val (.int i0), .val (.int i1), .val (.int i2), .val (.int i3), .val (.int i4), .val (.int (3 : Int32)), .val (.int c0), .val (.int c1), .val (.int c2), .val (.int c3), .unset, .unset, .unset] [])) (fun t_ hr_ => XS.icmpYes A_0 hx rfl (pc0 := 53) (pc' := 69) rfl (Jvm.hb hby at_53) rfl (feq (by decide)).2 (by decide) (by decide) hr_) ?_
    refine own_by (T' := T0) (g' := (mkF m 71 #[.val (.int i0), .val (.int i1), .val (.int i2), .val (.int i3), .val (.int i4), .val (.int (3 : Int32)), .val (.int c0), .val (.int c1), .val (.int c2), .val (.int c3), .unset, .unset, .unset] [(.int (3 : Int32))])) (fun t_ hr_ => XS.iload A_0 hx rfl (Jvm.hb hby at_69) rfl hr_) ?_
    refine own_by (T' := T0) (g' := (mkF m 72 #[.val (.int i0), .val (.int i1), .val (.int i2), .val (.int i3), .val (.int i4), .val (.int (3 : Int32)), .val (.int c0), .val (.int c1), .val (.int c2), .val (.int c3), .unset, .unset, .unset] [(.int (2 : Int32)), (.int (3 : Int32))])) (fun t_ hr_ => XS.iconst A_0 hx rfl (Jvm.hb hby at_71) hr_) ?_
    refine own_by (T' := T0) (g' := (mkF m 93 #[.val (.int i0), .val (.int i1), .val (.int i2), .val (.int i3), .val (.int i4), .val (.int (3 : Int32)), .val (.int c0), .val (.int c1), .val (.int c2), .val (.int c3), .unset, .unset, .unset] [])) (fun t_ hr_ => XS.icmpYes A_0 hx rfl (pc0 := 72) (pc' := 93) rfl (Jvm.hb hby at_72) rfl (feq (by decide)).2 (by decide) (by decide) hr_) ?_
    refine own_by (T' := T0) (g' := (mkF m 95 #[.val (.int i0), .val (.int i1), .val (.int i2), .val (.int i3), .val (.int i4), .val (.int (3 : Int32)), .val (.int c0), .val (.int c1), .val (.int c2), .val (.int c3), .unset, .unset, .unset] [(.int (3 : Int32))])) (fun t_ hr_ => XS.iload A_0 hx rfl (Jvm.hb hby at_93) rfl hr_) ?_
    refine own_by (T' := T0) (g' := (mkF m 96 #[.val (.int i0), .val (.int i1), .val (.int i2), .val (.int i3), .val (.int i4), .val (.int (3 : Int32)), .val (.int c0), .val (.int c1), .val (.int c2), .val (.int c3), .unset, .unset, .unset] [(.int (3 : Int32)), (.int (3 : Int32))])) (fun t_ hr_ => XS.iconst A_0 hx rfl (Jvm.hb hby at_95) hr_) ?_
    refine own_by (T' := T0) (g' := (mkF m 99 #[.val (.int i0), .val (.int i1), .val (.int i2), .val (.int i3), .val (.int i4), .val (.int (3 : Int32)), .val (.int c0), .val (.int c1), .val (.int c2), .val (.int c3), .unset, .unset, .unset] [])) (fun t_ hr_ => XS.icmpNo A_0 hx rfl (Jvm.hb hby at_96) rfl (teq (by decide)).2 hr_) ?_
    refine own_by (T' := T0) (g' := (mkF m 100 #[.val (.int i0), .val (.int i1), .val (.int i2), .val (.int i3), .val (.int i4), .val (.int (3 : Int32)), .val (.int c0), .val (.int c1), .val (.int c2), .val (.int c3), .unset, .unset, .unset] [(.int (3 : Int32))])) (fun t_ hr_ => XS.iconst A_0 hx rfl (Jvm.hb hby at_99) hr_) ?_
    refine own_newP w0 hx (hw _ (List.mem_of_getElem? (i := 2) rfl)) (g := (mkF m 100 #[.val (.int i0), .val (.int i1), .val (.int i2), .val (.int i3), .val (.int i4), .val (.int (3 : Int32)), .val (.int c0), .val (.int c1), .val (.int c2), .val (.int c3), .unset, .unset, .unset] [(.int (3 : Int32))])) rfl (Jvm.hb hby at_100) rfl (by decide) (cap := 3) (by decide) (by decide) (by decide) (by decide) (fun T16_ h16_ a16_ k16_ g16_ E16_ V16_ w16_ => ?_)
    have A16_ := own_at w16_
    show own_WP p e _ below s Z _ n0 _ T16_ (mkF m 102 #[.val (.int i0), .val (.int i1), .val (.int i2), .val (.int i3), .val (.int i4), .val (.int (3 : Int32)), .val (.int c0), .val (.int c1), .val (.int c2), .val (.int c3), .unset, .unset, .unset] [(.ref a16_)])
    have gn16_ : n0 ≤ a16_ := by rw [g16_]; exact own_n0 w0
    have ge16_ : h0.size ≤ a16_ := by rw [g16_]; exact Nat.le_refl _
    have U16_ : Arv Z h16_ a16_ k16_ .char (3 : Int32) [(.int (0 : Int32)), (.int (0 : Int32)), (.int (0 : Int32))] (.int 0) := V16_.pad (vs' := [(.int (0 : Int32)), (.int (0 : Int32)), (.int (0 : Int32))]) (fun i => pad_rep [] (.int (0 : Int32)) 3 i)
    refine own_by (T' := T16_) (g' := (mkF m 103 #[.val (.int i0), .val (.int i1), .val (.int i2), .val (.int i3), .val (.int i4), .val (.int (3 : Int32)), .val (.int c0), .val (.int c1), .val (.int c2), .val (.int c3), .unset, .unset, .unset] [(.ref a16_), (.ref a16_)])) (fun t_ hr_ => XS.dup A16_ hx rfl (Jvm.hb hby at_102) rfl rfl hr_) ?_
    refine own_by (T' := T16_) (g' := (mkF m 104 #[.val (.int i0), .val (.int i1), .val (.int i2), .val (.int i3), .val (.int i4), .val (.int (3 : Int32)), .val (.int c0), .val (.int c1), .val (.int c2), .val (.int c3), .unset, .unset, .unset] [(.int (0 : Int32)), (.ref a16_), (.ref a16_)])) (fun t_ hr_ => XS.iconst A16_ hx rfl (Jvm.hb hby at_103) hr_) ?_
    refine own_by (T' := T16_) (g' := (mkF m 106 #[.val (.int i0), .val (.int i1), .val (.int i2), .val (.int i3), .val (.int i4), .val (.int (3 : Int32)), .val (.int c0), .val (.int c1), .val (.int c2), .val (.int c3), .unset, .unset, .unset] [(.int c0), (.int (0 : Int32)), (.ref a16_), (.ref a16_)])) (fun t_ hr_ => XS.iload A16_ hx rfl (Jvm.hb hby at_104) rfl hr_) ?_
    refine own_castore w16_ hx U16_ (by decide) r0 (i := 0) rfl (by simp) gn16_ (g := (mkF m 106 #[.val (.int i0), .val (.int i1), .val (.int i2), .val (.int i3), .val (.int i4), .val (.int (3 : Int32)), .val (.int c0), .val (.int c1), .val (.int c2), .val (.int c3), .unset, .unset, .unset] [(.int c0), (.int (0 : Int32)), (.ref a16_), (.ref a16_)])) rfl rfl (Jvm.hb hby at_106) (fun T17_ h17_ W17_ V17_ w17_ => ?_)
    have A17_ := own_at w17_
    show own_WP p e _ below s Z _ n0 _ T17_ (mkF m 107 #[.val (.int i0), .val (.int i1), .val (.int i2), .val (.int i3), .val (.int i4), .val (.int (3 : Int32)), .val (.int c0), .val (.int c1), .val (.int c2), .val (.int c3), .unset, .unset, .unset] [(.ref a16_)])
    have E_17_ := own_extWr E16_ W17_ ge16_
    refine own_by (T' := T17_) (g' := (mkF m 108 #[.val (.int i0), .val (.int i1), .val (.int i2), .val (.int i3), .val (.int i4), .val (.int (3 : Int32)), .val (.int c0), .val (.int c1), .val (.int c2), .val (.int c3), .unset, .unset, .unset] [(.ref a16_), (.ref a16_)])) (fun t_ hr_ => XS.dup A17_ hx rfl (Jvm.hb hby at_107) rfl rfl hr_) ?_
    refine own_by (T' := T17_) (g' := (mkF m 109 #[.val (.int i0), .val (.int i1), .val (.int i2), .val (.int i3), .val (.int i4), .val (.int (3 : Int32)), .val (.int c0), .val (.int c1), .val (.int c2), .val (.int c3), .unset, .unset, .unset] [(.int (1 : Int32)), (.ref a16_), (.ref a16_)])) (fun t_ hr_ => XS.iconst A17_ hx rfl (Jvm.hb hby at_108) hr_) ?_
    refine own_by (T' := T17_) (g' := (mkF m 111 #[.val (.int i0), .val (.int i1), .val (.int i2), .val (.int i3), .val (.int i4), .val (.int (3 : Int32)), .val (.int c0), .val (.int c1), .val (.int c2), .val (.int c3), .unset, .unset, .unset] [(.int c1), (.int (1 : Int32)), (.ref a16_), (.ref a16_)])) (fun t_ hr_ => XS.iload A17_ hx rfl (Jvm.hb hby at_109) rfl hr_) ?_
    refine own_castore w17_ hx V17_ (by decide) r1 (i := 1) rfl (by simp) gn16_ (g := (mkF m 111 #[.val (.int i0), .val (.int i1), .val (.int i2), .val (.int i3), .val (.int i4), .val (.int (3 : Int32)), .val (.int c0), .val (.int c1), .val (.int c2), .val (.int c3), .unset, .unset, .unset] [(.int c1), (.int (1 : Int32)), (.ref a16_), (.ref a16_)])) rfl rfl (Jvm.hb hby at_111) (fun T18_ h18_ W18_ V18_ w18_ => ?_)
    have A18_ := own_at w18_
    show own_WP p e _ below s Z _ n0 _ T18_ (mkF m 112 #[.val (.int i0), .val (.int i1), .val (.int i2), .val (.int i3), .val (.int i4), .val (.int (3 : Int32)), .val (.int c0), .val (.int c1), .val (.int c2), .val (.int c3), .unset, .unset, .unset] [(.ref a16_)])
    have E_18_ := own_extWr E_17_ W18_ ge16_
    refine own_by (T' := T18_) (g' := (mkF m 113 #[.val (.int i0), .val (.int i1), .val (.int i2), .val (.int i3), .val (.int i4), .val (.int (3 : Int32)), .val (.int c0), .val (.int c1), .val (.int c2), .val (.int c3), .unset, .unset, .unset] [(.ref a16_), (.ref a16_)])) (fun t_ hr_ => XS.dup A18_ hx rfl (Jvm.hb hby at_112) rfl rfl hr_) ?_
    refine own_by (T' := T18_) (g' := (mkF m 114 #[.val (.int i0), .val (.int i1), .val (.int i2), .val (.int i3), .val (.int i4), .val (.int (3 : Int32)), .val (.int c0), .val (.int c1), .val (.int c2), .val (.int c3), .unset, .unset, .unset] [(.int (2 : Int32)), (.ref a16_), (.ref a16_)])) (fun t_ hr_ => XS.iconst A18_ hx rfl (Jvm.hb hby at_113) hr_) ?_
    refine own_by (T' := T18_) (g' := (mkF m 116 #[.val (.int i0), .val (.int i1), .val (.int i2), .val (.int i3), .val (.int i4), .val (.int (3 : Int32)), .val (.int c0), .val (.int c1), .val (.int c2), .val (.int c3), .unset, .unset, .unset] [(.int c2), (.int (2 : Int32)), (.ref a16_), (.ref a16_)])) (fun t_ hr_ => XS.iload A18_ hx rfl (Jvm.hb hby at_114) rfl hr_) ?_
    refine own_castore w18_ hx V18_ (by decide) r2 (i := 2) rfl (by simp) gn16_ (g := (mkF m 116 #[.val (.int i0), .val (.int i1), .val (.int i2), .val (.int i3), .val (.int i4), .val (.int (3 : Int32)), .val (.int c0), .val (.int c1), .val (.int c2), .val (.int c3), .unset, .unset, .unset] [(.int c2), (.int (2 : Int32)), (.ref a16_), (.ref a16_)])) rfl rfl (Jvm.hb hby at_116) (fun T19_ h19_ W19_ V19_ w19_ => ?_)
    have A19_ := own_at w19_
    show own_WP p e _ below s Z _ n0 _ T19_ (mkF m 117 #[.val (.int i0), .val (.int i1), .val (.int i2), .val (.int i3), .val (.int i4), .val (.int (3 : Int32)), .val (.int c0), .val (.int c1), .val (.int c2), .val (.int c3), .unset, .unset, .unset] [(.ref a16_)])
    have E_19_ := own_extWr E_18_ W19_ ge16_
    refine own_by (T' := T19_) (g' := (mkF m 119 #[.val (.int i0), .val (.int i1), .val (.int i2), .val (.int i3), .val (.int i4), .val (.int (3 : Int32)), .val (.int c0), .val (.int c1), .val (.int c2), .val (.int c3), .val (.ref a16_), .unset, .unset] [])) (fun t_ hr_ => XS.astore A19_ hx rfl (Jvm.hb hby at_117) rfl rfl (l' := #[.val (.int i0), .val (.int i1), .val (.int i2), .val (.int i3), .val (.int i4), .val (.int (3 : Int32)), .val (.int c0), .val (.int c1), .val (.int c2), .val (.int c3), .val (.ref a16_), .unset, .unset]) rfl hr_) ?_
    refine own_by (T' := T19_) (g' := (mkF m 147 #[.val (.int i0), .val (.int i1), .val (.int i2), .val (.int i3), .val (.int i4), .val (.int (3 : Int32)), .val (.int c0), .val (.int c1), .val (.int c2), .val (.int c3), .val (.ref a16_), .unset, .unset] [])) (fun t_ hr_ => XS.goto A19_ hx rfl (pc0 := 119) (pc' := 147) rfl (Jvm.hb hby at_119) (by decide) (by decide) hr_) ?_
    refine own_new w19_ hx (hw _ (List.mem_of_getElem? (i := 3) rfl)) (hw _ (List.mem_of_getElem? (i := 4) rfl)) (hw _ (List.mem_of_getElem? (i := 5) rfl)) (g := (mkF m 147 #[.val (.int i0), .val (.int i1), .val (.int i2), .val (.int i3), .val (.int i4), .val (.int (3 : Int32)), .val (.int c0), .val (.int c1), .val (.int c2), .val (.int c3), .val (.ref a16_), .unset, .unset] [])) rfl (Jvm.hb hby at_147) (by decide) (by decide) (fun T20_ h20_ a20_ g20_ E20_ ⟨X20_, D20_⟩ w20_ => ?_)
    have A20_ := own_at w20_
    show own_WP p e _ below s Z _ n0 _ T20_ (mkF m 150 #[.val (.int i0), .val (.int i1), .val (.int i2), .val (.int i3), .val (.int i4), .val (.int (3 : Int32)), .val (.int c0), .val (.int c1), .val (.int c2), .val (.int c3), .val (.ref a16_), .unset, .unset] [(.ref a20_)])
    have R20_ : own_Raw Z h20_ a20_ := ⟨X20_, D20_ (Or.inr (hw _ (List.mem_of_getElem? (i := 18) rfl))) (ty := (.array .byte)) (by decide), D20_ (Or.inr (hw _ (List.mem_of_getElem? (i := 19) rfl))) (ty := .byte) (by decide)⟩
    have gn20_ : n0 ≤ a20_ := by rw [g20_]; exact own_n0 w19_
    refine own_by (T' := T20_) (g' := (mkF m 151 #[.val (.int i0), .val (.int i1), .val (.int i2), .val (.int i3), .val (.int i4), .val (.int (3 : Int32)), .val (.int c0), .val (.int c1), .val (.int c2), .val (.int c3), .val (.ref a16_), .unset, .unset] [(.ref a20_), (.ref a20_)])) (fun t_ hr_ => XS.dup A20_ hx rfl (Jvm.hb hby at_150) rfl rfl hr_) ?_
    refine own_by (T' := T20_) (g' := (mkF m 153 #[.val (.int i0), .val (.int i1), .val (.int i2), .val (.int i3), .val (.int i4), .val (.int (3 : Int32)), .val (.int c0), .val (.int c1), .val (.int c2), .val (.int c3), .val (.ref a16_), .unset, .unset] [(.ref a16_), (.ref a20_), (.ref a20_)])) (fun t_ hr_ => XS.aload A20_ hx rfl (Jvm.hb hby at_151) rfl rfl hr_) ?_
    refine own_callC w20_ hx (y := (⟨"java/lang/String", "<init>", "([C)V"⟩ : MethodName)) rfl (hw _ (List.mem_of_getElem? (i := 6) rfl)) (hw _ (List.mem_of_getElem? (i := 7) rfl)) (hw _ (List.mem_of_getElem? (i := 8) rfl)) (by decide) (kc := 2) (ks := 9) (a := a20_) (argsL := [(.ref a16_)]) (rest := [(.ref a20_)]) (own_payCt (W := 1) (ctNew1w3 l Z a0 hw SC US n0 h20_ (own_old w20_) a20_ a16_ k16_ c0 c1 c2 R20_ (V19_.ext E20_) gn20_ r0 r1 r2) w20_ (hw _ (List.mem_of_getElem? (i := 8) rfl)) (hw _ (List.mem_of_getElem? (i := 5) rfl)) hEL (by decide) (by decide)) (g := (mkF m 153 #[.val (.int i0), .val (.int i1), .val (.int i2), .val (.int i3), .val (.int i4), .val (.int (3 : Int32)), .val (.int c0), .val (.int c1), .val (.int c2), .val (.int c3), .val (.ref a16_), .unset, .unset] [(.ref a16_), (.ref a20_), (.ref a20_)])) rfl (by rw [hml]; rfl) (lenOf pd_985728288 rfl) rfl (by show 2 * 0 + _ ≤ _; exact Nat.le_of_eq rfl) (Jvm.hb hby at_153) (by decide) (by decide) (fun v22_ T22_ vm22_ h22_ q22_ C22_ w22_ => ?_)
    obtain ⟨rfl, K21_, SA21_⟩ := q22_
    have A22_ := own_at w22_
    show own_WP p e _ below s Z _ n0 _ T22_ (mkF m 156 #[.val (.int i0), .val (.int i1), .val (.int i2), .val (.int i3), .val (.int i4), .val (.int (3 : Int32)), .val (.int c0), .val (.int c1), .val (.int c2), .val (.int c3), .val (.ref a16_), .unset, .unset] [(.ref a20_)])
    have F_21_ := own_extK E20_ K21_ (allS (by rw [g20_]; exact Nat.le_refl _) all0)
    refine own_by (T' := T22_) (g' := (mkF m 158 #[.val (.int i0), .val (.int i1), .val (.int i2), .val (.int i3), .val (.int i4), .val (.int (3 : Int32)), .val (.int c0), .val (.int c1), .val (.int c2), .val (.int c3), .val (.ref a16_), .val (.ref a20_), .unset] [])) (fun t_ hr_ => XS.astore A22_ hx rfl (Jvm.hb hby at_156) rfl rfl (l' := #[.val (.int i0), .val (.int i1), .val (.int i2), .val (.int i3), .val (.int i4), .val (.int (3 : Int32)), .val (.int c0), .val (.int c1), .val (.int c2), .val (.int c3), .val (.ref a16_), .val (.ref a20_), .unset]) rfl hr_) ?_
    refine own_by (T' := T22_) (g' := (mkF m 160 #[.val (.int i0), .val (.int i1), .val (.int i2), .val (.int i3), .val (.int i4), .val (.int (3 : Int32)), .val (.int c0), .val (.int c1), .val (.int c2), .val (.int c3), .val (.ref a16_), .val (.ref a20_), .unset] [(.int (3 : Int32))])) (fun t_ hr_ => XS.iload A22_ hx rfl (Jvm.hb hby at_158) rfl hr_) ?_
    refine own_by (T' := T22_) (g' := (mkF m 163 #[.val (.int i0), .val (.int i1), .val (.int i2), .val (.int i3), .val (.int i4), .val (.int (3 : Int32)), .val (.int c0), .val (.int c1), .val (.int c2), .val (.int c3), .val (.ref a16_), .val (.ref a20_), .unset] [])) (fun t_ hr_ => XS.ifNo A22_ hx rfl (Jvm.hb hby at_160) rfl ((if0 _ _).trans (tlt (by decide)).2.2.2) hr_) ?_
    refine own_by (T' := T22_) (g' := (mkF m 165 #[.val (.int i0), .val (.int i1), .val (.int i2), .val (.int i3), .val (.int i4), .val (.int (3 : Int32)), .val (.int c0), .val (.int c1), .val (.int c2), .val (.int c3), .val (.ref a16_), .val (.ref a20_), .unset] [(.int c0)])) (fun t_ hr_ => XS.iload A22_ hx rfl (Jvm.hb hby at_163) rfl hr_) ?_
    refine own_by (T' := T22_) (g' := (mkF m 167 #[.val (.int i0), .val (.int i1), .val (.int i2), .val (.int i3), .val (.int i4), .val (.int (3 : Int32)), .val (.int c0), .val (.int c1), .val (.int c2), .val (.int c3), .val (.ref a16_), .val (.ref a20_), .unset] [(.int (124 : Int32)), (.int c0)])) (fun t_ hr_ => XS.bipush A22_ hx rfl (Jvm.hb hby at_165) hr_) ?_
    by_cases hx0 : c0 = (124 : Int32)
    · refine own_by (T' := T22_) (g' := (mkF m 209 #[.val (.int i0), .val (.int i1), .val (.int i2), .val (.int i3), .val (.int i4), .val (.int (3 : Int32)), .val (.int c0), .val (.int c1), .val (.int c2), .val (.int c3), .val (.ref a16_), .val (.ref a20_), .unset] [])) (fun t_ hr_ => XS.icmpYes A22_ hx rfl (pc0 := 167) (pc' := 209) rfl (Jvm.hb hby at_167) rfl (teq hx0).1 (by decide) (by decide) hr_) ?_
      refine own_by (T' := T22_) (g' := (mkF m 210 #[.val (.int i0), .val (.int i1), .val (.int i2), .val (.int i3), .val (.int i4), .val (.int (3 : Int32)), .val (.int c0), .val (.int c1), .val (.int c2), .val (.int c3), .val (.ref a16_), .val (.ref a20_), .unset] [(.int (1 : Int32))])) (fun t_ hr_ => XS.iconst A22_ hx rfl (Jvm.hb hby at_209) hr_) ?_
      refine own_by (T' := T22_) (g' := (mkF m 214 #[.val (.int i0), .val (.int i1), .val (.int i2), .val (.int i3), .val (.int i4), .val (.int (3 : Int32)), .val (.int c0), .val (.int c1), .val (.int c2), .val (.int c3), .val (.ref a16_), .val (.ref a20_), .unset] [(.int (1 : Int32))])) (fun t_ hr_ => XS.goto A22_ hx rfl (pc0 := 210) (pc' := 214) rfl (Jvm.hb hby at_210) (by decide) (by decide) hr_) ?_
      refine own_by (T' := T22_) (g' := (mkF m 216 #[.val (.int i0), .val (.int i1), .val (.int i2), .val (.int i3), .val (.int i4), .val (.int (3 : Int32)), .val (.int c0), .val (.int c1), .val (.int c2), .val (.int c3), .val (.ref a16_), .val (.ref a20_), .val (.int (1 : Int32))] [])) (fun t_ hr_ => XS.istore A22_ hx rfl (Jvm.hb hby at_214) rfl (l' := #[.val (.int i0), .val (.int i1), .val (.int i2), .val (.int i3), .val (.int i4), .val (.int (3 : Int32)), .val (.int c0), .val (.int c1), .val (.int c2), .val (.int c3), .val (.ref a16_), .val (.ref a20_), .val (.int (1 : Int32))]) rfl hr_) ?_
      exact J216 hw SC SF US hx hby hml hret hlk hnm i0 i1 i2 i3 i4 3 c0 c1 c2 c3 1 a16_ a20_ [c0, c1, c2] (own_mono w22_ (by decide : 4 ≤ 9) (by decide : 16 ≤ 60)) SA21_ (by simp) (Or.inl ⟨rfl, by simp [hx0]⟩)
    · refine own_by (T' := T22_) (g' := (mkF m 170 #[.val (.int i0), .val (.int i1), .val (.int i2), .val (.int i3), .val (.int i4), .val (.int (3 : Int32)), .val (.int c0), .val (.int c1), .val (.int c2), .val (.int c3), .val (.ref a16_), .val (.ref a20_), .unset] [])) (fun t_ hr_ => XS.icmpNo A22_ hx rfl (Jvm.hb hby at_167) rfl (feq hx0).1 hr_) ?_
      refine own_by (T' := T22_) (g' := (mkF m 172 #[.val (.int i0), .val (.int i1), .val (.int i2), .val (.int i3), .val (.int i4), .val (.int (3 : Int32)), .val (.int c0), .val (.int c1), .val (.int c2), .val (.int c3), .val (.ref a16_), .val (.ref a20_), .unset] [(.int (3 : Int32))])) (fun t_ hr_ => XS.iload A22_ hx rfl (Jvm.hb hby at_170) rfl hr_) ?_
      refine own_by (T' := T22_) (g' := (mkF m 173 #[.val (.int i0), .val (.int i1), .val (.int i2), .val (.int i3), .val (.int i4), .val (.int (3 : Int32)), .val (.int c0), .val (.int c1), .val (.int c2), .val (.int c3), .val (.ref a16_), .val (.ref a20_), .unset] [(.int (1 : Int32)), (.int (3 : Int32))])) (fun t_ hr_ => XS.iconst A22_ hx rfl (Jvm.hb hby at_172) hr_) ?_
      refine own_by (T' := T22_) (g' := (mkF m 176 #[.val (.int i0), .val (.int i1), .val (.int i2), .val (.int i3), .val (.int i4), .val (.int (3 : Int32)), .val (.int c0), .val (.int c1), .val (.int c2), .val (.int c3), .val (.ref a16_), .val (.ref a20_), .unset] [])) (fun t_ hr_ => XS.icmpNo A22_ hx rfl (Jvm.hb hby at_173) rfl (tlt (by decide)).2.2.2 hr_) ?_
      refine own_by (T' := T22_) (g' := (mkF m 178 #[.val (.int i0), .val (.int i1), .val (.int i2), .val (.int i3), .val (.int i4), .val (.int (3 : Int32)), .val (.int c0), .val (.int c1), .val (.int c2), .val (.int c3), .val (.ref a16_), .val (.ref a20_), .unset] [(.int c1)])) (fun t_ hr_ => XS.iload A22_ hx rfl (Jvm.hb hby at_176) rfl hr_) ?_
      refine own_by (T' := T22_) (g' := (mkF m 180 #[.val (.int i0), .val (.int i1), .val (.int i2), .val (.int i3), .val (.int i4), .val (.int (3 : Int32)), .val (.int c0), .val (.int c1), .val (.int c2), .val (.int c3), .val (.ref a16_), .val (.ref a20_), .unset] [(.int (124 : Int32)), (.int c1)])) (fun t_ hr_ => XS.bipush A22_ hx rfl (Jvm.hb hby at_178) hr_) ?_
      by_cases hx1 : c1 = (124 : Int32)
      · refine own_by (T' := T22_) (g' := (mkF m 209 #[.val (.int i0), .val (.int i1), .val (.int i2), .val (.int i3), .val (.int i4), .val (.int (3 : Int32)), .val (.int c0), .val (.int c1), .val (.int c2), .val (.int c3), .val (.ref a16_), .val (.ref a20_), .unset] [])) (fun t_ hr_ => XS.icmpYes A22_ hx rfl (pc0 := 180) (pc' := 209) rfl (Jvm.hb hby at_180) rfl (teq hx1).1 (by decide) (by decide) hr_) ?_
        refine own_by (T' := T22_) (g' := (mkF m 210 #[.val (.int i0), .val (.int i1), .val (.int i2), .val (.int i3), .val (.int i4), .val (.int (3 : Int32)), .val (.int c0), .val (.int c1), .val (.int c2), .val (.int c3), .val (.ref a16_), .val (.ref a20_), .unset] [(.int (1 : Int32))])) (fun t_ hr_ => XS.iconst A22_ hx rfl (Jvm.hb hby at_209) hr_) ?_
        refine own_by (T' := T22_) (g' := (mkF m 214 #[.val (.int i0), .val (.int i1), .val (.int i2), .val (.int i3), .val (.int i4), .val (.int (3 : Int32)), .val (.int c0), .val (.int c1), .val (.int c2), .val (.int c3), .val (.ref a16_), .val (.ref a20_), .unset] [(.int (1 : Int32))])) (fun t_ hr_ => XS.goto A22_ hx rfl (pc0 := 210) (pc' := 214) rfl (Jvm.hb hby at_210) (by decide) (by decide) hr_) ?_
        refine own_by (T' := T22_) (g' := (mkF m 216 #[.val (.int i0), .val (.int i1), .val (.int i2), .val (.int i3), .val (.int i4), .val (.int (3 : Int32)), .val (.int c0), .val (.int c1), .val (.int c2), .val (.int c3), .val (.ref a16_), .val (.ref a20_), .val (.int (1 : Int32))] [])) (fun t_ hr_ => XS.istore A22_ hx rfl (Jvm.hb hby at_214) rfl (l' := #[.val (.int i0), .val (.int i1), .val (.int i2), .val (.int i3), .val (.int i4), .val (.int (3 : Int32)), .val (.int c0), .val (.int c1), .val (.int c2), .val (.int c3), .val (.ref a16_), .val (.ref a20_), .val (.int (1 : Int32))]) rfl hr_) ?_
        exact J216 hw SC SF US hx hby hml hret hlk hnm i0 i1 i2 i3 i4 3 c0 c1 c2 c3 1 a16_ a20_ [c0, c1, c2] (own_mono w22_ (by decide : 4 ≤ 9) (by decide : 16 ≤ 60)) SA21_ (by simp) (Or.inl ⟨rfl, by simp [hx1]⟩)
      · refine own_by (T' := T22_) (g' := (mkF m 183 #[.val (.int i0), .val (.int i1), .val (.int i2), .val (.int i3), .val (.int i4), .val (.int (3 : Int32)), .val (.int c0), .val (.int c1), .val (.int c2), .val (.int c3), .val (.ref a16_), .val (.ref a20_), .unset] [])) (fun t_ hr_ => XS.icmpNo A22_ hx rfl (Jvm.hb hby at_180) rfl (feq hx1).1 hr_) ?_
        refine own_by (T' := T22_) (g' := (mkF m 185 #[.val (.int i0), .val (.int i1), .val (.int i2), .val (.int i3), .val (.int i4), .val (.int (3 : Int32)), .val (.int c0), .val (.int c1), .val (.int c2), .val (.int c3), .val (.ref a16_), .val (.ref a20_), .unset] [(.int (3 : Int32))])) (fun t_ hr_ => XS.iload A22_ hx rfl (Jvm.hb hby at_183) rfl hr_) ?_
        refine own_by (T' := T22_) (g' := (mkF m 186 #[.val (.int i0), .val (.int i1), .val (.int i2), .val (.int i3), .val (.int i4), .val (.int (3 : Int32)), .val (.int c0), .val (.int c1), .val (.int c2), .val (.int c3), .val (.ref a16_), .val (.ref a20_), .unset] [(.int (2 : Int32)), (.int (3 : Int32))])) (fun t_ hr_ => XS.iconst A22_ hx rfl (Jvm.hb hby at_185) hr_) ?_
        refine own_by (T' := T22_) (g' := (mkF m 189 #[.val (.int i0), .val (.int i1), .val (.int i2), .val (.int i3), .val (.int i4), .val (.int (3 : Int32)), .val (.int c0), .val (.int c1), .val (.int c2), .val (.int c3), .val (.ref a16_), .val (.ref a20_), .unset] [])) (fun t_ hr_ => XS.icmpNo A22_ hx rfl (Jvm.hb hby at_186) rfl (tlt (by decide)).2.2.2 hr_) ?_
        refine own_by (T' := T22_) (g' := (mkF m 191 #[.val (.int i0), .val (.int i1), .val (.int i2), .val (.int i3), .val (.int i4), .val (.int (3 : Int32)), .val (.int c0), .val (.int c1), .val (.int c2), .val (.int c3), .val (.ref a16_), .val (.ref a20_), .unset] [(.int c2)])) (fun t_ hr_ => XS.iload A22_ hx rfl (Jvm.hb hby at_189) rfl hr_) ?_
        refine own_by (T' := T22_) (g' := (mkF m 193 #[.val (.int i0), .val (.int i1), .val (.int i2), .val (.int i3), .val (.int i4), .val (.int (3 : Int32)), .val (.int c0), .val (.int c1), .val (.int c2), .val (.int c3), .val (.ref a16_), .val (.ref a20_), .unset] [(.int (124 : Int32)), (.int c2)])) (fun t_ hr_ => XS.bipush A22_ hx rfl (Jvm.hb hby at_191) hr_) ?_
        by_cases hx2 : c2 = (124 : Int32)
        · refine own_by (T' := T22_) (g' := (mkF m 209 #[.val (.int i0), .val (.int i1), .val (.int i2), .val (.int i3), .val (.int i4), .val (.int (3 : Int32)), .val (.int c0), .val (.int c1), .val (.int c2), .val (.int c3), .val (.ref a16_), .val (.ref a20_), .unset] [])) (fun t_ hr_ => XS.icmpYes A22_ hx rfl (pc0 := 193) (pc' := 209) rfl (Jvm.hb hby at_193) rfl (teq hx2).1 (by decide) (by decide) hr_) ?_
          refine own_by (T' := T22_) (g' := (mkF m 210 #[.val (.int i0), .val (.int i1), .val (.int i2), .val (.int i3), .val (.int i4), .val (.int (3 : Int32)), .val (.int c0), .val (.int c1), .val (.int c2), .val (.int c3), .val (.ref a16_), .val (.ref a20_), .unset] [(.int (1 : Int32))])) (fun t_ hr_ => XS.iconst A22_ hx rfl (Jvm.hb hby at_209) hr_) ?_
          refine own_by (T' := T22_) (g' := (mkF m 214 #[.val (.int i0), .val (.int i1), .val (.int i2), .val (.int i3), .val (.int i4), .val (.int (3 : Int32)), .val (.int c0), .val (.int c1), .val (.int c2), .val (.int c3), .val (.ref a16_), .val (.ref a20_), .unset] [(.int (1 : Int32))])) (fun t_ hr_ => XS.goto A22_ hx rfl (pc0 := 210) (pc' := 214) rfl (Jvm.hb hby at_210) (by decide) (by decide) hr_) ?_
          refine own_by (T' := T22_) (g' := (mkF m 216 #[.val (.int i0), .val (.int i1), .val (.int i2), .val (.int i3), .val (.int i4), .val (.int (3 : Int32)), .val (.int c0), .val (.int c1), .val (.int c2), .val (.int c3), .val (.ref a16_), .val (.ref a20_), .val (.int (1 : Int32))] [])) (fun t_ hr_ => XS.istore A22_ hx rfl (Jvm.hb hby at_214) rfl (l' := #[.val (.int i0), .val (.int i1), .val (.int i2), .val (.int i3), .val (.int i4), .val (.int (3 : Int32)), .val (.int c0), .val (.int c1), .val (.int c2), .val (.int c3), .val (.ref a16_), .val (.ref a20_), .val (.int (1 : Int32))]) rfl hr_) ?_
          exact J216 hw SC SF US hx hby hml hret hlk hnm i0 i1 i2 i3 i4 3 c0 c1 c2 c3 1 a16_ a20_ [c0, c1, c2] (own_mono w22_ (by decide : 4 ≤ 9) (by decide : 16 ≤ 60)) SA21_ (by simp) (Or.inl ⟨rfl, by simp [hx2]⟩)
        · refine own_by (T' := T22_) (g' := (mkF m 196 #[.val (.int i0), .val (.int i1), .val (.int i2), .val (.int i3), .val (.int i4), .val (.int (3 : Int32)), .val (.int c0), .val (.int c1), .val (.int c2), .val (.int c3), .val (.ref a16_), .val (.ref a20_), .unset] [])) (fun t_ hr_ => XS.icmpNo A22_ hx rfl (Jvm.hb hby at_193) rfl (feq hx2).1 hr_) ?_
          refine own_by (T' := T22_) (g' := (mkF m 198 #[.val (.int i0), .val (.int i1), .val (.int i2), .val (.int i3), .val (.int i4), .val (.int (3 : Int32)), .val (.int c0), .val (.int c1), .val (.int c2), .val (.int c3), .val (.ref a16_), .val (.ref a20_), .unset] [(.int (3 : Int32))])) (fun t_ hr_ => XS.iload A22_ hx rfl (Jvm.hb hby at_196) rfl hr_) ?_
          refine own_by (T' := T22_) (g' := (mkF m 199 #[.val (.int i0), .val (.int i1), .val (.int i2), .val (.int i3), .val (.int i4), .val (.int (3 : Int32)), .val (.int c0), .val (.int c1), .val (.int c2), .val (.int c3), .val (.ref a16_), .val (.ref a20_), .unset] [(.int (3 : Int32)), (.int (3 : Int32))])) (fun t_ hr_ => XS.iconst A22_ hx rfl (Jvm.hb hby at_198) hr_) ?_
          refine own_by (T' := T22_) (g' := (mkF m 213 #[.val (.int i0), .val (.int i1), .val (.int i2), .val (.int i3), .val (.int i4), .val (.int (3 : Int32)), .val (.int c0), .val (.int c1), .val (.int c2), .val (.int c3), .val (.ref a16_), .val (.ref a20_), .unset] [])) (fun t_ hr_ => XS.icmpYes A22_ hx rfl (pc0 := 199) (pc' := 213) rfl (Jvm.hb hby at_199) rfl (flt (by decide)).2.2.2 (by decide) (by decide) hr_) ?_
          refine own_by (T' := T22_) (g' := (mkF m 214 #[.val (.int i0), .val (.int i1), .val (.int i2), .val (.int i3), .val (.int i4), .val (.int (3 : Int32)), .val (.int c0), .val (.int c1), .val (.int c2), .val (.int c3), .val (.ref a16_), .val (.ref a20_), .unset] [(.int (0 : Int32))])) (fun t_ hr_ => XS.iconst A22_ hx rfl (Jvm.hb hby at_213) hr_) ?_
          refine own_by (T' := T22_) (g' := (mkF m 216 #[.val (.int i0), .val (.int i1), .val (.int i2), .val (.int i3), .val (.int i4), .val (.int (3 : Int32)), .val (.int c0), .val (.int c1), .val (.int c2), .val (.int c3), .val (.ref a16_), .val (.ref a20_), .val (.int (0 : Int32))] [])) (fun t_ hr_ => XS.istore A22_ hx rfl (Jvm.hb hby at_214) rfl (l' := #[.val (.int i0), .val (.int i1), .val (.int i2), .val (.int i3), .val (.int i4), .val (.int (3 : Int32)), .val (.int c0), .val (.int c1), .val (.int c2), .val (.int c3), .val (.ref a16_), .val (.ref a20_), .val (.int (0 : Int32))]) rfl hr_) ?_
          exact J216 hw SC SF US hx hby hml hret hlk hnm i0 i1 i2 i3 i4 3 c0 c1 c2 c3 0 a16_ a20_ [c0, c1, c2] (own_mono w22_ (by decide : 4 ≤ 9) (by decide : 16 ≤ 60)) SA21_ (by simp) (Or.inr ⟨rfl, fun q => by simp only [List.mem_cons, List.not_mem_nil, or_false] at q; rcases q with q | q | q; exact hx0 q.symm; exact hx1 q.symm; exact hx2 q.symm⟩)
  · show own_WP p e _ below s Z _ n0 _ T0 (mkF m 39 #[.val (.int i0), .val (.int i1), .val (.int i2), .val (.int i3), .val (.int i4), .val (.int (4 : Int32)), .val (.int c0), .val (.int c1), .val (.int c2), .val (.int c3), .unset, .unset, .unset] [(.int (4 : Int32))])
    refine own_by (T' := T0) (g' := (mkF m 50 #[.val (.int i0), .val (.int i1), .val (.int i2), .val (.int i3), .val (.int i4), .val (.int (4 : Int32)), .val (.int c0), .val (.int c1), .val (.int c2), .val (.int c3), .unset, .unset, .unset] [])) (fun t_ hr_ => XS.ifYes A_0 hx rfl (pc0 := 39) (pc' := 50) rfl (Jvm.hb hby at_39) rfl ((if0 _ _).trans (feq (by decide)).2) (by decide) (by decide) hr_) ?_
    refine own_by (T' := T0) (g' := (mkF m 52 #[.val (.int i0), .val (.int i1), .val (.int i2), .val (.int i3), .val (.int i4), .val (.int (4 : Int32)), .val (.int c0), .val (.int c1), .val (.int c2), .val (.int c3), .unset, .unset, .unset] [(.int (4 : Int32))])) (fun t_ hr_ => XS.iload A_0 hx rfl (Jvm.hb hby at_50) rfl hr_) ?_
    refine own_by (T' := T0) (g' := (mkF m 53 #[.val (.int i0), .val (.int i1), .val (.int i2), .val (.int i3), .val (.int i4), .val (.int (4 : Int32)), .val (.int c0), .val (.int c1), .val (.int c2), .val (.int c3), .unset, .unset, .unset] [(.int (1 : Int32)), (.int (4 : Int32))])) (fun t_ hr_ => XS.iconst A_0 hx rfl (Jvm.hb hby at_52) hr_) ?_
    refine own_by (T' := T0) (g' := (mkF m 69 #[.val (.int i0), .val (.int i1), .val (.int i2), .val (.int i3), .val (.int i4), .val (.int (4 : Int32)), .val (.int c0), .val (.int c1), .val (.int c2), .val (.int c3), .unset, .unset, .unset] [])) (fun t_ hr_ => XS.icmpYes A_0 hx rfl (pc0 := 53) (pc' := 69) rfl (Jvm.hb hby at_53) rfl (feq (by decide)).2 (by decide) (by decide) hr_) ?_
    refine own_by (T' := T0) (g' := (mkF m 71 #[.val (.int i0), .val (.int i1), .val (.int i2), .val (.int i3), .val (.int i4), .val (.int (4 : Int32)), .val (.int c0), .val (.int c1), .val (.int c2), .val (.int c3), .unset, .unset, .unset] [(.int (4 : Int32))])) (fun t_ hr_ => XS.iload A_0 hx rfl (Jvm.hb hby at_69) rfl hr_) ?_
    refine own_by (T' := T0) (g' := (mkF m 72 #[.val (.int i0), .val (.int i1), .val (.int i2), .val (.int i3), .val (.int i4), .val (.int (4 : Int32)), .val (.int c0), .val (.int c1), .val (.int c2), .val (.int c3), .unset, .unset, .unset] [(.int (2 : Int32)), (.int (4 : Int32))])) (fun t_ hr_ => XS.iconst A_0 hx rfl (Jvm.hb hby at_71) hr_) ?_
    refine own_by (T' := T0) (g' := (mkF m 93 #[.val (.int i0), .val (.int i1), .val (.int i2), .val (.int i3), .val (.int i4), .val (.int (4 : Int32)), .val (.int c0), .val (.int c1), .val (.int c2), .val (.int c3), .unset, .unset, .unset] [])) (fun t_ hr_ => XS.icmpYes A_0 hx rfl (pc0 := 72) (pc' := 93) rfl (Jvm.hb hby at_72) rfl (feq (by decide)).2 (by decide) (by decide) hr_) ?_
    refine own_by (T' := T0) (g' := (mkF m 95 #[.val (.int i0), .val (.int i1), .val (.int i2), .val (.int i3), .val (.int i4), .val (.int (4 : Int32)), .val (.int c0), .val (.int c1), .val (.int c2), .val (.int c3), .unset, .unset, .unset] [(.int (4 : Int32))])) (fun t_ hr_ => XS.iload A_0 hx rfl (Jvm.hb hby at_93) rfl hr_) ?_
    refine own_by (T' := T0) (g' := (mkF m 96 #[.val (.int i0), .val (.int i1), .val (.int i2), .val (.int i3), .val (.int i4), .val (.int (4 : Int32)), .val (.int c0), .val (.int c1), .val (.int c2), .val (.int c3), .unset, .unset, .unset] [(.int (3 : Int32)), (.int (4 : Int32))])) (fun t_ hr_ => XS.iconst A_0 hx rfl (Jvm.hb hby at_95) hr_) ?_
    refine own_by (T' := T0) (g' := (mkF m 122 #[.val (.int i0), .val (.int i1), .val (.int i2), .val (.int i3), .val (.int i4), .val (.int (4 : Int32)), .val (.int c0), .val (.int c1), .val (.int c2), .val (.int c3), .unset, .unset, .unset] [])) (fun t_ hr_ => XS.icmpYes A_0 hx rfl (pc0 := 96) (pc' := 122) rfl (Jvm.hb hby at_96) rfl (feq (by decide)).2 (by decide) (by decide) hr_) ?_
    refine own_by (T' := T0) (g' := (mkF m 123 #[.val (.int i0), .val (.int i1), .val (.int i2), .val (.int i3), .val (.int i4), .val (.int (4 : Int32)), .val (.int c0), .val (.int c1), .val (.int c2), .val (.int c3), .unset, .unset, .unset] [(.int (4 : Int32))])) (fun t_ hr_ => XS.iconst A_0 hx rfl (Jvm.hb hby at_122) hr_) ?_
    refine own_newP w0 hx (hw _ (List.mem_of_getElem? (i := 2) rfl)) (g := (mkF m 123 #[.val (.int i0), .val (.int i1), .val (.int i2), .val (.int i3), .val (.int i4), .val (.int (4 : Int32)), .val (.int c0), .val (.int c1), .val (.int c2), .val (.int c3), .unset, .unset, .unset] [(.int (4 : Int32))])) rfl (Jvm.hb hby at_123) rfl (by decide) (cap := 4) (by decide) (by decide) (by decide) (by decide) (fun T23_ h23_ a23_ k23_ g23_ E23_ V23_ w23_ => ?_)
    have A23_ := own_at w23_
    show own_WP p e _ below s Z _ n0 _ T23_ (mkF m 125 #[.val (.int i0), .val (.int i1), .val (.int i2), .val (.int i3), .val (.int i4), .val (.int (4 : Int32)), .val (.int c0), .val (.int c1), .val (.int c2), .val (.int c3), .unset, .unset, .unset] [(.ref a23_)])
    have gn23_ : n0 ≤ a23_ := by rw [g23_]; exact own_n0 w0
    have ge23_ : h0.size ≤ a23_ := by rw [g23_]; exact Nat.le_refl _
    have U23_ : Arv Z h23_ a23_ k23_ .char (4 : Int32) [(.int (0 : Int32)), (.int (0 : Int32)), (.int (0 : Int32)), (.int (0 : Int32))] (.int 0) := V23_.pad (vs' := [(.int (0 : Int32)), (.int (0 : Int32)), (.int (0 : Int32)), (.int (0 : Int32))]) (fun i => pad_rep [] (.int (0 : Int32)) 4 i)
    refine own_by (T' := T23_) (g' := (mkF m 126 #[.val (.int i0), .val (.int i1), .val (.int i2), .val (.int i3), .val (.int i4), .val (.int (4 : Int32)), .val (.int c0), .val (.int c1), .val (.int c2), .val (.int c3), .unset, .unset, .unset] [(.ref a23_), (.ref a23_)])) (fun t_ hr_ => XS.dup A23_ hx rfl (Jvm.hb hby at_125) rfl rfl hr_) ?_
    refine own_by (T' := T23_) (g' := (mkF m 127 #[.val (.int i0), .val (.int i1), .val (.int i2), .val (.int i3), .val (.int i4), .val (.int (4 : Int32)), .val (.int c0), .val (.int c1), .val (.int c2), .val (.int c3), .unset, .unset, .unset] [(.int (0 : Int32)), (.ref a23_), (.ref a23_)])) (fun t_ hr_ => XS.iconst A23_ hx rfl (Jvm.hb hby at_126) hr_) ?_
    refine own_by (T' := T23_) (g' := (mkF m 129 #[.val (.int i0), .val (.int i1), .val (.int i2), .val (.int i3), .val (.int i4), .val (.int (4 : Int32)), .val (.int c0), .val (.int c1), .val (.int c2), .val (.int c3), .unset, .unset, .unset] [(.int c0), (.int (0 : Int32)), (.ref a23_), (.ref a23_)])) (fun t_ hr_ => XS.iload A23_ hx rfl (Jvm.hb hby at_127) rfl hr_) ?_
    refine own_castore w23_ hx U23_ (by decide) r0 (i := 0) rfl (by simp) gn23_ (g := (mkF m 129 #[.val (.int i0), .val (.int i1), .val (.int i2), .val (.int i3), .val (.int i4), .val (.int (4 : Int32)), .val (.int c0), .val (.int c1), .val (.int c2), .val (.int c3), .unset, .unset, .unset] [(.int c0), (.int (0 : Int32)), (.ref a23_), (.ref a23_)])) rfl rfl (Jvm.hb hby at_129) (fun T24_ h24_ W24_ V24_ w24_ => ?_)
    have A24_ := own_at w24_
    show own_WP p e _ below s Z _ n0 _ T24_ (mkF m 130 #[.val (.int i0), .val (.int i1), .val (.int i2), .val (.int i3), .val (.int i4), .val (.int (4 : Int32)), .val (.int c0), .val (.int c1), .val (.int c2), .val (.int c3), .unset, .unset, .unset] [(.ref a23_)])
    have E_24_ := own_extWr E23_ W24_ ge23_
    refine own_by (T' := T24_) (g' := (mkF m 131 #[.val (.int i0), .val (.int i1), .val (.int i2), .val (.int i3), .val (.int i4), .val (.int (4 : Int32)), .val (.int c0), .val (.int c1), .val (.int c2), .val (.int c3), .unset, .unset, .unset] [(.ref a23_), (.ref a23_)])) (fun t_ hr_ => XS.dup A24_ hx rfl (Jvm.hb hby at_130) rfl rfl hr_) ?_
    refine own_by (T' := T24_) (g' := (mkF m 132 #[.val (.int i0), .val (.int i1), .val (.int i2), .val (.int i3), .val (.int i4), .val (.int (4 : Int32)), .val (.int c0), .val (.int c1), .val (.int c2), .val (.int c3), .unset, .unset, .unset] [(.int (1 : Int32)), (.ref a23_), (.ref a23_)])) (fun t_ hr_ => XS.iconst A24_ hx rfl (Jvm.hb hby at_131) hr_) ?_
    refine own_by (T' := T24_) (g' := (mkF m 134 #[.val (.int i0), .val (.int i1), .val (.int i2), .val (.int i3), .val (.int i4), .val (.int (4 : Int32)), .val (.int c0), .val (.int c1), .val (.int c2), .val (.int c3), .unset, .unset, .unset] [(.int c1), (.int (1 : Int32)), (.ref a23_), (.ref a23_)])) (fun t_ hr_ => XS.iload A24_ hx rfl (Jvm.hb hby at_132) rfl hr_) ?_
    refine own_castore w24_ hx V24_ (by decide) r1 (i := 1) rfl (by simp) gn23_ (g := (mkF m 134 #[.val (.int i0), .val (.int i1), .val (.int i2), .val (.int i3), .val (.int i4), .val (.int (4 : Int32)), .val (.int c0), .val (.int c1), .val (.int c2), .val (.int c3), .unset, .unset, .unset] [(.int c1), (.int (1 : Int32)), (.ref a23_), (.ref a23_)])) rfl rfl (Jvm.hb hby at_134) (fun T25_ h25_ W25_ V25_ w25_ => ?_)
    have A25_ := own_at w25_
    show own_WP p e _ below s Z _ n0 _ T25_ (mkF m 135 #[.val (.int i0), .val (.int i1), .val (.int i2), .val (.int i3), .val (.int i4), .val (.int (4 : Int32)), .val (.int c0), .val (.int c1), .val (.int c2), .val (.int c3), .unset, .unset, .unset] [(.ref a23_)])
    have E_25_ := own_extWr E_24_ W25_ ge23_
    refine own_by (T' := T25_) (g' := (mkF m 136 #[.val (.int i0), .val (.int i1), .val (.int i2), .val (.int i3), .val (.int i4), .val (.int (4 : Int32)), .val (.int c0), .val (.int c1), .val (.int c2), .val (.int c3), .unset, .unset, .unset] [(.ref a23_), (.ref a23_)])) (fun t_ hr_ => XS.dup A25_ hx rfl (Jvm.hb hby at_135) rfl rfl hr_) ?_
    refine own_by (T' := T25_) (g' := (mkF m 137 #[.val (.int i0), .val (.int i1), .val (.int i2), .val (.int i3), .val (.int i4), .val (.int (4 : Int32)), .val (.int c0), .val (.int c1), .val (.int c2), .val (.int c3), .unset, .unset, .unset] [(.int (2 : Int32)), (.ref a23_), (.ref a23_)])) (fun t_ hr_ => XS.iconst A25_ hx rfl (Jvm.hb hby at_136) hr_) ?_
    refine own_by (T' := T25_) (g' := (mkF m 139 #[.val (.int i0), .val (.int i1), .val (.int i2), .val (.int i3), .val (.int i4), .val (.int (4 : Int32)), .val (.int c0), .val (.int c1), .val (.int c2), .val (.int c3), .unset, .unset, .unset] [(.int c2), (.int (2 : Int32)), (.ref a23_), (.ref a23_)])) (fun t_ hr_ => XS.iload A25_ hx rfl (Jvm.hb hby at_137) rfl hr_) ?_
    refine own_castore w25_ hx V25_ (by decide) r2 (i := 2) rfl (by simp) gn23_ (g := (mkF m 139 #[.val (.int i0), .val (.int i1), .val (.int i2), .val (.int i3), .val (.int i4), .val (.int (4 : Int32)), .val (.int c0), .val (.int c1), .val (.int c2), .val (.int c3), .unset, .unset, .unset] [(.int c2), (.int (2 : Int32)), (.ref a23_), (.ref a23_)])) rfl rfl (Jvm.hb hby at_139) (fun T26_ h26_ W26_ V26_ w26_ => ?_)
    have A26_ := own_at w26_
    show own_WP p e _ below s Z _ n0 _ T26_ (mkF m 140 #[.val (.int i0), .val (.int i1), .val (.int i2), .val (.int i3), .val (.int i4), .val (.int (4 : Int32)), .val (.int c0), .val (.int c1), .val (.int c2), .val (.int c3), .unset, .unset, .unset] [(.ref a23_)])
    have E_26_ := own_extWr E_25_ W26_ ge23_
    refine own_by (T' := T26_) (g' := (mkF m 141 #[.val (.int i0), .val (.int i1), .val (.int i2), .val (.int i3), .val (.int i4), .val (.int (4 : Int32)), .val (.int c0), .val (.int c1), .val (.int c2), .val (.int c3), .unset, .unset, .unset] [(.ref a23_), (.ref a23_)])) (fun t_ hr_ => XS.dup A26_ hx rfl (Jvm.hb hby at_140) rfl rfl hr_) ?_
    refine own_by (T' := T26_) (g' := (mkF m 142 #[.val (.int i0), .val (.int i1), .val (.int i2), .val (.int i3), .val (.int i4), .val (.int (4 : Int32)), .val (.int c0), .val (.int c1), .val (.int c2), .val (.int c3), .unset, .unset, .unset] [(.int (3 : Int32)), (.ref a23_), (.ref a23_)])) (fun t_ hr_ => XS.iconst A26_ hx rfl (Jvm.hb hby at_141) hr_) ?_
    refine own_by (T' := T26_) (g' := (mkF m 144 #[.val (.int i0), .val (.int i1), .val (.int i2), .val (.int i3), .val (.int i4), .val (.int (4 : Int32)), .val (.int c0), .val (.int c1), .val (.int c2), .val (.int c3), .unset, .unset, .unset] [(.int c3), (.int (3 : Int32)), (.ref a23_), (.ref a23_)])) (fun t_ hr_ => XS.iload A26_ hx rfl (Jvm.hb hby at_142) rfl hr_) ?_
    refine own_castore w26_ hx V26_ (by decide) r3 (i := 3) rfl (by simp) gn23_ (g := (mkF m 144 #[.val (.int i0), .val (.int i1), .val (.int i2), .val (.int i3), .val (.int i4), .val (.int (4 : Int32)), .val (.int c0), .val (.int c1), .val (.int c2), .val (.int c3), .unset, .unset, .unset] [(.int c3), (.int (3 : Int32)), (.ref a23_), (.ref a23_)])) rfl rfl (Jvm.hb hby at_144) (fun T27_ h27_ W27_ V27_ w27_ => ?_)
    have A27_ := own_at w27_
    show own_WP p e _ below s Z _ n0 _ T27_ (mkF m 145 #[.val (.int i0), .val (.int i1), .val (.int i2), .val (.int i3), .val (.int i4), .val (.int (4 : Int32)), .val (.int c0), .val (.int c1), .val (.int c2), .val (.int c3), .unset, .unset, .unset] [(.ref a23_)])
    have E_27_ := own_extWr E_26_ W27_ ge23_
    refine own_by (T' := T27_) (g' := (mkF m 147 #[.val (.int i0), .val (.int i1), .val (.int i2), .val (.int i3), .val (.int i4), .val (.int (4 : Int32)), .val (.int c0), .val (.int c1), .val (.int c2), .val (.int c3), .val (.ref a23_), .unset, .unset] [])) (fun t_ hr_ => XS.astore A27_ hx rfl (Jvm.hb hby at_145) rfl rfl (l' := #[.val (.int i0), .val (.int i1), .val (.int i2), .val (.int i3), .val (.int i4), .val (.int (4 : Int32)), .val (.int c0), .val (.int c1), .val (.int c2), .val (.int c3), .val (.ref a23_), .unset, .unset]) rfl hr_) ?_
    refine own_new w27_ hx (hw _ (List.mem_of_getElem? (i := 3) rfl)) (hw _ (List.mem_of_getElem? (i := 4) rfl)) (hw _ (List.mem_of_getElem? (i := 5) rfl)) (g := (mkF m 147 #[.val (.int i0), .val (.int i1), .val (.int i2), .val (.int i3), .val (.int i4), .val (.int (4 : Int32)), .val (.int c0), .val (.int c1), .val (.int c2), .val (.int c3), .val (.ref a23_), .unset, .unset] [])) rfl (Jvm.hb hby at_147) (by decide) (by decide) (fun T28_ h28_ a28_ g28_ E28_ ⟨X28_, D28_⟩ w28_ => ?_)
    have A28_ := own_at w28_
    show own_WP p e _ below s Z _ n0 _ T28_ (mkF m 150 #[.val (.int i0), .val (.int i1), .val (.int i2), .val (.int i3), .val (.int i4), .val (.int (4 : Int32)), .val (.int c0), .val (.int c1), .val (.int c2), .val (.int c3), .val (.ref a23_), .unset, .unset] [(.ref a28_)])
    have R28_ : own_Raw Z h28_ a28_ := ⟨X28_, D28_ (Or.inr (hw _ (List.mem_of_getElem? (i := 18) rfl))) (ty := (.array .byte)) (by decide), D28_ (Or.inr (hw _ (List.mem_of_getElem? (i := 19) rfl))) (ty := .byte) (by decide)⟩
    have gn28_ : n0 ≤ a28_ := by rw [g28_]; exact own_n0 w27_
    refine own_by (T' := T28_) (g' := (mkF m 151 #[.val (.int i0), .val (.int i1), .val (.int i2), .val (.int i3), .val (.int i4), .val (.int (4 : Int32)), .val (.int c0), .val (.int c1), .val (.int c2), .val (.int c3), .val (.ref a23_), .unset, .unset] [(.ref a28_), (.ref a28_)])) (fun t_ hr_ => XS.dup A28_ hx rfl (Jvm.hb hby at_150) rfl rfl hr_) ?_
    refine own_by (T' := T28_) (g' := (mkF m 153 #[.val (.int i0), .val (.int i1), .val (.int i2), .val (.int i3), .val (.int i4), .val (.int (4 : Int32)), .val (.int c0), .val (.int c1), .val (.int c2), .val (.int c3), .val (.ref a23_), .unset, .unset] [(.ref a23_), (.ref a28_), (.ref a28_)])) (fun t_ hr_ => XS.aload A28_ hx rfl (Jvm.hb hby at_151) rfl rfl hr_) ?_
    refine own_callC w28_ hx (y := (⟨"java/lang/String", "<init>", "([C)V"⟩ : MethodName)) rfl (hw _ (List.mem_of_getElem? (i := 6) rfl)) (hw _ (List.mem_of_getElem? (i := 7) rfl)) (hw _ (List.mem_of_getElem? (i := 8) rfl)) (by decide) (kc := 2) (ks := 12) (a := a28_) (argsL := [(.ref a23_)]) (rest := [(.ref a28_)]) (own_payCt (W := 1) (ctNew1w4 l Z a0 hw SC US n0 h28_ (own_old w28_) a28_ a23_ k23_ c0 c1 c2 c3 R28_ (V27_.ext E28_) gn28_ r0 r1 r2 r3) w28_ (hw _ (List.mem_of_getElem? (i := 8) rfl)) (hw _ (List.mem_of_getElem? (i := 5) rfl)) hEL (by decide) (by decide)) (g := (mkF m 153 #[.val (.int i0), .val (.int i1), .val (.int i2), .val (.int i3), .val (.int i4), .val (.int (4 : Int32)), .val (.int c0), .val (.int c1), .val (.int c2), .val (.int c3), .val (.ref a23_), .unset, .unset] [(.ref a23_), (.ref a28_), (.ref a28_)])) rfl (by rw [hml]; rfl) (lenOf pd_985728288 rfl) rfl (by show 2 * 0 + _ ≤ _; exact Nat.le_of_eq rfl) (Jvm.hb hby at_153) (by decide) (by decide) (fun v30_ T30_ vm30_ h30_ q30_ C30_ w30_ => ?_)
    obtain ⟨rfl, K29_, SA29_⟩ := q30_
    have A30_ := own_at w30_
    show own_WP p e _ below s Z _ n0 _ T30_ (mkF m 156 #[.val (.int i0), .val (.int i1), .val (.int i2), .val (.int i3), .val (.int i4), .val (.int (4 : Int32)), .val (.int c0), .val (.int c1), .val (.int c2), .val (.int c3), .val (.ref a23_), .unset, .unset] [(.ref a28_)])
    have F_29_ := own_extK E28_ K29_ (allS (by rw [g28_]; exact Nat.le_refl _) all0)
    refine own_by (T' := T30_) (g' := (mkF m 158 #[.val (.int i0), .val (.int i1), .val (.int i2), .val (.int i3), .val (.int i4), .val (.int (4 : Int32)), .val (.int c0), .val (.int c1), .val (.int c2), .val (.int c3), .val (.ref a23_), .val (.ref a28_), .unset] [])) (fun t_ hr_ => XS.astore A30_ hx rfl (Jvm.hb hby at_156) rfl rfl (l' := #[.val (.int i0), .val (.int i1), .val (.int i2), .val (.int i3), .val (.int i4), .val (.int (4 : Int32)), .val (.int c0), .val (.int c1), .val (.int c2), .val (.int c3), .val (.ref a23_), .val (.ref a28_), .unset]) rfl hr_) ?_
    refine own_by (T' := T30_) (g' := (mkF m 160 #[.val (.int i0), .val (.int i1), .val (.int i2), .val (.int i3), .val (.int i4), .val (.int (4 : Int32)), .val (.int c0), .val (.int c1), .val (.int c2), .val (.int c3), .val (.ref a23_), .val (.ref a28_), .unset] [(.int (4 : Int32))])) (fun t_ hr_ => XS.iload A30_ hx rfl (Jvm.hb hby at_158) rfl hr_) ?_
    refine own_by (T' := T30_) (g' := (mkF m 163 #[.val (.int i0), .val (.int i1), .val (.int i2), .val (.int i3), .val (.int i4), .val (.int (4 : Int32)), .val (.int c0), .val (.int c1), .val (.int c2), .val (.int c3), .val (.ref a23_), .val (.ref a28_), .unset] [])) (fun t_ hr_ => XS.ifNo A30_ hx rfl (Jvm.hb hby at_160) rfl ((if0 _ _).trans (tlt (by decide)).2.2.2) hr_) ?_
    refine own_by (T' := T30_) (g' := (mkF m 165 #[.val (.int i0), .val (.int i1), .val (.int i2), .val (.int i3), .val (.int i4), .val (.int (4 : Int32)), .val (.int c0), .val (.int c1), .val (.int c2), .val (.int c3), .val (.ref a23_), .val (.ref a28_), .unset] [(.int c0)])) (fun t_ hr_ => XS.iload A30_ hx rfl (Jvm.hb hby at_163) rfl hr_) ?_
    refine own_by (T' := T30_) (g' := (mkF m 167 #[.val (.int i0), .val (.int i1), .val (.int i2), .val (.int i3), .val (.int i4), .val (.int (4 : Int32)), .val (.int c0), .val (.int c1), .val (.int c2), .val (.int c3), .val (.ref a23_), .val (.ref a28_), .unset] [(.int (124 : Int32)), (.int c0)])) (fun t_ hr_ => XS.bipush A30_ hx rfl (Jvm.hb hby at_165) hr_) ?_
    by_cases hx0 : c0 = (124 : Int32)
    · refine own_by (T' := T30_) (g' := (mkF m 209 #[.val (.int i0), .val (.int i1), .val (.int i2), .val (.int i3), .val (.int i4), .val (.int (4 : Int32)), .val (.int c0), .val (.int c1), .val (.int c2), .val (.int c3), .val (.ref a23_), .val (.ref a28_), .unset] [])) (fun t_ hr_ => XS.icmpYes A30_ hx rfl (pc0 := 167) (pc' := 209) rfl (Jvm.hb hby at_167) rfl (teq hx0).1 (by decide) (by decide) hr_) ?_
      refine own_by (T' := T30_) (g' := (mkF m 210 #[.val (.int i0), .val (.int i1), .val (.int i2), .val (.int i3), .val (.int i4), .val (.int (4 : Int32)), .val (.int c0), .val (.int c1), .val (.int c2), .val (.int c3), .val (.ref a23_), .val (.ref a28_), .unset] [(.int (1 : Int32))])) (fun t_ hr_ => XS.iconst A30_ hx rfl (Jvm.hb hby at_209) hr_) ?_
      refine own_by (T' := T30_) (g' := (mkF m 214 #[.val (.int i0), .val (.int i1), .val (.int i2), .val (.int i3), .val (.int i4), .val (.int (4 : Int32)), .val (.int c0), .val (.int c1), .val (.int c2), .val (.int c3), .val (.ref a23_), .val (.ref a28_), .unset] [(.int (1 : Int32))])) (fun t_ hr_ => XS.goto A30_ hx rfl (pc0 := 210) (pc' := 214) rfl (Jvm.hb hby at_210) (by decide) (by decide) hr_) ?_
      refine own_by (T' := T30_) (g' := (mkF m 216 #[.val (.int i0), .val (.int i1), .val (.int i2), .val (.int i3), .val (.int i4), .val (.int (4 : Int32)), .val (.int c0), .val (.int c1), .val (.int c2), .val (.int c3), .val (.ref a23_), .val (.ref a28_), .val (.int (1 : Int32))] [])) (fun t_ hr_ => XS.istore A30_ hx rfl (Jvm.hb hby at_214) rfl (l' := #[.val (.int i0), .val (.int i1), .val (.int i2), .val (.int i3), .val (.int i4), .val (.int (4 : Int32)), .val (.int c0), .val (.int c1), .val (.int c2), .val (.int c3), .val (.ref a23_), .val (.ref a28_), .val (.int (1 : Int32))]) rfl hr_) ?_
      exact J216 hw SC SF US hx hby hml hret hlk hnm i0 i1 i2 i3 i4 4 c0 c1 c2 c3 1 a23_ a28_ [c0, c1, c2, c3] (own_mono w30_ (by decide : 4 ≤ 9) (by decide : 20 ≤ 60)) SA29_ (by simp) (Or.inl ⟨rfl, by simp [hx0]⟩)
    · refine own_by (T' := T30_) (g' := (mkF m 170 #[.val (.int i0), .val (.int i1), .val (.int i2), .val (.int i3), .val (.int i4), .val (.int (4 : Int32)), .val (.int c0), .val (.int c1), .val (.int c2), .val (.int c3), .val (.ref a23_), .val (.ref a28_), .unset] [])) (fun t_ hr_ => XS.icmpNo A30_ hx rfl (Jvm.hb hby at_167) rfl (feq hx0).1 hr_) ?_
      refine own_by (T' := T30_) (g' := (mkF m 172 #[.val (.int i0), .val (.int i1), .val (.int i2), .val (.int i3), .val (.int i4), .val (.int (4 : Int32)), .val (.int c0), .val (.int c1), .val (.int c2), .val (.int c3), .val (.ref a23_), .val (.ref a28_), .unset] [(.int (4 : Int32))])) (fun t_ hr_ => XS.iload A30_ hx rfl (Jvm.hb hby at_170) rfl hr_) ?_
      refine own_by (T' := T30_) (g' := (mkF m 173 #[.val (.int i0), .val (.int i1), .val (.int i2), .val (.int i3), .val (.int i4), .val (.int (4 : Int32)), .val (.int c0), .val (.int c1), .val (.int c2), .val (.int c3), .val (.ref a23_), .val (.ref a28_), .unset] [(.int (1 : Int32)), (.int (4 : Int32))])) (fun t_ hr_ => XS.iconst A30_ hx rfl (Jvm.hb hby at_172) hr_) ?_
      refine own_by (T' := T30_) (g' := (mkF m 176 #[.val (.int i0), .val (.int i1), .val (.int i2), .val (.int i3), .val (.int i4), .val (.int (4 : Int32)), .val (.int c0), .val (.int c1), .val (.int c2), .val (.int c3), .val (.ref a23_), .val (.ref a28_), .unset] [])) (fun t_ hr_ => XS.icmpNo A30_ hx rfl (Jvm.hb hby at_173) rfl (tlt (by decide)).2.2.2 hr_) ?_
      refine own_by (T' := T30_) (g' := (mkF m 178 #[.val (.int i0), .val (.int i1), .val (.int i2), .val (.int i3), .val (.int i4), .val (.int (4 : Int32)), .val (.int c0), .val (.int c1), .val (.int c2), .val (.int c3), .val (.ref a23_), .val (.ref a28_), .unset] [(.int c1)])) (fun t_ hr_ => XS.iload A30_ hx rfl (Jvm.hb hby at_176) rfl hr_) ?_
      refine own_by (T' := T30_) (g' := (mkF m 180 #[.val (.int i0), .val (.int i1), .val (.int i2), .val (.int i3), .val (.int i4), .val (.int (4 : Int32)), .val (.int c0), .val (.int c1), .val (.int c2), .val (.int c3), .val (.ref a23_), .val (.ref a28_), .unset] [(.int (124 : Int32)), (.int c1)])) (fun t_ hr_ => XS.bipush A30_ hx rfl (Jvm.hb hby at_178) hr_) ?_
      by_cases hx1 : c1 = (124 : Int32)
      · refine own_by (T' := T30_) (g' := (mkF m 209 #[.val (.int i0), .val (.int i1), .val (.int i2), .val (.int i3), .val (.int i4), .val (.int (4 : Int32)), .val (.int c0), .val (.int c1), .val (.int c2), .val (.int c3), .val (.ref a23_), .val (.ref a28_), .unset] [])) (fun t_ hr_ => XS.icmpYes A30_ hx rfl (pc0 := 180) (pc' := 209) rfl (Jvm.hb hby at_180) rfl (teq hx1).1 (by decide) (by decide) hr_) ?_
        refine own_by (T' := T30_) (g' := (mkF m 210 #[.val (.int i0), .val (.int i1), .val (.int i2), .val (.int i3), .val (.int i4), .val (.int (4 : Int32)), .val (.int c0), .val (.int c1), .val (.int c2), .val (.int c3), .val (.ref a23_), .val (.ref a28_), .unset] [(.int (1 : Int32))])) (fun t_ hr_ => XS.iconst A30_ hx rfl (Jvm.hb hby at_209) hr_) ?_
        refine own_by (T' := T30_) (g' := (mkF m 214 #[.val (.int i0), .val (.int i1), .val (.int i2), .val (.int i3), .val (.int i4), .val (.int (4 : Int32)), .val (.int c0), .val (.int c1), .val (.int c2), .val (.int c3), .val (.ref a23_), .val (.ref a28_), .unset] [(.int (1 : Int32))])) (fun t_ hr_ => XS.goto A30_ hx rfl (pc0 := 210) (pc' := 214) rfl (Jvm.hb hby at_210) (by decide) (by decide) hr_) ?_
        refine own_by (T' := T30_) (g' := (mkF m 216 #[.val (.int i0), .val (.int i1), .val (.int i2), .val (.int i3), .val (.int i4), .val (.int (4 : Int32)), .val (.int c0), .val (.int c1), .val (.int c2), .val (.int c3), .val (.ref a23_), .val (.ref a28_), .val (.int (1 : Int32))] [])) (fun t_ hr_ => XS.istore A30_ hx rfl (Jvm.hb hby at_214) rfl (l' := #[.val (.int i0), .val (.int i1), .val (.int i2), .val (.int i3), .val (.int i4), .val (.int (4 : Int32)), .val (.int c0), .val (.int c1), .val (.int c2), .val (.int c3), .val (.ref a23_), .val (.ref a28_), .val (.int (1 : Int32))]) rfl hr_) ?_
        exact J216 hw SC SF US hx hby hml hret hlk hnm i0 i1 i2 i3 i4 4 c0 c1 c2 c3 1 a23_ a28_ [c0, c1, c2, c3] (own_mono w30_ (by decide : 4 ≤ 9) (by decide : 20 ≤ 60)) SA29_ (by simp) (Or.inl ⟨rfl, by simp [hx1]⟩)
      · refine own_by (T' := T30_) (g' := (mkF m 183 #[.val (.int i0), .val (.int i1), .val (.int i2), .val (.int i3), .val (.int i4), .val (.int (4 : Int32)), .val (.int c0), .val (.int c1), .val (.int c2), .val (.int c3), .val (.ref a23_), .val (.ref a28_), .unset] [])) (fun t_ hr_ => XS.icmpNo A30_ hx rfl (Jvm.hb hby at_180) rfl (feq hx1).1 hr_) ?_
        refine own_by (T' := T30_) (g' := (mkF m 185 #[.val (.int i0), .val (.int i1), .val (.int i2), .val (.int i3), .val (.int i4), .val (.int (4 : Int32)), .val (.int c0), .val (.int c1), .val (.int c2), .val (.int c3), .val (.ref a23_), .val (.ref a28_), .unset] [(.int (4 : Int32))])) (fun t_ hr_ => XS.iload A30_ hx rfl (Jvm.hb hby at_183) rfl hr_) ?_
        refine own_by (T' := T30_) (g' := (mkF m 186 #[.val (.int i0), .val (.int i1), .val (.int i2), .val (.int i3), .val (.int i4), .val (.int (4 : Int32)), .val (.int c0), .val (.int c1), .val (.int c2), .val (.int c3), .val (.ref a23_), .val (.ref a28_), .unset] [(.int (2 : Int32)), (.int (4 : Int32))])) (fun t_ hr_ => XS.iconst A30_ hx rfl (Jvm.hb hby at_185) hr_) ?_
        refine own_by (T' := T30_) (g' := (mkF m 189 #[.val (.int i0), .val (.int i1), .val (.int i2), .val (.int i3), .val (.int i4), .val (.int (4 : Int32)), .val (.int c0), .val (.int c1), .val (.int c2), .val (.int c3), .val (.ref a23_), .val (.ref a28_), .unset] [])) (fun t_ hr_ => XS.icmpNo A30_ hx rfl (Jvm.hb hby at_186) rfl (tlt (by decide)).2.2.2 hr_) ?_
        refine own_by (T' := T30_) (g' := (mkF m 191 #[.val (.int i0), .val (.int i1), .val (.int i2), .val (.int i3), .val (.int i4), .val (.int (4 : Int32)), .val (.int c0), .val (.int c1), .val (.int c2), .val (.int c3), .val (.ref a23_), .val (.ref a28_), .unset] [(.int c2)])) (fun t_ hr_ => XS.iload A30_ hx rfl (Jvm.hb hby at_189) rfl hr_) ?_
        refine own_by (T' := T30_) (g' := (mkF m 193 #[.val (.int i0), .val (.int i1), .val (.int i2), .val (.int i3), .val (.int i4), .val (.int (4 : Int32)), .val (.int c0), .val (.int c1), .val (.int c2), .val (.int c3), .val (.ref a23_), .val (.ref a28_), .unset] [(.int (124 : Int32)), (.int c2)])) (fun t_ hr_ => XS.bipush A30_ hx rfl (Jvm.hb hby at_191) hr_) ?_
        by_cases hx2 : c2 = (124 : Int32)
        · refine own_by (T' := T30_) (g' := (mkF m 209 #[.val (.int i0), .val (.int i1), .val (.int i2), .val (.int i3), .val (.int i4), .val (.int (4 : Int32)), .val (.int c0), .val (.int c1), .val (.int c2), .val (.int c3), .val (.ref a23_), .val (.ref a28_), .unset] [])) (fun t_ hr_ => XS.icmpYes A30_ hx rfl (pc0 := 193) (pc' := 209) rfl (Jvm.hb hby at_193) rfl (teq hx2).1 (by decide) (by decide) hr_) ?_
          refine own_by (T' := T30_) (g' := (mkF m 210 #[.val (.int i0), .val (.int i1), .val (.int i2), .val (.int i3), .val (.int i4), .val (.int (4 : Int32)), .val (.int c0), .val (.int c1), .val (.int c2), .val (.int c3), .val (.ref a23_), .val (.ref a28_), .unset] [(.int (1 : Int32))])) (fun t_ hr_ => XS.iconst A30_ hx rfl (Jvm.hb hby at_209) hr_) ?_
          refine own_by (T' := T30_) (g' := (mkF m 214 #[.val (.int i0), .val (.int i1), .val (.int i2), .val (.int i3), .val (.int i4), .val (.int (4 : Int32)), .val (.int c0), .val (.int c1), .val (.int c2), .val (.int c3), .val (.ref a23_), .val (.ref a28_), .unset] [(.int (1 : Int32))])) (fun t_ hr_ => XS.goto A30_ hx rfl (pc0 := 210) (pc' := 214) rfl (Jvm.hb hby at_210) (by decide) (by decide) hr_) ?_
          refine own_by (T' := T30_) (g' := (mkF m 216 #[.val (.int i0), .val (.int i1), .val (.int i2), .val (.int i3), .val (.int i4), .val (.int (4 : Int32)), .val (.int c0), .val (.int c1), .val (.int c2), .val (.int c3), .val (.ref a23_), .val (.ref a28_), .val (.int (1 : Int32))] [])) (fun t_ hr_ => XS.istore A30_ hx rfl (Jvm.hb hby at_214) rfl (l' := #[.val (.int i0), .val (.int i1), .val (.int i2), .val (.int i3), .val (.int i4), .val (.int (4 : Int32)), .val (.int c0), .val (.int c1), .val (.int c2), .val (.int c3), .val (.ref a23_), .val (.ref a28_), .val (.int (1 : Int32))]) rfl hr_) ?_
          exact J216 hw SC SF US hx hby hml hret hlk hnm i0 i1 i2 i3 i4 4 c0 c1 c2 c3 1 a23_ a28_ [c0, c1, c2, c3] (own_mono w30_ (by decide : 4 ≤ 9) (by decide : 20 ≤ 60)) SA29_ (by simp) (Or.inl ⟨rfl, by simp [hx2]⟩)
        · refine own_by (T' := T30_) (g' := (mkF m 196 #[.val (.int i0), .val (.int i1), .val (.int i2), .val (.int i3), .val (.int i4), .val (.int (4 : Int32)), .val (.int c0), .val (.int c1), .val (.int c2), .val (.int c3), .val (.ref a23_), .val (.ref a28_), .unset] [])) (fun t_ hr_ => XS.icmpNo A30_ hx rfl (Jvm.hb hby at_193) rfl (feq hx2).1 hr_) ?_
          refine own_by (T' := T30_) (g' := (mkF m 198 #[.val (.int i0), .val (.int i1), .val (.int i2), .val (.int i3), .val (.int i4), .val (.int (4 : Int32)), .val (.int c0), .val (.int c1), .val (.int c2), .val (.int c3), .val (.ref a23_), .val (.ref a28_), .unset] [(.int (4 : Int32))])) (fun t_ hr_ => XS.iload A30_ hx rfl (Jvm.hb hby at_196) rfl hr_) ?_
          refine own_by (T' := T30_) (g' := (mkF m 199 #[.val (.int i0), .val (.int i1), .val (.int i2), .val (.int i3), .val (.int i4), .val (.int (4 : Int32)), .val (.int c0), .val (.int c1), .val (.int c2), .val (.int c3), .val (.ref a23_), .val (.ref a28_), .unset] [(.int (3 : Int32)), (.int (4 : Int32))])) (fun t_ hr_ => XS.iconst A30_ hx rfl (Jvm.hb hby at_198) hr_) ?_
          refine own_by (T' := T30_) (g' := (mkF m 202 #[.val (.int i0), .val (.int i1), .val (.int i2), .val (.int i3), .val (.int i4), .val (.int (4 : Int32)), .val (.int c0), .val (.int c1), .val (.int c2), .val (.int c3), .val (.ref a23_), .val (.ref a28_), .unset] [])) (fun t_ hr_ => XS.icmpNo A30_ hx rfl (Jvm.hb hby at_199) rfl (tlt (by decide)).2.2.2 hr_) ?_
          refine own_by (T' := T30_) (g' := (mkF m 204 #[.val (.int i0), .val (.int i1), .val (.int i2), .val (.int i3), .val (.int i4), .val (.int (4 : Int32)), .val (.int c0), .val (.int c1), .val (.int c2), .val (.int c3), .val (.ref a23_), .val (.ref a28_), .unset] [(.int c3)])) (fun t_ hr_ => XS.iload A30_ hx rfl (Jvm.hb hby at_202) rfl hr_) ?_
          refine own_by (T' := T30_) (g' := (mkF m 206 #[.val (.int i0), .val (.int i1), .val (.int i2), .val (.int i3), .val (.int i4), .val (.int (4 : Int32)), .val (.int c0), .val (.int c1), .val (.int c2), .val (.int c3), .val (.ref a23_), .val (.ref a28_), .unset] [(.int (124 : Int32)), (.int c3)])) (fun t_ hr_ => XS.bipush A30_ hx rfl (Jvm.hb hby at_204) hr_) ?_
          by_cases hx3 : c3 = (124 : Int32)
          · refine own_by (T' := T30_) (g' := (mkF m 209 #[.val (.int i0), .val (.int i1), .val (.int i2), .val (.int i3), .val (.int i4), .val (.int (4 : Int32)), .val (.int c0), .val (.int c1), .val (.int c2), .val (.int c3), .val (.ref a23_), .val (.ref a28_), .unset] [])) (fun t_ hr_ => XS.icmpNo A30_ hx rfl (Jvm.hb hby at_206) rfl (teq hx3).2 hr_) ?_
            refine own_by (T' := T30_) (g' := (mkF m 210 #[.val (.int i0), .val (.int i1), .val (.int i2), .val (.int i3), .val (.int i4), .val (.int (4 : Int32)), .val (.int c0), .val (.int c1), .val (.int c2), .val (.int c3), .val (.ref a23_), .val (.ref a28_), .unset] [(.int (1 : Int32))])) (fun t_ hr_ => XS.iconst A30_ hx rfl (Jvm.hb hby at_209) hr_) ?_
            refine own_by (T' := T30_) (g' := (mkF m 214 #[.val (.int i0), .val (.int i1), .val (.int i2), .val (.int i3), .val (.int i4), .val (.int (4 : Int32)), .val (.int c0), .val (.int c1), .val (.int c2), .val (.int c3), .val (.ref a23_), .val (.ref a28_), .unset] [(.int (1 : Int32))])) (fun t_ hr_ => XS.goto A30_ hx rfl (pc0 := 210) (pc' := 214) rfl (Jvm.hb hby at_210) (by decide) (by decide) hr_) ?_
            refine own_by (T' := T30_) (g' := (mkF m 216 #[.val (.int i0), .val (.int i1), .val (.int i2), .val (.int i3), .val (.int i4), .val (.int (4 : Int32)), .val (.int c0), .val (.int c1), .val (.int c2), .val (.int c3), .val (.ref a23_), .val (.ref a28_), .val (.int (1 : Int32))] [])) (fun t_ hr_ => XS.istore A30_ hx rfl (Jvm.hb hby at_214) rfl (l' := #[.val (.int i0), .val (.int i1), .val (.int i2), .val (.int i3), .val (.int i4), .val (.int (4 : Int32)), .val (.int c0), .val (.int c1), .val (.int c2), .val (.int c3), .val (.ref a23_), .val (.ref a28_), .val (.int (1 : Int32))]) rfl hr_) ?_
            exact J216 hw SC SF US hx hby hml hret hlk hnm i0 i1 i2 i3 i4 4 c0 c1 c2 c3 1 a23_ a28_ [c0, c1, c2, c3] (own_mono w30_ (by decide : 4 ≤ 9) (by decide : 20 ≤ 60)) SA29_ (by simp) (Or.inl ⟨rfl, by simp [hx3]⟩)
          · refine own_by (T' := T30_) (g' := (mkF m 213 #[.val (.int i0), .val (.int i1), .val (.int i2), .val (.int i3), .val (.int i4), .val (.int (4 : Int32)), .val (.int c0), .val (.int c1), .val (.int c2), .val (.int c3), .val (.ref a23_), .val (.ref a28_), .unset] [])) (fun t_ hr_ => XS.icmpYes A30_ hx rfl (pc0 := 206) (pc' := 213) rfl (Jvm.hb hby at_206) rfl (feq hx3).2 (by decide) (by decide) hr_) ?_
            refine own_by (T' := T30_) (g' := (mkF m 214 #[.val (.int i0), .val (.int i1), .val (.int i2), .val (.int i3), .val (.int i4), .val (.int (4 : Int32)), .val (.int c0), .val (.int c1), .val (.int c2), .val (.int c3), .val (.ref a23_), .val (.ref a28_), .unset] [(.int (0 : Int32))])) (fun t_ hr_ => XS.iconst A30_ hx rfl (Jvm.hb hby at_213) hr_) ?_
            refine own_by (T' := T30_) (g' := (mkF m 216 #[.val (.int i0), .val (.int i1), .val (.int i2), .val (.int i3), .val (.int i4), .val (.int (4 : Int32)), .val (.int c0), .val (.int c1), .val (.int c2), .val (.int c3), .val (.ref a23_), .val (.ref a28_), .val (.int (0 : Int32))] [])) (fun t_ hr_ => XS.istore A30_ hx rfl (Jvm.hb hby at_214) rfl (l' := #[.val (.int i0), .val (.int i1), .val (.int i2), .val (.int i3), .val (.int i4), .val (.int (4 : Int32)), .val (.int c0), .val (.int c1), .val (.int c2), .val (.int c3), .val (.ref a23_), .val (.ref a28_), .val (.int (0 : Int32))]) rfl hr_) ?_
            exact J216 hw SC SF US hx hby hml hret hlk hnm i0 i1 i2 i3 i4 4 c0 c1 c2 c3 0 a23_ a28_ [c0, c1, c2, c3] (own_mono w30_ (by decide : 4 ≤ 9) (by decide : 20 ≤ 60)) SA29_ (by simp) (Or.inr ⟨rfl, fun q => by simp only [List.mem_cons, List.not_mem_nil, or_false] at q; rcases q with q | q | q | q; exact hx0 q.symm; exact hx1 q.symm; exact hx2 q.symm; exact hx3 q.symm⟩)

set_option maxRecDepth 65536 in
set_option maxHeartbeats 40000000 in
theorem comes_1 {Post : Tables → Env → Array Value → State → Outcome → State → Prop} (hpost : ∀ tb e args s v u, (limb_1_1.after args s (.returned v) u = true ∧ limb_1_2.after args s (.returned v) u = true ∧ True) → Jvm.D.FramedW s (.returned v) u (Jvm.fieldLocs frame_1_writes args s ++ Jvm.arrayLocs frame_1_arrays args s ++ Jvm.staticLocs frame_1_statics s) 24 1152 → Post tb e args s (.returned v) u) :
    ArmFor flags0 classFile x code maxLocals ret World_1 tables_1 room_1 Calls_1 rest_1 Pre_1 Post := by
  intro l hfl _ _ p e ha hc hk s m args below hf hA hF happ hP
  obtain ⟨hcalls, hrest, hpre⟩ := hP
  obtain ⟨-, -, -, hnamed, -, -, -, hat⟩ := (Spec.applies_iff hf).mp happ
  obtain ⟨hg, hn⟩ := and_e (Cond.before_iff.mp (show (Jvm.Cond.and given_1 narrow_1).before args s = true from hpre))
  obtain ⟨hcnt, hg0⟩ := and_e hg
  obtain ⟨ha0, hg1⟩ := and_e hg0
  obtain ⟨ha1, hg2⟩ := and_e hg1
  obtain ⟨ha2, hg3⟩ := and_e hg2
  obtain ⟨ha3, hg4⟩ := and_e hg3
  have ha4 := hg4
  obtain ⟨w0, w1, w2, w3, w4, rfl⟩ : ∃ w0 w1 w2 w3 w4 : Value, args = #[w0, w1, w2, w3, w4] := by
    have hs : args.size = 5 := by simpa [Cond.value, given_1] using hcnt
    obtain ⟨L⟩ := args
    match L, hs with
    | [w0, w1, w2, w3, w4], _ => exact ⟨w0, w1, w2, w3, w4, rfl⟩
  have hw := fun d (hd : d ∈ tables_1) => atoms_spec (ws := Jvm.Cond.code x code maxLocals ret :: tables_1) hat d (List.mem_cons_of_mem _ hd)
  obtain ⟨hsets, hown0⟩ := atoms_of _ (rest_1_c_eq ▸ (show rest_1_c.before _ s = true from hrest))
  obtain ⟨i0, ei0⟩ := is_v ha0
  obtain rfl : w0 = (.int i0) := Option.some.inj ei0
  obtain ⟨i1, ei1⟩ := is_v ha1
  obtain rfl : w1 = (.int i1) := Option.some.inj ei1
  obtain ⟨i2, ei2⟩ := is_v ha2
  obtain rfl : w2 = (.int i2) := Option.some.inj ei2
  obtain ⟨i3, ei3⟩ := is_v ha3
  obtain rfl : w3 = (.int i3) := Option.some.inj ei3
  obtain ⟨i4, ei4⟩ := is_v ha4
  obtain rfl : w4 = (.int i4) := Option.some.inj ei4
  have n3 := not_v (Cond.before_iff.mp (hsets _ (List.mem_of_getElem? (i := 2) rfl)))
  obtain ⟨zc, ec⟩ := is_v (Cond.before_iff.mp (hsets _ (List.mem_of_getElem? (i := 1) rfl)))
  have SC : own_SC s := ⟨zc, Sta.start ec (Or.inl (hsets _ (List.mem_of_getElem? (i := 0) rfl))), gotF (Cond.eq_ints ec (Term.int_eval (0))) n3⟩
  obtain ⟨vf, ef, rf⟩ := isR_v (Cond.before_iff.mp (hsets _ (List.mem_of_getElem? (i := 8) rfl)))
  have SF : own_SF s := ⟨vf, Sta.start ef (Or.inl (hsets _ (List.mem_of_getElem? (i := 7) rfl))), rf⟩
  have US : own_US s := ⟨Sta.start (own_eqI (hsets _ (List.mem_of_getElem? (i := 12) rfl))) (Or.inl (hsets _ (List.mem_of_getElem? (i := 11) rfl))), Sta.start (own_eqI (hsets _ (List.mem_of_getElem? (i := 15) rfl))) (Or.inl (hsets _ (List.mem_of_getElem? (i := 14) rfl))), Sta.start (own_eqI (hsets _ (List.mem_of_getElem? (i := 18) rfl))) (Or.inl (hsets _ (List.mem_of_getElem? (i := 17) rfl)))⟩
  have hCH : CHv s consts_1 s.vm s.heap := CHv.start (own_EL hw) (fun q hq => hcalls.1 q hq) (hsets _ (List.mem_of_getElem? (i := 2) rfl)) (hw _ (List.mem_of_getElem? (i := 17) rfl)) (hw _ (List.mem_of_getElem? (i := 4) rfl))
  obtain ⟨n, o, h1, h2, h3, _, L, rfl, ⟨rfl, N, -⟩, -, hq⟩ := ct0 l s _ hw SC SF US s.heap.size s.heap (Old.start s) i0 i1 i2 i3 i4  tables_1 p e ha hc hk s m _ below hf ((Spec.applies_iff_loose hf).mp happ).1 ⟨rfl, State.Warmed39.refl s, rfl, hCH, fun x hx => by cases hx⟩ trivial
  refine ⟨n, _, h1, h2, h3, hpost _ _ _ _ _ _ ⟨Cond.after_iff.mpr rfl, Cond.after_iff.mpr (eq_i res_at (Term.int_eval (1)) rfl), trivial⟩ ⟨hq.1, hq.2.1, hq.2.2.1, (hq.2.2.2.sift fun y hy => Or.inr (N y hy)).mono (by decide) (by decide)⟩⟩
theorem main_1_1 : Claimed_1_1 := comes_1 fun _ _ _ _ _ _ h hF => ⟨h.1, hF⟩
theorem main_1_2 : Claimed_1_2 := comes_1 fun _ _ _ _ _ _ h hF => ⟨h.2.1, hF⟩

end Jvm.Pilot.@@N@@
namespace Jvm.Pilot.@@N@@
open Jvm Jvm.ClassFile Sem Op Lib Jvm.Free Jvm.Stand Jvm.Pilot.@@N@@.Jvm.D
/-! MADE BY PROGRAM (witnessworld.py) out of the Statement's table words and the real class files: 21 classes; the members and pool entries that the words name. The judged class is class 1, her method 1. -/
namespace start1
open Jvm.ClassFile
def u (s : String) : CpInfo := .utf8 (stringToUtf16 s)
/-- a pool by its gaps: so many unusable entries, then the entry; so many at the end -/
def gap : Nat → List CpInfo → List CpInfo
  | 0, r => r
  | n + 1, r => .unusable :: gap n r
def poolList (es : List (Nat × CpInfo)) (last : Nat) : List CpInfo := es.foldr (fun e r => gap e.1 (e.2 :: r)) (gap last [])
def pool (es : List (Nat × CpInfo)) (last : Nat) : Array CpInfo := ⟨poolList es last⟩
def fileOf (pool : Array CpInfo) (this : Nat) (attrs : Array Attribute := #[]) (ms : Array MethodInfo := #[]) (fl : Nat := 33) (sup : Nat := 0) (ifs : Array Nat := #[]) (fds : Array FieldInfo := #[]) : ClassFile where
  minorVersion := 0
  majorVersion := 65
  constantPool := pool
  accessFlags := fl
  thisClass := this
  superClass := sup
  interfaces := ifs
  fields := fds
  methods := ms
  attributes := attrs
def plain (name : String) (sup : Option ClassId) : Class where
  name := name
  kind := .ordinary
  loader := none
  accessFlags := 33
  super := sup
  interfaces := #[]
  cf := none
  fields := #[]
  methods := #[]
  instanceTypes := #[]
  staticTypes := #[]
  resolved := #[]
  callSites := []
  init := .initialized
  statics := none
  mirror := none

def pool0 : Array CpInfo := pool [(5, u "<init>"), (0, u "()V"), (1, .class_ 10), (1, u "java/lang/Object")] 113

def k0c0 : Code := { maxStack := 0, maxLocals := 1, code := object_method_1_code, exceptionTable := #[], attributes := #[] }
def k0m0 : Method := { name := "<init>", desc := "()V", sig := { parameters := [], returnType := none }, accessFlags := 1, code := some k0c0 }
/-- java/lang/Object -/
def k0 : Class := { plain "java/lang/Object" none with
  accessFlags := 33
  interfaces := #[]
  cf := some (fileOf pool0 8 #[] #[{ accessFlags := 1, nameIndex := 5, descriptorIndex := 6, attributes := #[] }] 33 0 #[] #[])
  fields := #[]
  methods := #[k0m0]
  instanceTypes := #[]
  staticTypes := #[]
  resolved := Array.replicate 124 none
  statics := none }

def pool1 : Array CpInfo := pool [(2, .class_ 4), (1, u "java/lang/Object"), (0, u "<init>"), (0, u "()V"), (0, .integer 2147483647), (0, .integer 65535), (0, .class_ 10), (0, u "java/lang/String"), (0, .methodref 9 12), (0, .nameAndType 5 13), (0, u "([C)V"), (0, .methodref 15 16), (0, .class_ 17), (0, .nameAndType 18 19), (0, u "com/example/hecate/hecate/identity/IdentitySigner"), (0, u "holdsSeparator"), (0, u "(Ljava/lang/String;)Z"), (0, .class_ 21), (0, u "com/example/hecate/hecate/identity/IdentitySignerHoldsSeparatorPinLaw"), (2, u "law"), (0, u "(IIIII)Z")] 5

def k1m0 : Method := { name := "<init>", desc := "()V", sig := { parameters := [], returnType := none }, accessFlags := 2, code := none }
def k1c1 : Code := { maxStack := 4, maxLocals := 13, code := code, exceptionTable := #[], attributes := #[] }
def k1m1 : Method := { name := "law", desc := "(IIIII)Z", sig := { parameters := [.int, .int, .int, .int, .int], returnType := some .boolean }, accessFlags := 9, code := some k1c1 }
/-- com/example/hecate/hecate/identity/IdentitySignerHoldsSeparatorPinLaw -/
def k1 : Class := { plain "com/example/hecate/hecate/identity/IdentitySignerHoldsSeparatorPinLaw" (some 0) with
  accessFlags := 49
  interfaces := #[]
  cf := some (fileOf pool1 20 #[] #[{ accessFlags := 2, nameIndex := 5, descriptorIndex := 6, attributes := #[] }, { accessFlags := 9, nameIndex := 24, descriptorIndex := 25, attributes := #[] }] 49 2 #[] #[])
  fields := #[]
  methods := #[k1m0, k1m1]
  instanceTypes := #[]
  staticTypes := #[]
  resolved := Array.replicate 31 none
  statics := none }

def pool2 : Array CpInfo := pool [(1, .class_ 2), (0, u "java/io/Serializable"), (0, .class_ 4), (0, u "java/lang/Object")] 2

/-- java/io/Serializable -/
def k2 : Class := { plain "java/io/Serializable" (some 0) with
  accessFlags := 1537
  interfaces := #[]
  cf := some (fileOf pool2 1 #[] #[] 1537 3 #[] #[])
  fields := #[]
  methods := #[]
  instanceTypes := #[]
  staticTypes := #[]
  resolved := Array.replicate 7 none
  statics := none }

def pool3 : Array CpInfo := pool [(1, .class_ 2), (0, u "java/lang/Comparable"), (0, .class_ 4), (0, u "java/lang/Object")] 7

/-- java/lang/Comparable -/
def k3 : Class := { plain "java/lang/Comparable" (some 0) with
  accessFlags := 1537
  interfaces := #[]
  cf := some (fileOf pool3 1 #[] #[] 1537 3 #[] #[])
  fields := #[]
  methods := #[]
  instanceTypes := #[]
  staticTypes := #[]
  resolved := Array.replicate 12 none
  statics := none }

def pool4 : Array CpInfo := pool [(2, .class_ 4), (1, u "java/lang/CharSequence"), (42, .class_ 48), (0, u "java/lang/CharSequence$1CodePointIterator"), (10, .class_ 60), (0, u "java/lang/CharSequence$1CharIterator"), (5, .class_ 67), (0, u "java/lang/Object")] 63

/-- java/lang/CharSequence -/
def k4 : Class := { plain "java/lang/CharSequence" (some 0) with
  accessFlags := 1537
  interfaces := #[]
  cf := some (fileOf pool4 2 #[.nestMembers #[47, 59]] #[] 1537 66 #[] #[])
  fields := #[]
  methods := #[]
  instanceTypes := #[]
  staticTypes := #[]
  resolved := Array.replicate 131 none
  statics := none }

def pool5 : Array CpInfo := pool [(1, .class_ 2), (0, u "java/lang/constant/Constable"), (0, .class_ 4), (0, u "java/lang/Object")] 6

/-- java/lang/constant/Constable -/
def k5 : Class := { plain "java/lang/constant/Constable" (some 0) with
  accessFlags := 1537
  interfaces := #[]
  cf := some (fileOf pool5 1 #[] #[] 1537 3 #[] #[])
  fields := #[]
  methods := #[]
  instanceTypes := #[]
  staticTypes := #[]
  resolved := Array.replicate 11 none
  statics := none }

def pool6 : Array CpInfo := pool [(1, .class_ 2), (0, u "java/lang/constant/ConstantDesc"), (0, .class_ 4), (0, u "java/lang/Object")] 32

/-- java/lang/constant/ConstantDesc -/
def k6 : Class := { plain "java/lang/constant/ConstantDesc" (some 0) with
  accessFlags := 1537
  interfaces := #[]
  cf := some (fileOf pool6 1 #[] #[] 1537 3 #[] #[])
  fields := #[]
  methods := #[]
  instanceTypes := #[]
  staticTypes := #[]
  resolved := Array.replicate 37 none
  statics := none }

def pool7 : Array CpInfo := pool [(1, .methodref 2 3), (0, .class_ 4), (0, .nameAndType 5 6), (0, u "java/lang/Object"), (0, u "<init>"), (0, u "()V"), (0, .string 8), (0, u ""), (0, .fieldref 10 11), (0, .class_ 12), (0, .nameAndType 13 14), (0, u "java/lang/String"), (0, u "value"), (0, u "[B"), (0, .fieldref 10 16), (0, .nameAndType 17 18), (0, u "coder"), (0, u "B"), (2, u "hash"), (0, u "I"), (2, u "hashIsZero"), (0, u "Z"), (0, .methodref 10 28), (0, .nameAndType 5 29), (0, u "([CIILjava/lang/Void;)V"), (8, .fieldref 10 39), (0, .nameAndType 40 26), (0, u "COMPACT_STRINGS"), (1, .class_ 44), (1, u "java/lang/StringUTF16"), (0, u "compress"), (1, .methodref 42 48), (0, .nameAndType 49 50), (0, u "coderFromArrayLen"), (0, u "([BI)B"), (56, .class_ 109), (1, u "java/lang/StringLatin1"), (32, u "()Z"), (34, .methodref 42 178), (0, .nameAndType 45 179), (0, u "([CII)[B"), (154, u "()I"), (0, .methodref 10 336), (0, .nameAndType 17 337), (0, u "()B"), (154, .methodref 10 493), (0, .nameAndType 494 142), (0, u "isLatin1"), (10, .methodref 10 506), (0, .nameAndType 507 334), (0, u "length"), (5, u "checkFromToIndex"), (9, u "checkBoundsBeginEnd"), (0, u "(III)V"), (50, .class_ 576), (0, u "java/lang/CharSequence"), (22, u "CASE_INSENSITIVE_ORDER"), (0, u "Ljava/util/Comparator;"), (32, .methodref 10 634), (0, .nameAndType 635 636), (0, u "indexOf"), (0, u "(II)I"), (0, .methodref 107 638), (0, .nameAndType 635 639), (0, u "([BIII)I"), (0, .methodref 42 638), (124, u "(I)I"), (244, u "([C)V"), (42, .fieldref 1054 1055), (0, .class_ 1056), (0, .nameAndType 1057 1058), (0, u "jdk/internal/util/Preconditions"), (0, u "SIOOBE_FORMATTER"), (0, u "Ljava/util/function/BiFunction;"), (3, .methodref 1054 1063), (0, .nameAndType 513 1064), (0, u "(IIILjava/util/function/BiFunction;)I"), (36, u "serialPersistentFields"), (0, u "[Ljava/io/ObjectStreamField;"), (0, .class_ 1104), (0, u "java/lang/String$CaseInsensitiveComparator"), (1, .class_ 1107), (0, u "java/io/Serializable"), (0, .class_ 1109), (0, u "java/lang/Comparable"), (0, .class_ 1111), (0, u "java/lang/constant/Constable"), (0, .class_ 1113), (0, u "java/lang/constant/ConstantDesc"), (2, u "serialVersionUID"), (0, u "J"), (3, u "REPL"), (0, u "C"), (2, u "LATIN1"), (1, u "UTF16")] 323

def k7m0 : Method := { name := "<init>", desc := "()V", sig := { parameters := [], returnType := none }, accessFlags := 1, code := none }
def k7c1 : Code := { maxStack := 5, maxLocals := 2, code := jdk_42_method_3_code, exceptionTable := #[], attributes := #[] }
def k7m1 : Method := { name := "<init>", desc := "([C)V", sig := { parameters := [(.array .char)], returnType := none }, accessFlags := 1, code := some k7c1 }
def k7c2 : Code := { maxStack := 2, maxLocals := 1, code := jdk_42_method_54_code, exceptionTable := #[], attributes := #[] }
def k7m2 : Method := { name := "length", desc := "()I", sig := { parameters := [], returnType := some .int }, accessFlags := 1, code := some k7c2 }
def k7c3 : Code := { maxStack := 3, maxLocals := 2, code := jdk_42_method_79_code, exceptionTable := #[], attributes := #[] }
def k7m3 : Method := { name := "indexOf", desc := "(I)I", sig := { parameters := [.int], returnType := some .int }, accessFlags := 1, code := some k7c3 }
def k7c4 : Code := { maxStack := 4, maxLocals := 3, code := jdk_42_method_80_code, exceptionTable := #[], attributes := #[] }
def k7m4 : Method := { name := "indexOf", desc := "(II)I", sig := { parameters := [.int, .int], returnType := some .int }, accessFlags := 1, code := some k7c4 }
def k7c5 : Code := { maxStack := 4, maxLocals := 6, code := jdk_42_method_149_code, exceptionTable := #[], attributes := #[] }
def k7m5 : Method := { name := "<init>", desc := "([CIILjava/lang/Void;)V", sig := { parameters := [(.array .char), .int, .int, (.object "java/lang/Void")], returnType := none }, accessFlags := 2, code := some k7c5 }
def k7c6 : Code := { maxStack := 1, maxLocals := 1, code := jdk_42_method_152_code, exceptionTable := #[], attributes := #[] }
def k7m6 : Method := { name := "coder", desc := "()B", sig := { parameters := [], returnType := some .byte }, accessFlags := 0, code := some k7c6 }
def k7c7 : Code := { maxStack := 1, maxLocals := 1, code := jdk_42_method_154_code, exceptionTable := #[], attributes := #[] }
def k7m7 : Method := { name := "isLatin1", desc := "()Z", sig := { parameters := [], returnType := some .boolean }, accessFlags := 0, code := some k7c7 }
def k7c8 : Code := { maxStack := 4, maxLocals := 3, code := jdk_42_method_158_code, exceptionTable := #[], attributes := #[] }
def k7m8 : Method := { name := "checkBoundsBeginEnd", desc := "(III)V", sig := { parameters := [.int, .int, .int], returnType := none }, accessFlags := 8, code := some k7c8 }
/-- java/lang/String -/
def k7 : Class := { plain "java/lang/String" (some 0) with
  accessFlags := 49
  interfaces := #[2, 3, 4, 5, 6]
  cf := some (fileOf pool7 10 #[.nestMembers #[1103]] #[{ accessFlags := 1, nameIndex := 5, descriptorIndex := 6, attributes := #[] }, { accessFlags := 1, nameIndex := 5, descriptorIndex := 1010, attributes := #[] }, { accessFlags := 1, nameIndex := 507, descriptorIndex := 334, attributes := #[] }, { accessFlags := 1, nameIndex := 635, descriptorIndex := 765, attributes := #[] }, { accessFlags := 1, nameIndex := 635, descriptorIndex := 636, attributes := #[] }, { accessFlags := 2, nameIndex := 5, descriptorIndex := 29, attributes := #[] }, { accessFlags := 0, nameIndex := 17, descriptorIndex := 337, attributes := #[] }, { accessFlags := 0, nameIndex := 494, descriptorIndex := 142, attributes := #[] }, { accessFlags := 8, nameIndex := 523, descriptorIndex := 524, attributes := #[] }] 49 2 #[1106, 1108, 575, 1110, 1112] #[{ accessFlags := 18, nameIndex := 13, descriptorIndex := 14, attributes := #[] }, { accessFlags := 18, nameIndex := 17, descriptorIndex := 18, attributes := #[] }, { accessFlags := 2, nameIndex := 21, descriptorIndex := 22, attributes := #[] }, { accessFlags := 2, nameIndex := 25, descriptorIndex := 26, attributes := #[] }, { accessFlags := 26, nameIndex := 1116, descriptorIndex := 1117, attributes := #[] }, { accessFlags := 24, nameIndex := 40, descriptorIndex := 26, attributes := #[] }, { accessFlags := 26, nameIndex := 1101, descriptorIndex := 1102, attributes := #[] }, { accessFlags := 26, nameIndex := 1121, descriptorIndex := 1122, attributes := #[] }, { accessFlags := 25, nameIndex := 599, descriptorIndex := 600, attributes := #[] }, { accessFlags := 24, nameIndex := 1125, descriptorIndex := 18, attributes := #[] }, { accessFlags := 24, nameIndex := 1127, descriptorIndex := 18, attributes := #[] }])
  fields := #[{ name := "value", type := (.array .byte), accessFlags := 18, slot := 0, constantValue := 0 }, { name := "coder", type := .byte, accessFlags := 18, slot := 1, constantValue := 0 }, { name := "hash", type := .int, accessFlags := 2, slot := 2, constantValue := 0 }, { name := "hashIsZero", type := .boolean, accessFlags := 2, slot := 3, constantValue := 0 }, { name := "serialVersionUID", type := .long, accessFlags := 26, slot := 0, constantValue := 0 }, { name := "COMPACT_STRINGS", type := .boolean, accessFlags := 24, slot := 1, constantValue := 0 }, { name := "serialPersistentFields", type := (.array (.object "java/io/ObjectStreamField")), accessFlags := 26, slot := 2, constantValue := 0 }, { name := "REPL", type := .char, accessFlags := 26, slot := 3, constantValue := 0 }, { name := "CASE_INSENSITIVE_ORDER", type := (.object "java/util/Comparator"), accessFlags := 25, slot := 4, constantValue := 0 }, { name := "LATIN1", type := .byte, accessFlags := 24, slot := 5, constantValue := 0 }, { name := "UTF16", type := .byte, accessFlags := 24, slot := 6, constantValue := 0 }]
  methods := #[k7m0, k7m1, k7m2, k7m3, k7m4, k7m5, k7m6, k7m7, k7m8]
  instanceTypes := #[(.array .byte), .byte, .int, .boolean]
  staticTypes := #[.long, .boolean, (.array (.object "java/io/ObjectStreamField")), .char, (.object "java/util/Comparator"), .byte, .byte]
  resolved := Array.replicate 1451 none
  statics := some 0 }

def pool8 : Array CpInfo := pool [(2, .class_ 4), (1, u "java/lang/Object"), (8, .class_ 15), (1, u "com/example/hecate/hecate/identity/IdentitySigner"), (0, u "hmac"), (0, u "Lcom/example/hecate/hecate/identity/HmacSha256;"), (25, u "HEX"), (0, u "Ljava/util/HexFormat;"), (7, .class_ 54), (1, u "java/lang/String"), (12, .methodref 52 68), (0, .nameAndType 69 70), (0, u "indexOf"), (0, u "(I)I"), (8, u "holdsSeparator"), (0, u "(Ljava/lang/String;)Z"), (40, u "SEPARATOR"), (0, u "C")] 29

def k8c0 : Code := { maxStack := 2, maxLocals := 1, code := prog_35_method_4_code, exceptionTable := #[], attributes := #[] }
def k8m0 : Method := { name := "holdsSeparator", desc := "(Ljava/lang/String;)Z", sig := { parameters := [(.object "java/lang/String")], returnType := some .boolean }, accessFlags := 8, code := some k8c0 }
/-- com/example/hecate/hecate/identity/IdentitySigner -/
def k8 : Class := { plain "com/example/hecate/hecate/identity/IdentitySigner" (some 0) with
  accessFlags := 49
  interfaces := #[]
  cf := some (fileOf pool8 13 #[] #[{ accessFlags := 8, nameIndex := 79, descriptorIndex := 80, attributes := #[] }] 49 2 #[] #[{ accessFlags := 26, nameIndex := 121, descriptorIndex := 122, attributes := #[] }, { accessFlags := 26, nameIndex := 43, descriptorIndex := 44, attributes := #[] }, { accessFlags := 18, nameIndex := 16, descriptorIndex := 17, attributes := #[] }])
  fields := #[{ name := "SEPARATOR", type := .char, accessFlags := 26, slot := 0, constantValue := 0 }, { name := "HEX", type := (.object "java/util/HexFormat"), accessFlags := 26, slot := 1, constantValue := 0 }, { name := "hmac", type := (.object "com/example/hecate/hecate/identity/HmacSha256"), accessFlags := 18, slot := 0, constantValue := 0 }]
  methods := #[k8m0]
  instanceTypes := #[(.object "com/example/hecate/hecate/identity/HmacSha256")]
  staticTypes := #[.char, (.object "java/util/HexFormat")]
  resolved := Array.replicate 152 none
  statics := none }

def pool9 : Array CpInfo := pool [(4, .class_ 6), (1, u "java/lang/Object"), (0, u "<init>"), (0, u "()V"), (5, .class_ 16), (1, u "java/lang/StringLatin1"), (21, .methodref 39 40), (0, .class_ 41), (0, .nameAndType 42 43), (0, u "java/lang/Math"), (0, u "min"), (0, u "(II)I"), (44, .methodref 14 89), (0, .nameAndType 90 91), (0, u "canEncode"), (0, u "(I)Z"), (0, .methodref 39 93), (0, .nameAndType 94 43), (0, u "max"), (0, .methodref 14 96), (0, .nameAndType 97 98), (0, u "indexOfChar"), (0, u "([BIII)I"), (2, u "indexOf"), (19, u "$assertionsDisabled"), (0, u "Z"), (98, .class_ 223), (1, u "java/lang/StringLatin1$LinesSpliterator"), (166, .class_ 391), (0, u "java/lang/StringLatin1$CharsSpliterator")] 3

def k9m0 : Method := { name := "<init>", desc := "()V", sig := { parameters := [], returnType := none }, accessFlags := 0, code := none }
def k9c1 : Code := { maxStack := 2, maxLocals := 1, code := jdk_43_method_4_code, exceptionTable := #[], attributes := #[] }
def k9m1 : Method := { name := "canEncode", desc := "(I)Z", sig := { parameters := [.int], returnType := some .boolean }, accessFlags := 9, code := some k9c1 }
def k9c2 : Code := { maxStack := 4, maxLocals := 4, code := jdk_43_method_22_code, exceptionTable := #[], attributes := #[] }
def k9m2 : Method := { name := "indexOf", desc := "([BIII)I", sig := { parameters := [(.array .byte), .int, .int, .int], returnType := some .int }, accessFlags := 9, code := some k9c2 }
def k9c3 : Code := { maxStack := 2, maxLocals := 6, code := jdk_43_method_23_code, exceptionTable := #[], attributes := #[] }
def k9m3 : Method := { name := "indexOfChar", desc := "([BIII)I", sig := { parameters := [(.array .byte), .int, .int, .int], returnType := some .int }, accessFlags := 10, code := some k9c3 }
/-- java/lang/StringLatin1 -/
def k9 : Class := { plain "java/lang/StringLatin1" (some 0) with
  accessFlags := 48
  interfaces := #[]
  cf := some (fileOf pool9 14 #[.nestMembers #[390, 221]] #[{ accessFlags := 0, nameIndex := 7, descriptorIndex := 8, attributes := #[] }, { accessFlags := 9, nameIndex := 90, descriptorIndex := 91, attributes := #[] }, { accessFlags := 9, nameIndex := 101, descriptorIndex := 98, attributes := #[] }, { accessFlags := 10, nameIndex := 97, descriptorIndex := 98, attributes := #[] }] 48 4 #[] #[{ accessFlags := 4120, nameIndex := 121, descriptorIndex := 122, attributes := #[] }])
  fields := #[{ name := "$assertionsDisabled", type := .boolean, accessFlags := 4120, slot := 0, constantValue := 0 }]
  methods := #[k9m0, k9m1, k9m2, k9m3]
  instanceTypes := #[]
  staticTypes := #[.boolean]
  resolved := Array.replicate 395 none
  statics := none }

def pool10 : Array CpInfo := pool [(1, .class_ 2), (0, u "java/lang/Math"), (1, .class_ 6), (1, u "java/lang/Object"), (0, u "<init>"), (0, u "()V"), (89, .class_ 100), (1, u "java/lang/Math$RandomNumberGeneratorHolder"), (71, u "negativeZeroFloatBits"), (0, u "J"), (2, u "negativeZeroDoubleBits"), (21, u "max"), (2, u "min"), (43, u "$assertionsDisabled"), (0, u "Z"), (88, u "(II)I"), (2, u "twoToTheDoubleScaleDown"), (0, u "D"), (4, u "twoToTheDoubleScaleUp"), (9, u "E"), (3, u "PI"), (2, u "TAU"), (2, u "DEGREES_TO_RADIANS"), (0, u "RADIANS_TO_DEGREES")] 94

def k10m0 : Method := { name := "<init>", desc := "()V", sig := { parameters := [], returnType := none }, accessFlags := 2, code := none }
def k10c1 : Code := { maxStack := 2, maxLocals := 2, code := jdk_29_method_65_code, exceptionTable := #[], attributes := #[] }
def k10m1 : Method := { name := "max", desc := "(II)I", sig := { parameters := [.int, .int], returnType := some .int }, accessFlags := 9, code := some k10c1 }
def k10c2 : Code := { maxStack := 2, maxLocals := 2, code := jdk_29_method_69_code, exceptionTable := #[], attributes := #[] }
def k10m2 : Method := { name := "min", desc := "(II)I", sig := { parameters := [.int, .int], returnType := some .int }, accessFlags := 9, code := some k10c2 }
/-- java/lang/Math -/
def k10 : Class := { plain "java/lang/Math" (some 0) with
  accessFlags := 49
  interfaces := #[]
  cf := some (fileOf pool10 1 #[.nestMembers #[98]] #[{ accessFlags := 2, nameIndex := 7, descriptorIndex := 8, attributes := #[] }, { accessFlags := 9, nameIndex := 198, descriptorIndex := 335, attributes := #[] }, { accessFlags := 9, nameIndex := 201, descriptorIndex := 335, attributes := #[] }] 49 4 #[] #[{ accessFlags := 25, nameIndex := 354, descriptorIndex := 339, attributes := #[] }, { accessFlags := 25, nameIndex := 358, descriptorIndex := 339, attributes := #[] }, { accessFlags := 25, nameIndex := 361, descriptorIndex := 339, attributes := #[] }, { accessFlags := 26, nameIndex := 364, descriptorIndex := 339, attributes := #[] }, { accessFlags := 26, nameIndex := 365, descriptorIndex := 339, attributes := #[] }, { accessFlags := 26, nameIndex := 172, descriptorIndex := 173, attributes := #[] }, { accessFlags := 26, nameIndex := 176, descriptorIndex := 173, attributes := #[] }, { accessFlags := 8, nameIndex := 344, descriptorIndex := 339, attributes := #[] }, { accessFlags := 8, nameIndex := 338, descriptorIndex := 339, attributes := #[] }, { accessFlags := 4120, nameIndex := 245, descriptorIndex := 246, attributes := #[] }])
  fields := #[{ name := "E", type := .double, accessFlags := 25, slot := 0, constantValue := 0 }, { name := "PI", type := .double, accessFlags := 25, slot := 1, constantValue := 0 }, { name := "TAU", type := .double, accessFlags := 25, slot := 2, constantValue := 0 }, { name := "DEGREES_TO_RADIANS", type := .double, accessFlags := 26, slot := 3, constantValue := 0 }, { name := "RADIANS_TO_DEGREES", type := .double, accessFlags := 26, slot := 4, constantValue := 0 }, { name := "negativeZeroFloatBits", type := .long, accessFlags := 26, slot := 5, constantValue := 0 }, { name := "negativeZeroDoubleBits", type := .long, accessFlags := 26, slot := 6, constantValue := 0 }, { name := "twoToTheDoubleScaleUp", type := .double, accessFlags := 8, slot := 7, constantValue := 0 }, { name := "twoToTheDoubleScaleDown", type := .double, accessFlags := 8, slot := 8, constantValue := 0 }, { name := "$assertionsDisabled", type := .boolean, accessFlags := 4120, slot := 9, constantValue := 0 }]
  methods := #[k10m0, k10m1, k10m2]
  instanceTypes := #[]
  staticTypes := #[.double, .double, .double, .double, .double, .long, .long, .double, .double, .boolean]
  resolved := Array.replicate 460 none
  statics := none }

def pool11 : Array CpInfo := pool [(3, .class_ 4), (0, u "java/lang/String"), (1, .class_ 8), (1, u "java/lang/Object"), (0, u "<init>"), (0, u "()V"), (0, .methodref 12 13), (0, .class_ 14), (0, .nameAndType 15 16), (0, u "java/lang/StringUTF16"), (0, u "newBytesLength"), (0, u "(I)I"), (3, .integer 1073741823), (23, .fieldref 12 45), (0, .nameAndType 46 47), (0, u "$assertionsDisabled"), (0, u "Z"), (0, .methodref 12 49), (0, .nameAndType 50 51), (0, u "length"), (0, u "([B)I"), (7, .fieldref 12 60), (0, .nameAndType 61 62), (0, u "HI_BYTE_SHIFT"), (0, u "I"), (0, .fieldref 12 64), (0, .nameAndType 65 62), (0, u "LO_BYTE_SHIFT"), (5, .methodref 12 72), (0, .nameAndType 73 74), (0, u "getChar"), (0, u "([BI)C"), (21, .methodref 12 97), (0, .nameAndType 98 99), (0, u "checkBoundsBeginEnd"), (0, u "(II[B)V"), (7, .methodref 12 108), (0, .nameAndType 109 110), (0, u "newBytesFor"), (0, u "(I)[B"), (0, .methodref 12 112), (0, .nameAndType 113 114), (0, u "putChar"), (0, u "([BII)V"), (0, .methodref 12 116), (0, .nameAndType 117 118), (0, u "compress"), (0, u "([CI[BII)I"), (0, .methodref 12 120), (0, .nameAndType 121 122), (0, u "toBytes"), (0, u "([CII)[B"), (60, .methodref 184 185), (0, .class_ 186), (0, .nameAndType 187 188), (0, u "java/lang/Math"), (0, u "min"), (0, u "(II)I"), (35, .methodref 184 225), (0, .nameAndType 226 188), (0, u "max"), (0, .integer 65536), (0, .methodref 12 229), (0, .nameAndType 230 231), (0, u "indexOfChar"), (0, u "([BIII)I"), (9, .methodref 3 242), (0, .nameAndType 98 243), (0, u "(III)V"), (0, .methodref 12 245), (0, .nameAndType 246 231), (0, u "indexOfCharUnsafe"), (14, u "coderFromArrayLen"), (0, u "([BI)B"), (5, u "indexOf"), (100, .class_ 371), (1, u "java/lang/StringUTF16$LinesSpliterator"), (58, u "MAX_LENGTH"), (196, .class_ 628), (0, u "java/lang/StringUTF16$CodePointsSpliterator"), (0, .class_ 630), (0, u "java/lang/StringUTF16$CharsSpliterator")] 4

def k11m0 : Method := { name := "<init>", desc := "()V", sig := { parameters := [], returnType := none }, accessFlags := 0, code := none }
def k11c1 : Code := { maxStack := 1, maxLocals := 1, code := jdk_52_method_2_code, exceptionTable := #[], attributes := #[] }
def k11m1 : Method := { name := "newBytesFor", desc := "(I)[B", sig := { parameters := [.int], returnType := some (.array .byte) }, accessFlags := 9, code := some k11c1 }
def k11c2 : Code := { maxStack := 4, maxLocals := 1, code := jdk_52_method_3_code, exceptionTable := #[], attributes := #[] }
def k11m2 : Method := { name := "newBytesLength", desc := "(I)I", sig := { parameters := [.int], returnType := some .int }, accessFlags := 9, code := some k11c2 }
def k11c3 : Code := { maxStack := 4, maxLocals := 3, code := jdk_52_method_4_code, exceptionTable := #[], attributes := #[] }
def k11m3 : Method := { name := "putChar", desc := "([BII)V", sig := { parameters := [(.array .byte), .int, .int], returnType := none }, accessFlags := 8, code := some k11c3 }
def k11c4 : Code := { maxStack := 3, maxLocals := 2, code := jdk_52_method_5_code, exceptionTable := #[], attributes := #[] }
def k11m4 : Method := { name := "getChar", desc := "([BI)C", sig := { parameters := [(.array .byte), .int], returnType := some .char }, accessFlags := 8, code := some k11c4 }
def k11c5 : Code := { maxStack := 2, maxLocals := 1, code := jdk_52_method_6_code, exceptionTable := #[], attributes := #[] }
def k11m5 : Method := { name := "length", desc := "([B)I", sig := { parameters := [(.array .byte)], returnType := some .int }, accessFlags := 9, code := some k11c5 }
def k11c6 : Code := { maxStack := 4, maxLocals := 5, code := jdk_52_method_14_code, exceptionTable := #[], attributes := #[] }
def k11m6 : Method := { name := "toBytes", desc := "([CII)[B", sig := { parameters := [(.array .char), .int, .int], returnType := some (.array .byte) }, accessFlags := 9, code := some k11c6 }
def k11c7 : Code := { maxStack := 2, maxLocals := 2, code := jdk_52_method_15_code, exceptionTable := #[], attributes := #[] }
def k11m7 : Method := { name := "coderFromArrayLen", desc := "([BI)B", sig := { parameters := [(.array .byte), .int], returnType := some .byte }, accessFlags := 8, code := some k11c7 }
def k11c8 : Code := { maxStack := 5, maxLocals := 6, code := jdk_52_method_16_code, exceptionTable := #[], attributes := #[] }
def k11m8 : Method := { name := "compress", desc := "([CII)[B", sig := { parameters := [(.array .char), .int, .int], returnType := some (.array .byte) }, accessFlags := 9, code := some k11c8 }
def k11c9 : Code := { maxStack := 3, maxLocals := 7, code := jdk_52_method_21_code, exceptionTable := #[], attributes := #[] }
def k11m9 : Method := { name := "compress", desc := "([CI[BII)I", sig := { parameters := [(.array .char), .int, (.array .byte), .int, .int], returnType := some .int }, accessFlags := 9, code := some k11c9 }
def k11c10 : Code := { maxStack := 4, maxLocals := 4, code := jdk_52_method_40_code, exceptionTable := #[], attributes := #[] }
def k11m10 : Method := { name := "indexOf", desc := "([BIII)I", sig := { parameters := [(.array .byte), .int, .int, .int], returnType := some .int }, accessFlags := 9, code := some k11c10 }
def k11c11 : Code := { maxStack := 4, maxLocals := 4, code := jdk_52_method_47_code, exceptionTable := #[], attributes := #[] }
def k11m11 : Method := { name := "indexOfChar", desc := "([BIII)I", sig := { parameters := [(.array .byte), .int, .int, .int], returnType := some .int }, accessFlags := 10, code := some k11c11 }
def k11c12 : Code := { maxStack := 2, maxLocals := 5, code := jdk_52_method_48_code, exceptionTable := #[], attributes := #[] }
def k11m12 : Method := { name := "indexOfCharUnsafe", desc := "([BIII)I", sig := { parameters := [(.array .byte), .int, .int, .int], returnType := some .int }, accessFlags := 10, code := some k11c12 }
def k11c13 : Code := { maxStack := 3, maxLocals := 3, code := jdk_52_method_93_code, exceptionTable := #[], attributes := #[] }
def k11m13 : Method := { name := "checkBoundsBeginEnd", desc := "(II[B)V", sig := { parameters := [.int, .int, (.array .byte)], returnType := none }, accessFlags := 9, code := some k11c13 }
/-- java/lang/StringUTF16 -/
def k11 : Class := { plain "java/lang/StringUTF16" (some 0) with
  accessFlags := 48
  interfaces := #[]
  cf := some (fileOf pool11 12 #[.nestMembers #[627, 629, 369]] #[{ accessFlags := 0, nameIndex := 9, descriptorIndex := 10, attributes := #[] }, { accessFlags := 9, nameIndex := 109, descriptorIndex := 110, attributes := #[] }, { accessFlags := 9, nameIndex := 15, descriptorIndex := 16, attributes := #[] }, { accessFlags := 8, nameIndex := 113, descriptorIndex := 114, attributes := #[] }, { accessFlags := 8, nameIndex := 73, descriptorIndex := 74, attributes := #[] }, { accessFlags := 9, nameIndex := 50, descriptorIndex := 51, attributes := #[] }, { accessFlags := 9, nameIndex := 121, descriptorIndex := 122, attributes := #[] }, { accessFlags := 8, nameIndex := 261, descriptorIndex := 262, attributes := #[] }, { accessFlags := 9, nameIndex := 117, descriptorIndex := 122, attributes := #[] }, { accessFlags := 9, nameIndex := 117, descriptorIndex := 118, attributes := #[] }, { accessFlags := 9, nameIndex := 268, descriptorIndex := 231, attributes := #[] }, { accessFlags := 10, nameIndex := 230, descriptorIndex := 231, attributes := #[] }, { accessFlags := 10, nameIndex := 246, descriptorIndex := 231, attributes := #[] }, { accessFlags := 9, nameIndex := 98, descriptorIndex := 99, attributes := #[] }] 48 6 #[] #[{ accessFlags := 26, nameIndex := 61, descriptorIndex := 62, attributes := #[] }, { accessFlags := 26, nameIndex := 65, descriptorIndex := 62, attributes := #[] }, { accessFlags := 24, nameIndex := 430, descriptorIndex := 62, attributes := #[] }, { accessFlags := 4120, nameIndex := 46, descriptorIndex := 47, attributes := #[] }])
  fields := #[{ name := "HI_BYTE_SHIFT", type := .int, accessFlags := 26, slot := 0, constantValue := 0 }, { name := "LO_BYTE_SHIFT", type := .int, accessFlags := 26, slot := 1, constantValue := 0 }, { name := "MAX_LENGTH", type := .int, accessFlags := 24, slot := 2, constantValue := 0 }, { name := "$assertionsDisabled", type := .boolean, accessFlags := 4120, slot := 3, constantValue := 0 }]
  methods := #[k11m0, k11m1, k11m2, k11m3, k11m4, k11m5, k11m6, k11m7, k11m8, k11m9, k11m10, k11m11, k11m12, k11m13]
  instanceTypes := #[]
  staticTypes := #[.int, .int, .int, .boolean]
  resolved := Array.replicate 635 none
  statics := some 1 }

def pool12 : Array CpInfo := pool [(2, .class_ 4), (1, u "java/lang/Object"), (0, u "<init>"), (0, u "()V"), (17, .class_ 26), (1, u "jdk/internal/util/Preconditions"), (20, u "checkFromToIndex"), (7, .class_ 56), (0, u "jdk/internal/util/Preconditions$4"), (57, .class_ 115), (0, u "jdk/internal/util/Preconditions$1"), (7, u "SIOOBE_FORMATTER"), (0, u "Ljava/util/function/BiFunction;"), (0, .class_ 126), (0, u "jdk/internal/util/Preconditions$2"), (3, u "AIOOBE_FORMATTER"), (0, .class_ 132), (0, u "jdk/internal/util/Preconditions$3"), (3, u "IOOBE_FORMATTER"), (46, u "(IIILjava/util/function/BiFunction;)I")] 10

def k12m0 : Method := { name := "<init>", desc := "()V", sig := { parameters := [], returnType := none }, accessFlags := 1, code := none }
def k12c1 : Code := { maxStack := 4, maxLocals := 4, code := jdk_41_method_12_code, exceptionTable := #[], attributes := #[] }
def k12m1 : Method := { name := "checkFromToIndex", desc := "(IIILjava/util/function/BiFunction;)I", sig := { parameters := [.int, .int, .int, (.object "java/util/function/BiFunction")], returnType := some .int }, accessFlags := 9, code := some k12c1 }
/-- jdk/internal/util/Preconditions -/
def k12 : Class := { plain "jdk/internal/util/Preconditions" (some 0) with
  accessFlags := 33
  interfaces := #[]
  cf := some (fileOf pool12 24 #[.nestMembers #[55, 131, 125, 114]] #[{ accessFlags := 1, nameIndex := 5, descriptorIndex := 6, attributes := #[] }, { accessFlags := 9, nameIndex := 47, descriptorIndex := 183, attributes := #[] }] 33 2 #[] #[{ accessFlags := 25, nameIndex := 123, descriptorIndex := 124, attributes := #[] }, { accessFlags := 25, nameIndex := 130, descriptorIndex := 124, attributes := #[] }, { accessFlags := 25, nameIndex := 136, descriptorIndex := 124, attributes := #[] }])
  fields := #[{ name := "SIOOBE_FORMATTER", type := (.object "java/util/function/BiFunction"), accessFlags := 25, slot := 0, constantValue := 0 }, { name := "AIOOBE_FORMATTER", type := (.object "java/util/function/BiFunction"), accessFlags := 25, slot := 1, constantValue := 0 }, { name := "IOOBE_FORMATTER", type := (.object "java/util/function/BiFunction"), accessFlags := 25, slot := 2, constantValue := 0 }]
  methods := #[k12m0, k12m1]
  instanceTypes := #[]
  staticTypes := #[(.object "java/util/function/BiFunction"), (.object "java/util/function/BiFunction"), (.object "java/util/function/BiFunction")]
  resolved := Array.replicate 194 none
  statics := some 2 }

def pool13 : Array CpInfo := pool [(9, u "<init>"), (6, .class_ 18), (1, u "java/lang/Object"), (0, u "()V"), (1, .class_ 23), (1, u "jdk/internal/util/ArraysSupport"), (0, u "LOG2_ARRAY_LONG_INDEX_SCALE"), (0, u "I"), (2, u "U"), (0, u "Ljdk/internal/misc/Unsafe;"), (8, u "BIG_ENDIAN"), (0, u "Z"), (8, u "LOG2_BYTE_BIT_SIZE"), (4, u "LOG2_ARRAY_INT_INDEX_SCALE"), (54, u "JLA"), (0, u "Ljdk/internal/access/JavaLangAccess;"), (11, u "LOG2_ARRAY_BOOLEAN_INDEX_SCALE"), (9, u "LOG2_ARRAY_BYTE_INDEX_SCALE"), (5, u "LOG2_ARRAY_CHAR_INDEX_SCALE"), (5, u "LOG2_ARRAY_SHORT_INDEX_SCALE"), (18, u "LOG2_ARRAY_FLOAT_INDEX_SCALE"), (24, u "LOG2_ARRAY_DOUBLE_INDEX_SCALE"), (89, u "T_BOOLEAN"), (2, u "T_CHAR"), (1, u "T_FLOAT"), (1, u "T_DOUBLE"), (1, u "T_BYTE"), (1, u "T_SHORT"), (1, u "T_INT"), (1, u "T_LONG"), (1, u "SOFT_MAX_ARRAY_LENGTH")] 83

def k13m0 : Method := { name := "<init>", desc := "()V", sig := { parameters := [], returnType := none }, accessFlags := 2, code := none }
/-- jdk/internal/util/ArraysSupport -/
def k13 : Class := { plain "jdk/internal/util/ArraysSupport" (some 0) with
  accessFlags := 33
  interfaces := #[]
  cf := some (fileOf pool13 21 #[] #[{ accessFlags := 2, nameIndex := 9, descriptorIndex := 19, attributes := #[] }] 33 16 #[] #[{ accessFlags := 24, nameIndex := 28, descriptorIndex := 29, attributes := #[] }, { accessFlags := 26, nameIndex := 38, descriptorIndex := 39, attributes := #[] }, { accessFlags := 25, nameIndex := 121, descriptorIndex := 25, attributes := #[] }, { accessFlags := 25, nameIndex := 131, descriptorIndex := 25, attributes := #[] }, { accessFlags := 25, nameIndex := 137, descriptorIndex := 25, attributes := #[] }, { accessFlags := 25, nameIndex := 143, descriptorIndex := 25, attributes := #[] }, { accessFlags := 25, nameIndex := 53, descriptorIndex := 25, attributes := #[] }, { accessFlags := 25, nameIndex := 24, descriptorIndex := 25, attributes := #[] }, { accessFlags := 25, nameIndex := 162, descriptorIndex := 25, attributes := #[] }, { accessFlags := 25, nameIndex := 187, descriptorIndex := 25, attributes := #[] }, { accessFlags := 26, nameIndex := 48, descriptorIndex := 25, attributes := #[] }, { accessFlags := 25, nameIndex := 277, descriptorIndex := 25, attributes := #[] }, { accessFlags := 25, nameIndex := 280, descriptorIndex := 25, attributes := #[] }, { accessFlags := 25, nameIndex := 282, descriptorIndex := 25, attributes := #[] }, { accessFlags := 25, nameIndex := 284, descriptorIndex := 25, attributes := #[] }, { accessFlags := 25, nameIndex := 286, descriptorIndex := 25, attributes := #[] }, { accessFlags := 25, nameIndex := 288, descriptorIndex := 25, attributes := #[] }, { accessFlags := 25, nameIndex := 290, descriptorIndex := 25, attributes := #[] }, { accessFlags := 25, nameIndex := 292, descriptorIndex := 25, attributes := #[] }, { accessFlags := 26, nameIndex := 108, descriptorIndex := 109, attributes := #[] }, { accessFlags := 25, nameIndex := 294, descriptorIndex := 25, attributes := #[] }])
  fields := #[{ name := "U", type := (.object "jdk/internal/misc/Unsafe"), accessFlags := 24, slot := 0, constantValue := 0 }, { name := "BIG_ENDIAN", type := .boolean, accessFlags := 26, slot := 1, constantValue := 0 }, { name := "LOG2_ARRAY_BOOLEAN_INDEX_SCALE", type := .int, accessFlags := 25, slot := 2, constantValue := 0 }, { name := "LOG2_ARRAY_BYTE_INDEX_SCALE", type := .int, accessFlags := 25, slot := 3, constantValue := 0 }, { name := "LOG2_ARRAY_CHAR_INDEX_SCALE", type := .int, accessFlags := 25, slot := 4, constantValue := 0 }, { name := "LOG2_ARRAY_SHORT_INDEX_SCALE", type := .int, accessFlags := 25, slot := 5, constantValue := 0 }, { name := "LOG2_ARRAY_INT_INDEX_SCALE", type := .int, accessFlags := 25, slot := 6, constantValue := 0 }, { name := "LOG2_ARRAY_LONG_INDEX_SCALE", type := .int, accessFlags := 25, slot := 7, constantValue := 0 }, { name := "LOG2_ARRAY_FLOAT_INDEX_SCALE", type := .int, accessFlags := 25, slot := 8, constantValue := 0 }, { name := "LOG2_ARRAY_DOUBLE_INDEX_SCALE", type := .int, accessFlags := 25, slot := 9, constantValue := 0 }, { name := "LOG2_BYTE_BIT_SIZE", type := .int, accessFlags := 26, slot := 10, constantValue := 0 }, { name := "T_BOOLEAN", type := .int, accessFlags := 25, slot := 11, constantValue := 0 }, { name := "T_CHAR", type := .int, accessFlags := 25, slot := 12, constantValue := 0 }, { name := "T_FLOAT", type := .int, accessFlags := 25, slot := 13, constantValue := 0 }, { name := "T_DOUBLE", type := .int, accessFlags := 25, slot := 14, constantValue := 0 }, { name := "T_BYTE", type := .int, accessFlags := 25, slot := 15, constantValue := 0 }, { name := "T_SHORT", type := .int, accessFlags := 25, slot := 16, constantValue := 0 }, { name := "T_INT", type := .int, accessFlags := 25, slot := 17, constantValue := 0 }, { name := "T_LONG", type := .int, accessFlags := 25, slot := 18, constantValue := 0 }, { name := "JLA", type := (.object "jdk/internal/access/JavaLangAccess"), accessFlags := 26, slot := 19, constantValue := 0 }, { name := "SOFT_MAX_ARRAY_LENGTH", type := .int, accessFlags := 25, slot := 20, constantValue := 0 }]
  methods := #[k13m0]
  instanceTypes := #[]
  staticTypes := #[(.object "jdk/internal/misc/Unsafe"), .boolean, .int, .int, .int, .int, .int, .int, .int, .int, .int, .int, .int, .int, .int, .int, .int, .int, .int, (.object "jdk/internal/access/JavaLangAccess"), .int]
  resolved := Array.replicate 378 none
  statics := none }

def pool14 : Array CpInfo := pool [(1, u "java/lang/Cloneable"), (0, .class_ 1), (0, u "java/lang/Object"), (0, .class_ 3)] 3

/-- java/lang/Cloneable -/
def k14 : Class := { plain "java/lang/Cloneable" (some 0) with
  accessFlags := 1537
  interfaces := #[]
  cf := some (fileOf pool14 2 #[] #[] 1537 4 #[] #[])
  fields := #[]
  methods := #[]
  instanceTypes := #[]
  staticTypes := #[]
  resolved := Array.replicate 8 none
  statics := none }

/-- the primitive byte -/
def k15 : Class := { plain "byte" none with kind := .primitive 'B', accessFlags := 0x411 }
/-- [B -/
def k16 : Class := { plain "[B" (some 0) with kind := .array 15 .byte, interfaces := #[14, 2], accessFlags := 1041 }

/-- the primitive char -/
def k17 : Class := { plain "char" none with kind := .primitive 'C', accessFlags := 0x411 }
/-- [C -/
def k18 : Class := { plain "[C" (some 0) with kind := .array 17 .char, interfaces := #[14, 2], accessFlags := 1041 }

/-- the primitive int -/
def k19 : Class := { plain "int" none with kind := .primitive 'I', accessFlags := 0x411 }
/-- [I -/
def k20 : Class := { plain "[I" (some 0) with kind := .array 19 .int, interfaces := #[14, 2], accessFlags := 1041 }

def heap : Heap := #[{ cls := 7, slots := #[.long 0, .int 1, .null, .int 0, .null, .int 0, .int 0], vm := .statics 7 },
  { cls := 11, slots := #[.int 0, .int 8, .int 0, .int 1], vm := .statics 11 },
  { cls := 12, slots := #[.null, .null, .null], vm := .statics 12 }]
def classes : Array Class := #[k0, k1, k2, k3, k4, k5, k6, k7, k8, k9, k10, k11, k12, k13, k14, k15, k16, k17, k18, k19, k20]
def interned : List (Array UInt16 × Addr) := []
def slotsUsed : Nat := 14
def theMethod : MethodId := ⟨1, 1⟩
def args0 : Array Value := #[.int 5, .int 6, .int 7, .int 3, .int 2]
def aboutOver (below : List Frame) : State where
  vm := { classes := classes, interned := interned.toArray }
  heap := heap
  slotsUsed := slotsUsed
  threads := #[{ frames := .invoking theMethod args0 :: below }]
def below0 : List Frame := [.native { method := ⟨0, 0⟩, args := #[] }]
def about1 : State := aboutOver below0
def p0 : Program := .bare "" "" ""
def e0 : Env := launch0.env 0 0 0
theorem w_frames : about1.frames = Frame.invoking theMethod args0 :: below0 := rfl
set_option maxRecDepth 65536 in
theorem w_args : argsFit about1.vm theMethod args0 = true := by decide +kernel
set_option maxRecDepth 65536 in
theorem w_heap : heapFits about1 = true := by decide +kernel
set_option maxRecDepth 65536 in
theorem w_runnable : about1.curStatus? = some .runnable := by decide +kernel
set_option maxRecDepth 65536 in
theorem w_alone : about1.alone = true := by decide +kernel
set_option maxRecDepth 65536 in
theorem w_named : about1.methodNamed? x = some theMethod := by decide +kernel
set_option maxRecDepth 65536 in
theorem w_hears : about1.hears theMethod below0 = true := by decide +kernel
set_option maxRecDepth 65536 in
theorem w_ripe : about1.ripe theMethod args0 below0 = true := by decide +kernel
theorem w_running : about1.status = .running := rfl
set_option maxRecDepth 65536 in
theorem w_room : about1.hasRoom e0.platform room_1 = true :=
  launch0.hasRoom_least _ room_1 (by decide +kernel) (by decide +kernel) (by decide +kernel) (by decide +kernel) (by decide +kernel) (by decide +kernel)
theorem allAtoms_all (ts : List Jvm.Cond) (a : Array Jvm.Value) (st : Jvm.State) : (allAtoms ts).before a st = ts.all (fun c => c.before a st) := by
  induction ts with
  | nil => rfl
  | cons c t ih =>
    show (Jvm.Cond.and c (allAtoms t)).before a st = _
    rw [Jvm.Cond.before_and, ih, List.all_cons]
def words1 : List Jvm.Cond := Jvm.Cond.code x code maxLocals ret :: tables_1
/-- a 'code' word, met by the world's own term for the bytes: nothing is compared byte by byte -/
theorem code_word {y : MethodName} {bytes : ByteArray} {mx : Nat} {rt : Option FieldType} {a : Array Value} {s : State} {m : MethodId} {meth : Method} {c : Code} (h1 : s.methodNamed? y = some m) (h2 : s.vm.method? m = some meth) (h3 : meth.code = some c) (h4 : c.code = bytes)
    (h5 : (c.maxLocals == mx && c.exceptionTable.isEmpty && decide (c.maxStack ≤ mostOperands) && decide (meth.sig.returnType = rt) && !meth.locks && decide (parseMethodDescriptor y.desc = some meth.sig)) = true) : (Jvm.Cond.code y bytes mx rt).before a s = true := by
  simp only [Bool.and_eq_true, beq_iff_eq, Bool.not_eq_true', decide_eq_true_eq] at h5
  obtain ⟨⟨⟨⟨⟨g1, g2⟩, g3⟩, g4⟩, g5⟩, g6⟩ := h5
  simp [Cond.before, Cond.holds, Cond.value, h1, h2, h3, h4, g1, g2, g3, g4, g5, g6]
def isCode : Jvm.Cond → Bool
  | .code _ _ _ _ => true
  | _ => false
theorem all_split {L : List Jvm.Cond} {P : Jvm.Cond → Bool} (h1 : L.all (fun c => isCode c || P c) = true) (h2 : ∀ c ∈ L.filter isCode, P c = true) : L.all P = true := by
  refine List.all_eq_true.mpr fun c hc => ?_
  have h := List.all_eq_true.mp h1 c hc
  rcases Bool.eq_false_or_eq_true (isCode c) with hi | hi
  · exact h2 c (List.mem_filter.mpr ⟨hc, hi⟩)
  · simpa [hi] using h
set_option maxRecDepth 65536 in
theorem w_c0 : (Jvm.Cond.code x code maxLocals ret).before args0 about1 = true := code_word (m := ⟨1, 1⟩) (meth := k1m1) (c := k1c1) (by decide +kernel) rfl rfl rfl (by decide +kernel)
set_option maxRecDepth 65536 in
theorem w_c1 : (Jvm.Cond.code ({ cls := "java/lang/String", name := "<init>", desc := "([C)V" } : Jvm.MethodName) jdk_42_method_3_code (2 : Nat) (Option.none : Option Jvm.ClassFile.FieldType)).before args0 about1 = true := code_word (m := ⟨7, 1⟩) (meth := k7m1) (c := k7c1) (by decide +kernel) rfl rfl rfl (by decide +kernel)
set_option maxRecDepth 65536 in
theorem w_c2 : (Jvm.Cond.code ({ cls := "java/lang/String", name := "<init>", desc := "([CIILjava/lang/Void;)V" } : Jvm.MethodName) jdk_42_method_149_code (6 : Nat) (Option.none : Option Jvm.ClassFile.FieldType)).before args0 about1 = true := code_word (m := ⟨7, 5⟩) (meth := k7m5) (c := k7c5) (by decide +kernel) rfl rfl rfl (by decide +kernel)
set_option maxRecDepth 65536 in
theorem w_c3 : (Jvm.Cond.code ({ cls := "java/lang/Object", name := "<init>", desc := "()V" } : Jvm.MethodName) object_method_1_code (1 : Nat) (Option.none : Option Jvm.ClassFile.FieldType)).before args0 about1 = true := code_word (m := ⟨0, 0⟩) (meth := k0m0) (c := k0c0) (by decide +kernel) rfl rfl rfl (by decide +kernel)
set_option maxRecDepth 65536 in
theorem w_c4 : (Jvm.Cond.code ({ cls := "com/example/hecate/hecate/identity/IdentitySigner", name := "holdsSeparator", desc := "(Ljava/lang/String;)Z" } : Jvm.MethodName) prog_35_method_4_code (1 : Nat) (Option.some Jvm.ClassFile.FieldType.boolean)).before args0 about1 = true := code_word (m := ⟨8, 0⟩) (meth := k8m0) (c := k8c0) (by decide +kernel) rfl rfl rfl (by decide +kernel)
set_option maxRecDepth 65536 in
theorem w_c5 : (Jvm.Cond.code ({ cls := "java/lang/String", name := "indexOf", desc := "(I)I" } : Jvm.MethodName) jdk_42_method_79_code (2 : Nat) (Option.some Jvm.ClassFile.FieldType.int)).before args0 about1 = true := code_word (m := ⟨7, 3⟩) (meth := k7m3) (c := k7c3) (by decide +kernel) rfl rfl rfl (by decide +kernel)
set_option maxRecDepth 65536 in
theorem w_c6 : (Jvm.Cond.code ({ cls := "java/lang/String", name := "indexOf", desc := "(II)I" } : Jvm.MethodName) jdk_42_method_80_code (3 : Nat) (Option.some Jvm.ClassFile.FieldType.int)).before args0 about1 = true := code_word (m := ⟨7, 4⟩) (meth := k7m4) (c := k7c4) (by decide +kernel) rfl rfl rfl (by decide +kernel)
set_option maxRecDepth 65536 in
theorem w_c7 : (Jvm.Cond.code ({ cls := "java/lang/String", name := "isLatin1", desc := "()Z" } : Jvm.MethodName) jdk_42_method_154_code (1 : Nat) (Option.some Jvm.ClassFile.FieldType.boolean)).before args0 about1 = true := code_word (m := ⟨7, 7⟩) (meth := k7m7) (c := k7c7) (by decide +kernel) rfl rfl rfl (by decide +kernel)
set_option maxRecDepth 65536 in
theorem w_c8 : (Jvm.Cond.code ({ cls := "java/lang/String", name := "length", desc := "()I" } : Jvm.MethodName) jdk_42_method_54_code (1 : Nat) (Option.some Jvm.ClassFile.FieldType.int)).before args0 about1 = true := code_word (m := ⟨7, 2⟩) (meth := k7m2) (c := k7c2) (by decide +kernel) rfl rfl rfl (by decide +kernel)
set_option maxRecDepth 65536 in
theorem w_c9 : (Jvm.Cond.code ({ cls := "java/lang/String", name := "coder", desc := "()B" } : Jvm.MethodName) jdk_42_method_152_code (1 : Nat) (Option.some Jvm.ClassFile.FieldType.byte)).before args0 about1 = true := code_word (m := ⟨7, 6⟩) (meth := k7m6) (c := k7c6) (by decide +kernel) rfl rfl rfl (by decide +kernel)
set_option maxRecDepth 65536 in
theorem w_c10 : (Jvm.Cond.code ({ cls := "java/lang/StringLatin1", name := "indexOf", desc := "([BIII)I" } : Jvm.MethodName) jdk_43_method_22_code (4 : Nat) (Option.some Jvm.ClassFile.FieldType.int)).before args0 about1 = true := code_word (m := ⟨9, 2⟩) (meth := k9m2) (c := k9c2) (by decide +kernel) rfl rfl rfl (by decide +kernel)
set_option maxRecDepth 65536 in
theorem w_c11 : (Jvm.Cond.code ({ cls := "java/lang/StringLatin1", name := "canEncode", desc := "(I)Z" } : Jvm.MethodName) jdk_43_method_4_code (1 : Nat) (Option.some Jvm.ClassFile.FieldType.boolean)).before args0 about1 = true := code_word (m := ⟨9, 1⟩) (meth := k9m1) (c := k9c1) (by decide +kernel) rfl rfl rfl (by decide +kernel)
set_option maxRecDepth 65536 in
theorem w_c12 : (Jvm.Cond.code ({ cls := "java/lang/Math", name := "max", desc := "(II)I" } : Jvm.MethodName) jdk_29_method_65_code (2 : Nat) (Option.some Jvm.ClassFile.FieldType.int)).before args0 about1 = true := code_word (m := ⟨10, 1⟩) (meth := k10m1) (c := k10c1) (by decide +kernel) rfl rfl rfl (by decide +kernel)
set_option maxRecDepth 65536 in
theorem w_c13 : (Jvm.Cond.code ({ cls := "java/lang/Math", name := "min", desc := "(II)I" } : Jvm.MethodName) jdk_29_method_69_code (2 : Nat) (Option.some Jvm.ClassFile.FieldType.int)).before args0 about1 = true := code_word (m := ⟨10, 2⟩) (meth := k10m2) (c := k10c2) (by decide +kernel) rfl rfl rfl (by decide +kernel)
set_option maxRecDepth 65536 in
theorem w_c14 : (Jvm.Cond.code ({ cls := "java/lang/StringUTF16", name := "compress", desc := "([CII)[B" } : Jvm.MethodName) jdk_52_method_16_code (6 : Nat) (Option.some (Jvm.ClassFile.FieldType.array Jvm.ClassFile.FieldType.byte))).before args0 about1 = true := code_word (m := ⟨11, 8⟩) (meth := k11m8) (c := k11c8) (by decide +kernel) rfl rfl rfl (by decide +kernel)
set_option maxRecDepth 65536 in
theorem w_c15 : (Jvm.Cond.code ({ cls := "java/lang/StringUTF16", name := "compress", desc := "([CI[BII)I" } : Jvm.MethodName) jdk_52_method_21_code (7 : Nat) (Option.some Jvm.ClassFile.FieldType.int)).before args0 about1 = true := code_word (m := ⟨11, 9⟩) (meth := k11m9) (c := k11c9) (by decide +kernel) rfl rfl rfl (by decide +kernel)
set_option maxRecDepth 65536 in
theorem w_c16 : (Jvm.Cond.code ({ cls := "java/lang/StringUTF16", name := "coderFromArrayLen", desc := "([BI)B" } : Jvm.MethodName) jdk_52_method_15_code (2 : Nat) (Option.some Jvm.ClassFile.FieldType.byte)).before args0 about1 = true := code_word (m := ⟨11, 7⟩) (meth := k11m7) (c := k11c7) (by decide +kernel) rfl rfl rfl (by decide +kernel)
set_option maxRecDepth 65536 in
theorem w_c17 : (Jvm.Cond.code ({ cls := "java/lang/StringLatin1", name := "indexOfChar", desc := "([BIII)I" } : Jvm.MethodName) jdk_43_method_23_code (6 : Nat) (Option.some Jvm.ClassFile.FieldType.int)).before args0 about1 = true := code_word (m := ⟨9, 3⟩) (meth := k9m3) (c := k9c3) (by decide +kernel) rfl rfl rfl (by decide +kernel)
set_option maxRecDepth 65536 in
theorem w_c18 : (Jvm.Cond.code ({ cls := "java/lang/StringUTF16", name := "toBytes", desc := "([CII)[B" } : Jvm.MethodName) jdk_52_method_14_code (5 : Nat) (Option.some (Jvm.ClassFile.FieldType.array Jvm.ClassFile.FieldType.byte))).before args0 about1 = true := code_word (m := ⟨11, 6⟩) (meth := k11m6) (c := k11c6) (by decide +kernel) rfl rfl rfl (by decide +kernel)
set_option maxRecDepth 65536 in
theorem w_c19 : (Jvm.Cond.code ({ cls := "java/lang/StringUTF16", name := "newBytesFor", desc := "(I)[B" } : Jvm.MethodName) jdk_52_method_2_code (1 : Nat) (Option.some (Jvm.ClassFile.FieldType.array Jvm.ClassFile.FieldType.byte))).before args0 about1 = true := code_word (m := ⟨11, 1⟩) (meth := k11m1) (c := k11c1) (by decide +kernel) rfl rfl rfl (by decide +kernel)
set_option maxRecDepth 65536 in
theorem w_c20 : (Jvm.Cond.code ({ cls := "java/lang/StringUTF16", name := "newBytesLength", desc := "(I)I" } : Jvm.MethodName) jdk_52_method_3_code (1 : Nat) (Option.some Jvm.ClassFile.FieldType.int)).before args0 about1 = true := code_word (m := ⟨11, 2⟩) (meth := k11m2) (c := k11c2) (by decide +kernel) rfl rfl rfl (by decide +kernel)
set_option maxRecDepth 65536 in
theorem w_c21 : (Jvm.Cond.code ({ cls := "java/lang/StringUTF16", name := "putChar", desc := "([BII)V" } : Jvm.MethodName) jdk_52_method_4_code (3 : Nat) (Option.none : Option Jvm.ClassFile.FieldType)).before args0 about1 = true := code_word (m := ⟨11, 3⟩) (meth := k11m3) (c := k11c3) (by decide +kernel) rfl rfl rfl (by decide +kernel)
set_option maxRecDepth 65536 in
theorem w_c22 : (Jvm.Cond.code ({ cls := "java/lang/StringUTF16", name := "getChar", desc := "([BI)C" } : Jvm.MethodName) jdk_52_method_5_code (2 : Nat) (Option.some Jvm.ClassFile.FieldType.char)).before args0 about1 = true := code_word (m := ⟨11, 4⟩) (meth := k11m4) (c := k11c4) (by decide +kernel) rfl rfl rfl (by decide +kernel)
set_option maxRecDepth 65536 in
theorem w_c23 : (Jvm.Cond.code ({ cls := "java/lang/StringUTF16", name := "indexOf", desc := "([BIII)I" } : Jvm.MethodName) jdk_52_method_40_code (4 : Nat) (Option.some Jvm.ClassFile.FieldType.int)).before args0 about1 = true := code_word (m := ⟨11, 10⟩) (meth := k11m10) (c := k11c10) (by decide +kernel) rfl rfl rfl (by decide +kernel)
set_option maxRecDepth 65536 in
theorem w_c24 : (Jvm.Cond.code ({ cls := "java/lang/StringUTF16", name := "indexOfChar", desc := "([BIII)I" } : Jvm.MethodName) jdk_52_method_47_code (4 : Nat) (Option.some Jvm.ClassFile.FieldType.int)).before args0 about1 = true := code_word (m := ⟨11, 11⟩) (meth := k11m11) (c := k11c11) (by decide +kernel) rfl rfl rfl (by decide +kernel)
set_option maxRecDepth 65536 in
theorem w_c25 : (Jvm.Cond.code ({ cls := "java/lang/StringUTF16", name := "checkBoundsBeginEnd", desc := "(II[B)V" } : Jvm.MethodName) jdk_52_method_93_code (3 : Nat) (Option.none : Option Jvm.ClassFile.FieldType)).before args0 about1 = true := code_word (m := ⟨11, 13⟩) (meth := k11m13) (c := k11c13) (by decide +kernel) rfl rfl rfl (by decide +kernel)
set_option maxRecDepth 65536 in
theorem w_c26 : (Jvm.Cond.code ({ cls := "java/lang/StringUTF16", name := "length", desc := "([B)I" } : Jvm.MethodName) jdk_52_method_6_code (1 : Nat) (Option.some Jvm.ClassFile.FieldType.int)).before args0 about1 = true := code_word (m := ⟨11, 5⟩) (meth := k11m5) (c := k11c5) (by decide +kernel) rfl rfl rfl (by decide +kernel)
set_option maxRecDepth 65536 in
theorem w_c27 : (Jvm.Cond.code ({ cls := "java/lang/String", name := "checkBoundsBeginEnd", desc := "(III)V" } : Jvm.MethodName) jdk_42_method_158_code (3 : Nat) (Option.none : Option Jvm.ClassFile.FieldType)).before args0 about1 = true := code_word (m := ⟨7, 8⟩) (meth := k7m8) (c := k7c8) (by decide +kernel) rfl rfl rfl (by decide +kernel)
set_option maxRecDepth 65536 in
theorem w_c28 : (Jvm.Cond.code ({ cls := "jdk/internal/util/Preconditions", name := "checkFromToIndex", desc := "(IIILjava/util/function/BiFunction;)I" } : Jvm.MethodName) jdk_41_method_12_code (4 : Nat) (Option.some Jvm.ClassFile.FieldType.int)).before args0 about1 = true := code_word (m := ⟨12, 1⟩) (meth := k12m1) (c := k12c1) (by decide +kernel) rfl rfl rfl (by decide +kernel)
set_option maxRecDepth 65536 in
theorem w_c29 : (Jvm.Cond.code ({ cls := "java/lang/StringUTF16", name := "indexOfCharUnsafe", desc := "([BIII)I" } : Jvm.MethodName) jdk_52_method_48_code (5 : Nat) (Option.some Jvm.ClassFile.FieldType.int)).before args0 about1 = true := code_word (m := ⟨11, 12⟩) (meth := k11m12) (c := k11c12) (by decide +kernel) rfl rfl rfl (by decide +kernel)
def codes1 : List Jvm.Cond := [Jvm.Cond.code x code maxLocals ret, Jvm.Cond.code ({ cls := "java/lang/String", name := "<init>", desc := "([C)V" } : Jvm.MethodName) jdk_42_method_3_code (2 : Nat) (Option.none : Option Jvm.ClassFile.FieldType), Jvm.Cond.code ({ cls := "java/lang/String", name := "<init>", desc := "([CIILjava/lang/Void;)V" } : Jvm.MethodName) jdk_42_method_149_code (6 : Nat) (Option.none : Option Jvm.ClassFile.FieldType), Jvm.Cond.code ({ cls := "java/lang/Object", name := "<init>", desc := "()V" } : Jvm.MethodName) object_method_1_code (1 : Nat) (Option.none : Option Jvm.ClassFile.FieldType), Jvm.Cond.code ({ cls := "com/example/hecate/hecate/identity/IdentitySigner", name := "holdsSeparator", desc := "(Ljava/lang/String;)Z" } : Jvm.MethodName) prog_35_method_4_code (1 : Nat) (Option.some Jvm.ClassFile.FieldType.boolean), Jvm.Cond.code ({ cls := "java/lang/String", name := "indexOf", desc := "(I)I" } : Jvm.MethodName) jdk_42_method_79_code (2 : Nat) (Option.some Jvm.ClassFile.FieldType.int), Jvm.Cond.code ({ cls := "java/lang/String", name := "indexOf", desc := "(II)I" } : Jvm.MethodName) jdk_42_method_80_code (3 : Nat) (Option.some Jvm.ClassFile.FieldType.int), Jvm.Cond.code ({ cls := "java/lang/String", name := "isLatin1", desc := "()Z" } : Jvm.MethodName) jdk_42_method_154_code (1 : Nat) (Option.some Jvm.ClassFile.FieldType.boolean), Jvm.Cond.code ({ cls := "java/lang/String", name := "length", desc := "()I" } : Jvm.MethodName) jdk_42_method_54_code (1 : Nat) (Option.some Jvm.ClassFile.FieldType.int), Jvm.Cond.code ({ cls := "java/lang/String", name := "coder", desc := "()B" } : Jvm.MethodName) jdk_42_method_152_code (1 : Nat) (Option.some Jvm.ClassFile.FieldType.byte), Jvm.Cond.code ({ cls := "java/lang/StringLatin1", name := "indexOf", desc := "([BIII)I" } : Jvm.MethodName) jdk_43_method_22_code (4 : Nat) (Option.some Jvm.ClassFile.FieldType.int), Jvm.Cond.code ({ cls := "java/lang/StringLatin1", name := "canEncode", desc := "(I)Z" } : Jvm.MethodName) jdk_43_method_4_code (1 : Nat) (Option.some Jvm.ClassFile.FieldType.boolean), Jvm.Cond.code ({ cls := "java/lang/Math", name := "max", desc := "(II)I" } : Jvm.MethodName) jdk_29_method_65_code (2 : Nat) (Option.some Jvm.ClassFile.FieldType.int), Jvm.Cond.code ({ cls := "java/lang/Math", name := "min", desc := "(II)I" } : Jvm.MethodName) jdk_29_method_69_code (2 : Nat) (Option.some Jvm.ClassFile.FieldType.int), Jvm.Cond.code ({ cls := "java/lang/StringUTF16", name := "compress", desc := "([CII)[B" } : Jvm.MethodName) jdk_52_method_16_code (6 : Nat) (Option.some (Jvm.ClassFile.FieldType.array Jvm.ClassFile.FieldType.byte)), Jvm.Cond.code ({ cls := "java/lang/StringUTF16", name := "compress", desc := "([CI[BII)I" } : Jvm.MethodName) jdk_52_method_21_code (7 : Nat) (Option.some Jvm.ClassFile.FieldType.int), Jvm.Cond.code ({ cls := "java/lang/StringUTF16", name := "coderFromArrayLen", desc := "([BI)B" } : Jvm.MethodName) jdk_52_method_15_code (2 : Nat) (Option.some Jvm.ClassFile.FieldType.byte), Jvm.Cond.code ({ cls := "java/lang/StringLatin1", name := "indexOfChar", desc := "([BIII)I" } : Jvm.MethodName) jdk_43_method_23_code (6 : Nat) (Option.some Jvm.ClassFile.FieldType.int), Jvm.Cond.code ({ cls := "java/lang/StringUTF16", name := "toBytes", desc := "([CII)[B" } : Jvm.MethodName) jdk_52_method_14_code (5 : Nat) (Option.some (Jvm.ClassFile.FieldType.array Jvm.ClassFile.FieldType.byte)), Jvm.Cond.code ({ cls := "java/lang/StringUTF16", name := "newBytesFor", desc := "(I)[B" } : Jvm.MethodName) jdk_52_method_2_code (1 : Nat) (Option.some (Jvm.ClassFile.FieldType.array Jvm.ClassFile.FieldType.byte)), Jvm.Cond.code ({ cls := "java/lang/StringUTF16", name := "newBytesLength", desc := "(I)I" } : Jvm.MethodName) jdk_52_method_3_code (1 : Nat) (Option.some Jvm.ClassFile.FieldType.int), Jvm.Cond.code ({ cls := "java/lang/StringUTF16", name := "putChar", desc := "([BII)V" } : Jvm.MethodName) jdk_52_method_4_code (3 : Nat) (Option.none : Option Jvm.ClassFile.FieldType), Jvm.Cond.code ({ cls := "java/lang/StringUTF16", name := "getChar", desc := "([BI)C" } : Jvm.MethodName) jdk_52_method_5_code (2 : Nat) (Option.some Jvm.ClassFile.FieldType.char), Jvm.Cond.code ({ cls := "java/lang/StringUTF16", name := "indexOf", desc := "([BIII)I" } : Jvm.MethodName) jdk_52_method_40_code (4 : Nat) (Option.some Jvm.ClassFile.FieldType.int), Jvm.Cond.code ({ cls := "java/lang/StringUTF16", name := "indexOfChar", desc := "([BIII)I" } : Jvm.MethodName) jdk_52_method_47_code (4 : Nat) (Option.some Jvm.ClassFile.FieldType.int), Jvm.Cond.code ({ cls := "java/lang/StringUTF16", name := "checkBoundsBeginEnd", desc := "(II[B)V" } : Jvm.MethodName) jdk_52_method_93_code (3 : Nat) (Option.none : Option Jvm.ClassFile.FieldType), Jvm.Cond.code ({ cls := "java/lang/StringUTF16", name := "length", desc := "([B)I" } : Jvm.MethodName) jdk_52_method_6_code (1 : Nat) (Option.some Jvm.ClassFile.FieldType.int), Jvm.Cond.code ({ cls := "java/lang/String", name := "checkBoundsBeginEnd", desc := "(III)V" } : Jvm.MethodName) jdk_42_method_158_code (3 : Nat) (Option.none : Option Jvm.ClassFile.FieldType), Jvm.Cond.code ({ cls := "jdk/internal/util/Preconditions", name := "checkFromToIndex", desc := "(IIILjava/util/function/BiFunction;)I" } : Jvm.MethodName) jdk_41_method_12_code (4 : Nat) (Option.some Jvm.ClassFile.FieldType.int), Jvm.Cond.code ({ cls := "java/lang/StringUTF16", name := "indexOfCharUnsafe", desc := "([BIII)I" } : Jvm.MethodName) jdk_52_method_48_code (5 : Nat) (Option.some Jvm.ClassFile.FieldType.int)]
set_option maxRecDepth 65536 in
theorem codes_eq : words1.filter isCode = codes1 := rfl
theorem w_codes : ∀ c ∈ words1.filter isCode, c.before args0 about1 = true := by
  rw [codes_eq]
  intro c hc
  simp only [codes1, List.mem_cons, List.not_mem_nil, or_false] at hc
  rcases hc with rfl | rfl | rfl | rfl | rfl | rfl | rfl | rfl | rfl | rfl | rfl | rfl | rfl | rfl | rfl | rfl | rfl | rfl | rfl | rfl | rfl | rfl | rfl | rfl | rfl | rfl | rfl | rfl | rfl | rfl
  · exact w_c0
  · exact w_c1
  · exact w_c2
  · exact w_c3
  · exact w_c4
  · exact w_c5
  · exact w_c6
  · exact w_c7
  · exact w_c8
  · exact w_c9
  · exact w_c10
  · exact w_c11
  · exact w_c12
  · exact w_c13
  · exact w_c14
  · exact w_c15
  · exact w_c16
  · exact w_c17
  · exact w_c18
  · exact w_c19
  · exact w_c20
  · exact w_c21
  · exact w_c22
  · exact w_c23
  · exact w_c24
  · exact w_c25
  · exact w_c26
  · exact w_c27
  · exact w_c28
  · exact w_c29
set_option maxRecDepth 65536 in
theorem w_t1 : (words1.take 24).all (fun c => isCode c || c.before args0 about1) = true := by decide +kernel
set_option maxRecDepth 65536 in
theorem w_t2 : ((words1.drop 24).take 24).all (fun c => isCode c || c.before args0 about1) = true := by decide +kernel
set_option maxRecDepth 65536 in
theorem w_t3 : (((words1.drop 24).drop 24).take 24).all (fun c => isCode c || c.before args0 about1) = true := by decide +kernel
set_option maxRecDepth 65536 in
theorem w_t4 : ((((words1.drop 24).drop 24).drop 24).take 24).all (fun c => isCode c || c.before args0 about1) = true := by decide +kernel
set_option maxRecDepth 65536 in
theorem w_t5 : (((((words1.drop 24).drop 24).drop 24).drop 24).take 24).all (fun c => isCode c || c.before args0 about1) = true := by decide +kernel
set_option maxRecDepth 65536 in
theorem w_t6 : (((((words1.drop 24).drop 24).drop 24).drop 24).drop 24).all (fun c => isCode c || c.before args0 about1) = true := by decide +kernel
theorem w_tables : (allAtoms (Jvm.Cond.code x code maxLocals ret :: tables_1)).before args0 about1 = true := by
  rw [allAtoms_all]
  show words1.all (fun c => c.before args0 about1) = true
  refine all_split ?_ w_codes
  rw [← List.take_append_drop 24 words1, List.all_append, w_t1, ← List.take_append_drop 24 (words1.drop 24), List.all_append, w_t2, ← List.take_append_drop 24 ((words1.drop 24).drop 24), List.all_append, w_t3, ← List.take_append_drop 24 (((words1.drop 24).drop 24).drop 24), List.all_append, w_t4, ← List.take_append_drop 24 ((((words1.drop 24).drop 24).drop 24).drop 24), List.all_append, w_t5, w_t6]
  rfl
set_option maxRecDepth 65536 in
theorem w_rest : rest_1_c.before args0 about1 = true := by decide +kernel
set_option maxRecDepth 65536 in
theorem w_case : (Jvm.Cond.and given_1 narrow_1).before args0 about1 = true := by decide +kernel
set_option maxRecDepth 65536 in
theorem w_consts : constsHeld consts_1 about1 := Jvm.Lit.constsHeldB_iff.mp (by decide +kernel)
theorem w_applies : (headSpec (Jvm.Cond.code x code maxLocals ret :: tables_1) room_1).applies x e0.platform about1 = true :=
  (Spec.applies_iff w_frames).mpr ⟨w_running, w_runnable, w_alone, w_named, w_hears, w_ripe, w_room, w_tables⟩
theorem atStart : AtStart classFile x code maxLocals ret World_1 tables_1 room_1 Calls_1 rest_1 Pre_1 launch0 p0 e0 about1 theMethod args0 below0 :=
  ⟨lists_1, trivial, launch0.admits_env _ _ _, launch0.least_env, fairChoices_fair.cas, fairChoices_fair.clock, w_frames, w_args, w_heap, w_applies, ⟨w_consts, trivial⟩, w_rest, w_case⟩
end start1
theorem witness_1 : WitnessClaimed_1 := ⟨start1.p0, start1.e0, start1.about1, start1.theMethod, start1.args0, start1.below0, start1.atStart⟩
end Jvm.Pilot.@@N@@
