import JvmDerived
import JvmDerived.Pilot.@@N@@Statement
import JvmDerived.Pilot.@@N@@Code
set_option linter.unusedVariables false
set_option linter.unusedSimpArgs false
/- laws to paste: Road.backV, Road.lenW, Road.chN, Road.empW, Road.codOf (cut by pick.py; bodies as the Statement names them) -/
namespace Jvm.Pilot.@@N@@
namespace StrChars
open Jvm Sem ClassFile Op Lib Jvm.Stand Jvm.Free.XT Jvm.Free.ALB Jvm.Free.JM Jvm.Free
open Jvm.Lib.Cold (StaticIs)
/-- a char array whose places are chars -/
def Ch (a : Addr) (A : Cell) (U : State) : Prop := Arr .char a A U ∧ Typed .char A
theorem Ch.mv {a : Addr} {A : Cell} {U U' : State} (h : Ch a A U) (hal : U.vm.Alike U'.vm) (hh : U'.heap = U.heap) : Ch a A U' := ⟨h.1.mv hal hh, h.2⟩
theorem Ch.keep {a : Addr} {A : Cell} {U U' : State} (h : Ch a A U) (hal : U.vm.Alike U'.vm) (hk : U'.heap[a]? = some A) : Ch a A U' := ⟨h.1.keep hal hk, h.2⟩
/-- what place i of a char[]'s cell holds -/
def cv (A : Cell) (i : Nat) : Int32 := match A.slots[i]? with | some (.int x) => x | _ => 0
theorem Ch.get {a : Addr} {A : Cell} {U : State} (h : Ch a A U) {i : Nat} (hi : i < A.slots.size) : A.slots[i]? = some (.int (cv A i)) := by
  have e := Array.getElem?_eq_getElem hi
  have f := h.2 i _ e
  unfold cv; rw [e]
  generalize A.slots[i] = v at f
  cases v <;> simp [fits] at f ⊢
/-- the byte that i2b leaves of a char -/
def lo8 (x : Int32) : Int32 := x.toInt8.toInt32
theorem fits_lo8 (y : Int32) : fits .byte (.int (lo8 y)) = true := by
  have h1 := y.toInt8.le_toInt
  have h2 := y.toInt8.toInt_lt
  simp only [lo8, fits, Bool.and_eq_true, decide_eq_true_eq, Int32.le_iff_toInt_le, Int8.toInt_toInt32, show (-128 : Int32).toInt = -128 from by decide, show (127 : Int32).toInt = 127 from by decide]
  omega
/-- A' is A but that each place j of lo .. hi - 1 holds f j -/
def Laid (A A' : Cell) (lo hi : Nat) (f : Nat → Value) : Prop := A'.cls = A.cls ∧ A'.vm = A.vm ∧ A'.slots.size = A.slots.size ∧ ∀ i, A'.slots[i]? = if lo ≤ i ∧ i < hi then some (f i) else A.slots[i]?
theorem Laid.zero (A : Cell) (lo : Nat) (f : Nat → Value) : Laid A A lo (lo + 0) f := ⟨rfl, rfl, rfl, fun i => by rw [if_neg (by omega)]⟩
theorem Laid.step {A Ak : Cell} {lo k : Nat} {f : Nat → Value} {v : Value} (h : Laid A Ak lo k f) (hlo : lo ≤ k) (hk : k < Ak.slots.size) (hv : v = f k) : Laid A (Ak.setSlot k v) lo (k + 1) f := by
  refine ⟨h.1, h.2.1, by simpa [Cell.setSlot] using h.2.2.1, fun i => ?_⟩
  by_cases e : k = i
  · subst e; rw [Cell.slots_setSlot_self v hk, if_pos (by omega), hv]
  · rw [Cell.slots_setSlot_ne v e, h.2.2.2 i]
    by_cases q : lo ≤ i ∧ i < k
    · rw [if_pos q, if_pos (by omega)]
    · rw [if_neg q, if_neg (by omega)]
def U16 : String := "java/lang/StringUTF16"
namespace Cmp5
def yN : MethodName := ⟨"java/lang/StringUTF16", "compress", "([CI[BII)I"⟩
abbrev yB : ByteArray := jdk_52_method_21_code
theorem d0 : decode yB 0 = .ok (.iconst 0, 1) := by decide +kernel
theorem d1 : decode yB 1 = .ok (.istore 5, 2) := by decide +kernel
theorem d3 : decode yB 3 = .ok (.iload 5, 2) := by decide +kernel
theorem d5 : decode yB 5 = .ok (.iload 4, 2) := by decide +kernel
theorem d7 : decode yB 7 = .ok (.if_icmp (.ge) 37, 3) := by decide +kernel
theorem d10 : decode yB 10 = .ok (.aload_n 0, 1) := by decide +kernel
theorem d11 : decode yB 11 = .ok (.iload_n 1, 1) := by decide +kernel
theorem d12 : decode yB 12 = .ok (.caload, 1) := by decide +kernel
theorem d13 : decode yB 13 = .ok (.istore 6, 2) := by decide +kernel
theorem d15 : decode yB 15 = .ok (.iload 6, 2) := by decide +kernel
theorem d17 : decode yB 17 = .ok (.sipush 255, 3) := by decide +kernel
theorem d20 : decode yB 20 = .ok (.if_icmp (.le) 6, 3) := by decide +kernel
theorem d26 : decode yB 26 = .ok (.aload_n 2, 1) := by decide +kernel
theorem d27 : decode yB 27 = .ok (.iload_n 3, 1) := by decide +kernel
theorem d28 : decode yB 28 = .ok (.iload 6, 2) := by decide +kernel
theorem d30 : decode yB 30 = .ok (.i2b, 1) := by decide +kernel
theorem d31 : decode yB 31 = .ok (.bastore, 1) := by decide +kernel
theorem d32 : decode yB 32 = .ok (.iinc 1 1, 3) := by decide +kernel
theorem d35 : decode yB 35 = .ok (.iinc 3 1, 3) := by decide +kernel
theorem d38 : decode yB 38 = .ok (.iinc 5 1, 3) := by decide +kernel
theorem d41 : decode yB 41 = .ok (.goto (-38), 3) := by decide +kernel
theorem d44 : decode yB 44 = .ok (.iload 4, 2) := by decide +kernel
theorem d46 : decode yB 46 = .ok (.ireturn, 1) := by decide +kernel
def site : List Cond := []
def tab : Cond := tabOf yN yB 7 (some .int) site
def P (b : Addr) (A : Cell) (d : Addr) (B : Cell) (o q len : Nat) (args : Array Value) (s : State) : Prop := args = #[.ref b, .int (Int32.ofNat o), .ref d, .int (Int32.ofNat q), .int (Int32.ofNat len)] ∧ Ch b A s ∧ Arr .byte d B s ∧ b ≠ d ∧ o + len ≤ A.slots.size ∧ q + len ≤ B.slots.size ∧ ∀ i, i < len → ¬ 255 < cv A (o + i)
def E (b : Addr) (A : Cell) (d : Addr) (B : Cell) (o q len : Nat) (r : Option Value) (s u : State) : Prop := r = some (.int (Int32.ofNat len)) ∧ ∃ B', Put d B' s u ∧ Laid B B' q (q + len) (fun j => Value.int (lo8 (cv A (o + (j - q)))))
/-- no char of the range above 255: len; the places written hold each char's low byte -/
theorem law (l : Launch) (b : Addr) (A : Cell) (d : Addr) (B : Cell) (o q len : Nat) : Law l yN 5 5 0 0 yB 7 (some .int) site (P b A d B o q len) (E b A d B o q len) (copyLocs d q len) 0 0 := by
  refine Law.of_walk (plainFor_of_name (by decide +kernel)) (by decide +kernel) (by decide +kernel) (by decide) (fun _ _ h => by rw [h.1]; rfl) (fun _ U U' hal hh h => ⟨h.1, h.2.1.mv hal hh, h.2.2.1.mv hal hh, h.2.2.2⟩) (fun r U U' V V' h1 hal h2 h => ⟨h.1, h.2.elim fun B' q => ⟨B', q.1.mv h1 h2, q.2⟩⟩) ?_
  intro p e s m args below meth c s₁ X0 hexec hbytes hml hret hlk hnm hown hh0 W hP
  obtain ⟨rfl, hA, hB, hne, l1, l2, hp⟩ := hP
  have c1 : Steps p.tables e below (s₁.setTop (entryFrame m #[.ref b, .int (Int32.ofNat o), .ref d, .int (Int32.ofNat q), .int (Int32.ofNat len)] 7)) (s₁.setTop (mkF m 0 #[.val (.ref b), .val (.int (Int32.ofNat o)), .val (.ref d), .val (.int (Int32.ofNat q)), .val (.int (Int32.ofNat len)), .unset, .unset] [])) := entry rfl
  have hA0 := hA.1.mv X0.warmed.alike hh0
  have hB0 := hB.mv X0.warmed.alike hh0
  have a31 := hA.1.2.2.2
  have c2 : Steps p.tables e below (s₁.setTop (entryFrame m #[.ref b, .int (Int32.ofNat o), .ref d, .int (Int32.ofNat q), .int (Int32.ofNat len)] 7)) (s₁.setTop (mkF m 3 #[.val (.ref b), .val (.int (Int32.ofNat o)), .val (.ref d), .val (.int (Int32.ofNat q)), .val (.int (Int32.ofNat len)), .val (.int 0), .unset] [])) := c1.trans (by
    refine iconstV X0.here hexec rfl 0 (hb hbytes d0) (by decide) ?_
    refine XS.istore X0.here hexec rfl (hb hbytes d1) rfl rfl ?_
    exact Steps.refl _)
  have loop : ∀ (r i : Nat), i + r = len → ∀ (z : Slot), (z = .unset ∨ ∃ w, z = .val w ∧ w.category = 1) → ∀ (Tl : State) (Bk : Cell), Stand p l e { frames := 0, locals := 0, cells := 0, slots := 0 } s m #[.ref b, .int (Int32.ofNat o), .ref d, .int (Int32.ofNat q), .int (Int32.ofNat len)] below meth c Tl ([] ++ copyLocs d q i) 0 0 → Put d Bk s₁ Tl → Laid B Bk q (q + i) (fun j => Value.int (lo8 (cv A (o + (j - q))))) →
      Steps p.tables e below (s₁.setTop (entryFrame m #[.ref b, .int (Int32.ofNat o), .ref d, .int (Int32.ofNat q), .int (Int32.ofNat len)] 7)) (Tl.setTop (mkF m 3 #[.val (.ref b), .val (.int (Int32.ofNat (o + i))), .val (.ref d), .val (.int (Int32.ofNat (q + i))), .val (.int (Int32.ofNat len)), .val (.int (Int32.ofNat i)), z] [])) → ∃ (T' : State) (B' : Cell) (z' : Slot), Stand p l e { frames := 0, locals := 0, cells := 0, slots := 0 } s m #[.ref b, .int (Int32.ofNat o), .ref d, .int (Int32.ofNat q), .int (Int32.ofNat len)] below meth c T' ([] ++ copyLocs d q len) 0 0 ∧ Put d B' s₁ T' ∧ Laid B B' q (q + len) (fun j => Value.int (lo8 (cv A (o + (j - q))))) ∧
      Steps p.tables e below (s₁.setTop (entryFrame m #[.ref b, .int (Int32.ofNat o), .ref d, .int (Int32.ofNat q), .int (Int32.ofNat len)] 7)) (T'.setTop (mkF m 3 #[.val (.ref b), .val (.int (Int32.ofNat (o + len))), .val (.ref d), .val (.int (Int32.ofNat (q + len))), .val (.int (Int32.ofNat len)), .val (.int (Int32.ofNat len)), z'] [])) := by
    intro r
    induction r with
    | zero =>
      intro i hi z hz Tl Bk Xl pl fl cl
      have hil : i = len := by omega
      rw [hil] at Xl fl cl
      exact ⟨Tl, Bk, z, Xl, pl, fl, cl⟩
    | succ r ih =>
      intro i hi z hz Tl Bk Xl pl fl cl
      have all := X0.warmed.alike.symm.trans Xl.warmed.alike
      have hAl := hA0.keep all (pl.other hne hA0.1)
      have hBk := hB0.like all pl.1 fl.1 fl.2.1 fl.2.2.1
      have hlt : q + i < Bk.slots.size := by rw [fl.2.2.1]; omega
      have c3 : Steps p.tables e below (s₁.setTop (entryFrame m #[.ref b, .int (Int32.ofNat o), .ref d, .int (Int32.ofNat q), .int (Int32.ofNat len)] 7)) (Tl.setTop (mkF m 12 #[.val (.ref b), .val (.int (Int32.ofNat (o + i))), .val (.ref d), .val (.int (Int32.ofNat (q + i))), .val (.int (Int32.ofNat len)), .val (.int (Int32.ofNat i)), z] [.int (Int32.ofNat (o + i)), .ref b])) := cl.trans (by
        refine XS.iload Xl.here hexec rfl (hb hbytes d3) rfl ?_
        refine XS.iload Xl.here hexec rfl (hb hbytes d5) rfl ?_
        refine XS.icmpNo Xl.here hexec rfl (hb hbytes d7) rfl (ii_ge_f (lt32 (by omega) (by omega))) ?_
        refine XS.aloadN Xl.here hexec rfl (hb hbytes d10) rfl rfl ?_
        refine XS.iloadN Xl.here hexec rfl (hb hbytes d11) rfl ?_
        exact Steps.refl _)
      have c4 : Steps p.tables e below (s₁.setTop (entryFrame m #[.ref b, .int (Int32.ofNat o), .ref d, .int (Int32.ofNat q), .int (Int32.ofNat len)] 7)) (Tl.setTop (mkF m 13 #[.val (.ref b), .val (.int (Int32.ofNat (o + i))), .val (.ref d), .val (.int (Int32.ofNat (q + i))), .val (.int (Int32.ofNat len)), .val (.int (Int32.ofNat i)), z] [.int (cv A (o + i))])) := c3.trans (by
        refine Xl.aget hexec hAl rfl (hA.get (i := o + i) (by omega)) rfl rfl (hb hbytes d12) ?_
        exact Steps.refl _)
      have c5 : Steps p.tables e below (s₁.setTop (entryFrame m #[.ref b, .int (Int32.ofNat o), .ref d, .int (Int32.ofNat q), .int (Int32.ofNat len)] 7)) (Tl.setTop (mkF m 15 #[.val (.ref b), .val (.int (Int32.ofNat (o + i))), .val (.ref d), .val (.int (Int32.ofNat (q + i))), .val (.int (Int32.ofNat len)), .val (.int (Int32.ofNat i)), .val (.int (cv A (o + i)))] [])) := c4.trans (by
        refine XS.istoreS Xl.here hexec rfl (hb hbytes d13) rfl rfl hz ?_
        exact Steps.refl _)
      have c6 : Steps p.tables e below (s₁.setTop (entryFrame m #[.ref b, .int (Int32.ofNat o), .ref d, .int (Int32.ofNat q), .int (Int32.ofNat len)] 7)) (Tl.setTop (mkF m 31 #[.val (.ref b), .val (.int (Int32.ofNat (o + i))), .val (.ref d), .val (.int (Int32.ofNat (q + i))), .val (.int (Int32.ofNat len)), .val (.int (Int32.ofNat i)), .val (.int (cv A (o + i)))] [.int (lo8 (cv A (o + i))), .int (Int32.ofNat (q + i)), .ref d])) := c5.trans (by
        refine XS.iload Xl.here hexec rfl (hb hbytes d15) rfl ?_
        refine sipushV Xl.here hexec rfl 255 (hb hbytes d17) (by decide) ?_
        refine XS.icmpYes Xl.here hexec rfl (pc0 := 20) rfl (hb hbytes d20) rfl (ii_le_t (hp i (by omega))) (by decide) rfl ?_
        refine XS.aloadN Xl.here hexec rfl (hb hbytes d26) rfl rfl ?_
        refine XS.iloadN Xl.here hexec rfl (hb hbytes d27) rfl ?_
        refine XS.iload Xl.here hexec rfl (hb hbytes d28) rfl ?_
        refine i2b Xl.here hexec rfl (hb hbytes d30) rfl ?_
        exact Steps.refl _)
      obtain ⟨T7, X7, p7, st7⟩ := Xl.aput hexec hBk rfl hlt rfl (fits_lo8 (cv A (o + i))) (g := (mkF m 31 #[.val (.ref b), .val (.int (Int32.ofNat (o + i))), .val (.ref d), .val (.int (Int32.ofNat (q + i))), .val (.int (Int32.ofNat len)), .val (.int (Int32.ofNat i)), .val (.int (cv A (o + i)))] [.int (lo8 (cv A (o + i))), .int (Int32.ofNat (q + i)), .ref d])) rfl (rest := []) rfl (hb hbytes d31)
      have c8 : Steps p.tables e below (s₁.setTop (entryFrame m #[.ref b, .int (Int32.ofNat o), .ref d, .int (Int32.ofNat q), .int (Int32.ofNat len)] 7)) (T7.setTop (mkF m 32 #[.val (.ref b), .val (.int (Int32.ofNat (o + i))), .val (.ref d), .val (.int (Int32.ofNat (q + i))), .val (.int (Int32.ofNat len)), .val (.int (Int32.ofNat i)), .val (.int (cv A (o + i)))] [])) := c6.trans (st7 _ (Steps.refl _))
      have c9 : Steps p.tables e below (s₁.setTop (entryFrame m #[.ref b, .int (Int32.ofNat o), .ref d, .int (Int32.ofNat q), .int (Int32.ofNat len)] 7)) (T7.setTop (mkF m 3 #[.val (.ref b), .val (.int (Int32.ofNat (o + i) + 1)), .val (.ref d), .val (.int (Int32.ofNat (q + i) + 1)), .val (.int (Int32.ofNat len)), .val (.int (Int32.ofNat i + 1)), .val (.int (cv A (o + i)))] [])) := c8.trans (by
        refine iincV X7.here hexec rfl 1 (hb hbytes d32) (by decide) rfl rfl ?_
        refine iincV X7.here hexec rfl 1 (hb hbytes d35) (by decide) rfl rfl ?_
        refine iincV X7.here hexec rfl 1 (hb hbytes d38) (by decide) rfl rfl ?_
        refine XS.goto X7.here hexec rfl (pc0 := 41) rfl (hb hbytes d41) (by decide) rfl ?_
        exact Steps.refl _)
      have c10 : Steps p.tables e below (s₁.setTop (entryFrame m #[.ref b, .int (Int32.ofNat o), .ref d, .int (Int32.ofNat q), .int (Int32.ofNat len)] 7)) (T7.setTop (mkF m 3 #[.val (.ref b), .val (.int (Int32.ofNat (o + (i + 1)))), .val (.ref d), .val (.int (Int32.ofNat (q + (i + 1)))), .val (.int (Int32.ofNat len)), .val (.int (Int32.ofNat (i + 1))), .val (.int (cv A (o + i)))] [])) := by
        have := c9
        rw [succ32, succ32, succ32] at this
        exact this
      exact ih (i + 1) (by omega) _ (Or.inr ⟨_, rfl, rfl⟩) T7 _ (by rw [copyLocs_step, ← List.append_assoc]; exact X7) (pl.trans p7) (fl.step (by omega) hlt (by simp)) c10
  obtain ⟨T9, B9, z9, X9, p9, f9, g9⟩ := loop len 0 (by omega) .unset (Or.inl rfl) s₁ B (by simpa [copyLocs] using X0) ⟨hB0.1, fun _ _ => rfl, rfl⟩ (Laid.zero _ _ _) c2
  have c11 : Steps p.tables e below (s₁.setTop (entryFrame m #[.ref b, .int (Int32.ofNat o), .ref d, .int (Int32.ofNat q), .int (Int32.ofNat len)] 7)) (T9.setTop (mkF m 46 #[.val (.ref b), .val (.int (Int32.ofNat (o + len))), .val (.ref d), .val (.int (Int32.ofNat (q + len))), .val (.int (Int32.ofNat len)), .val (.int (Int32.ofNat len)), z9] [.int (Int32.ofNat len)])) := g9.trans (by
    refine XS.iload X9.here hexec rfl (hb hbytes d3) rfl ?_
    refine XS.iload X9.here hexec rfl (hb hbytes d5) rfl ?_
    refine XS.icmpYes X9.here hexec rfl (pc0 := 7) rfl (hb hbytes d7) rfl (ii_ge_t (nlt32 (by omega) (Nat.le_refl _))) (by decide) rfl ?_
    refine XS.iload X9.here hexec rfl (hb hbytes d44) rfl ?_
    exact Steps.refl _)
  exact ⟨T9, some (.int (Int32.ofNat len)), _, _, _, X9, by simp, rfl, rfl, (fun h => by cases h), ⟨rfl, B9, p9.from hh0, f9⟩, fun fs hl => c11.trans (X9.ireturnOut hexec hret rfl (Or.inl rfl) (hb hbytes d46) hl)⟩
end Cmp5
namespace Cmp3
def yN : MethodName := ⟨"java/lang/StringUTF16", "compress", "([CII)[B"⟩
abbrev yB : ByteArray := jdk_52_method_16_code
theorem d0 : decode yB 0 = .ok (.iload_n 2, 1) := by decide +kernel
theorem d1 : decode yB 1 = .ok (.newarray .byte, 2) := by decide +kernel
theorem d3 : decode yB 3 = .ok (.astore_n 3, 1) := by decide +kernel
theorem d4 : decode yB 4 = .ok (.aload_n 0, 1) := by decide +kernel
theorem d5 : decode yB 5 = .ok (.iload_n 1, 1) := by decide +kernel
theorem d6 : decode yB 6 = .ok (.aload_n 3, 1) := by decide +kernel
theorem d7 : decode yB 7 = .ok (.iconst 0, 1) := by decide +kernel
theorem d8 : decode yB 8 = .ok (.iload_n 2, 1) := by decide +kernel
theorem d9 : decode yB 9 = .ok (.invokestatic 115, 3) := by decide +kernel
theorem d12 : decode yB 12 = .ok (.istore 4, 2) := by decide +kernel
theorem d14 : decode yB 14 = .ok (.iload 4, 2) := by decide +kernel
theorem d16 : decode yB 16 = .ok (.iload_n 2, 1) := by decide +kernel
theorem d17 : decode yB 17 = .ok (.if_icmp (.eq) 40, 3) := by decide +kernel
theorem d57 : decode yB 57 = .ok (.aload_n 3, 1) := by decide +kernel
theorem d58 : decode yB 58 = .ok (.areturn, 1) := by decide +kernel
def site : List Cond := [.arrayClass .byte, Cmp5.tab] ++ staticW U16 115 Cmp5.yN
def tab : Cond := tabOf yN yB 6 (some (.array .byte)) site
def P (b : Addr) (A : Cell) (o len : Nat) (args : Array Value) (s : State) : Prop := args = #[.ref b, .int (Int32.ofNat o), .int (Int32.ofNat len)] ∧ Ch b A s ∧ o + len ≤ A.slots.size ∧ len ≤ 536870912 ∧ ∀ i, i < len → ¬ 255 < cv A (o + i)
def E (b : Addr) (A : Cell) (o len : Nat) (r : Option Value) (s u : State) : Prop := NewArr .byte "[B" len (fun j => .int (lo8 (cv A (o + j)))) r s u ∧ u.heap.size = s.heap.size + 1
/-- no char of the range above 255: a new byte[] of their low bytes -/
theorem law (l : Launch) (b : Addr) (A : Cell) (o len : Nat) : Law l yN 3 3 1 18 yB 6 (some (.array .byte)) site (P b A o len) (E b A o len) [] 1 len := by
  refine Law.of_walk (plainFor_of_name (by decide +kernel)) (by decide +kernel) (by decide +kernel) (by decide) (fun _ _ h => by rw [h.1]; rfl) (fun _ U U' hal hh h => ⟨h.1, h.2.1.mv hal hh, h.2.2⟩) (fun r U U' V V' h1 hal h2 h => ⟨NewArr.mv r U U' V V' h1 hal h2 h.1, by rw [h1, h2]; exact h.2⟩) ?_
  intro p e s m args below meth c s₁ X0 hexec hbytes hml hret hlk hnm hown hh0 W hP
  obtain ⟨rfl, hA, l1, l2, hp⟩ := hP
  have a31 := hA.1.2.2.2
  have c1 : Steps p.tables e below (s₁.setTop (entryFrame m #[.ref b, .int (Int32.ofNat o), .int (Int32.ofNat len)] 6)) (s₁.setTop (mkF m 0 #[.val (.ref b), .val (.int (Int32.ofNat o)), .val (.int (Int32.ofNat len)), .unset, .unset, .unset] [])) := entry rfl
  have c2 : Steps p.tables e below (s₁.setTop (entryFrame m #[.ref b, .int (Int32.ofNat o), .int (Int32.ofNat len)] 6)) (s₁.setTop (mkF m 1 #[.val (.ref b), .val (.int (Int32.ofNat o)), .val (.int (Int32.ofNat len)), .unset, .unset, .unset] [.int (Int32.ofNat len)])) := c1.trans (by
    refine XS.iloadN X0.here hexec rfl (hb hbytes d0) rfl ?_
    exact Steps.refl _)
  obtain ⟨T3, B3, X3, ba3, bs3, bv3, bh3, bf3, st3⟩ := X0.anew hexec (atype := .byte) (wk W (.arrayClass .byte)) rfl (by show len * 1 ≤ _; omega) (by omega) (g := (mkF m 1 #[.val (.ref b), .val (.int (Int32.ofNat o)), .val (.int (Int32.ofNat len)), .unset, .unset, .unset] [.int (Int32.ofNat len)])) rfl (hb hbytes d1) (rest := []) rfl (Nat.le_refl _) (by show 0 + len ≤ len; omega)
  rw [hh0] at ba3 st3
  have kp3 : XT.Kept s T3 := (XT.Kept.of_eq hh0).push bh3
  have hA3 := hA.keep X3.warmed.alike (kp3 _ _ hA.1.1)
  have hne : b ≠ s.heap.size := hA.1.ne
  have c4 : Steps p.tables e below (s₁.setTop (entryFrame m #[.ref b, .int (Int32.ofNat o), .int (Int32.ofNat len)] 6)) (T3.setTop (mkF m 3 #[.val (.ref b), .val (.int (Int32.ofNat o)), .val (.int (Int32.ofNat len)), .unset, .unset, .unset] [.ref s.heap.size])) := c2.trans (st3 _ (Steps.refl _))
  have c5 : Steps p.tables e below (s₁.setTop (entryFrame m #[.ref b, .int (Int32.ofNat o), .int (Int32.ofNat len)] 6)) (T3.setTop (mkF m 9 #[.val (.ref b), .val (.int (Int32.ofNat o)), .val (.int (Int32.ofNat len)), .val (.ref s.heap.size), .unset, .unset] [.int (Int32.ofNat len), .int 0, .ref s.heap.size, .int (Int32.ofNat o), .ref b])) := c4.trans (by
    refine XS.astoreN X3.here hexec rfl (hb hbytes d3) rfl rfl rfl ?_
    refine XS.aloadN X3.here hexec rfl (hb hbytes d4) rfl rfl ?_
    refine XS.iloadN X3.here hexec rfl (hb hbytes d5) rfl ?_
    refine XS.aloadN X3.here hexec rfl (hb hbytes d6) rfl rfl ?_
    refine iconstV X3.here hexec rfl 0 (hb hbytes d7) (by decide) ?_
    refine XS.iloadN X3.here hexec rfl (hb hbytes d8) rfl ?_
    exact Steps.refl _)
  obtain ⟨v6, T6, X6, E6, g6⟩ := X3.callS hexec (Cmp5.law l b A s.heap.size B3 o 0 len) hown (wks W (staticW U16 115 Cmp5.yN)) (wk W Cmp5.tab) (W := 0) (Nat.le_of_ble_eq_true rfl) (Nat.le_of_ble_eq_true rfl) (Nat.le_refl _) (by show 0 + len + 0 ≤ len; omega) (g := (mkF m 9 #[.val (.ref b), .val (.int (Int32.ofNat o)), .val (.int (Int32.ofNat len)), .val (.ref s.heap.size), .unset, .unset] [.int (Int32.ofNat len), .int (Int32.ofNat 0), .ref s.heap.size, .int (Int32.ofNat o), .ref b])) rfl (by rw [hml]; rfl) c5 (argsL := [.ref b, .int (Int32.ofNat o), .ref s.heap.size, .int (Int32.ofNat 0), .int (Int32.ofNat len)]) (rest := []) rfl rfl (by show 2 * 0 + 0 ≤ _; decide) (hb hbytes d9) (⟨rfl, hA3, ba3, hne, l1, by rw [bs3]; simp, hp⟩)
  obtain ⟨rfl, B6, p6, f6⟩ := E6
  have c7 : Steps p.tables e below (s₁.setTop (entryFrame m #[.ref b, .int (Int32.ofNat o), .int (Int32.ofNat len)] 6)) (T6.setTop (mkF m 12 #[.val (.ref b), .val (.int (Int32.ofNat o)), .val (.int (Int32.ofNat len)), .val (.ref s.heap.size), .unset, .unset] [.int (Int32.ofNat len)])) := g6
  have c8 : Steps p.tables e below (s₁.setTop (entryFrame m #[.ref b, .int (Int32.ofNat o), .int (Int32.ofNat len)] 6)) (T6.setTop (mkF m 58 #[.val (.ref b), .val (.int (Int32.ofNat o)), .val (.int (Int32.ofNat len)), .val (.ref s.heap.size), .val (.int (Int32.ofNat len)), .unset] [.ref s.heap.size])) := c7.trans (by
    refine XS.istore X6.here hexec rfl (hb hbytes d12) rfl rfl ?_
    refine XS.iload X6.here hexec rfl (hb hbytes d14) rfl ?_
    refine XS.iloadN X6.here hexec rfl (hb hbytes d16) rfl ?_
    refine XS.icmpYes X6.here hexec rfl (pc0 := 17) rfl (hb hbytes d17) rfl (ii_eq_t rfl) (by decide) rfl ?_
    refine XS.aloadN X6.here hexec rfl (hb hbytes d57) rfl rfl ?_
    exact Steps.refl _)
  have X8 := X6.wide (L' := []) (cells' := 1) (slots' := len) (fun x hx hlt => by
    simp only [List.nil_append, copyLocs, List.mem_map, List.mem_range] at hx
    obtain ⟨i, -, rfl⟩ := hx
    exact absurd hlt (Nat.lt_irrefl _)) (Nat.le_refl _) (by omega)
  exact ⟨T6, some (.ref s.heap.size), _, _, _, X8, rfl, rfl, rfl, (fun h => by cases h), ⟨⟨rfl, B6, ba3.like (X3.warmed.alike.symm.trans X6.warmed.alike) p6.1 f6.1 f6.2.1 f6.2.2.1, f6.2.1.trans bv3, by rw [X6.warmed.alike.findClass, f6.1]; exact bf3, by rw [f6.2.2.1, bs3]; simp, fun j hj => by rw [f6.2.2.2 j, if_pos (by omega)]; rfl, kp3.put p6 (Nat.le_refl _)⟩, by rw [p6.2.2, bh3, hh0]; simp⟩, fun fs hl => c8.trans (X8.areturnOut hexec rfl hret rfl (hb hbytes d58) hl)⟩
end Cmp3
namespace CodL
def yN : MethodName := ⟨"java/lang/StringUTF16", "coderFromArrayLen", "([BI)B"⟩
abbrev yB : ByteArray := jdk_52_method_15_code
theorem d0 : decode yB 0 = .ok (.iload_n 1, 1) := by decide +kernel
theorem d1 : decode yB 1 = .ok (.aload_n 0, 1) := by decide +kernel
theorem d2 : decode yB 2 = .ok (.arraylength, 1) := by decide +kernel
theorem d3 : decode yB 3 = .ok (.isub, 1) := by decide +kernel
theorem d4 : decode yB 4 = .ok (.bipush 31, 2) := by decide +kernel
theorem d6 : decode yB 6 = .ok (.iushr, 1) := by decide +kernel
theorem d7 : decode yB 7 = .ok (.i2b, 1) := by decide +kernel
theorem d8 : decode yB 8 = .ok (.ireturn, 1) := by decide +kernel
def site : List Cond := []
def tab : Cond := tabOf yN yB 2 (some .byte) site
def P (d : Addr) (B : Cell) (args : Array Value) (s : State) : Prop := args = #[.ref d, .int (Int32.ofNat B.slots.size)] ∧ Arr .byte d B s
def E (r : Option Value) (s u : State) : Prop := XT.PureE (some (.int 0)) r s u
/-- an array as long as the number of chars: LATIN1 -/
theorem law (l : Launch) (d : Addr) (B : Cell) : Law l yN 2 2 0 0 yB 2 (some .byte) site (P d B) E [] 0 0 := by
  refine Law.of_walk (plainFor_of_name (by decide +kernel)) (by decide +kernel) (by decide +kernel) (by decide) (fun _ _ h => by rw [h.1]; rfl) (fun _ U U' hal hh h => ⟨h.1, h.2.mv hal hh⟩) (fun r U U' V V' h1 hal h2 h => XT.PureE.mv r U U' V V' h1 hal h2 h) ?_
  intro p e s m args below meth c s₁ X0 hexec hbytes hml hret hlk hnm hown hh0 W hP
  obtain ⟨rfl, hB⟩ := hP
  have hB0 := hB.mv X0.warmed.alike hh0
  have c1 : Steps p.tables e below (s₁.setTop (entryFrame m #[.ref d, .int (Int32.ofNat B.slots.size)] 2)) (s₁.setTop (mkF m 0 #[.val (.ref d), .val (.int (Int32.ofNat B.slots.size))] [])) := entry rfl
  have c2 : Steps p.tables e below (s₁.setTop (entryFrame m #[.ref d, .int (Int32.ofNat B.slots.size)] 2)) (s₁.setTop (mkF m 2 #[.val (.ref d), .val (.int (Int32.ofNat B.slots.size))] [.ref d, .int (Int32.ofNat B.slots.size)])) := c1.trans (by
    refine XS.iloadN X0.here hexec rfl (hb hbytes d0) rfl ?_
    refine XS.aloadN X0.here hexec rfl (hb hbytes d1) rfl rfl ?_
    exact Steps.refl _)
  have c3 : Steps p.tables e below (s₁.setTop (entryFrame m #[.ref d, .int (Int32.ofNat B.slots.size)] 2)) (s₁.setTop (mkF m 8 #[.val (.ref d), .val (.int (Int32.ofNat B.slots.size))] [.int (lo8 (ushr (Int32.ofNat B.slots.size - Int32.ofNat B.slots.size) 31))])) := c2.trans (by
    refine X0.alen hexec hB0 rfl rfl (hb hbytes d2) ?_
    refine XS.isub X0.here hexec rfl (hb hbytes d3) rfl ?_
    refine bipushV X0.here hexec rfl 31 (hb hbytes d4) (by decide) ?_
    refine iushr X0.here hexec rfl (hb hbytes d6) rfl ?_
    refine i2b X0.here hexec rfl (hb hbytes d7) rfl ?_
    exact Steps.refl _)
  have e0 : lo8 (ushr (Int32.ofNat B.slots.size - Int32.ofNat B.slots.size) 31) = 0 := by rw [Int32.sub_self]; decide
  rw [e0] at c3
  exact ⟨s₁, some (.int 0), _, _, _, X0, rfl, rfl, rfl, (fun h => by cases h), ⟨rfl, hh0⟩, fun fs hl => c3.trans (X0.ireturnOut hexec hret rfl (Or.inr (Or.inr (Or.inl rfl))) (hb hbytes d8) hl)⟩
end CodL
/-- the String at a is Latin-1 over a new byte[] (the heap's one new cell): the low bytes of the len chars of A from o on; every cell but a is kept -/
def Got (a : Addr) (D : Cell) (fV fC : Field) (A : Cell) (o len : Nat) (r : Option Value) (s u : State) : Prop := r = none ∧ ∃ D' V : Cell, Blank "java/lang/String" a D' u ∧ Same D D' [fV.slot, fC.slot] ∧ D'.slots[fV.slot]? = some (.ref s.heap.size) ∧ D'.slots[fC.slot]? = some (.int 0) ∧ Arr .byte s.heap.size V u ∧ V.vm = .none ∧ u.vm.findClass "[B" = some V.cls ∧ V.slots.size = len ∧ (∀ j, j < len → V.slots[j]? = some (.int (lo8 (cv A (o + j))))) ∧ (∀ (y : Addr) (c : Cell), y ≠ a → s.heap[y]? = some c → u.heap[y]? = some c) ∧ u.heap.size = s.heap.size + 1
theorem Got.mv {a : Addr} {D A : Cell} {fV fC : Field} {o len : Nat} : ∀ r (U U' V V' : State), U'.heap = U.heap → V.vm.Alike V'.vm → V'.heap = V.heap → Got a D fV fC A o len r U V → Got a D fV fC A o len r U' V' :=
  fun r U U' V V' h1 hal h2 ⟨e0, D', X, a1, a2, a3, a4, a5, a6, a7, a8, a9, a10, a11⟩ => ⟨e0, D', X, a1.mv hal h2, a2, by rw [h1]; exact a3, a4, by rw [h1]; exact a5.mv hal h2, a6, by rw [hal.findClass]; exact a7, a8, a9, by rw [h1, h2]; exact a10, by rw [h1, h2]; exact a11⟩
namespace New4
def yN : MethodName := ⟨"java/lang/String", "<init>", "([CIILjava/lang/Void;)V"⟩
abbrev yB : ByteArray := jdk_42_method_149_code
theorem d0 : decode yB 0 = .ok (.aload_n 0, 1) := by decide +kernel
theorem d1 : decode yB 1 = .ok (.invokespecial 1, 3) := by decide +kernel
theorem d4 : decode yB 4 = .ok (.iload_n 3, 1) := by decide +kernel
theorem d5 : decode yB 5 = .ok (.ifCond (.ne) 22, 3) := by decide +kernel
theorem d27 : decode yB 27 = .ok (.getstatic 38, 3) := by decide +kernel
theorem d30 : decode yB 30 = .ok (.ifCond (.eq) 28, 3) := by decide +kernel
theorem d33 : decode yB 33 = .ok (.aload_n 1, 1) := by decide +kernel
theorem d34 : decode yB 34 = .ok (.iload_n 2, 1) := by decide +kernel
theorem d35 : decode yB 35 = .ok (.iload_n 3, 1) := by decide +kernel
theorem d36 : decode yB 36 = .ok (.invokestatic 177, 3) := by decide +kernel
theorem d39 : decode yB 39 = .ok (.astore 5, 2) := by decide +kernel
theorem d41 : decode yB 41 = .ok (.aload_n 0, 1) := by decide +kernel
theorem d42 : decode yB 42 = .ok (.aload 5, 2) := by decide +kernel
theorem d44 : decode yB 44 = .ok (.iload_n 3, 1) := by decide +kernel
theorem d45 : decode yB 45 = .ok (.invokestatic 47, 3) := by decide +kernel
theorem d48 : decode yB 48 = .ok (.putfield 15, 3) := by decide +kernel
theorem d51 : decode yB 51 = .ok (.aload_n 0, 1) := by decide +kernel
theorem d52 : decode yB 52 = .ok (.aload 5, 2) := by decide +kernel
theorem d54 : decode yB 54 = .ok (.putfield 9, 3) := by decide +kernel
theorem d57 : decode yB 57 = .ok (.return_, 1) := by decide +kernel
def site : List Cond := [.fieldLink "java/lang/String" 38 "java/lang/String" "COMPACT_STRINGS" "Z", Cmp3.tab, CodL.tab, .laysFinal "java/lang/String" "java/lang/String" "value" "[B", .fieldLink "java/lang/String" 9 "java/lang/String" "value" "[B", .laysFinal "java/lang/String" "java/lang/String" "coder" "B", .fieldLink "java/lang/String" 15 "java/lang/String" "coder" "B"] ++ objW "java/lang/String" 1 ++ staticW "java/lang/String" 177 Cmp3.yN ++ staticW "java/lang/String" 47 CodL.yN
def tab : Cond := tabOf yN yB 6 none site
def P (a : Addr) (D : Cell) (fV fC : Field) (b : Addr) (A : Cell) (z : Int32) (o len : Nat) (args : Array Value) (s : State) : Prop := args = #[.ref a, .ref b, .int (Int32.ofNat o), .int (Int32.ofNat len), .null] ∧ Blank "java/lang/String" a D s ∧ Found "java/lang/String" "value" "[B" fV s ∧ Found "java/lang/String" "coder" "B" fC s ∧ Ch b A s ∧ StaticIs s "java/lang/String" "COMPACT_STRINGS" "Z" (.int z) ∧ ¬ z = 0 ∧ 0 < len ∧ o + len ≤ A.slots.size ∧ len ≤ 536870912 ∧ ∀ i, i < len → ¬ 255 < cv A (o + i)
def E (a : Addr) (D : Cell) (fV fC : Field) (A : Cell) (o len : Nat) (r : Option Value) (s u : State) : Prop := Got a D fV fC A o len r s u
/-- len > 0, no char of the range above 255: a Latin-1 String of their low bytes -/
theorem law (l : Launch) (a : Addr) (D : Cell) (fV fC : Field) (b : Addr) (A : Cell) (z : Int32) (o len : Nat) : Law l yN 5 4 2 35 yB 6 none site (P a D fV fC b A z o len) (E a D fV fC A o len) [⟨a, fC.slot⟩, ⟨a, fV.slot⟩] 1 len := by
  refine Law.of_walk (plainFor_of_name (by decide +kernel)) (by decide +kernel) (by decide +kernel) (by decide) (fun _ _ h => by rw [h.1]; rfl) (fun _ U U' hal hh h => ⟨h.1, h.2.1.mv hal hh, h.2.2.1.al hal, h.2.2.2.1.al hal, h.2.2.2.2.1.mv hal hh, h.2.2.2.2.2.1.there hal hh, h.2.2.2.2.2.2⟩) (fun r U U' V V' h1 hal h2 h => Got.mv r U U' V V' h1 hal h2 h) ?_
  intro p e s m args below meth c s₁ X0 hexec hbytes hml hret hlk hnm hown hh0 W hP
  obtain ⟨rfl, hB, f1, f2, hA, s1, hz, l0, l1, l2, hp⟩ := hP
  have a31 := hA.1.2.2.2
  have c1 : Steps p.tables e below (s₁.setTop (entryFrame m #[.ref a, .ref b, .int (Int32.ofNat o), .int (Int32.ofNat len), .null] 6)) (s₁.setTop (mkF m 0 #[.val (.ref a), .val (.ref b), .val (.int (Int32.ofNat o)), .val (.int (Int32.ofNat len)), .val .null, .unset] [])) := entry rfl
  have c2 : Steps p.tables e below (s₁.setTop (entryFrame m #[.ref a, .ref b, .int (Int32.ofNat o), .int (Int32.ofNat len), .null] 6)) (s₁.setTop (mkF m 1 #[.val (.ref a), .val (.ref b), .val (.int (Int32.ofNat o)), .val (.int (Int32.ofNat len)), .val .null, .unset] [.ref a])) := c1.trans (by
    refine XS.aloadN X0.here hexec rfl (hb hbytes d0) rfl rfl ?_
    exact Steps.refl _)
  obtain ⟨T3, X3, q3, st3⟩ := X0.oinit hexec hown (wks W (objW "java/lang/String" 1)) (g := (mkF m 1 #[.val (.ref a), .val (.ref b), .val (.int (Int32.ofNat o)), .val (.int (Int32.ofNat len)), .val .null, .unset] [.ref a])) rfl (by rw [hml]; rfl) (rest := []) rfl (hb hbytes d1) (W := 0) (by show 2 * 0 + 0 ≤ _; decide) (Nat.le_of_ble_eq_true rfl) (Nat.le_of_ble_eq_true rfl)
  have hh3 := q3.trans hh0
  have c4 : Steps p.tables e below (s₁.setTop (entryFrame m #[.ref a, .ref b, .int (Int32.ofNat o), .int (Int32.ofNat len), .null] 6)) (T3.setTop (mkF m 27 #[.val (.ref a), .val (.ref b), .val (.int (Int32.ofNat o)), .val (.int (Int32.ofNat len)), .val .null, .unset] [])) := (c2.trans (st3 _ (Steps.refl _))).trans (by
    refine XS.iloadN X3.here hexec rfl (hb hbytes d4) rfl ?_
    refine XS.ifYes X3.here hexec rfl (pc0 := 5) rfl (hb hbytes d5) rfl (i0_ne_t (nz32 (by omega) l0)) (by decide) rfl ?_
    exact Steps.refl _)
  obtain ⟨T5, X5, q5, st5⟩ := X3.sget hexec hown (wk W (.fieldLink "java/lang/String" 38 "java/lang/String" "COMPACT_STRINGS" "Z")) s1 (fun _ _ h => by rw [hh3]; exact h) (g := (mkF m 27 #[.val (.ref a), .val (.ref b), .val (.int (Int32.ofNat o)), .val (.int (Int32.ofNat len)), .val .null, .unset] [])) rfl (hb hbytes d27)
  have hh5 := q5.trans hh3
  have c6 : Steps p.tables e below (s₁.setTop (entryFrame m #[.ref a, .ref b, .int (Int32.ofNat o), .int (Int32.ofNat len), .null] 6)) (T5.setTop (mkF m 30 #[.val (.ref a), .val (.ref b), .val (.int (Int32.ofNat o)), .val (.int (Int32.ofNat len)), .val .null, .unset] [.int z])) := c4.trans (st5 _ (Steps.refl _))
  have c7 : Steps p.tables e below (s₁.setTop (entryFrame m #[.ref a, .ref b, .int (Int32.ofNat o), .int (Int32.ofNat len), .null] 6)) (T5.setTop (mkF m 36 #[.val (.ref a), .val (.ref b), .val (.int (Int32.ofNat o)), .val (.int (Int32.ofNat len)), .val .null, .unset] [.int (Int32.ofNat len), .int (Int32.ofNat o), .ref b])) := c6.trans (by
    refine XS.ifNo X5.here hexec rfl (hb hbytes d30) rfl (i0_eq_f hz) ?_
    refine XS.aloadN X5.here hexec rfl (hb hbytes d33) rfl rfl ?_
    refine XS.iloadN X5.here hexec rfl (hb hbytes d34) rfl ?_
    refine XS.iloadN X5.here hexec rfl (hb hbytes d35) rfl ?_
    exact Steps.refl _)
  obtain ⟨v8, T8, X8, E8, g8⟩ := X5.callS hexec (Cmp3.law l b A o len) hown (wks W (staticW "java/lang/String" 177 Cmp3.yN)) (wk W Cmp3.tab) (W := 0) (Nat.le_of_ble_eq_true rfl) (Nat.le_of_ble_eq_true rfl) (Nat.le_refl _) (by show 0 + len ≤ len; omega) (g := (mkF m 36 #[.val (.ref a), .val (.ref b), .val (.int (Int32.ofNat o)), .val (.int (Int32.ofNat len)), .val .null, .unset] [.int (Int32.ofNat len), .int (Int32.ofNat o), .ref b])) rfl (by rw [hml]; rfl) c7 (argsL := [.ref b, .int (Int32.ofNat o), .int (Int32.ofNat len)]) (rest := []) rfl rfl (by show 2 * 0 + 0 ≤ _; decide) (hb hbytes d36) (⟨rfl, hA.mv X5.warmed.alike hh5, l1, l2, hp⟩)
  obtain ⟨e8, z8⟩ := E8
  obtain ⟨rfl, N, n1, n2, n3, n4, n5, n6⟩ := NewArr.mv _ T5 s _ _ hh5.symm (Vm.Alike.refl _) rfl e8
  rw [hh5] at z8
  have hB1 := hB.keep X8.warmed.alike (n6 _ _ hB.1)
  have hne : s.heap.size ≠ a := (Nat.ne_of_lt (Array.getElem?_eq_some_iff.mp hB.1).1).symm
  have c9 : Steps p.tables e below (s₁.setTop (entryFrame m #[.ref a, .ref b, .int (Int32.ofNat o), .int (Int32.ofNat len), .null] 6)) (T8.setTop (mkF m 39 #[.val (.ref a), .val (.ref b), .val (.int (Int32.ofNat o)), .val (.int (Int32.ofNat len)), .val .null, .unset] [.ref s.heap.size])) := g8
  have c10 : Steps p.tables e below (s₁.setTop (entryFrame m #[.ref a, .ref b, .int (Int32.ofNat o), .int (Int32.ofNat len), .null] 6)) (T8.setTop (mkF m 45 #[.val (.ref a), .val (.ref b), .val (.int (Int32.ofNat o)), .val (.int (Int32.ofNat len)), .val .null, .val (.ref s.heap.size)] [.int (Int32.ofNat N.slots.size), .ref s.heap.size, .ref a])) := by
    have hc : Steps p.tables e below (s₁.setTop (entryFrame m #[.ref a, .ref b, .int (Int32.ofNat o), .int (Int32.ofNat len), .null] 6)) (T8.setTop (mkF m 45 #[.val (.ref a), .val (.ref b), .val (.int (Int32.ofNat o)), .val (.int (Int32.ofNat len)), .val .null, .val (.ref s.heap.size)] [.int (Int32.ofNat len), .ref s.heap.size, .ref a])) := c9.trans (by
      refine XS.astore X8.here hexec rfl (hb hbytes d39) rfl rfl rfl ?_
      refine XS.aloadN X8.here hexec rfl (hb hbytes d41) rfl rfl ?_
      refine XS.aload X8.here hexec rfl (hb hbytes d42) rfl rfl ?_
      refine XS.iloadN X8.here hexec rfl (hb hbytes d44) rfl ?_
      exact Steps.refl _)
    rw [n4]; exact hc
  obtain ⟨v11, T11, X11, E11, g11⟩ := X8.callS hexec (CodL.law l s.heap.size N) hown (wks W (staticW "java/lang/String" 47 CodL.yN)) (wk W CodL.tab) (W := 1) (Nat.le_of_ble_eq_true rfl) (Nat.le_of_ble_eq_true rfl) (Nat.le_refl _) (by show 0 + len + 0 ≤ len; omega) (g := (mkF m 45 #[.val (.ref a), .val (.ref b), .val (.int (Int32.ofNat o)), .val (.int (Int32.ofNat len)), .val .null, .val (.ref s.heap.size)] [.int (Int32.ofNat N.slots.size), .ref s.heap.size, .ref a])) rfl (by rw [hml]; rfl) c10 (argsL := [.ref s.heap.size, .int (Int32.ofNat N.slots.size)]) (rest := [.ref a]) rfl rfl (by show 2 * 0 + (1 + 0) ≤ _; decide) (hb hbytes d45) (⟨rfl, n1⟩)
  obtain ⟨rfl, q11⟩ := E11
  have hB11 := hB1.mv (X8.warmed.alike.symm.trans X11.warmed.alike) q11
  have c12 : Steps p.tables e below (s₁.setTop (entryFrame m #[.ref a, .ref b, .int (Int32.ofNat o), .int (Int32.ofNat len), .null] 6)) (T11.setTop (mkF m 48 #[.val (.ref a), .val (.ref b), .val (.int (Int32.ofNat o)), .val (.int (Int32.ofNat len)), .val .null, .val (.ref s.heap.size)] [.int 0, .ref a])) := g11
  obtain ⟨T13, X13, p13, bl13, sl13, st13⟩ := X11.finit hexec hown (wk W (.fieldLink "java/lang/String" 15 "java/lang/String" "coder" "B")) (Or.inr ⟨_, (wk W (.laysFinal "java/lang/String" "java/lang/String" "coder" "B"))⟩) (Or.inl ⟨rfl, hnm⟩) f2 (Or.inl rfl) hB11 (t := .byte) (by decide +kernel) rfl (g := (mkF m 48 #[.val (.ref a), .val (.ref b), .val (.int (Int32.ofNat o)), .val (.int (Int32.ofNat len)), .val .null, .val (.ref s.heap.size)] [.int 0, .ref a])) rfl (rest := []) rfl (hb hbytes d48)
  have c14 : Steps p.tables e below (s₁.setTop (entryFrame m #[.ref a, .ref b, .int (Int32.ofNat o), .int (Int32.ofNat len), .null] 6)) (T13.setTop (mkF m 54 #[.val (.ref a), .val (.ref b), .val (.int (Int32.ofNat o)), .val (.int (Int32.ofNat len)), .val .null, .val (.ref s.heap.size)] [.ref s.heap.size, .ref a])) := (c12.trans (st13 _ (Steps.refl _))).trans (by
    refine XS.aloadN X13.here hexec rfl (hb hbytes d51) rfl rfl ?_
    refine XS.aload X13.here hexec rfl (hb hbytes d52) rfl rfl ?_
    exact Steps.refl _)
  obtain ⟨T15, X15, p15, bl15, sl15, st15⟩ := X13.finit hexec hown (wk W (.fieldLink "java/lang/String" 9 "java/lang/String" "value" "[B")) (Or.inr ⟨_, (wk W (.laysFinal "java/lang/String" "java/lang/String" "value" "[B"))⟩) (Or.inl ⟨rfl, hnm⟩) f1 (Or.inl rfl) bl13 (t := (.array .byte)) (by decide +kernel) rfl (g := (mkF m 54 #[.val (.ref a), .val (.ref b), .val (.int (Int32.ofNat o)), .val (.int (Int32.ofNat len)), .val .null, .val (.ref s.heap.size)] [.ref s.heap.size, .ref a])) rfl (rest := []) rfl (hb hbytes d54)
  have c16 : Steps p.tables e below (s₁.setTop (entryFrame m #[.ref a, .ref b, .int (Int32.ofNat o), .int (Int32.ofNat len), .null] 6)) (T15.setTop (mkF m 57 #[.val (.ref a), .val (.ref b), .val (.int (Int32.ofNat o)), .val (.int (Int32.ofNat len)), .val .null, .val (.ref s.heap.size)] [])) := c14.trans (st15 _ (Steps.refl _))
  have ap := apart (Or.inr ⟨_, (wk W (.laysFinal "java/lang/String" "java/lang/String" "value" "[B"))⟩) (Or.inr ⟨_, (wk W (.laysFinal "java/lang/String" "java/lang/String" "coder" "B"))⟩) f1 f2 (t₁ := .array .byte) (t₂ := .byte) (by decide +kernel) (by decide +kernel) (by decide)
  have al := X8.warmed.alike.symm.trans X15.warmed.alike
  have n7 : T11.heap[s.heap.size]? = some N := by rw [q11]; exact n1.1
  exact ⟨T15, none, _, _, _, X15, by simp, rfl, by omega, (fun _ => rfl), ⟨rfl, _, N, bl15, ((Same.refl D _).set _ (by simp)).set _ (by simp), sl15, (Cell.slots_setSlot_ne _ ap).trans sl13, n1.keep al (p15.other hne (p13.other hne n7)), n2, by rw [al.findClass]; exact n3, n4, n5, fun y c h1 h2 => p15.other h1 (p13.other h1 (by rw [q11]; exact n6 y c h2)), by rw [p15.2.2, p13.2.2, q11]; exact z8⟩, fun fs hl => c16.trans (X15.returnOut hexec hret (hb hbytes d57) hl)⟩
end New4
namespace New1
def yN : MethodName := ⟨"java/lang/String", "<init>", "([C)V"⟩
abbrev yB : ByteArray := jdk_42_method_3_code
theorem d0 : decode yB 0 = .ok (.aload_n 0, 1) := by decide +kernel
theorem d1 : decode yB 1 = .ok (.aload_n 1, 1) := by decide +kernel
theorem d2 : decode yB 2 = .ok (.iconst 0, 1) := by decide +kernel
theorem d3 : decode yB 3 = .ok (.aload_n 1, 1) := by decide +kernel
theorem d4 : decode yB 4 = .ok (.arraylength, 1) := by decide +kernel
theorem d5 : decode yB 5 = .ok (.aconst_null, 1) := by decide +kernel
theorem d6 : decode yB 6 = .ok (.invokespecial 27, 3) := by decide +kernel
theorem d9 : decode yB 9 = .ok (.return_, 1) := by decide +kernel
def site : List Cond := [New4.tab] ++ initW "java/lang/String" 27 New4.yN
def tab : Cond := tabOf yN yB 2 none site
def P (a : Addr) (D : Cell) (fV fC : Field) (b : Addr) (A : Cell) (z : Int32) (args : Array Value) (s : State) : Prop := args = #[.ref a, .ref b] ∧ Blank "java/lang/String" a D s ∧ Found "java/lang/String" "value" "[B" fV s ∧ Found "java/lang/String" "coder" "B" fC s ∧ Ch b A s ∧ StaticIs s "java/lang/String" "COMPACT_STRINGS" "Z" (.int z) ∧ ¬ z = 0 ∧ 0 < A.slots.size ∧ A.slots.size ≤ 536870912 ∧ ∀ i, i < A.slots.size → ¬ 255 < cv A i
def E (a : Addr) (D : Cell) (fV fC : Field) (A : Cell) (r : Option Value) (s u : State) : Prop := Got a D fV fC A 0 A.slots.size r s u
/-- new String(chars), not empty, no char above 255: a Latin-1 String of their low bytes -/
theorem law (l : Launch) (a : Addr) (D : Cell) (fV fC : Field) (b : Addr) (A : Cell) (z : Int32) : Law l yN 2 1 3 52 yB 2 none site (P a D fV fC b A z) (E a D fV fC A) [⟨a, fC.slot⟩, ⟨a, fV.slot⟩] 1 A.slots.size := by
  refine Law.of_walk (plainFor_of_name (by decide +kernel)) (by decide +kernel) (by decide +kernel) (by decide) (fun _ _ h => by rw [h.1]; rfl) (fun _ U U' hal hh h => ⟨h.1, h.2.1.mv hal hh, h.2.2.1.al hal, h.2.2.2.1.al hal, h.2.2.2.2.1.mv hal hh, h.2.2.2.2.2.1.there hal hh, h.2.2.2.2.2.2⟩) (fun r U U' V V' h1 hal h2 h => Got.mv r U U' V V' h1 hal h2 h) ?_
  intro p e s m args below meth c s₁ X0 hexec hbytes hml hret hlk hnm hown hh0 W hP
  obtain ⟨rfl, hB, f1, f2, hA, s1, hz, l0, l2, hp⟩ := hP
  have c1 : Steps p.tables e below (s₁.setTop (entryFrame m #[.ref a, .ref b] 2)) (s₁.setTop (mkF m 0 #[.val (.ref a), .val (.ref b)] [])) := entry rfl
  have c2 : Steps p.tables e below (s₁.setTop (entryFrame m #[.ref a, .ref b] 2)) (s₁.setTop (mkF m 6 #[.val (.ref a), .val (.ref b)] [.null, .int (Int32.ofNat A.slots.size), .int 0, .ref b, .ref a])) := c1.trans (by
    refine XS.aloadN X0.here hexec rfl (hb hbytes d0) rfl rfl ?_
    refine XS.aloadN X0.here hexec rfl (hb hbytes d1) rfl rfl ?_
    refine iconstV X0.here hexec rfl 0 (hb hbytes d2) (by decide) ?_
    refine XS.aloadN X0.here hexec rfl (hb hbytes d3) rfl rfl ?_
    refine X0.alen hexec (hA.1.mv X0.warmed.alike hh0) rfl rfl (hb hbytes d4) ?_
    refine XS.aconstNull X0.here hexec rfl (hb hbytes d5) ?_
    exact Steps.refl _)
  obtain ⟨v3, T3, X3, E3, g3⟩ := X0.callN hexec (New4.law l a D fV fC b A z 0 A.slots.size) rfl hown (wks W (initW "java/lang/String" 27 New4.yN)) (W New4.tab (by simp only [site, List.mem_cons, List.mem_append, true_or, or_true])) (W := 0) (Nat.le_of_ble_eq_true rfl) (Nat.le_of_ble_eq_true rfl) (Nat.le_refl _) (by show 0 + A.slots.size ≤ A.slots.size; omega) (g := (mkF m 6 #[.val (.ref a), .val (.ref b)] [.null, .int (Int32.ofNat A.slots.size), .int (Int32.ofNat 0), .ref b, .ref a])) rfl (by rw [hml]; rfl) c2 (argsL := [.ref b, .int (Int32.ofNat 0), .int (Int32.ofNat A.slots.size), .null]) (rest := []) rfl rfl (by show 2 * 0 + 0 ≤ _; decide) (hb hbytes d6) (⟨rfl, hB.mv X0.warmed.alike hh0, f1.al X0.warmed.alike, f2.al X0.warmed.alike, hA.mv X0.warmed.alike hh0, s1.there X0.warmed.alike hh0, hz, l0, by omega, l2, fun i hi => by rw [Nat.zero_add]; exact hp i hi⟩)
  have e0 := Got.mv _ s₁ s _ _ hh0.symm (Vm.Alike.refl _) rfl E3
  obtain rfl := e0.1
  have c4 : Steps p.tables e below (s₁.setTop (entryFrame m #[.ref a, .ref b] 2)) (T3.setTop (mkF m 9 #[.val (.ref a), .val (.ref b)] [])) := g3
  exact ⟨T3, none, _, _, _, X3, by simp, rfl, by omega, (fun _ => rfl), e0, fun fs hl => c4.trans (X3.returnOut hexec hret (hb hbytes d9) hl)⟩
theorem pays {l : Launch} {R : Room} {p : Program} {e : Env} {below : List Frame} {s : State} {sargs : Array Value} {len W : Nat} (a : Addr) (D : Cell) (fV fC : Field) (b : Addr) (A : Cell) (z : Int32) (htab : tab.before sargs s = true) (hfr : 4 ≤ R.frames) (hlo : W + 65 ≤ R.locals) :
    Back l R p e below s sargs yN len W (fun A₁ a₁ => A₁.cells + 1 ≤ R.cells ∧ A₁.slots + A.slots.size ≤ R.slots ∧ P a D fV fC b A z a₁ A₁.U) (fun A₁ _ v₁ B₁ => E a D fV fC A v₁ A₁.U B₁.U ∧ B₁.locs = A₁.locs ++ [⟨a, fC.slot⟩, ⟨a, fV.slot⟩] ∧ B₁.cells = A₁.cells + 1 ∧ B₁.slots = A₁.slots + A.slots.size) :=
  (law l a D fV fC b A z).pays htab hfr (by omega)
end New1
/-- the byte, read back as charAt reads it, is the char -/
theorem lo8_mask {x : Int32} (h0 : ¬ x < 0) (h1 : ¬ 255 < x) : lo8 x &&& 255 = x := by
  have t : ∀ k : Fin 256, lo8 (Int32.ofNat k.val) &&& 255 = Int32.ofNat k.val := by decide +kernel
  rw [Int32.lt_iff_toInt_lt] at h0 h1
  have e0 : (0 : Int32).toInt = 0 := rfl
  have e1 : (255 : Int32).toInt = 255 := rfl
  obtain ⟨k, hk⟩ : ∃ k : Nat, x.toInt = k := ⟨x.toInt.toNat, by omega⟩
  have hx : x = Int32.ofNat k := Int32.toInt_inj.mp (by rw [hk, Int32.toInt_ofNat_small (by omega)])
  rw [hx]
  exact t ⟨k, by omega⟩
end StrChars
namespace StrChars.Road
open Jvm Sem ClassFile Op Lib Jvm.Stand Jvm.Free Jvm.Free.XT
open Jvm.Lib.Cold (StaticIs)
abbrev ST : String := "java/lang/String"
/-- every table word that New1's law asks, flat -/
abbrev words : List Jvm.Cond := [.code New1.yN New1.yB 2 none, .initialized ST, .methodLink ST 27 New4.yN, .instanceMethod New4.yN,
  .code New4.yN New4.yB 6 none, .fieldLink ST 38 ST "COMPACT_STRINGS" "Z", .laysFinal ST ST "value" "[B", .fieldLink ST 9 ST "value" "[B", .laysFinal ST ST "coder" "B", .fieldLink ST 15 ST "coder" "B",
  .methodLink ST 1 Lib.objectInit, .instanceMethod Lib.objectInit, .code Lib.objectInit ⟨#[0xb1]⟩ 1 none, .methodLink ST 177 Cmp3.yN, .static Cmp3.yN, .methodLink ST 47 CodL.yN, .static CodL.yN,
  .code Cmp3.yN Cmp3.yB 6 (some (.array .byte)), .initialized U16, .arrayClass .byte, .methodLink U16 115 Cmp5.yN, .static Cmp5.yN, .code Cmp5.yN Cmp5.yB 7 (some .int), .code CodL.yN CodL.yB 2 (some .byte)]
theorem tab_of {a : Array Value} {s : State} (h : ∀ w ∈ words, w.before a s = true) : New1.tab.before a s = true := by
  have h5 : Cmp5.tab.before a s = true := unparts (wk h (.code Cmp5.yN Cmp5.yB 7 (some .int))) (wks h (.initialized Cmp5.yN.cls :: Cmp5.site))
  have hc : CodL.tab.before a s = true := unparts (wk h (.code CodL.yN CodL.yB 2 (some .byte))) (wks h (.initialized CodL.yN.cls :: CodL.site))
  have q5 : ∀ w ∈ Cmp5.tab :: words, w.before a s = true := fun w hw => (List.mem_cons.mp hw).elim (fun e => e ▸ h5) (h w)
  have h3 : Cmp3.tab.before a s = true := unparts (wk q5 (.code Cmp3.yN Cmp3.yB 6 (some (.array .byte)))) (wks q5 (.initialized Cmp3.yN.cls :: Cmp3.site))
  have q3 : ∀ w ∈ Cmp3.tab :: CodL.tab :: words, w.before a s = true := fun w hw => (List.mem_cons.mp hw).elim (fun e => e ▸ h3) fun hw => (List.mem_cons.mp hw).elim (fun e => e ▸ hc) (h w)
  have h4 : New4.tab.before a s = true := unparts (wk q3 (.code New4.yN New4.yB 6 none)) (wks q3 (.initialized New4.yN.cls :: New4.site))
  have q4 : ∀ w ∈ New4.tab :: words, w.before a s = true := fun w hw => (List.mem_cons.mp hw).elim (fun e => e ▸ h4) (h w)
  exact unparts (wk q4 (.code New1.yN New1.yB 2 none)) (wks q4 (.initialized New1.yN.cls :: New1.site))
/-- the words ride from the start Z to the walk's own state -/
theorem moved {Z s : State} {a0 args : Array Value} (hZ : Z.Warmed39 s.vm) (hw : ∀ d ∈ words, d.before a0 Z = true) : ∀ d ∈ words, d.before args s = true := fun d hd => by
  have q := hw d hd
  have t : ∀ d ∈ words, d = .arrayClass .byte ∨ (d.onTables && d.keepsFace) = true := by decide +kernel
  rcases t d hd with rfl | t
  · exact RoadKit.mvA hZ q
  · exact RoadKit.mv hZ q t
/-- WHAT COMES BACK, over the tables of the start Z: h the heap at the call, h' behind it -/
def Q (Z : State) (x : Addr) (A : Cell) (h : Heap) (v : Option Value) (h' : Heap) (L : List Loc) : Prop := v = none ∧ (∀ y ∈ L, y.base = x) ∧ RoadKit.Keep h h' [x] ∧ h'.size = h.size + 1 ∧ RoadKit.Exa Z h' x ST ∧ RoadKit.Fld Z h' x ST "value" "[B" (.ref h.size) ∧ RoadKit.Fld Z h' x ST "coder" "B" (.int 0) ∧
  (∃ V : Cell, RoadKit.Arr Z h' h.size V .byte ∧ V.vm = .none ∧ Z.vm.findClass "[B" = some V.cls ∧ V.slots.size = A.slots.size ∧ ∀ j, j < A.slots.size → V.slots[j]? = some (.int (lo8 (cv A j)))) ∧
  ∀ (O n d : String) (w : Value), RoadKit.Fld Z h x O n d w → RoadKit.slotOf Z O n d ≠ RoadKit.slotOf Z ST "value" "[B" → RoadKit.slotOf Z O n d ≠ RoadKit.slotOf Z ST "coder" "B" → RoadKit.Fld Z h' x O n d w
/-- **new String(chars) AT A CALL, IN THE ROAD'S FORM**: for specialBack behind newO: x the fresh String, b the char[] with the cell A -/
theorem back {p : Program} {l : Launch} {e : Env} {R : Room} {s : State} {args : Array Value} {below : List Frame} {len W : Nat} {Z : State} {a0 : Array Value} {h : Heap} (hZ : Z.Warmed39 s.vm) (hw : ∀ d ∈ words, d.before a0 Z = true) {kI : Nat} (wi : (Jvm.Cond.instantiable ST kI).before a0 Z = true)
    {x b : Addr} {A : Cell} {z : Int32} {v0 c0 : Value} (E : RoadKit.Exa Z h x ST) (V : RoadKit.Fld Z h x ST "value" "[B" v0) (C : RoadKit.Fld Z h x ST "coder" "B" c0) (K : RoadKit.Arr Z h b A .char) (hty : Typed .char A) (S : RoadKit.Sta Z h ST "COMPACT_STRINGS" "Z" (.int z)) (hz : ¬ z = 0)
    (l0 : 0 < A.slots.size) (l2 : A.slots.size ≤ 536870912) (hp : ∀ i, i < A.slots.size → ¬ 255 < cv A i) (hfr : 4 ≤ R.frames) (hlo : W + 65 ≤ R.locals) :
    Back l R p e below s args New1.yN len W (fun P a => a = #[.ref x, .ref b] ∧ P.U.heap = h ∧ P.cells + 1 ≤ R.cells ∧ P.slots + A.slots.size ≤ R.slots)
      (fun P _ v B => ∃ L, Q Z x A h v B.U.heap L ∧ B.locs = P.locs ++ L ∧ B.cells = P.cells + 1 ∧ B.slots = P.slots + A.slots.size) := by
  intro m meth c P g ig mk a X hg hsize hdg hW hn hp'
  obtain ⟨rfl, rfl, r1, r2⟩ := hp'
  have al : Z.vm.Alike P.U.vm := hZ.alike.trans X.warmed.alike
  obtain ⟨D, cfV, kV, iV, fV, hD, gV, stV, knV, obV, asV, slV⟩ := id V
  obtain ⟨D', cfC, kC, iC, fC, hD', gC, stC, -, -, asC, slC⟩ := id C
  cases hD.symm.trans hD'
  obtain ⟨D2, kD, e1, e2, e3, e4, e5⟩ := id E
  cases hD.symm.trans e1
  obtain ⟨c2, k2, i1, i2, i3, -⟩ := Cond.instantiable_spec wi
  cases e2.symm.trans i1
  cases e3.symm.trans i2
  obtain ⟨kU, u1, u2⟩ := al.2.2 _ _ e3
  have hB : Blank ST x D P.U := ⟨hD, ⟨knV, fun q hq => by rw [hq] at obV; cases obV⟩, by rw [al.findClass]; exact e2, kU, u1, by rw [u2]; exact i3, by rw [u2]; exact e5 i3⟩
  have F1 : Found ST "value" "[B" fV P.U := ⟨SBG.found_only al ⟨cfV, kV, iV, gV⟩, stV⟩
  have F2 : Found ST "coder" "B" fC P.U := ⟨SBG.found_only al ⟨cfC, kC, iC, gC⟩, stC⟩
  have hA : Ch b A P.U := ⟨⟨K.1, State.isArrayOf_alike al K.2.1, K.2.2, by omega⟩, hty⟩
  have hS : StaticIs P.U ST "COMPACT_STRINGS" "Z" (.int z) := by
    obtain ⟨cfS, iS, kS, fS, st, cS, t1, t2, t3, t4, t5, t6, t7⟩ := S
    exact StaticIs.there (s := { Z with heap := P.U.heap }) ⟨cfS, iS, kS, fS, st, cS, t1, t2, t3, t4, t5, (fun q => by rw [q] at t6; cases t6), t7⟩ al rfl
  obtain ⟨v, B, X', ⟨⟨hv, E', V', q1, q2, q3, q4, q5, q6, q7, q8, q9, q10, q11⟩, hl, hc, hs⟩, st⟩ := New1.pays x D fV fC b A z (tab_of (moved hZ hw)) hfr hlo m meth c P g ig mk _ X hg hsize hdg hW hn ⟨r1, r2, rfl, hB, F1, F2, hA, hS, hz, l0, l2, hp⟩
  have al' : Z.vm.Alike B.U.vm := hZ.alike.trans X'.warmed.alike
  have hsz : E'.slots.size = D.slots.size := by
    obtain ⟨-, -, -, kB, w1, w2, w3⟩ := q1
    obtain ⟨kB', y1, y2⟩ := al'.2.2 _ _ e3
    rw [q2.2.1] at w1
    cases w1.symm.trans y1
    rw [w3, e5 i3, y2]
  refine ⟨v, B, X', ⟨_, ⟨hv, ?_, ⟨by omega, fun y cy hy hn' => q10 y cy (by simpa using hn') hy, fun y cy hy => ?_⟩, q11, ⟨E', _, q1.1, by rw [q2.2.1]; exact e2, by rw [q2.2.1]; exact e3, by rw [q2.1]; exact obV, fun _ => by rw [hsz]; exact e5 i3⟩,
    ⟨E', cfV, kV, iV, fV, q1.1, gV, stV, by rw [q2.1]; exact knV, by rw [q2.1]; exact obV, by rw [q2.2.1]; exact asV, q3⟩, ⟨E', cfC, kC, iC, fC, q1.1, gC, stC, by rw [q2.1]; exact knV, by rw [q2.1]; exact obV, by rw [q2.2.1]; exact asC, q4⟩,
    ⟨V', ⟨q5.1, State.isArrayOf_alike al'.symm q5.2.1, q5.2.2.1⟩, q6, by rw [← al'.findClass]; exact q7, q8, fun j hj => by have := q9 j hj; rwa [Nat.zero_add] at this⟩, fun O n d w F n1 n2 => ?_⟩, hl, hc, hs⟩, st⟩
  · intro y hy
    simp only [List.mem_cons, List.not_mem_nil, or_false] at hy
    rcases hy with rfl | rfl <;> rfl
  · by_cases q : y = x
    · subst q
      cases hD.symm.trans hy
      exact ⟨E', q1.1, q2.2.1, q2.1, hsz⟩
    · exact ⟨cy, q10 y cy q hy, rfl, rfl, rfl⟩
  · obtain ⟨D3, cf, k, i, f, g1, g2, g3, g4, g5, g6, g7⟩ := F
    cases hD.symm.trans g1
    simp only [RoadKit.slotOf, g2, gV, gC, Option.map_some, Option.getD_some] at n1 n2
    exact ⟨E', cf, k, i, f, q1.1, g2, g3, by rw [q2.1]; exact g4, by rw [q2.1]; exact g5, by rw [q2.2.1]; exact g6, by rw [q2.2.2 f.slot (by simp [n1, n2])]; exact g7⟩
end StrChars.Road
namespace StrChars.Road
open Jvm Sem ClassFile Op Lib Jvm.Stand Jvm.Free Jvm.Free.XT
/-- WHAT COMES BACK, the byte[] as a list of values -/
def QA (Z : State) (x : Addr) (zn : Int32) (cs : List Int32) (h : Heap) (v : Option Value) (h' : Heap) (L : List Loc) : Prop := v = none ∧ (∀ y ∈ L, y.base = x) ∧ RoadKit.Keep h h' [x] ∧ h'.size = h.size + 1 ∧ RoadKit.Exa Z h' x ST ∧ RoadKit.Fld Z h' x ST "value" "[B" (.ref h.size) ∧ RoadKit.Fld Z h' x ST "coder" "B" (.int 0) ∧
  (∃ kb, Z.vm.findClass "[B" = some kb ∧ RoadKit.Arv Z h' h.size kb .byte zn (cs.map fun c => .int (lo8 c)) (.int 0)) ∧
  ∀ (O n d : String) (w : Value), RoadKit.Fld Z h x O n d w → RoadKit.slotOf Z O n d ≠ RoadKit.slotOf Z ST "value" "[B" → RoadKit.slotOf Z O n d ≠ RoadKit.slotOf Z ST "coder" "B" → RoadKit.Fld Z h' x O n d w
/-- **new String(chars) AT A CALL, THE ARRAYS AS LISTS**: the char[] at b holds cs, not empty, no char above 255 -/
theorem backArv {p : Program} {l : Launch} {e : Env} {R : Room} {s : State} {args : Array Value} {below : List Frame} {len W : Nat} {Z : State} {a0 : Array Value} {h : Heap} (hZ : Z.Warmed39 s.vm) (hw : ∀ d ∈ words, d.before a0 Z = true) {kI : Nat} (wi : (Jvm.Cond.instantiable ST kI).before a0 Z = true)
    {x b : Addr} {k : ClassId} {zn z : Int32} {cs : List Int32} {dv v0 c0 : Value} (E : RoadKit.Exa Z h x ST) (V : RoadKit.Fld Z h x ST "value" "[B" v0) (C : RoadKit.Fld Z h x ST "coder" "B" c0) (K : RoadKit.Arv Z h b k .char zn (cs.map Value.int) dv) (S : RoadKit.Sta Z h ST "COMPACT_STRINGS" "Z" (.int z)) (hz : ¬ z = 0)
    (hlen : zn.toNatClampNeg = cs.length) (h0 : 0 < cs.length) (hbig : cs.length ≤ 536870912) (hall : ∀ c ∈ cs, ¬ 255 < c) (hfr : 4 ≤ R.frames) (hlo : W + 65 ≤ R.locals) :
    Back l R p e below s args New1.yN len W (fun P a => a = #[.ref x, .ref b] ∧ P.U.heap = h ∧ P.cells + 1 ≤ R.cells ∧ P.slots + cs.length ≤ R.slots)
      (fun P _ v B => ∃ L, QA Z x zn cs h v B.U.heap L ∧ B.locs = P.locs ++ L ∧ B.cells = P.cells + 1 ∧ B.slots = P.slots + cs.length) := by
  obtain ⟨A, K1, K2, K3, K4, K5, K6⟩ := K
  have e : A.slots.size = cs.length := K3.trans hlen
  have hat : ∀ (i : Nat) (hi : i < cs.length), A.slots[i]? = some (.int cs[i]) := fun i hi => by rw [K5 i (by omega)]; simp [List.getD_eq_getElem?_getD, hi]
  have hcv : ∀ (i : Nat) (hi : i < cs.length), cv A i = cs[i] := fun i hi => by unfold cv; rw [hat i hi]
  have hty : Typed .char A := fun i v hv => by
    have hi : i < A.slots.size := (Array.getElem?_eq_some_iff.mp hv).1
    have q := K5 i hi
    rw [hv] at q
    rw [Option.some.inj q]
    exact K6 i hi
  refine Back.mono (back hZ hw wi E V C K1 hty S hz (by omega) (by omega) (fun i hi => by rw [hcv i (by omega)]; exact hall _ (List.getElem_mem _)) hfr hlo) (fun P a hp => ⟨hp.1, hp.2.1, hp.2.2.1, by rw [e]; exact hp.2.2.2⟩) (fun P a v B hp hq => ?_)
  obtain ⟨L, ⟨q1, q2, q3, q4, q5, q6, q7, ⟨V', v1, v2, v3, v4, v5⟩, q9⟩, hl, hc, hs⟩ := hq
  refine ⟨L, ⟨q1, q2, q3, q4, q5, q6, q7, ⟨V'.cls, v3, V', v1, rfl, by rw [v4, e, hlen], K4, fun i hi => ?_, fun i hi => ?_⟩, q9⟩, hl, hc, by rw [hs, e]⟩
  · have hi' : i < cs.length := by omega
    rw [v5 i (by omega), hcv i hi']; simp [List.getD_eq_getElem?_getD, hi']
  · have hi' : i < cs.length := by omega
    simp only [List.getD_eq_getElem?_getD, List.getElem?_map, List.getElem?_eq_getElem hi', Option.map_some, Option.getD_some]
    exact fits_lo8 _
end StrChars.Road
namespace StrChars.Road
open Jvm Sem ClassFile Op Lib Jvm.Stand Jvm.Free Jvm.Free.XT
/-- WHAT COMES BACK, in the writer's own shape -/
def QV (Z : State) (x : Addr) (N : Int32) (bs : List Int32) (h : Heap) (n0 : Nat) (v : Option Value) (h' : Heap) (L : List Loc) : Prop := v = none ∧ RoadKit.Fr n0 L ∧ RoadKit.Keep h h' [x] ∧ RoadKit.Exa Z h' x ST ∧ RoadKit.Fld Z h' x ST "coder" "B" (.int 0) ∧
  ∃ (t : Addr) (kb : ClassId), n0 ≤ t ∧ h.size ≤ t ∧ ¬ t = x ∧ RoadKit.Fld Z h' x ST "value" "[B" (.ref t) ∧ RoadKit.Arv Z h' t kb .byte N (bs.map Value.int) (.int 0)
/-- **new String(chars) AT A CALL, FOR THE WRITER**: a char[] of n known ints, each 0 to 255 -/
theorem backV {p : Program} {l : Launch} {e : Env} {R : Room} {s : State} {args : Array Value} {below : List Frame} {len W : Nat} {Z : State} {a0 : Array Value} {h : Heap} (hZ : Z.Warmed39 s.vm) (hw : ∀ d ∈ words, d.before a0 Z = true) {kI : Nat} (wi : (Jvm.Cond.instantiable ST kI).before a0 Z = true)
    {x b : Addr} {kC : ClassId} {cs bs : List Int32} {d v0 c0 : Value} {z N : Int32} {n n0 : Nat} (hx0 : n0 ≤ x) (hh0 : n0 ≤ h.size) (E : RoadKit.Exa Z h x ST) (V : RoadKit.Fld Z h x ST "value" "[B" v0) (C : RoadKit.Fld Z h x ST "coder" "B" c0) (K : RoadKit.Arv Z h b kC .char N (cs.map Value.int) d) (S : RoadKit.Sta Z h ST "COMPACT_STRINGS" "Z" (.int z)) (hz : ¬ z = 0)
    (hn : cs.length = n) (hN : N = Int32.ofNat n) (l0 : 0 < n) (l2 : n ≤ 4000) (hp : ∀ c ∈ cs, ¬ c < 0 ∧ ¬ (255 : Int32) < c) (hb : bs = cs.map (fun c => c.toInt8.toInt32)) (hfr : 4 ≤ R.frames) (hlo : W + 65 ≤ R.locals) :
    Back l R p e below s args (⟨"java/lang/String", "<init>", "([C)V"⟩ : MethodName) len W (fun P a => a = #[.ref x, .ref b] ∧ P.U.heap = h ∧ P.cells + 1 ≤ R.cells ∧ P.slots + n ≤ R.slots)
      (fun P _ v B => ∃ L, QV Z x N bs h n0 v B.U.heap L ∧ B.locs = P.locs ++ L ∧ B.cells = P.cells + 1 ∧ B.slots = P.slots + n) := by
  subst hn hN hb
  refine Back.mono (backArv hZ hw wi E V C K S hz (n32 (by omega)) l0 (by omega) (fun c hc => (hp c hc).2) hfr hlo) (fun P a hp => hp) (fun P a v B hp hq => ?_)
  obtain ⟨L, ⟨q1, q2, q3, q4, q5, q6, q7, ⟨kb, v1, v2⟩, q9⟩, hl, hc, hs⟩ := hq
  exact ⟨L, ⟨q1, fun y hy => by rw [q2 y hy]; exact hx0, q3, q5, q7, h.size, kb, hh0, Nat.le_refl _, Nat.ne_of_gt E.lt, q6, by rw [List.map_map]; exact v2⟩, hl, hc, hs⟩
end StrChars.Road
namespace StrChars
open Jvm Sem ClassFile Op Lib Jvm.Stand Jvm.Free.XT Jvm.Free.ALB Jvm.Free.JM Jvm.Free
open Jvm.Lib.Cold (StaticIs)
def hi8 (x : Int32) : Int32 := lo8 (x >>> ((8 : Int32) &&& 31))
/-- what StringUTF16.getChar makes of two bytes -/
def pairCh (u v : Int32) : Int32 := (((u &&& 255) <<< ((0 : Int32) &&& 31)) ||| ((v &&& 255) <<< ((8 : Int32) &&& 31))).toUInt32.toUInt16.toUInt32.toInt32
theorem shr0 (c : Int32) : c >>> ((0 : Int32) &&& 31) = c := by
  have e : ((0 : Int32) &&& 31) = 0 := by decide
  rw [e]
  apply Int32.toBitVec_inj.mp
  rw [Int32.toBitVec_shiftRight]
  have e1 : ((0 : Int32).toBitVec.smod 32) = 0#32 := by decide
  rw [e1, BitVec.sshiftRight_eq']
  exact BitVec.sshiftRight_zero
theorem lo8_and (x : Int32) : (lo8 x &&& 255).toBitVec.toNat = x.toBitVec.toNat % 256 := by
  have h : (lo8 x).toBitVec = (x.toBitVec.signExtend 8).signExtend 32 := by rw [lo8, Int8.toBitVec_toInt32, Int32.toBitVec_toInt8]
  rw [Int32.toBitVec_and, BitVec.toNat_and, h]
  have e : ((x.toBitVec.signExtend 8).signExtend 32).toNat % 256 = x.toBitVec.toNat % 256 := by
    rw [BitVec.toNat_signExtend]
    have hlt := x.toBitVec.isLt
    simp only [BitVec.toNat_setWidth, BitVec.toNat_signExtend]
    split <;> split <;> omega
  rw [← e]
  exact Nat.and_two_pow_sub_one_eq_mod _ 8
theorem pair_says {c : Int32} (h0 : ¬ c < 0) (h1 : ¬ 65535 < c) : pairCh (lo8 c) (hi8 c) = c := by
  rw [Int32.lt_iff_toInt_lt] at h0 h1
  have e0 : (0 : Int32).toInt = 0 := rfl
  have e1 : (65535 : Int32).toInt = 65535 := rfl
  have hc : c.toInt = c.toBitVec.toNat := by
    have := c.toBitVec.isLt
    have e : c.toInt = c.toBitVec.toInt := rfl
    rw [e] at h0 h1
    rw [e]
    rw [BitVec.toInt_eq_toNat_cond] at h0 h1 ⊢
    split at h0 <;> split <;> omega
  have hn : c.toBitVec.toNat < 65536 := by omega
  have a1 := lo8_and c
  have a2 : (hi8 c &&& 255).toBitVec.toNat = c.toBitVec.toNat / 256 := by
    rw [hi8, lo8_and]
    have e : ((8 : Int32) &&& 31) = 8 := by decide
    rw [e, Int32.toBitVec_shiftRight]
    have e2 : ((8 : Int32).toBitVec.smod 32) = 8#32 := by decide
    rw [e2, BitVec.sshiftRight_eq', BitVec.toNat_sshiftRight_of_msb_false (by rw [BitVec.msb_eq_false_iff_two_mul_lt]; omega)]
    show c.toBitVec.toNat >>> 8 % 256 = _
    rw [Nat.shiftRight_eq_div_pow]
    omega
  unfold pairCh
  apply Int32.toBitVec_inj.mp
  apply BitVec.eq_of_toNat_eq
  have f0 : ((0 : Int32) &&& 31) = 0 := by decide
  have f8 : ((8 : Int32) &&& 31) = 8 := by decide
  rw [f0, f8]
  have g : (((lo8 c &&& 255) <<< (0 : Int32)) ||| ((hi8 c &&& 255) <<< (8 : Int32))).toBitVec.toNat = c.toBitVec.toNat := by
    rw [Int32.toBitVec_or, Int32.toBitVec_shiftLeft, Int32.toBitVec_shiftLeft]
    have s0 : ((0 : Int32).toBitVec.smod 32) = 0#32 := by decide
    have s8 : ((8 : Int32).toBitVec.smod 32) = 8#32 := by decide
    rw [s0, s8, BitVec.toNat_or]
    simp only [BitVec.shiftLeft_eq', BitVec.toNat_shiftLeft, a1, a2]
    show (c.toBitVec.toNat % 256) <<< 0 % 2 ^ 32 ||| (c.toBitVec.toNat / 256) <<< 8 % 2 ^ 32 = _
    rw [Nat.shiftLeft_zero, Nat.mod_eq_of_lt (show c.toBitVec.toNat % 256 < 2 ^ 32 by omega), Nat.mod_eq_of_lt (show (c.toBitVec.toNat / 256) <<< 8 < 2 ^ 32 by rw [Nat.shiftLeft_eq]; omega), Nat.or_comm, ← Nat.shiftLeft_add_eq_or_of_lt (by omega), Nat.shiftLeft_eq]
    omega
  show BitVec.toNat (((((lo8 c &&& 255) <<< (0 : Int32)) ||| ((hi8 c &&& 255) <<< (8 : Int32))).toBitVec.setWidth 16).setWidth 32) = _
  rw [BitVec.toNat_setWidth, BitVec.toNat_setWidth, g]
  omega
end StrChars
namespace StrChars
open Jvm Sem ClassFile Op Lib Jvm.Stand Jvm.Free.XT Jvm.Free.ALB Jvm.Free.JM Jvm.Free
open Jvm.Lib.Cold (StaticIs)
theorem shr1 {n : Nat} (h : 2 * n < 2 ^ 31) : Int32.ofNat (2 * n) >>> ((1 : Int32) &&& 31) = Int32.ofNat n := by
  have e : ((1 : Int32) &&& 31) = 1 := by decide
  rw [e]
  apply Int32.toBitVec_inj.mp
  rw [Int32.toBitVec_shiftRight]
  have e1 : ((1 : Int32).toBitVec.smod 32) = 1#32 := by decide
  have hm : (BitVec.ofNat 32 (2 * n)).toNat = 2 * n := by rw [BitVec.toNat_ofNat, Nat.mod_eq_of_lt (by omega)]
  rw [e1, BitVec.sshiftRight_eq']
  apply BitVec.eq_of_toNat_eq
  show ((BitVec.ofNat 32 (2 * n)).sshiftRight 1).toNat = (BitVec.ofNat 32 n).toNat
  rw [BitVec.toNat_sshiftRight_of_msb_false (by rw [BitVec.msb_eq_false_iff_two_mul_lt, hm]; omega), hm, BitVec.toNat_ofNat, Nat.shiftRight_eq_div_pow]
  omega
/-- charAt's cast of a byte read back -/
def chr8 (u : Int32) : Int32 := (u &&& 255).toUInt32.toUInt16.toUInt32.toInt32
theorem chr8_lo8 {c : Int32} (h0 : ¬ c < 0) (h1 : ¬ 255 < c) : chr8 (lo8 c) = c := by
  have t : ∀ k : Fin 256, (Int32.ofNat k.val).toUInt32.toUInt16.toUInt32.toInt32 = Int32.ofNat k.val := by decide +kernel
  unfold chr8
  rw [lo8_mask h0 h1]
  rw [Int32.lt_iff_toInt_lt] at h0 h1
  have e0 : (0 : Int32).toInt = 0 := rfl
  have e1 : (255 : Int32).toInt = 255 := rfl
  obtain ⟨k, hk⟩ : ∃ k : Nat, c.toInt = k := ⟨c.toInt.toNat, by omega⟩
  have hx : c = Int32.ofNat k := Int32.toInt_inj.mp (by rw [hk, Int32.toInt_ofNat_small (by omega)])
  rw [hx]
  exact t ⟨k, by omega⟩
theorem narrow_ch {c : Int32} (h0 : ¬ c < 0) (h1 : ¬ 65535 < c) : narrow .char (.int c) = .int c := by
  have q : narrow .char (.int (pairCh (lo8 c) (hi8 c))) = .int (pairCh (lo8 c) (hi8 c)) := narrow_c _
  rwa [pair_says h0 h1] at q
/-- the array's cell V codes the n chars f 0 .. f (n - 1) by the coder cd, as the JDK does: coder 1 just where some char is above 255 -/
def Cod (cd : Int32) (n : Nat) (f : Nat → Int32) (V : Cell) : Prop := (cd = 0 ∧ V.slots.size = n ∧ ∀ j, j < n → V.slots[j]? = some (.int (lo8 (f j))) ∧ ¬ 255 < f j) ∨ (cd = 1 ∧ V.slots.size = 2 * n ∧ (∀ j, j < n → V.slots[2 * j]? = some (.int (lo8 (f j))) ∧ V.slots[2 * j + 1]? = some (.int (hi8 (f j)))) ∧ ∃ j, j < n ∧ 255 < f j)
theorem Cod.cd {cd : Int32} {n : Nat} {f : Nat → Int32} {V : Cell} (h : Cod cd n f V) : cd = 0 ∨ cd = 1 := h.imp (fun q => q.1) fun q => q.1
theorem Cod.len {cd : Int32} {n : Nat} {f : Nat → Int32} {V : Cell} (h : Cod cd n f V) (hs : V.slots.size < 2 ^ 31) : Int32.ofNat V.slots.size >>> (cd &&& 31) = Int32.ofNat n := by
  rcases h with ⟨rfl, h, -⟩ | ⟨rfl, h, -⟩
  · rw [shr0, h]
  · rw [h, shr1 (by omega)]
/-- **x is a String of the n chars f 0 .. f (n - 1)**, Latin-1 or UTF-16; its array at t has the cell V -/
def Txt (x t : Addr) (V : Cell) (cd : Int32) (n : Nat) (f : Nat → Int32) (U : State) : Prop := Exact "java/lang/String" x U ∧ Has x "java/lang/String" "value" "[B" (.ref t) U ∧ Has x "java/lang/String" "coder" "B" (.int cd) U ∧ XT.Arr .byte t V U ∧ Cod cd n f V ∧ ∀ j, j < n → ¬ f j < 0 ∧ ¬ 65535 < f j
theorem Txt.mv {x t : Addr} {V : Cell} {cd : Int32} {n : Nat} {f : Nat → Int32} {U U' : State} (h : Txt x t V cd n f U) (hal : U.vm.Alike U'.vm) (hh : U'.heap = U.heap) : Txt x t V cd n f U' := ⟨h.1.mv hal hh, h.2.1.mv hal hh, h.2.2.1.mv hal hh, h.2.2.2.1.mv hal hh, h.2.2.2.2⟩
namespace Cdr
def yN : MethodName := ⟨"java/lang/String", "coder", "()B"⟩
abbrev yB : ByteArray := jdk_42_method_152_code
theorem d0 : decode yB 0 = .ok (.getstatic 38, 3) := by decide +kernel
theorem d3 : decode yB 3 = .ok (.ifCond (.eq) 10, 3) := by decide +kernel
theorem d6 : decode yB 6 = .ok (.aload_n 0, 1) := by decide +kernel
theorem d7 : decode yB 7 = .ok (.getfield 15, 3) := by decide +kernel
theorem d10 : decode yB 10 = .ok (.goto 4, 3) := by decide +kernel
theorem d14 : decode yB 14 = .ok (.ireturn, 1) := by decide +kernel
def site : List Cond := [.fieldLink "java/lang/String" 38 "java/lang/String" "COMPACT_STRINGS" "Z", .fieldLink "java/lang/String" 15 "java/lang/String" "coder" "B"]
def tab : Cond := tabOf yN yB 1 (some .byte) site
def P (x : Addr) (cd z : Int32) (args : Array Value) (s : State) : Prop := args = #[.ref x] ∧ Has x "java/lang/String" "coder" "B" (.int cd) s ∧ (cd = 0 ∨ cd = 1) ∧ StaticIs s "java/lang/String" "COMPACT_STRINGS" "Z" (.int z) ∧ ¬ z = 0
def E (cd : Int32) (r : Option Value) (s u : State) : Prop := XT.PureE (some (.int cd)) r s u
theorem law (l : Launch) (x : Addr) (cd z : Int32) : Law l yN 1 0 0 0 yB 1 (some .byte) site (P x cd z) (E cd) [] 0 0 := by
  refine Law.of_walk (plainFor_of_name (by decide +kernel)) (by decide +kernel) (by decide +kernel) (by decide) (fun _ _ h => by rw [h.1]; rfl) (fun _ U U' hal hh h => ⟨h.1, h.2.1.mv hal hh, h.2.2.1, h.2.2.2.1.there hal hh, h.2.2.2.2⟩) (fun r U U' V V' h1 hal h2 h => XT.PureE.mv r U U' V V' h1 hal h2 h) ?_
  intro p e s m args below meth c s₁ X0 hexec hbytes hml hret hlk hnm hown hh0 W hP
  obtain ⟨rfl, hx, hc, s1, hz⟩ := hP
  have c1 : Steps p.tables e below (s₁.setTop (entryFrame m #[.ref x] 1)) (s₁.setTop (mkF m 0 #[.val (.ref x)] [])) := entry rfl
  obtain ⟨T2, X2, q2, st2⟩ := X0.sget hexec hown (wk W (.fieldLink "java/lang/String" 38 "java/lang/String" "COMPACT_STRINGS" "Z")) s1 (fun _ _ h => by rw [hh0]; exact h) (g := (mkF m 0 #[.val (.ref x)] [])) rfl (hb hbytes d0)
  have hh2 := q2.trans hh0
  have c3 : Steps p.tables e below (s₁.setTop (entryFrame m #[.ref x] 1)) (T2.setTop (mkF m 7 #[.val (.ref x)] [.ref x])) := (c1.trans (st2 _ (Steps.refl _))).trans (by
    refine XS.ifNo X2.here hexec rfl (hb hbytes d3) rfl (i0_eq_f hz) ?_
    refine XS.aloadN X2.here hexec rfl (hb hbytes d6) rfl rfl ?_
    exact Steps.refl _)
  obtain ⟨T4, X4, q4, st4⟩ := X2.hget hexec hown (wk W (.fieldLink "java/lang/String" 15 "java/lang/String" "coder" "B")) (hx.mv X2.warmed.alike hh2) (g := (mkF m 7 #[.val (.ref x)] [.ref x])) rfl (rest := []) rfl (hb hbytes d7)
  have c5 : Steps p.tables e below (s₁.setTop (entryFrame m #[.ref x] 1)) (T4.setTop (mkF m 14 #[.val (.ref x)] [.int cd])) := (c3.trans (st4 _ (Steps.refl _))).trans (by
    refine XS.goto X4.here hexec rfl (pc0 := 10) rfl (hb hbytes d10) (by decide) rfl ?_
    exact Steps.refl _)
  exact ⟨T4, some (.int cd), _, _, _, X4, rfl, rfl, rfl, (fun h => by cases h), ⟨rfl, q4.trans hh2⟩, fun fs hl => c5.trans (X4.ireturnOut hexec hret (by rcases hc with rfl | rfl <;> rfl) (Or.inr (Or.inr (Or.inl rfl))) (hb hbytes d14) hl)⟩
end Cdr
namespace Len
def yN : MethodName := ⟨"java/lang/String", "length", "()I"⟩
abbrev yB : ByteArray := jdk_42_method_54_code
theorem d0 : decode yB 0 = .ok (.aload_n 0, 1) := by decide +kernel
theorem d1 : decode yB 1 = .ok (.getfield 9, 3) := by decide +kernel
theorem d4 : decode yB 4 = .ok (.arraylength, 1) := by decide +kernel
theorem d5 : decode yB 5 = .ok (.aload_n 0, 1) := by decide +kernel
theorem d6 : decode yB 6 = .ok (.invokevirtual 335, 3) := by decide +kernel
theorem d9 : decode yB 9 = .ok (.ishr, 1) := by decide +kernel
theorem d10 : decode yB 10 = .ok (.ireturn, 1) := by decide +kernel
def site : List Cond := [.fieldLink "java/lang/String" 9 "java/lang/String" "value" "[B", Cdr.tab] ++ virtW "java/lang/String" 335 "java/lang/String" Cdr.yN Cdr.yN
def tab : Cond := tabOf yN yB 1 (some .int) site
def P (x t : Addr) (V : Cell) (cd : Int32) (n : Nat) (f : Nat → Int32) (z : Int32) (args : Array Value) (s : State) : Prop := args = #[.ref x] ∧ Txt x t V cd n f s ∧ StaticIs s "java/lang/String" "COMPACT_STRINGS" "Z" (.int z) ∧ ¬ z = 0
def E (n : Nat) (r : Option Value) (s u : State) : Prop := XT.PureE (some (.int (Int32.ofNat n))) r s u
/-- length() of a String of n chars, in either coding -/
theorem law (l : Launch) (x t : Addr) (V : Cell) (cd : Int32) (n : Nat) (f : Nat → Int32) (z : Int32) : Law l yN 1 0 1 13 yB 1 (some .int) site (P x t V cd n f z) (E n) [] 0 0 := by
  refine Law.of_walk (plainFor_of_name (by decide +kernel)) (by decide +kernel) (by decide +kernel) (by decide) (fun _ _ h => by rw [h.1]; rfl) (fun _ U U' hal hh h => ⟨h.1, h.2.1.mv hal hh, h.2.2.1.there hal hh, h.2.2.2⟩) (fun r U U' V V' h1 hal h2 h => XT.PureE.mv r U U' V V' h1 hal h2 h) ?_
  intro p e s m args below meth c s₁ X0 hexec hbytes hml hret hlk hnm hown hh0 W hP
  obtain ⟨rfl, hx, s1, hz⟩ := hP
  have v31 := hx.2.2.2.1.2.2.2
  have c1 : Steps p.tables e below (s₁.setTop (entryFrame m #[.ref x] 1)) (s₁.setTop (mkF m 1 #[.val (.ref x)] [.ref x])) := Steps.trans (entry rfl) (by
    show Steps p.tables e below (s₁.setTop (mkF m 0 #[.val (.ref x)] [])) _
    refine XS.aloadN X0.here hexec rfl (hb hbytes d0) rfl rfl ?_
    exact Steps.refl _)
  obtain ⟨T2, X2, q2, st2⟩ := X0.hget hexec hown (wk W (.fieldLink "java/lang/String" 9 "java/lang/String" "value" "[B")) (hx.mv X0.warmed.alike hh0).2.1 (g := (mkF m 1 #[.val (.ref x)] [.ref x])) rfl (rest := []) rfl (hb hbytes d1)
  have hh2 := q2.trans hh0
  have hx2 := hx.mv X2.warmed.alike hh2
  have c3 : Steps p.tables e below (s₁.setTop (entryFrame m #[.ref x] 1)) (T2.setTop (mkF m 6 #[.val (.ref x)] [.ref x, .int (Int32.ofNat V.slots.size)])) := (c1.trans (st2 _ (Steps.refl _))).trans (by
    refine X2.alen hexec hx2.2.2.2.1 rfl rfl (hb hbytes d4) ?_
    refine XS.aloadN X2.here hexec rfl (hb hbytes d5) rfl rfl ?_
    exact Steps.refl _)
  obtain ⟨v4, T4, X4, E4, g4⟩ := X2.callV hexec (Cdr.law l x cd z) hown (wks W (virtW "java/lang/String" 335 "java/lang/String" Cdr.yN Cdr.yN)) rfl (by decide) (wk W Cdr.tab) (W := 1) (Nat.le_of_ble_eq_true rfl) (Nat.le_of_ble_eq_true rfl) (Nat.le_refl _) (Nat.le_refl _) (hx2.1.fc X2.warmed.alike) hx2.1.is (g := (mkF m 6 #[.val (.ref x)] [.ref x, .int (Int32.ofNat V.slots.size)])) rfl (by rw [hml]; rfl) c3 (argsL := []) (rest := [.int (Int32.ofNat V.slots.size)]) rfl rfl (by show 2 * 0 + (1 + 0) ≤ _; decide) (hb hbytes d6) (⟨rfl, hx2.2.2.1, hx.2.2.2.2.1.cd, s1.there X2.warmed.alike hh2, hz⟩)
  obtain ⟨rfl, q4⟩ := E4
  have c5 : Steps p.tables e below (s₁.setTop (entryFrame m #[.ref x] 1)) (T4.setTop (mkF m 10 #[.val (.ref x)] [.int (Int32.ofNat V.slots.size >>> (cd &&& 31))])) := Steps.trans g4 (by
    refine ishr X4.here hexec rfl (hb hbytes d9) rfl ?_
    exact Steps.refl _)
  rw [hx.2.2.2.2.1.len v31] at c5
  exact ⟨T4, some (.int (Int32.ofNat n)), _, _, _, X4, rfl, rfl, rfl, (fun h => by cases h), ⟨rfl, q4.trans hh2⟩, fun fs hl => c5.trans (X4.ireturnOut hexec hret rfl (Or.inl rfl) (hb hbytes d10) hl)⟩
theorem pays {l : Launch} {R : Room} {p : Program} {e : Env} {below : List Frame} {s : State} {sargs : Array Value} {len W : Nat} (x t : Addr) (V : Cell) (cd : Int32) (n : Nat) (f : Nat → Int32) (z : Int32) (htab : tab.before sargs s = true) (hfr : 2 ≤ R.frames) (hlo : W + 25 ≤ R.locals) :
    Back l R p e below s sargs yN len W (fun A₁ a₁ => A₁.cells + 0 ≤ R.cells ∧ A₁.slots + 0 ≤ R.slots ∧ P x t V cd n f z a₁ A₁.U) (fun A₁ _ v₁ B₁ => E n v₁ A₁.U B₁.U ∧ B₁.locs = A₁.locs ++ [] ∧ B₁.cells = A₁.cells + 0 ∧ B₁.slots = A₁.slots + 0) :=
  (law l x t V cd n f z).pays htab hfr (by omega)
end Len
namespace IsL
def yN : MethodName := ⟨"java/lang/String", "isLatin1", "()Z"⟩
abbrev yB : ByteArray := jdk_42_method_154_code
theorem d0 : decode yB 0 = .ok (.getstatic 38, 3) := by decide +kernel
theorem d3 : decode yB 3 = .ok (.ifCond (.eq) 14, 3) := by decide +kernel
theorem d6 : decode yB 6 = .ok (.aload_n 0, 1) := by decide +kernel
theorem d7 : decode yB 7 = .ok (.getfield 15, 3) := by decide +kernel
theorem d10 : decode yB 10 = .ok (.ifCond (.ne) 7, 3) := by decide +kernel
theorem d13 : decode yB 13 = .ok (.iconst 1, 1) := by decide +kernel
theorem d14 : decode yB 14 = .ok (.goto 4, 3) := by decide +kernel
theorem d17 : decode yB 17 = .ok (.iconst 0, 1) := by decide +kernel
theorem d18 : decode yB 18 = .ok (.ireturn, 1) := by decide +kernel
def site : List Cond := [.fieldLink "java/lang/String" 38 "java/lang/String" "COMPACT_STRINGS" "Z", .fieldLink "java/lang/String" 15 "java/lang/String" "coder" "B"]
def tab : Cond := tabOf yN yB 1 (some .boolean) site
def P (x : Addr) (cd z : Int32) (args : Array Value) (s : State) : Prop := args = #[.ref x] ∧ Has x "java/lang/String" "coder" "B" (.int cd) s ∧ (cd = 0 ∨ cd = 1) ∧ StaticIs s "java/lang/String" "COMPACT_STRINGS" "Z" (.int z) ∧ ¬ z = 0
def E (cd : Int32) (r : Option Value) (s u : State) : Prop := XT.PureE (some (.int (1 - cd))) r s u
theorem law (l : Launch) (x : Addr) (cd z : Int32) : Law l yN 1 0 0 0 yB 1 (some .boolean) site (P x cd z) (E cd) [] 0 0 := by
  refine Law.of_walk (plainFor_of_name (by decide +kernel)) (by decide +kernel) (by decide +kernel) (by decide) (fun _ _ h => by rw [h.1]; rfl) (fun _ U U' hal hh h => ⟨h.1, h.2.1.mv hal hh, h.2.2.1, h.2.2.2.1.there hal hh, h.2.2.2.2⟩) (fun r U U' V V' h1 hal h2 h => XT.PureE.mv r U U' V V' h1 hal h2 h) ?_
  intro p e s m args below meth c s₁ X0 hexec hbytes hml hret hlk hnm hown hh0 W hP
  obtain ⟨rfl, hx, hc, s1, hz⟩ := hP
  have c1 : Steps p.tables e below (s₁.setTop (entryFrame m #[.ref x] 1)) (s₁.setTop (mkF m 0 #[.val (.ref x)] [])) := entry rfl
  obtain ⟨T2, X2, q2, st2⟩ := X0.sget hexec hown (wk W (.fieldLink "java/lang/String" 38 "java/lang/String" "COMPACT_STRINGS" "Z")) s1 (fun _ _ h => by rw [hh0]; exact h) (g := (mkF m 0 #[.val (.ref x)] [])) rfl (hb hbytes d0)
  have hh2 := q2.trans hh0
  have c3 : Steps p.tables e below (s₁.setTop (entryFrame m #[.ref x] 1)) (T2.setTop (mkF m 7 #[.val (.ref x)] [.ref x])) := (c1.trans (st2 _ (Steps.refl _))).trans (by
    refine XS.ifNo X2.here hexec rfl (hb hbytes d3) rfl (i0_eq_f hz) ?_
    refine XS.aloadN X2.here hexec rfl (hb hbytes d6) rfl rfl ?_
    exact Steps.refl _)
  obtain ⟨T4, X4, q4, st4⟩ := X2.hget hexec hown (wk W (.fieldLink "java/lang/String" 15 "java/lang/String" "coder" "B")) (hx.mv X2.warmed.alike hh2) (g := (mkF m 7 #[.val (.ref x)] [.ref x])) rfl (rest := []) rfl (hb hbytes d7)
  have c5 : Steps p.tables e below (s₁.setTop (entryFrame m #[.ref x] 1)) (T4.setTop (mkF m 10 #[.val (.ref x)] [.int cd])) := c3.trans (st4 _ (Steps.refl _))
  have c6 : Steps p.tables e below (s₁.setTop (entryFrame m #[.ref x] 1)) (T4.setTop (mkF m 18 #[.val (.ref x)] [.int (1 - cd)])) := by
    rcases hc with rfl | rfl
    · exact c5.trans (by
        refine XS.ifNo X4.here hexec rfl (hb hbytes d10) rfl (i0_ne_f rfl) ?_
        refine iconstV X4.here hexec rfl 1 (hb hbytes d13) (by decide) ?_
        refine XS.goto X4.here hexec rfl (pc0 := 14) rfl (hb hbytes d14) (by decide) rfl ?_
        exact Steps.refl _)
    · exact c5.trans (by
        refine XS.ifYes X4.here hexec rfl (pc0 := 10) rfl (hb hbytes d10) rfl (i0_ne_t (by decide)) (by decide) rfl ?_
        refine iconstV X4.here hexec rfl 0 (hb hbytes d17) (by decide) ?_
        exact Steps.refl _)
  exact ⟨T4, some (.int (1 - cd)), _, _, _, X4, rfl, rfl, rfl, (fun h => by cases h), ⟨rfl, q4.trans hh2⟩, fun fs hl => c6.trans (X4.ireturnOut hexec hret (by rcases hc with rfl | rfl <;> rfl) (Or.inr (Or.inl rfl)) (hb hbytes d18) hl)⟩
end IsL
namespace LChA
def yN : MethodName := ⟨"java/lang/StringLatin1", "charAt", "([BI)C"⟩
abbrev yB : ByteArray := jdk_43_method_2_code
theorem d0 : decode yB 0 = .ok (.iload_n 1, 1) := by decide +kernel
theorem d1 : decode yB 1 = .ok (.aload_n 0, 1) := by decide +kernel
theorem d2 : decode yB 2 = .ok (.arraylength, 1) := by decide +kernel
theorem d3 : decode yB 3 = .ok (.invokestatic 9, 3) := by decide +kernel
theorem d6 : decode yB 6 = .ok (.aload_n 0, 1) := by decide +kernel
theorem d7 : decode yB 7 = .ok (.iload_n 1, 1) := by decide +kernel
theorem d8 : decode yB 8 = .ok (.baload, 1) := by decide +kernel
theorem d9 : decode yB 9 = .ok (.sipush 255, 3) := by decide +kernel
theorem d12 : decode yB 12 = .ok (.iand, 1) := by decide +kernel
theorem d13 : decode yB 13 = .ok (.i2c, 1) := by decide +kernel
theorem d14 : decode yB 14 = .ok (.ireturn, 1) := by decide +kernel
def site : List Cond := [JO.Str_checkIndex.tab] ++ staticW "java/lang/StringLatin1" 9 JO.Str_checkIndex.yN
def tab : Cond := tabOf yN yB 2 (some .char) site
def P (t : Addr) (V : Cell) (i : Nat) (u : Int32) (fm : Value) (args : Array Value) (s : State) : Prop := args = #[.ref t, .int (Int32.ofNat i)] ∧ XT.Arr .byte t V s ∧ V.slots[i]? = some (.int u) ∧ (StaticIs s "jdk/internal/util/Preconditions" "SIOOBE_FORMATTER" "Ljava/util/function/BiFunction;" fm ∧ fm.isRef = true)
def E (u : Int32) (r : Option Value) (s w : State) : Prop := XT.PureE (some (.int (chr8 u))) r s w
theorem law (l : Launch) (t : Addr) (V : Cell) (i : Nat) (u : Int32) (fm : Value) : Law l yN 2 2 2 27 yB 2 (some .char) site (P t V i u fm) (E u) [] 0 0 := by
  refine Law.of_walk (plainFor_of_name (by decide +kernel)) (by decide +kernel) (by decide +kernel) (by decide) (fun _ _ h => by rw [h.1]; rfl) (fun _ U U' hal hh h => ⟨h.1, h.2.1.mv hal hh, h.2.2.1, h.2.2.2.1.there hal hh, h.2.2.2.2⟩) (fun r U U' V V' h1 hal h2 h => XT.PureE.mv r U U' V V' h1 hal h2 h) ?_
  intro p e s m args below meth c s₁ X0 hexec hbytes hml hret hlk hnm hown hh0 W hP
  obtain ⟨rfl, hV, hu, s1, rf⟩ := hP
  have v31 := hV.2.2.2
  have hi : i < V.slots.size := (Array.getElem?_eq_some_iff.mp hu).1
  have c1 : Steps p.tables e below (s₁.setTop (entryFrame m #[.ref t, .int (Int32.ofNat i)] 2)) (s₁.setTop (mkF m 0 #[.val (.ref t), .val (.int (Int32.ofNat i))] [])) := entry rfl
  have c2 : Steps p.tables e below (s₁.setTop (entryFrame m #[.ref t, .int (Int32.ofNat i)] 2)) (s₁.setTop (mkF m 3 #[.val (.ref t), .val (.int (Int32.ofNat i))] [.int (Int32.ofNat V.slots.size), .int (Int32.ofNat i)])) := c1.trans (by
    refine XS.iloadN X0.here hexec rfl (hb hbytes d0) rfl ?_
    refine XS.aloadN X0.here hexec rfl (hb hbytes d1) rfl rfl ?_
    refine X0.alen hexec (hV.mv X0.warmed.alike hh0) rfl rfl (hb hbytes d2) ?_
    exact Steps.refl _)
  obtain ⟨v3, T3, X3, E3, g3⟩ := X0.callS hexec (JO.Str_checkIndex.law l (Int32.ofNat i) (Int32.ofNat V.slots.size) fm) hown (wks W (staticW "java/lang/StringLatin1" 9 JO.Str_checkIndex.yN)) (wk W JO.Str_checkIndex.tab) (W := 0) (Nat.le_of_ble_eq_true rfl) (Nat.le_of_ble_eq_true rfl) (Nat.le_refl _) (Nat.le_refl _) (g := (mkF m 3 #[.val (.ref t), .val (.int (Int32.ofNat i))] [.int (Int32.ofNat V.slots.size), .int (Int32.ofNat i)])) rfl (by rw [hml]; rfl) c2 (argsL := [.int (Int32.ofNat i), .int (Int32.ofNat V.slots.size)]) (rest := []) rfl rfl (by show 2 * 0 + 0 ≤ _; decide) (hb hbytes d3) (⟨rfl, rf, s1.there X0.warmed.alike hh0, Int32.ofNat_not_neg (by omega), lt32 v31 hi⟩)
  obtain ⟨rfl, q3⟩ := E3
  have hh3 := q3.trans hh0
  have c4 : Steps p.tables e below (s₁.setTop (entryFrame m #[.ref t, .int (Int32.ofNat i)] 2)) (T3.setTop (mkF m 14 #[.val (.ref t), .val (.int (Int32.ofNat i))] [.int (chr8 u)])) := Steps.trans g3 (by
    refine XS.aloadN X3.here hexec rfl (hb hbytes d6) rfl rfl ?_
    refine XS.iloadN X3.here hexec rfl (hb hbytes d7) rfl ?_
    refine X3.aget hexec (hV.mv X3.warmed.alike hh3) rfl hu rfl rfl (hb hbytes d8) ?_
    refine sipushV X3.here hexec rfl 255 (hb hbytes d9) (by decide) ?_
    refine XS.iand X3.here hexec rfl (hb hbytes d12) rfl ?_
    refine i2c X3.here hexec rfl (hb hbytes d13) rfl ?_
    exact Steps.refl _)
  exact ⟨T3, some (.int (chr8 u)), _, _, _, X3, rfl, rfl, rfl, (fun h => by cases h), ⟨rfl, hh3⟩, fun fs hl => c4.trans (X3.ireturnOut hexec hret (narrow_c _) (Or.inr (Or.inr (Or.inr (Or.inl rfl)))) (hb hbytes d14) hl)⟩
end LChA
end StrChars
namespace StrChars.Road
open Jvm Sem ClassFile Op Lib Jvm.Stand Jvm.Free Jvm.Free.XT
open Jvm.Lib.Cold (StaticIs)
theorem consq {a : Array Value} {s : State} {c : Jvm.Cond} {L : List Jvm.Cond} (h0 : c.before a s = true) (h : ∀ w ∈ L, w.before a s = true) : ∀ w ∈ c :: L, w.before a s = true := fun w hw => (List.mem_cons.mp hw).elim (fun e => e ▸ h0) (h w)
/-- the words of String.length(), either coding -/
abbrev wordsLen : List Jvm.Cond := [.code Len.yN Len.yB 1 (some .int), .initialized ST, .fieldLink ST 9 ST "value" "[B", .fieldLink ST 38 ST "COMPACT_STRINGS" "Z", .fieldLink ST 15 ST "coder" "B", .code Cdr.yN Cdr.yB 1 (some .byte), .methodLink ST 335 Cdr.yN, .declares Cdr.yN, .selects ST Cdr.yN Cdr.yN, .instanceMethod Cdr.yN]
theorem tabLen_of {a : Array Value} {s : State} (h : ∀ w ∈ wordsLen, w.before a s = true) : Len.tab.before a s = true := by
  have hc : Cdr.tab.before a s = true := unparts (wk h (.code Cdr.yN Cdr.yB 1 (some .byte))) (wks h (.initialized Cdr.yN.cls :: Cdr.site))
  have q := consq hc h
  exact unparts (wk q (.code Len.yN Len.yB 1 (some .int))) (wks q (.initialized Len.yN.cls :: Len.site))
theorem movedLen {Z s : State} {a0 args : Array Value} (hZ : Z.Warmed39 s.vm) (hw : ∀ d ∈ wordsLen, d.before a0 Z = true) : ∀ d ∈ wordsLen, d.before args s = true := fun d hd => by
  have q := hw d hd
  have t : ∀ d ∈ wordsLen, d = .arrayClass .byte ∨ (d.onTables && d.keepsFace) = true := by decide +kernel
  rcases t d hd with rfl | t
  · exact RoadKit.mvA hZ q
  · exact RoadKit.mv hZ q t
/-- the bytes of the chars cs, low before high -/
def wideBytes : List Int32 → List Value
  | [] => []
  | c :: cs => .int (lo8 c) :: .int (hi8 c) :: wideBytes cs
theorem wide_lo (d : Value) : ∀ (cs : List Int32) (j : Nat), j < cs.length → (wideBytes cs).getD (2 * j) d = .int (lo8 (cs.getD j 0))
  | [], j, h => absurd h (Nat.not_lt_zero j)
  | c :: cs, 0, _ => rfl
  | c :: cs, j + 1, h => by
    have q := wide_lo d cs j (by simpa using h)
    rw [show 2 * (j + 1) = 2 * j + 1 + 1 from by omega]
    simpa [wideBytes] using q
theorem wide_hi (d : Value) : ∀ (cs : List Int32) (j : Nat), j < cs.length → (wideBytes cs).getD (2 * j + 1) d = .int (hi8 (cs.getD j 0))
  | [], j, h => absurd h (Nat.not_lt_zero j)
  | c :: cs, 0, _ => rfl
  | c :: cs, j + 1, h => by
    have q := wide_hi d cs j (by simpa using h)
    rw [show 2 * (j + 1) + 1 = 2 * j + 1 + 1 + 1 from by omega]
    simpa [wideBytes] using q
theorem low_at (d : Value) (cs : List Int32) (j : Nat) (h : j < cs.length) : (cs.map fun c => Value.int (lo8 c)).getD j d = .int (lo8 (cs.getD j 0)) := by
  simp [List.getD_eq_getElem?_getD, h]
/-- an array of N2 bytes vs codes the chars cs by the coder cd -/
def CodA (cs : List Int32) (cd N2 : Int32) (vs : List Value) : Prop := (cd = 0 ∧ N2 = Int32.ofNat cs.length ∧ vs = (cs.map fun c => Value.int (lo8 c)) ∧ ∀ c ∈ cs, ¬ 255 < c) ∨ (cd = 1 ∧ N2 = Int32.ofNat (2 * cs.length) ∧ vs = wideBytes cs ∧ ∃ c ∈ cs, 255 < c)
theorem CodA.cod {cs : List Int32} {cd N2 : Int32} {vs : List Value} {V : Cell} (h : CodA cs cd N2 vs) (hn : 2 * cs.length < 2 ^ 31) (hs : V.slots.size = N2.toNatClampNeg) (hv : RoadKit.Has V vs (.int 0)) : Cod cd cs.length (fun j => cs.getD j 0) V := by
  rcases h with ⟨rfl, rfl, rfl, h⟩ | ⟨rfl, rfl, rfl, c, hc, hw⟩
  · rw [n32 (by omega)] at hs
    exact Or.inl ⟨rfl, hs, fun j hj => ⟨by rw [hv j (by omega), low_at _ _ _ hj], by
      have e : cs.getD j 0 = cs[j] := by simp [List.getD_eq_getElem?_getD, hj]
      show ¬ 255 < cs.getD j 0
      rw [e]; exact h _ (List.getElem_mem _)⟩⟩
  · rw [n32 (by omega)] at hs
    obtain ⟨j, hj, rfl⟩ := List.getElem_of_mem hc
    exact Or.inr ⟨rfl, hs, fun j hj => ⟨by rw [hv _ (by omega), wide_lo _ _ _ hj], by rw [hv _ (by omega), wide_hi _ _ _ hj]⟩, j, hj, by
      have e : cs.getD j 0 = cs[j] := by simp [List.getD_eq_getElem?_getD, hj]
      show 255 < cs.getD j 0
      rw [e]; exact hw⟩
/-- an object of exactly java/lang/String, its two fields found: as the laws ask it -/
theorem strObj {Z U : State} {a0 : Array Value} {kI : Nat} (wi : (Jvm.Cond.instantiable ST kI).before a0 Z = true) (al : Z.vm.Alike U.vm) {x : Addr} {v0 c0 : Value} (E : RoadKit.Exa Z U.heap x ST) (V : RoadKit.Fld Z U.heap x ST "value" "[B" v0) (C : RoadKit.Fld Z U.heap x ST "coder" "B" c0) :
    ∃ (D : Cell) (fV fC : Field), Blank ST x D U ∧ Found ST "value" "[B" fV U ∧ Found ST "coder" "B" fC U ∧ D.slots[fV.slot]? = some v0 ∧ D.slots[fC.slot]? = some c0 ∧ RoadKit.slotOf Z ST "value" "[B" = fV.slot ∧ RoadKit.slotOf Z ST "coder" "B" = fC.slot := by
  obtain ⟨D, cfV, kV, iV, fV, hD, gV, stV, knV, obV, asV, slV⟩ := V
  obtain ⟨D', cfC, kC, iC, fC, hD', gC, stC, -, -, asC, slC⟩ := C
  cases hD.symm.trans hD'
  obtain ⟨D2, kD, e1, e2, e3, e4, e5⟩ := E
  cases hD.symm.trans e1
  obtain ⟨c2, k2, i1, i2, i3, -⟩ := Cond.instantiable_spec wi
  cases e2.symm.trans i1
  cases e3.symm.trans i2
  obtain ⟨kU, u1, u2⟩ := al.2.2 _ _ e3
  exact ⟨D, fV, fC, ⟨hD, ⟨knV, fun q hq => by rw [hq] at obV; cases obV⟩, by rw [al.findClass]; exact e2, kU, u1, by rw [u2]; exact i3, by rw [u2]; exact e5 i3⟩, ⟨SBG.found_only al ⟨cfV, kV, iV, gV⟩, stV⟩, ⟨SBG.found_only al ⟨cfC, kC, iC, gC⟩, stC⟩, slV, slC, by simp [RoadKit.slotOf, gV], by simp [RoadKit.slotOf, gC]⟩
theorem sta_is {Z U : State} (al : Z.vm.Alike U.vm) {C n d : String} {v : Value} (S : RoadKit.Sta Z U.heap C n d v) : StaticIs U C n d v := by
  obtain ⟨cfS, iS, kS, fS, st, cS, t1, t2, t3, t4, t5, t6, t7⟩ := S
  exact StaticIs.there (s := { Z with heap := U.heap }) ⟨cfS, iS, kS, fS, st, cS, t1, t2, t3, t4, t5, (fun q => by rw [q] at t6; cases t6), t7⟩ al rfl
/-- **length() OF SUCH A STRING** -/
theorem lenW {p : Program} {l : Launch} {e : Env} {R : Room} {s : State} {args : Array Value} {below : List Frame} {len W : Nat} {Z : State} {a0 : Array Value} {h : Heap} (hZ : Z.Warmed39 s.vm) (hw : ∀ d ∈ wordsLen, d.before a0 Z = true) {kI : Nat} (wi : (Jvm.Cond.instantiable ST kI).before a0 Z = true)
    {x t : Addr} {kb : ClassId} {cs : List Int32} {cd N2 z : Int32} {vs : List Value} (E : RoadKit.Exa Z h x ST) (V : RoadKit.Fld Z h x ST "value" "[B" (.ref t)) (C : RoadKit.Fld Z h x ST "coder" "B" (.int cd)) (K : RoadKit.Arv Z h t kb .byte N2 vs (.int 0)) (hc : CodA cs cd N2 vs) (hb : ∀ c ∈ cs, ¬ c < 0 ∧ ¬ (65535 : Int32) < c)
    (S : RoadKit.Sta Z h ST "COMPACT_STRINGS" "Z" (.int z)) (hz : ¬ z = 0) (l2 : cs.length ≤ 4000) (hfr : 2 ≤ R.frames) (hlo : W + 25 ≤ R.locals) :
    Back l R p e below s args (⟨"java/lang/String", "length", "()I"⟩ : MethodName) len W (fun P a => a = #[.ref x] ∧ P.U.heap = h ∧ P.cells + 0 ≤ R.cells ∧ P.slots + 0 ≤ R.slots)
      (fun P _ v B => ∃ L, (v = some (.int (Int32.ofNat cs.length)) ∧ L = [] ∧ B.U.heap = h) ∧ B.locs = P.locs ++ L ∧ B.cells = P.cells + 0 ∧ B.slots = P.slots + 0) := by
  obtain ⟨A, K1, K2, K3, K4, K5, K6⟩ := K
  have hcod := hc.cod (by omega) K3 K5
  intro m meth c P g ig mk a X hg hsize hdg hW hn hp'
  obtain ⟨rfl, rfl, r1, r2⟩ := hp'
  have al : Z.vm.Alike P.U.vm := hZ.alike.trans X.warmed.alike
  obtain ⟨D, fV, fC, hB, F1, F2, g1, g2, -, -⟩ := strObj wi al E V C
  have hx : Txt x t A cd cs.length (fun j => cs.getD j 0) P.U := ⟨⟨_, hB.2.2.1, D, hB.1, rfl, by cases q : D.vm <;> first | rfl | exact absurd q (hB.2.1.2 _)⟩, Has.of hB F1 g1, Has.of hB F2 g2, ⟨K1.1, State.isArrayOf_alike al K1.2.1, K1.2.2, by rcases hcod with ⟨-, q, -⟩ | ⟨-, q, -⟩ <;> omega⟩, hcod, fun j hj => by
    have e : cs.getD j 0 = cs[j] := by simp [List.getD_eq_getElem?_getD, hj]
    show ¬ cs.getD j 0 < 0 ∧ ¬ 65535 < cs.getD j 0
    rw [e]; exact hb _ (List.getElem_mem _)⟩
  obtain ⟨v, B, X', ⟨⟨hv, hh⟩, hl, hk, hs⟩, st⟩ := Len.pays x t A cd cs.length (fun j => cs.getD j 0) z (tabLen_of (movedLen hZ hw)) hfr hlo m meth c P g ig mk _ X hg hsize hdg hW hn ⟨r1, r2, rfl, hx, sta_is al S, hz⟩
  exact ⟨v, B, X', ⟨[], ⟨hv, rfl, hh⟩, hl, hk, hs⟩, st⟩
end StrChars.Road
namespace StrChars
open Jvm Sem ClassFile Op Lib Jvm.Stand Jvm.Free.XT Jvm.Free.ALB Jvm.Free.JM Jvm.Free
open Jvm.Lib.Cold (StaticIs)
namespace Emp
def yN : MethodName := ⟨"java/lang/String", "isEmpty", "()Z"⟩
abbrev yB : ByteArray := jdk_42_method_55_code
theorem d0 : decode yB 0 = .ok (.aload_n 0, 1) := by decide +kernel
theorem d1 : decode yB 1 = .ok (.getfield 9, 3) := by decide +kernel
theorem d4 : decode yB 4 = .ok (.arraylength, 1) := by decide +kernel
theorem d5 : decode yB 5 = .ok (.ifCond (.ne) 7, 3) := by decide +kernel
theorem d8 : decode yB 8 = .ok (.iconst 1, 1) := by decide +kernel
theorem d9 : decode yB 9 = .ok (.goto 4, 3) := by decide +kernel
theorem d12 : decode yB 12 = .ok (.iconst 0, 1) := by decide +kernel
theorem d13 : decode yB 13 = .ok (.ireturn, 1) := by decide +kernel
def site : List Cond := [.fieldLink "java/lang/String" 9 "java/lang/String" "value" "[B"]
def tab : Cond := tabOf yN yB 1 (some .boolean) site
def P (x t : Addr) (V : Cell) (cd : Int32) (n : Nat) (f : Nat → Int32) (args : Array Value) (s : State) : Prop := args = #[.ref x] ∧ Txt x t V cd n f s
def E (n : Nat) (r : Option Value) (s u : State) : Prop := XT.PureE (some (.int (if n = 0 then 1 else 0))) r s u
/-- isEmpty() of a String of n chars -/
theorem law (l : Launch) (x t : Addr) (V : Cell) (cd : Int32) (n : Nat) (f : Nat → Int32) : Law l yN 1 0 0 0 yB 1 (some .boolean) site (P x t V cd n f) (E n) [] 0 0 := by
  refine Law.of_walk (plainFor_of_name (by decide +kernel)) (by decide +kernel) (by decide +kernel) (by decide) (fun _ _ h => by rw [h.1]; rfl) (fun _ U U' hal hh h => ⟨h.1, h.2.mv hal hh⟩) (fun r U U' V V' h1 hal h2 h => XT.PureE.mv r U U' V V' h1 hal h2 h) ?_
  intro p e s m args below meth c s₁ X0 hexec hbytes hml hret hlk hnm hown hh0 W hP
  obtain ⟨rfl, hx⟩ := hP
  have v31 := hx.2.2.2.1.2.2.2
  have c1 : Steps p.tables e below (s₁.setTop (entryFrame m #[.ref x] 1)) (s₁.setTop (mkF m 1 #[.val (.ref x)] [.ref x])) := Steps.trans (entry rfl) (by
    show Steps p.tables e below (s₁.setTop (mkF m 0 #[.val (.ref x)] [])) _
    refine XS.aloadN X0.here hexec rfl (hb hbytes d0) rfl rfl ?_
    exact Steps.refl _)
  obtain ⟨T2, X2, q2, st2⟩ := X0.hget hexec hown (wk W (.fieldLink "java/lang/String" 9 "java/lang/String" "value" "[B")) (hx.mv X0.warmed.alike hh0).2.1 (g := (mkF m 1 #[.val (.ref x)] [.ref x])) rfl (rest := []) rfl (hb hbytes d1)
  have hh2 := q2.trans hh0
  have hx2 := hx.mv X2.warmed.alike hh2
  have c3 : Steps p.tables e below (s₁.setTop (entryFrame m #[.ref x] 1)) (T2.setTop (mkF m 5 #[.val (.ref x)] [.int (Int32.ofNat V.slots.size)])) := (c1.trans (st2 _ (Steps.refl _))).trans (by
    refine X2.alen hexec hx2.2.2.2.1 rfl rfl (hb hbytes d4) ?_
    exact Steps.refl _)
  have hz : V.slots.size = 0 ↔ n = 0 := by
    rcases hx.2.2.2.2.1 with ⟨-, q, -⟩ | ⟨-, q, -⟩ <;> omega
  by_cases h0 : n = 0
  · have c4 : Steps p.tables e below (s₁.setTop (entryFrame m #[.ref x] 1)) (T2.setTop (mkF m 13 #[.val (.ref x)] [.int 1])) := c3.trans (by
      refine XS.ifNo X2.here hexec rfl (hb hbytes d5) rfl (i0_ne_f (by rw [hz.mpr h0]; rfl)) ?_
      refine iconstV X2.here hexec rfl 1 (hb hbytes d8) (by decide) ?_
      refine XS.goto X2.here hexec rfl (pc0 := 9) rfl (hb hbytes d9) (by decide) rfl ?_
      exact Steps.refl _)
    exact ⟨T2, some (.int 1), _, _, _, X2, rfl, rfl, rfl, (fun h => by cases h), ⟨by rw [if_pos h0], hh2⟩, fun fs hl => c4.trans (X2.ireturnOut hexec hret rfl (Or.inr (Or.inl rfl)) (hb hbytes d13) hl)⟩
  · have c4 : Steps p.tables e below (s₁.setTop (entryFrame m #[.ref x] 1)) (T2.setTop (mkF m 13 #[.val (.ref x)] [.int 0])) := c3.trans (by
      refine XS.ifYes X2.here hexec rfl (pc0 := 5) rfl (hb hbytes d5) rfl (i0_ne_t (nz32 v31 (by omega))) (by decide) rfl ?_
      refine iconstV X2.here hexec rfl 0 (hb hbytes d12) (by decide) ?_
      exact Steps.refl _)
    exact ⟨T2, some (.int 0), _, _, _, X2, rfl, rfl, rfl, (fun h => by cases h), ⟨by rw [if_neg h0], hh2⟩, fun fs hl => c4.trans (X2.ireturnOut hexec hret rfl (Or.inr (Or.inl rfl)) (hb hbytes d13) hl)⟩
theorem pays {l : Launch} {R : Room} {p : Program} {e : Env} {below : List Frame} {s : State} {sargs : Array Value} {len W : Nat} (x t : Addr) (V : Cell) (cd : Int32) (n : Nat) (f : Nat → Int32) (htab : tab.before sargs s = true) (hfr : 1 ≤ R.frames) (hlo : W + 12 ≤ R.locals) :
    Back l R p e below s sargs yN len W (fun A₁ a₁ => A₁.cells + 0 ≤ R.cells ∧ A₁.slots + 0 ≤ R.slots ∧ P x t V cd n f a₁ A₁.U) (fun A₁ _ v₁ B₁ => E n v₁ A₁.U B₁.U ∧ B₁.locs = A₁.locs ++ [] ∧ B₁.cells = A₁.cells + 0 ∧ B₁.slots = A₁.slots + 0) :=
  (law l x t V cd n f).pays htab hfr (by omega)
end Emp
end StrChars
namespace StrChars.Road
open Jvm Sem ClassFile Op Lib Jvm.Stand Jvm.Free Jvm.Free.XT
open Jvm.Lib.Cold (StaticIs)
/-- the words of String.isEmpty() -/
abbrev wordsEmp : List Jvm.Cond := [.code Emp.yN Emp.yB 1 (some .boolean), .initialized ST, .fieldLink ST 9 ST "value" "[B"]
theorem tabEmp_of {a : Array Value} {s : State} (h : ∀ w ∈ wordsEmp, w.before a s = true) : Emp.tab.before a s = true := unparts (wk h (.code Emp.yN Emp.yB 1 (some .boolean))) (wks h (.initialized Emp.yN.cls :: Emp.site))
theorem movedEmp {Z s : State} {a0 args : Array Value} (hZ : Z.Warmed39 s.vm) (hw : ∀ d ∈ wordsEmp, d.before a0 Z = true) : ∀ d ∈ wordsEmp, d.before args s = true := fun d hd => by
  have t : ∀ d ∈ wordsEmp, (d.onTables && d.keepsFace) = true := by decide +kernel
  exact RoadKit.mv hZ (hw d hd) (t d hd)
/-- the road's facts of a String, as the laws ask it -/
theorem txt_of {Z U : State} {a0 : Array Value} {kI : Nat} (wi : (Jvm.Cond.instantiable ST kI).before a0 Z = true) (al : Z.vm.Alike U.vm) {x t : Addr} {kb : ClassId} {cs : List Int32} {cd N2 : Int32} {vs : List Value} (E : RoadKit.Exa Z U.heap x ST) (V : RoadKit.Fld Z U.heap x ST "value" "[B" (.ref t)) (C : RoadKit.Fld Z U.heap x ST "coder" "B" (.int cd)) (K : RoadKit.Arv Z U.heap t kb .byte N2 vs (.int 0)) (hc : CodA cs cd N2 vs) (hb : ∀ c ∈ cs, ¬ c < 0 ∧ ¬ (65535 : Int32) < c) (l2 : cs.length ≤ 4000) :
    ∃ A, Txt x t A cd cs.length (fun j => cs.getD j 0) U := by
  obtain ⟨A, K1, K2, K3, K4, K5, K6⟩ := K
  have hcod := hc.cod (by omega) K3 K5
  obtain ⟨D, fV, fC, hB, F1, F2, g1, g2, -, -⟩ := strObj wi al E V C
  exact ⟨A, ⟨_, hB.2.2.1, D, hB.1, rfl, by cases q : D.vm <;> first | rfl | exact absurd q (hB.2.1.2 _)⟩, Has.of hB F1 g1, Has.of hB F2 g2, ⟨K1.1, State.isArrayOf_alike al K1.2.1, K1.2.2, by rcases hcod with ⟨-, q, -⟩ | ⟨-, q, -⟩ <;> omega⟩, hcod, fun j hj => by
    have e : cs.getD j 0 = cs[j] := by simp [List.getD_eq_getElem?_getD, hj]
    show ¬ cs.getD j 0 < 0 ∧ ¬ 65535 < cs.getD j 0
    rw [e]; exact hb _ (List.getElem_mem _)⟩
/-- **isEmpty() OF SUCH A STRING** -/
theorem empW {p : Program} {l : Launch} {e : Env} {R : Room} {s : State} {args : Array Value} {below : List Frame} {len W : Nat} {Z : State} {a0 : Array Value} {h : Heap} (hZ : Z.Warmed39 s.vm) (hw : ∀ d ∈ wordsEmp, d.before a0 Z = true) {kI : Nat} (wi : (Jvm.Cond.instantiable ST kI).before a0 Z = true)
    {x t : Addr} {kb : ClassId} {cs : List Int32} {cd N2 : Int32} {vs : List Value} (E : RoadKit.Exa Z h x ST) (V : RoadKit.Fld Z h x ST "value" "[B" (.ref t)) (C : RoadKit.Fld Z h x ST "coder" "B" (.int cd)) (K : RoadKit.Arv Z h t kb .byte N2 vs (.int 0)) (hc : CodA cs cd N2 vs) (hb : ∀ c ∈ cs, ¬ c < 0 ∧ ¬ (65535 : Int32) < c) (l2 : cs.length ≤ 4000) (hfr : 1 ≤ R.frames) (hlo : W + 12 ≤ R.locals) :
    Back l R p e below s args (⟨"java/lang/String", "isEmpty", "()Z"⟩ : MethodName) len W (fun P a => a = #[.ref x] ∧ P.U.heap = h ∧ P.cells + 0 ≤ R.cells ∧ P.slots + 0 ≤ R.slots)
      (fun P _ v B => ∃ L, (v = some (.int (if cs.length = 0 then 1 else 0)) ∧ L = [] ∧ B.U.heap = h) ∧ B.locs = P.locs ++ L ∧ B.cells = P.cells + 0 ∧ B.slots = P.slots + 0) := by
  intro m meth c P g ig mk a X hg hsize hdg hW hn hp'
  obtain ⟨rfl, rfl, r1, r2⟩ := hp'
  have al : Z.vm.Alike P.U.vm := hZ.alike.trans X.warmed.alike
  obtain ⟨A, hx⟩ := txt_of wi al E V C K hc hb l2
  obtain ⟨v, B, X', ⟨⟨hv, hh⟩, hl, hk, hs⟩, st⟩ := Emp.pays x t A cd cs.length (fun j => cs.getD j 0) (tabEmp_of (movedEmp hZ hw)) hfr hlo m meth c P g ig mk _ X hg hsize hdg hW hn ⟨r1, r2, rfl, hx⟩
  exact ⟨v, B, X', ⟨[], ⟨hv, rfl, hh⟩, hl, hk, hs⟩, st⟩
end StrChars.Road
namespace StrChars
open Jvm Sem ClassFile Op Lib Jvm.Stand Jvm.Free.XT Jvm.Free.ALB Jvm.Free.JM Jvm.Free
open Jvm.Lib.Cold (StaticIs)
namespace ChN
def yN : MethodName := ⟨"java/lang/String", "charAt", "(I)C"⟩
abbrev yB : ByteArray := jdk_42_method_56_code
theorem d0 : decode yB 0 = .ok (.aload_n 0, 1) := by decide +kernel
theorem d1 : decode yB 1 = .ok (.invokevirtual 492, 3) := by decide +kernel
theorem d4 : decode yB 4 = .ok (.ifCond (.eq) 12, 3) := by decide +kernel
theorem d7 : decode yB 7 = .ok (.aload_n 0, 1) := by decide +kernel
theorem d8 : decode yB 8 = .ok (.getfield 9, 3) := by decide +kernel
theorem d11 : decode yB 11 = .ok (.iload_n 1, 1) := by decide +kernel
theorem d12 : decode yB 12 = .ok (.invokestatic 495, 3) := by decide +kernel
theorem d15 : decode yB 15 = .ok (.ireturn, 1) := by decide +kernel
def site : List Cond := [.fieldLink "java/lang/String" 9 "java/lang/String" "value" "[B", IsL.tab, LChA.tab] ++ virtW "java/lang/String" 492 "java/lang/String" IsL.yN IsL.yN ++ staticW "java/lang/String" 495 LChA.yN
def tab : Cond := tabOf yN yB 2 (some .char) site
def P (x t : Addr) (V : Cell) (n : Nat) (f : Nat → Int32) (z : Int32) (fm : Value) (i : Nat) (args : Array Value) (s : State) : Prop := args = #[.ref x, .int (Int32.ofNat i)] ∧ Txt x t V 0 n f s ∧ i < n ∧ StaticIs s "java/lang/String" "COMPACT_STRINGS" "Z" (.int z) ∧ ¬ z = 0 ∧ StaticIs s "jdk/internal/util/Preconditions" "SIOOBE_FORMATTER" "Ljava/util/function/BiFunction;" fm ∧ fm.isRef = true
def E (f : Nat → Int32) (i : Nat) (r : Option Value) (s u : State) : Prop := XT.PureE (some (.int (f i))) r s u
/-- charAt(i) of a Latin-1 String of n chars, i < n: f i -/
theorem law (l : Launch) (x t : Addr) (V : Cell) (n : Nat) (f : Nat → Int32) (z : Int32) (fm : Value) (i : Nat) : Law l yN 2 1 3 40 yB 2 (some .char) site (P x t V n f z fm i) (E f i) [] 0 0 := by
  refine Law.of_walk (plainFor_of_name (by decide +kernel)) (by decide +kernel) (by decide +kernel) (by decide) (fun _ _ h => by rw [h.1]; rfl) (fun _ U U' hal hh h => ⟨h.1, h.2.1.mv hal hh, h.2.2.1, h.2.2.2.1.there hal hh, h.2.2.2.2.1, h.2.2.2.2.2.1.there hal hh, h.2.2.2.2.2.2⟩) (fun r U U' V V' h1 hal h2 h => XT.PureE.mv r U U' V V' h1 hal h2 h) ?_
  intro p e s m args below meth c s₁ X0 hexec hbytes hml hret hlk hnm hown hh0 W hP
  obtain ⟨rfl, hx, hi, s1, hz, s3, rf⟩ := hP
  have v31 := hx.2.2.2.1.2.2.2
  have hr := hx.2.2.2.2.2 i hi
  have hx0 := hx.mv X0.warmed.alike hh0
  have c1 : Steps p.tables e below (s₁.setTop (entryFrame m #[.ref x, .int (Int32.ofNat i)] 2)) (s₁.setTop (mkF m 1 #[.val (.ref x), .val (.int (Int32.ofNat i))] [.ref x])) := Steps.trans (entry rfl) (by
    show Steps p.tables e below (s₁.setTop (mkF m 0 #[.val (.ref x), .val (.int (Int32.ofNat i))] [])) _
    refine XS.aloadN X0.here hexec rfl (hb hbytes d0) rfl rfl ?_
    exact Steps.refl _)
  obtain ⟨v2, T2, X2, E2, g2⟩ := X0.callV hexec (IsL.law l x 0 z) hown (wks W (virtW "java/lang/String" 492 "java/lang/String" IsL.yN IsL.yN)) rfl (by decide) (wk W IsL.tab) (W := 0) (Nat.le_of_ble_eq_true rfl) (Nat.le_of_ble_eq_true rfl) (Nat.le_refl _) (Nat.le_refl _) (hx0.1.fc X0.warmed.alike) hx0.1.is (g := (mkF m 1 #[.val (.ref x), .val (.int (Int32.ofNat i))] [.ref x])) rfl (by rw [hml]; rfl) c1 (argsL := []) (rest := []) rfl rfl (by show 2 * 0 + 0 ≤ _; decide) (hb hbytes d1) (⟨rfl, hx0.2.2.1, hx.2.2.2.2.1.cd, s1.there X0.warmed.alike hh0, hz⟩)
  obtain ⟨rfl, q2⟩ := E2
  have hh2 := q2.trans hh0
  have hx2 := hx.mv X2.warmed.alike hh2
  obtain ⟨-, k1, k2⟩ | ⟨k0, -⟩ := hx.2.2.2.2.1
  · have c3 : Steps p.tables e below (s₁.setTop (entryFrame m #[.ref x, .int (Int32.ofNat i)] 2)) (T2.setTop (mkF m 8 #[.val (.ref x), .val (.int (Int32.ofNat i))] [.ref x])) := Steps.trans g2 (by
      refine XS.ifNo X2.here hexec rfl (hb hbytes d4) rfl (i0_eq_f (by decide)) ?_
      refine XS.aloadN X2.here hexec rfl (hb hbytes d7) rfl rfl ?_
      exact Steps.refl _)
    obtain ⟨T4, X4, q4, st4⟩ := X2.hget hexec hown (wk W (.fieldLink "java/lang/String" 9 "java/lang/String" "value" "[B")) hx2.2.1 (g := (mkF m 8 #[.val (.ref x), .val (.int (Int32.ofNat i))] [.ref x])) rfl (rest := []) rfl (hb hbytes d8)
    have hh4 := q4.trans hh2
    have c5 : Steps p.tables e below (s₁.setTop (entryFrame m #[.ref x, .int (Int32.ofNat i)] 2)) (T4.setTop (mkF m 12 #[.val (.ref x), .val (.int (Int32.ofNat i))] [.int (Int32.ofNat i), .ref t])) := (c3.trans (st4 _ (Steps.refl _))).trans (by
      refine XS.iloadN X4.here hexec rfl (hb hbytes d11) rfl ?_
      exact Steps.refl _)
    obtain ⟨v6, T6, X6, E6, g6⟩ := X4.callS hexec (LChA.law l t V i (lo8 (f i)) fm) hown (wks W (staticW "java/lang/String" 495 LChA.yN)) (wk W LChA.tab) (W := 0) (Nat.le_of_ble_eq_true rfl) (Nat.le_of_ble_eq_true rfl) (Nat.le_refl _) (Nat.le_refl _) (g := (mkF m 12 #[.val (.ref x), .val (.int (Int32.ofNat i))] [.int (Int32.ofNat i), .ref t])) rfl (by rw [hml]; rfl) c5 (argsL := [.ref t, .int (Int32.ofNat i)]) (rest := []) rfl rfl (by show 2 * 0 + 0 ≤ _; decide) (hb hbytes d12) (⟨rfl, hx.2.2.2.1.mv X4.warmed.alike hh4, (k2 i hi).1, s3.there X4.warmed.alike hh4, rf⟩)
    obtain ⟨rfl, q6⟩ := E6
    rw [chr8_lo8 hr.1 (k2 i hi).2] at g6
    exact ⟨T6, some (.int (f i)), _, _, _, X6, rfl, rfl, rfl, (fun h => by cases h), ⟨rfl, q6.trans hh4⟩, fun fs hl => Steps.trans g6 (X6.ireturnOut hexec hret (narrow_ch hr.1 hr.2) (Or.inr (Or.inr (Or.inr (Or.inl rfl)))) (hb hbytes d15) hl)⟩
  · exact absurd k0 (by decide)
theorem pays {l : Launch} {R : Room} {p : Program} {e : Env} {below : List Frame} {s : State} {sargs : Array Value} {len W : Nat} (x t : Addr) (V : Cell) (n : Nat) (f : Nat → Int32) (z : Int32) (fm : Value) (i : Nat) (htab : tab.before sargs s = true) (hfr : 4 ≤ R.frames) (hlo : W + 53 ≤ R.locals) :
    Back l R p e below s sargs yN len W (fun A₁ a₁ => A₁.cells + 0 ≤ R.cells ∧ A₁.slots + 0 ≤ R.slots ∧ P x t V n f z fm i a₁ A₁.U) (fun A₁ _ v₁ B₁ => E f i v₁ A₁.U B₁.U ∧ B₁.locs = A₁.locs ++ [] ∧ B₁.cells = A₁.cells + 0 ∧ B₁.slots = A₁.slots + 0) :=
  (law l x t V n f z fm i).pays htab hfr (by omega)
end ChN
end StrChars
namespace StrChars.Road
open Jvm Sem ClassFile Op Lib Jvm.Stand Jvm.Free Jvm.Free.XT
open Jvm.Lib.Cold (StaticIs)
/-- the words of String.charAt(int), the Latin-1 road alone -/
abbrev wordsChN : List Jvm.Cond := [.code ChN.yN ChN.yB 2 (some .char), .initialized ST, .fieldLink ST 9 ST "value" "[B", .fieldLink ST 38 ST "COMPACT_STRINGS" "Z", .fieldLink ST 15 ST "coder" "B", .code IsL.yN IsL.yB 1 (some .boolean), .methodLink ST 492 IsL.yN, .declares IsL.yN, .selects ST IsL.yN IsL.yN, .instanceMethod IsL.yN,
  .methodLink ST 495 LChA.yN, .static LChA.yN, .code LChA.yN LChA.yB 2 (some .char), .initialized "java/lang/StringLatin1", .methodLink "java/lang/StringLatin1" 9 JO.Str_checkIndex.yN, .static JO.Str_checkIndex.yN, .code JO.Str_checkIndex.yN JO.Str_checkIndex.yB 2 none,
  .fieldLink ST 1053 "jdk/internal/util/Preconditions" "SIOOBE_FORMATTER" "Ljava/util/function/BiFunction;", .methodLink ST 1059 JC.PreCheck.yN, .static JC.PreCheck.yN, .code JC.PreCheck.yN JC.PreCheck.yB 3 (some .int), .initialized "jdk/internal/util/Preconditions"]
theorem tabChN_of {a : Array Value} {s : State} (h : ∀ w ∈ wordsChN, w.before a s = true) : ChN.tab.before a s = true := by
  have hp : JC.PreCheck.tab.before a s = true := unparts (wk h (.code JC.PreCheck.yN JC.PreCheck.yB 3 (some .int))) (wks h (.initialized JC.PreCheck.yN.cls :: JC.PreCheck.site))
  have qk := consq hp h
  have hk : JO.Str_checkIndex.tab.before a s = true := unparts (wk qk (.code JO.Str_checkIndex.yN JO.Str_checkIndex.yB 2 none)) (wks qk (.initialized JO.Str_checkIndex.yN.cls :: JO.Str_checkIndex.site))
  have ql := consq hk h
  have hl : LChA.tab.before a s = true := unparts (wk ql (.code LChA.yN LChA.yB 2 (some .char))) (wks ql (.initialized LChA.yN.cls :: LChA.site))
  have hi : IsL.tab.before a s = true := unparts (wk h (.code IsL.yN IsL.yB 1 (some .boolean))) (wks h (.initialized IsL.yN.cls :: IsL.site))
  have q := consq hi (consq hl h)
  exact unparts (wk q (.code ChN.yN ChN.yB 2 (some .char))) (wks q (.initialized ChN.yN.cls :: ChN.site))
theorem movedChN {Z s : State} {a0 args : Array Value} (hZ : Z.Warmed39 s.vm) (hw : ∀ d ∈ wordsChN, d.before a0 Z = true) : ∀ d ∈ wordsChN, d.before args s = true := fun d hd => by
  have t : ∀ d ∈ wordsChN, (d.onTables && d.keepsFace) = true := by decide +kernel
  exact RoadKit.mv hZ (hw d hd) (t d hd)
/-- **charAt(i) OF A LATIN-1 STRING**, i < n: the char -/
theorem chN {p : Program} {l : Launch} {e : Env} {R : Room} {s : State} {args : Array Value} {below : List Frame} {len W : Nat} {Z : State} {a0 : Array Value} {h : Heap} (hZ : Z.Warmed39 s.vm) (hw : ∀ d ∈ wordsChN, d.before a0 Z = true) {kI : Nat} (wi : (Jvm.Cond.instantiable ST kI).before a0 Z = true)
    {x t : Addr} {kb : ClassId} {cs : List Int32} {N2 z : Int32} {vs : List Value} {fm : Value} {i : Nat} {j : Int32} (E : RoadKit.Exa Z h x ST) (V : RoadKit.Fld Z h x ST "value" "[B" (.ref t)) (C : RoadKit.Fld Z h x ST "coder" "B" (.int 0)) (K : RoadKit.Arv Z h t kb .byte N2 vs (.int 0)) (hc : CodA cs 0 N2 vs) (hb : ∀ c ∈ cs, ¬ c < 0 ∧ ¬ (65535 : Int32) < c)
    (S : RoadKit.Sta Z h ST "COMPACT_STRINGS" "Z" (.int z)) (hz : ¬ z = 0) (F : RoadKit.Sta Z h "jdk/internal/util/Preconditions" "SIOOBE_FORMATTER" "Ljava/util/function/BiFunction;" fm) (rf : fm.isRef = true) (l2 : cs.length ≤ 4000) (hi : i < cs.length) (hj : j = Int32.ofNat i) (hfr : 4 ≤ R.frames) (hlo : W + 53 ≤ R.locals) :
    Back l R p e below s args (⟨"java/lang/String", "charAt", "(I)C"⟩ : MethodName) len W (fun P a => a = #[.ref x, .int j] ∧ P.U.heap = h ∧ P.cells + 0 ≤ R.cells ∧ P.slots + 0 ≤ R.slots)
      (fun P _ v B => ∃ L, (v = some (.int (cs.getD i 0)) ∧ L = [] ∧ B.U.heap = h) ∧ B.locs = P.locs ++ L ∧ B.cells = P.cells + 0 ∧ B.slots = P.slots + 0) := by
  subst hj
  intro m meth c P g ig mk a X hg hsize hdg hW hn hp'
  obtain ⟨rfl, rfl, r1, r2⟩ := hp'
  have al : Z.vm.Alike P.U.vm := hZ.alike.trans X.warmed.alike
  obtain ⟨A, hx⟩ := txt_of wi al E V C K hc hb l2
  obtain ⟨v, B, X', ⟨⟨hv, hh⟩, hl, hk, hs⟩, st⟩ := ChN.pays x t A cs.length (fun j => cs.getD j 0) z fm i (tabChN_of (movedChN hZ hw)) hfr hlo m meth c P g ig mk _ X hg hsize hdg hW hn ⟨r1, r2, rfl, hx, hi, sta_is al S, hz, sta_is al F, rf⟩
  exact ⟨v, B, X', ⟨[], ⟨hv, rfl, hh⟩, hl, hk, hs⟩, st⟩
/-- what backV says of its String, as the contracts of this text ask it: cs's low bytes, coder 0 -/
theorem codOf {cs : List Int32} {n : Nat} (hn : cs.length = n) (hb : ∀ c ∈ cs, ¬ 255 < c) : CodA cs 0 (Int32.ofNat n) ((cs.map lo8).map Value.int) := Or.inl ⟨rfl, by rw [hn], by simp [List.map_map, Function.comp_def], hb⟩
end StrChars.Road
end Jvm.Pilot.@@N@@
namespace Jvm.Pilot.@@N@@
open Jvm Jvm.ClassFile Sem Op Lib Jvm.Free Jvm.Stand Jvm.LawKit Jvm.RoadKit Bundle Jvm.Pilot.@@N@@.Jvm.D
section OwnKit
variable {p : Program} {l : Launch} {e : Env} {R : Room} {s : State} {m : MethodId} {args : Array Value} {below : List Frame} {meth : Method} {c : Code} {Z : State} {a0 : Array Value} {EL : List (String × Nat)} {own : String} {n0 : Nat} {T : State} {vm0 : Vm} {h : Heap} {cells slots : Nat} {Q : Option Value → Heap → Prop}
theorem own_extRefl (h : Heap) : Ext h h := ⟨Nat.le_refl _, fun _ _ q => q⟩
theorem own_extTrans {h h1 h2 : Heap} (A : Ext h h1) (B : Ext h1 h2) : Ext h h2 := ⟨Nat.le_trans A.1 B.1, fun a c q => B.2 _ _ (A.2 _ _ q)⟩
theorem own_extKeep {h h1 : Heap} (K : Keep h h1 []) : Ext h h1 := ⟨K.1, fun a c q => K.2.1 a c q nin0⟩
theorem own_keepExt {h h1 : Heap} {ws : List Addr} (E : Ext h h1) : Keep h h1 ws := (Keep.refl h ws).ext E
theorem own_extWr {h h1 h2 : Heap} {a : Addr} {sl : Nat} {v : Value} (E : Ext h h1) (W : Wr h1 h2 a sl v) (q : h.size ≤ a) : Ext h h2 := own_extKeep ((own_keepExt E).wr W (Or.inr q))
theorem own_extK {h h1 h2 : Heap} {ws : List Addr} (E : Ext h h1) (K : Keep h1 h2 ws) (q : ∀ x ∈ ws, h.size ≤ x) : Ext h h2 := own_extKeep ((own_keepExt E).trans K (fun x hx => Or.inr (q x hx)))
/-- the walk stands at T: its base tables vm0, its heap h -/
def own_Wk (p : Program) (l : Launch) (e : Env) (R : Room) (s : State) (m : MethodId) (args : Array Value) (below : List Frame) (meth : Method) (c : Code) (Z : State) (EL : List (String × Nat)) (own : String) (n0 : Nat) (T : State) (vm0 : Vm) (h : Heap) (cells slots : Nat) : Prop :=
  ∃ (locs : List Loc) (k0 : Nat), Stand p l e R (s.setVm vm0) m args below meth c T locs cells slots ∧ T.heap = h ∧ s.Since vm0 k0 ∧ k0 ≤ h.size ∧ Z.Warmed39 vm0 ∧ vm0.findClass own = some m.cls ∧ Fr n0 locs ∧ Old Z n0 h ∧ CHr Z EL s.vm s.heap vm0 h
/-- from T with the frame g the run comes to the method's end, with Q -/
def own_WP (p : Program) (e : Env) (R : Room) (below : List Frame) (s : State) (Z : State) (EL : List (String × Nat)) (n0 : Nat) (Q : Option Value → Heap → Prop) (T : State) (g : JFrame) : Prop :=
  ∃ s₂ o, Steps p.tables e below (T.setTop g) s₂ ∧ s₂.status = .running ∧ Ended s₂ below o ∧ ∃ v L, o = Outcome.returned v ∧ (Q v s₂.heap ∧ Fr n0 L ∧ Old Z n0 s₂.heap) ∧ CHr Z EL s.vm s.heap s₂.vm s₂.heap ∧ ReturnedEndW s o s₂ L R.cells R.slots
/-- a method's contract at given arguments and a given heap -/
def own_Ct (l : Launch) (y : MethodName) (bytes : ByteArray) (maxL : Nat) (ret : Option FieldType) (rm : Room) (Z : State) (EL : List (String × Nat)) (n0 : Nat) (as' : Array Value) (h : Heap) (sf : List Addr) (Q : Option Value → Heap → Prop) : Prop :=
  ∀ ws : List Jvm.Cond, MetFree l y (head1 (Jvm.Cond.code y bytes maxL ret :: ws) rm) (fun a U => a = as' ∧ Z.Warmed39 U.vm ∧ U.heap = h ∧ CHv Z EL U.vm h ∧ ∀ x ∈ sf, Safe Z EL U.vm h x) (fun _ _ _ _ _ => True) (fun _ U o U' => ∃ v L, o = Outcome.returned v ∧ (Q v U'.heap ∧ Fr n0 L ∧ Old Z n0 U'.heap) ∧ CHr Z EL U.vm U.heap U'.vm U'.heap ∧ ReturnedEndW U o U' L rm.cells rm.slots)
/-- what pays a call -/
def own_Pay (l : Launch) (R : Room) (p : Program) (e : Env) (below : List Frame) (s : State) (args : Array Value) (y : MethodName) (len W : Nat) (Z : State) (EL : List (String × Nat)) (n0 : Nat) (vm0 : Vm) (h : Heap) (as' : Array Value) (kc ks : Nat) (Q : Option Value → Heap → Prop) : Prop :=
  BackS l R p e below (s.setVm vm0) args y len W (fun A a => a = as' ∧ A.U.heap = h ∧ A.cells + kc ≤ R.cells ∧ A.slots + ks ≤ R.slots) (fun A _ v B => ∃ L, (Q v B.U.heap ∧ Fr n0 L ∧ Old Z n0 B.U.heap) ∧ B.locs = A.locs ++ L ∧ B.cells = A.cells + kc ∧ B.slots = A.slots + ks ∧ CHr Z EL vm0 h B.U.vm B.U.heap)
theorem own_by {T' : State} {g g' : JFrame} (st : ∀ t, Steps p.tables e below (T'.setTop g') t → Steps p.tables e below (T.setTop g) t) (k : own_WP p e R below s Z EL n0 Q T' g') : own_WP p e R below s Z EL n0 Q T g := by
  obtain ⟨s2, o, h1, r⟩ := k
  exact ⟨s2, o, st _ h1, r⟩
theorem own_at (w : own_Wk p l e R s m args below meth c Z EL own n0 T vm0 h cells slots) : Jvm.At T m c below := by
  obtain ⟨_, _, X, _⟩ := w
  exact X.here
theorem own_hZ (w : own_Wk p l e R s m args below meth c Z EL own n0 T vm0 h cells slots) : Z.Warmed39 vm0 := by
  obtain ⟨_, _, _, _, _, _, hZ, _⟩ := w
  exact hZ
theorem own_old (w : own_Wk p l e R s m args below meth c Z EL own n0 T vm0 h cells slots) : Old Z n0 h := by
  obtain ⟨_, _, _, _, _, _, _, _, _, O, _⟩ := w
  exact O
theorem own_chv (w : own_Wk p l e R s m args below meth c Z EL own n0 T vm0 h cells slots) : CHv Z EL vm0 h := by
  obtain ⟨_, _, _, _, _, _, _, _, _, _, C⟩ := w
  exact C.1
theorem own_n0 (w : own_Wk p l e R s m args below meth c Z EL own n0 T vm0 h cells slots) : n0 ≤ h.size := by
  have O := own_old w
  exact O.1 ▸ O.2.1
theorem own_mono {c' s' : Nat} (w : own_Wk p l e R s m args below meth c Z EL own n0 T vm0 h cells slots) (hc : cells ≤ c') (hs : slots ≤ s') : own_Wk p l e R s m args below meth c Z EL own n0 T vm0 h c' s' := by
  obtain ⟨locs, k0, X, r⟩ := w
  exact ⟨locs, k0, X.mono hc hs, r⟩
theorem own_leave (w : own_Wk p l e R s m args below meth c Z EL own n0 T vm0 h cells slots) (hEL : EW Z a0 EL) (hlk : meth.locks = false) {v : Option Value} (hv : meth.sig.returnType = none → v = none) (hc : cells ≤ R.cells) (hs : slots ≤ R.slots) (q : Q v h) {g : JFrame}
    (st : ∀ (locs : List Loc) (fs : List Frame), Stand p l e R (s.setVm vm0) m args below meth c T locs cells slots → (∀ (f : JFrame) (acts : List Action), f.method = m → f.locked = none → f.entered = [] → (doReturn e (T.setTop f) acts v).1 = T.setFrames fs) → Steps p.tables e below (T.setTop g) (T.setFrames fs)) : own_WP p e R below s Z EL n0 Q T g := by
  obtain ⟨locs, k0, X, rfl, hS, hk, hZ, hown, N, O, C⟩ := w
  obtain ⟨fs, hr, hrun, hended, h1, h2, h3, h4⟩ := X.leaveW hS hk hv hlk
  have D := CHv.at X hZ hEL C.1
  exact ⟨_, _, st locs fs X hr, hrun, hended, v, locs, rfl, ⟨q, N, O⟩, C.trans D, h1, h2, h3, h4.mono hc hs⟩
theorem own_ret (w : own_Wk p l e R s m args below meth c Z EL own n0 T vm0 h cells slots) (hx : p.tables.exec = Jvm.exec) (hEL : EW Z a0 EL) (hlk : meth.locks = false) {t : FieldType} {v : Value} {i : Instr} {pc : Nat} {Ls : Array Slot} {rest : List Value} (hret : meth.sig.returnType = some t) (hn : narrow t v = v)
    (hi : (i = .ireturn ∧ (t = .int ∨ t = .boolean ∨ t = .byte ∨ t = .char ∨ t = .short) ∧ ∃ z, v = .int z) ∨ (i = .lreturn ∧ t = .long ∧ ∃ z, v = .long z) ∨ (i = .dreturn ∧ t = .double ∧ ∃ z, v = .double z) ∨ (i = .freturn ∧ t = .float ∧ ∃ z, v = .float z) ∨ (i = .areturn ∧ t.isReference = true ∧ v.isRef = true))
    (hd : decode c.code pc = .ok (i, 1)) (hc : cells ≤ R.cells) (hs : slots ≤ R.slots) (q : Q (some v) h) : own_WP p e R below s Z EL n0 Q T (mkF m pc Ls (v :: rest)) :=
  own_leave w hEL hlk (fun h => by rw [hret] at h; cases h) hc hs q (fun locs fs X hr => retOut X hx hret hn hi hd hr)
theorem own_retI (w : own_Wk p l e R s m args below meth c Z EL own n0 T vm0 h cells slots) (hx : p.tables.exec = Jvm.exec) (hEL : EW Z a0 EL) (hlk : meth.locks = false) {z : Int32} {pc : Nat} {Ls : Array Slot} {rest : List Value} (hret : meth.sig.returnType = some .int)
    (hd : decode c.code pc = .ok (.ireturn, 1)) (hc : cells ≤ R.cells) (hs : slots ≤ R.slots) (q : Q (some (.int z)) h) : own_WP p e R below s Z EL n0 Q T (mkF m pc Ls (.int z :: rest)) :=
  own_ret w hx hEL hlk hret rfl (Or.inl ⟨rfl, Or.inl rfl, z, rfl⟩) hd hc hs q
theorem own_retZ (w : own_Wk p l e R s m args below meth c Z EL own n0 T vm0 h cells slots) (hx : p.tables.exec = Jvm.exec) (hEL : EW Z a0 EL) (hlk : meth.locks = false) {z : Int32} {pc : Nat} {Ls : Array Slot} {rest : List Value} (hret : meth.sig.returnType = some .boolean) (hz : z = 0 ∨ z = 1)
    (hd : decode c.code pc = .ok (.ireturn, 1)) (hc : cells ≤ R.cells) (hs : slots ≤ R.slots) (q : Q (some (.int z)) h) : own_WP p e R below s Z EL n0 Q T (mkF m pc Ls (.int z :: rest)) :=
  own_ret w hx hEL hlk hret (by rcases hz with rfl | rfl <;> rfl) (Or.inl ⟨rfl, Or.inr (Or.inl rfl), z, rfl⟩) hd hc hs q
theorem own_narC {z : Int32} (h0 : ¬ z < 0) (h1 : ¬ (65535 : Int32) < z) : z.toUInt32.toUInt16.toUInt32.toInt32 = z := by
  rw [Int32.lt_iff_toInt_lt] at h0 h1
  have e1 : (65535 : Int32).toInt = 65535 := rfl
  have e0 : (0 : Int32).toInt = 0 := rfl
  apply Int32.toInt_inj.mp
  have hb : z.toBitVec.toInt = z.toInt := rfl
  rw [e1] at h1
  rw [e0] at h0
  show ((z.toBitVec.setWidth 16).setWidth 32).toInt = z.toBitVec.toInt
  have hlt := z.toBitVec.isLt
  have h2 : z.toBitVec.toInt = z.toBitVec.toNat := by
    rw [BitVec.toInt_eq_toNat_cond] at hb ⊢
    split
    · rfl
    · rename_i q; rw [if_neg q] at hb; omega
  have h3 : z.toBitVec.toNat < 65536 := by omega
  rw [h2, BitVec.toInt_eq_toNat_cond]
  simp only [BitVec.toNat_setWidth]
  rw [Nat.mod_eq_of_lt (show z.toBitVec.toNat < 2 ^ 16 from h3), Nat.mod_eq_of_lt (show z.toBitVec.toNat < 2 ^ 32 by omega)]
  split <;> omega
theorem own_retC (w : own_Wk p l e R s m args below meth c Z EL own n0 T vm0 h cells slots) (hx : p.tables.exec = Jvm.exec) (hEL : EW Z a0 EL) (hlk : meth.locks = false) {z : Int32} {pc : Nat} {Ls : Array Slot} {rest : List Value} (hret : meth.sig.returnType = some .char) (hz : ¬ z < 0 ∧ ¬ (65535 : Int32) < z)
    (hd : decode c.code pc = .ok (.ireturn, 1)) (hc : cells ≤ R.cells) (hs : slots ≤ R.slots) (q : Q (some (.int z)) h) : own_WP p e R below s Z EL n0 Q T (mkF m pc Ls (.int z :: rest)) :=
  own_ret w hx hEL hlk hret (by show Value.int _ = Value.int _; rw [own_narC hz.1 hz.2]) (Or.inl ⟨rfl, Or.inr (Or.inr (Or.inr (Or.inl rfl))), z, rfl⟩) hd hc hs q
theorem own_retB (w : own_Wk p l e R s m args below meth c Z EL own n0 T vm0 h cells slots) (hx : p.tables.exec = Jvm.exec) (hEL : EW Z a0 EL) (hlk : meth.locks = false) {z : Int32} {pc : Nat} {Ls : Array Slot} {rest : List Value} (hret : meth.sig.returnType = some .byte) (hz : narrow .byte (.int z) = .int z)
    (hd : decode c.code pc = .ok (.ireturn, 1)) (hc : cells ≤ R.cells) (hs : slots ≤ R.slots) (q : Q (some (.int z)) h) : own_WP p e R below s Z EL n0 Q T (mkF m pc Ls (.int z :: rest)) :=
  own_ret w hx hEL hlk hret hz (Or.inl ⟨rfl, Or.inr (Or.inr (Or.inl rfl)), z, rfl⟩) hd hc hs q
theorem own_retJ (w : own_Wk p l e R s m args below meth c Z EL own n0 T vm0 h cells slots) (hx : p.tables.exec = Jvm.exec) (hEL : EW Z a0 EL) (hlk : meth.locks = false) {z : Int64} {pc : Nat} {Ls : Array Slot} {rest : List Value} (hret : meth.sig.returnType = some .long)
    (hd : decode c.code pc = .ok (.lreturn, 1)) (hc : cells ≤ R.cells) (hs : slots ≤ R.slots) (q : Q (some (.long z)) h) : own_WP p e R below s Z EL n0 Q T (mkF m pc Ls (.long z :: rest)) :=
  own_ret w hx hEL hlk hret rfl (Or.inr (Or.inl ⟨rfl, rfl, z, rfl⟩)) hd hc hs q
theorem own_retF (w : own_Wk p l e R s m args below meth c Z EL own n0 T vm0 h cells slots) (hx : p.tables.exec = Jvm.exec) (hEL : EW Z a0 EL) (hlk : meth.locks = false) {z : UInt32} {pc : Nat} {Ls : Array Slot} {rest : List Value} (hret : meth.sig.returnType = some .float)
    (hd : decode c.code pc = .ok (.freturn, 1)) (hc : cells ≤ R.cells) (hs : slots ≤ R.slots) (q : Q (some (.float z)) h) : own_WP p e R below s Z EL n0 Q T (mkF m pc Ls (.float z :: rest)) :=
  own_ret w hx hEL hlk hret rfl (Or.inr (Or.inr (Or.inr (Or.inl ⟨rfl, rfl, z, rfl⟩)))) hd hc hs q
theorem own_retA (w : own_Wk p l e R s m args below meth c Z EL own n0 T vm0 h cells slots) (hx : p.tables.exec = Jvm.exec) (hEL : EW Z a0 EL) (hlk : meth.locks = false) {t : FieldType} {v : Value} {pc : Nat} {Ls : Array Slot} {rest : List Value} (hret : meth.sig.returnType = some t) (ht : t.isReference = true) (hv : v.isRef = true)
    (hd : decode c.code pc = .ok (.areturn, 1)) (hc : cells ≤ R.cells) (hs : slots ≤ R.slots) (q : Q (some v) h) : own_WP p e R below s Z EL n0 Q T (mkF m pc Ls (v :: rest)) :=
  own_ret w hx hEL hlk hret (by rcases ref_cases hv with rfl | ⟨a, rfl⟩ <;> cases t <;> first | rfl | (simp [FieldType.isReference] at ht)) (Or.inr (Or.inr (Or.inr (Or.inr ⟨rfl, ht, hv⟩)))) hd hc hs q
theorem own_retV (w : own_Wk p l e R s m args below meth c Z EL own n0 T vm0 h cells slots) (hx : p.tables.exec = Jvm.exec) (hEL : EW Z a0 EL) (hlk : meth.locks = false) {pc : Nat} {Ls : Array Slot} (hret : meth.sig.returnType = none)
    (hd : decode c.code pc = .ok (.return_, 1)) (hc : cells ≤ R.cells) (hs : slots ≤ R.slots) (q : Q none h) : own_WP p e R below s Z EL n0 Q T (mkF m pc Ls []) :=
  own_leave w hEL hlk (fun _ => rfl) hc hs q (fun locs fs X hr => X.returnOut hx hret hd hr)
theorem own_body {y : MethodName} {bytes : ByteArray} {maxL : Nat} {ret : Option FieldType} {rm : Room} {as' : Array Value} {sf : List Addr} (hpl : plainFor y = true) (hO : Old Z n0 h)
    (body : ∀ (p : Program) (e : Env) (s : State) (m : MethodId) (below : List Frame) (meth : Method) (c : Code) (T : State) (vm0 : Vm), p.tables.exec = Jvm.exec → c.code = bytes → c.maxLocals = maxL → meth.sig.returnType = ret → meth.locks = false → meth.name = y.name → (∀ x ∈ sf, Safe Z EL vm0 h x) → own_Wk p l e rm s m as' below meth c Z EL y.cls n0 T vm0 h 0 0 → own_WP p e rm below s Z EL n0 Q T (entryFrame m as' maxL)) :
    own_Ct l y bytes maxL ret rm Z EL n0 as' h sf Q := by
  intro ws
  refine MetFree.of_bodySF hpl hisR ?_
  intro p e s m args below meth c s₁ Bd hml hP hK
  obtain ⟨rfl, hZ, rfl, hC, hSf⟩ := hP
  have hown : s.vm.findClass y.cls = some m.cls := findClass_of_methodNamed Bd.named
  have hnm := (name_of_methodNamed Bd.named Bd.method).1
  have X0 : Stand p l e rm s m args below meth c s₁ [] 0 0 := Stand.of_body Bd
  have e0 : s₁.heap = s.heap := by rw [Bd.state]; rfl
  exact body p e s m below meth c s₁ s.vm Bd.exec Bd.bytes hml Bd.returns Bd.notSynchronized hnm hSf ⟨[], 0, X0, e0, (State.WarmedH.refl s).since _, Nat.zero_le _, hZ, hown, Fr.nil _, hO, CHr.refl hC⟩
theorem own_entry {as' : Array Value} {maxL : Nat} {g : JFrame} (q : entryFrame m as' maxL = g) (k : own_WP p e R below s Z EL n0 Q T g) : own_WP p e R below s Z EL n0 Q T (entryFrame m as' maxL) := q ▸ k
theorem own_payCt {y : MethodName} {bytes : ByteArray} {maxL : Nat} {ret : Option FieldType} {rm : Room} {len W : Nat} {as' : Array Value} {sf : List Addr} (K : own_Ct l y bytes maxL ret rm Z EL n0 as' h sf Q) (w : own_Wk p l e R s m args below meth c Z EL own n0 T vm0 h cells slots) (wc : (Jvm.Cond.code y bytes maxL ret).before a0 Z = true) (wz : (Jvm.Cond.initialized y.cls).before a0 Z = true)
    (hEL : EW Z a0 EL) (hf : rm.frames + 1 ≤ R.frames) (hl : W + (maxL + 11) + rm.locals ≤ R.locals) (hsf : ∀ x ∈ sf, x < h.size ∧ Safe Z EL vm0 h x := by intro x hx; cases hx) : own_Pay l R p e below s args y len W Z EL n0 vm0 h as' rm.cells rm.slots Q := by
  have hZ := own_hZ w
  have H := own_chv w
  exact BackS.of_freeW (bytes := bytes) (maxL := maxL) (ret := ret) (E := fun _ first o t L k n => k = rm.cells ∧ n = rm.slots ∧ (∃ v, o = Outcome.returned v ∧ (Q v t.heap ∧ Fr n0 L ∧ Old Z n0 t.heap)) ∧ CHr Z EL first.vm first.heap t.vm t.heap) (K []) hf hl
    (fun m meth c A a Y hp => have hU : Z.Warmed39 A.U.vm := wtrans (s := s.setVm vm0) hZ Y.warmed
      ⟨by show (Jvm.Cond.and _ .tt).before a A.U = true; rw [Cond.before_and, mv hU wc]; rfl, mv hU wc, mv hU wz, hp.2.2.1, hp.2.2.2⟩)
    (fun m meth c A a g mk Y hp => ⟨hp.1, wtrans (s := s.setVm vm0) hZ Y.warmed, hp.2.1, (CHv.at Y hZ hEL H).1, fun x hx => (CHv.at Y hZ hEL H).safe (hsf x hx).1 (hsf x hx).2⟩) (fun _ _ _ _ _ _ _ _ _ => trivial)
    (fun _ _ _ _ ⟨v, L, h1, h2, h3, h4⟩ => ⟨L, _, _, h4, rfl, rfl, ⟨v, h1, h2⟩, h3⟩)
    (fun m meth c A a g mk v t L k n Y hp _ _ ⟨e1, e2, ⟨v', e3, e4⟩, e5⟩ => by
      cases e3; subst e1 e2
      refine ⟨L, e4, rfl, rfl, rfl, (CHv.at Y hZ hEL H).trans ?_⟩
      rw [← hp.2.1]; exact e5)
theorem own_payBack {y : MethodName} {len W : Nat} {as' : Array Value} {kc ks : Nat} {Q0 : Option Value → Heap → List Loc → Prop} (w : own_Wk p l e R s m args below meth c Z EL own n0 T vm0 h cells slots) (hEL : EW Z a0 EL) {ws : List Addr}
    (K : Back l R p e below (s.setVm vm0) args y len W (fun A a => a = as' ∧ A.U.heap = h ∧ A.cells + kc ≤ R.cells ∧ A.slots + ks ≤ R.slots) (fun A _ v B => ∃ L, Q0 v B.U.heap L ∧ B.locs = A.locs ++ L ∧ B.cells = A.cells + kc ∧ B.slots = A.slots + ks))
    (hq : ∀ v h' L, Q0 v h' L → Q v h' ∧ Fr n0 L ∧ Keep h h' ws) (hn : ∀ x ∈ ws, n0 ≤ x) (hs : ∀ x ∈ ws, Safe Z EL vm0 h x) : own_Pay l R p e below s args y len W Z EL n0 vm0 h as' kc ks Q := by
  intro m' meth' c' A g ig mk a X hg hsize hdg hW hn' hp
  obtain ⟨v, B, X', ⟨L, q, e1, e2, e3⟩, hsteps⟩ := K m' meth' c' A g ig mk a X hg hsize hdg hW hn' hp
  obtain ⟨q1, q2, q3⟩ := hq _ _ _ q
  have H := own_chv w
  have C := CHr.keep q3 hs H
  exact ⟨v, B, X'.retabled X'.warmed.wide, X'.warmed.since _, by rw [hp.2.1]; exact q3.1, ⟨L, ⟨q1, q2, (own_old w).keep q3 hn⟩, e1, e2, e3, C.trans (CHv.at X' (own_hZ w) hEL C.1)⟩, hsteps⟩
theorem own_callS (w : own_Wk p l e R s m args below meth c Z EL own n0 T vm0 h cells slots) (hx : p.tables.exec = Jvm.exec) {index : Nat} {y : MethodName} {bytes : ByteArray} {maxL : Nat} {ret : Option FieldType}
    (w1 : (Jvm.Cond.methodLink own index y).before a0 Z = true) (w2 : (Jvm.Cond.static y).before a0 Z = true) (w3 : (Jvm.Cond.initialized y.cls).before a0 Z = true) (w4 : (Jvm.Cond.code y bytes maxL ret).before a0 Z = true) (hy : y.cls ≠ "java/lang/invoke/MethodHandle" ∧ y.cls ≠ "java/lang/invoke/VarHandle")
    {W kc ks : Nat} {argsL rest : List Value} {Q' : Option Value → Heap → Prop} (K : own_Pay l R p e below s args y 3 W Z EL n0 vm0 h argsL.toArray kc ks Q') {g : JFrame} (hg : g.method = m) (hsize : g.locals.size = c.maxLocals)
    (hlen : ∀ sig, parseMethodDescriptor y.desc = some sig → argsL.length = sig.parameters.length) (hstack : g.stack = argsL.reverse ++ rest) (hW : 2 * g.monitorRoom + (rest.map fun v => v.category).sum ≤ W) (hd : decode c.code g.pc = .ok (.invokestatic index, 3)) (hc : cells + kc ≤ R.cells) (hs : slots + ks ≤ R.slots)
    (k : ∀ (v : Option Value) (T' : State) (vm1 : Vm) (h' : Heap), Q' v h' → CHr Z EL vm0 h vm1 h' → own_Wk p l e R s m args below meth c Z EL own n0 T' vm1 h' (cells + kc) (slots + ks) → own_WP p e R below s Z EL n0 Q T' { g with pc := g.pc + 3, stack := v.toList ++ rest }) : own_WP p e R below s Z EL n0 Q T g := by
  obtain ⟨locs, k0, X, e0, hS, hk, hZ, hown, N, O, C⟩ := w
  obtain ⟨v, vm₁, ⟨U, L', c', s'⟩, hW1, X', hS', hg', ⟨L, ⟨q, N', O'⟩, e1, e2, e3, C'⟩, st⟩ := callSS X hx (own := own) hown (mvT hZ w1) (mvT hZ w2) (mvT hZ w3) (mvT hZ w4) hy K hg hsize hlen hstack hW hd (fun _ _ => ⟨rfl, e0, hc, hs⟩)
  dsimp only [Pt.U, Pt.locs, Pt.cells, Pt.slots] at X' hS' hg' q O' e1 e2 e3 C' st
  subst e1 e2 e3
  rw [e0] at hg'
  exact own_by (fun t => st.trans) (k v U U.vm U.heap q C' ⟨_, U.heap.size, X', rfl, hS.trans hS' (Nat.le_trans hk hg'), Nat.le_refl _, State.Warmed39.trans (t := s.setVm vm0) hZ hS'.1, (hS'.1.alike.findClass _ _).trans hown, N.app N', O', C.trans C'⟩)
theorem own_callC (w : own_Wk p l e R s m args below meth c Z EL own n0 T vm0 h cells slots) (hx : p.tables.exec = Jvm.exec) {index : Nat} {y : MethodName} {bytes : ByteArray} {maxL : Nat}
    (hy1 : y.name = "<init>") (w1 : (Jvm.Cond.methodLink own index y).before a0 Z = true) (w2 : (Jvm.Cond.instanceMethod y).before a0 Z = true) (w4 : (Jvm.Cond.code y bytes maxL none).before a0 Z = true) (hy : y.cls ≠ "java/lang/invoke/MethodHandle" ∧ y.cls ≠ "java/lang/invoke/VarHandle")
    {W kc ks : Nat} {a : Addr} {argsL rest : List Value} {Q' : Option Value → Heap → Prop} (K : own_Pay l R p e below s args y 3 W Z EL n0 vm0 h (.ref a :: argsL).toArray kc ks Q') {g : JFrame} (hg : g.method = m) (hsize : g.locals.size = c.maxLocals)
    (hlen : ∀ sig, parseMethodDescriptor y.desc = some sig → argsL.length = sig.parameters.length) (hstack : g.stack = argsL.reverse ++ .ref a :: rest) (hW : 2 * g.monitorRoom + (rest.map fun v => v.category).sum ≤ W) (hd : decode c.code g.pc = .ok (.invokespecial index, 3)) (hc : cells + kc ≤ R.cells) (hs : slots + ks ≤ R.slots)
    (k : ∀ (v : Option Value) (T' : State) (vm1 : Vm) (h' : Heap), Q' v h' → CHr Z EL vm0 h vm1 h' → own_Wk p l e R s m args below meth c Z EL own n0 T' vm1 h' (cells + kc) (slots + ks) → own_WP p e R below s Z EL n0 Q T' { g with pc := g.pc + 3, stack := v.toList ++ rest }) : own_WP p e R below s Z EL n0 Q T g := by
  obtain ⟨locs, k0, X, e0, hS, hk, hZ, hown, N, O, C⟩ := w
  obtain ⟨v, vm₁, ⟨U, L', c', s'⟩, hW1, X', hS', hg', ⟨L, ⟨q, N', O'⟩, e1, e2, e3, C'⟩, st⟩ := X.specialBackS hx (own := own) hy1 hown (mvT hZ w1) (mvT hZ w2) (mvT hZ w4) hy K hg hsize (Steps.refl _) hlen hstack hW hd (fun _ _ => ⟨rfl, e0, hc, hs⟩)
  dsimp only [Pt.U, Pt.locs, Pt.cells, Pt.slots] at X' hS' hg' q O' e1 e2 e3 C' st
  subst e1 e2 e3
  rw [e0] at hg'
  exact own_by (fun t => st.trans) (k v U U.vm U.heap q C' ⟨_, U.heap.size, X', rfl, hS.trans hS' (Nat.le_trans hk hg'), Nat.le_refl _, State.Warmed39.trans (t := s.setVm vm0) hZ hS'.1, (hS'.1.alike.findClass _ _).trans hown, N.app N', O', C.trans C'⟩)
theorem own_callV (w : own_Wk p l e R s m args below meth c Z EL own n0 T vm0 h cells slots) (hx : p.tables.exec = Jvm.exec) {index : Nat} {y z : MethodName} {Cn : String}
    (w1 : (Jvm.Cond.methodLink own index y).before a0 Z = true) (w2 : (Jvm.Cond.declares y).before a0 Z = true) (nf : ∀ u : State, Z.Warmed39 u.vm → NotFace u y) (w3 : (Jvm.Cond.selects Cn y z).before a0 Z = true) (w4 : (Jvm.Cond.instanceMethod z).before a0 Z = true) (hy : y.cls ≠ "java/lang/invoke/MethodHandle" ∧ y.cls ≠ "java/lang/invoke/VarHandle")
    {W kc ks : Nat} {a : Addr} {argsL rest : List Value} {Q' : Option Value → Heap → Prop} (K : own_Pay l R p e below s args z 3 W Z EL n0 vm0 h (.ref a :: argsL).toArray kc ks Q') (E : Exa Z h a Cn) {g : JFrame} (hg : g.method = m) (hsize : g.locals.size = c.maxLocals)
    (hlen : ∀ sig, parseMethodDescriptor y.desc = some sig → argsL.length = sig.parameters.length) (hstack : g.stack = argsL.reverse ++ .ref a :: rest) (hW : 2 * g.monitorRoom + (rest.map fun v => v.category).sum ≤ W) (hd : decode c.code g.pc = .ok (.invokevirtual index, 3)) (hc : cells + kc ≤ R.cells) (hs : slots + ks ≤ R.slots)
    (k : ∀ (v : Option Value) (T' : State) (vm1 : Vm) (h' : Heap), Q' v h' → CHr Z EL vm0 h vm1 h' → own_Wk p l e R s m args below meth c Z EL own n0 T' vm1 h' (cells + kc) (slots + ks) → own_WP p e R below s Z EL n0 Q T' { g with pc := g.pc + 3, stack := v.toList ++ rest }) : own_WP p e R below s Z EL n0 Q T g := by
  obtain ⟨locs, k0, X, e0, hS, hk, hZ, hown, N, O, C⟩ := w
  obtain ⟨cq, kq, qa, qb, qc⟩ := isOf (s := s.setVm vm0) hZ e0 E
  obtain ⟨v, vm₁, ⟨U, L', c', s'⟩, hW1, X', hS', hg', ⟨L, ⟨q, N', O'⟩, e1, e2, e3, C'⟩, st⟩ := X.virtualBackS hx (own := own) (y := y) (z := z) hown (mvT hZ w1) (mvT hZ w2) (nf _ hZ) (mvT hZ w3) (mvT hZ w4) hy K qa qc hg hsize (Steps.refl _) hlen hstack hW hd (fun _ _ => ⟨rfl, e0, hc, hs⟩)
  dsimp only [Pt.U, Pt.locs, Pt.cells, Pt.slots] at X' hS' hg' q O' e1 e2 e3 C' st
  subst e1 e2 e3
  rw [e0] at hg'
  exact own_by (fun t => st.trans) (k v U U.vm U.heap q C' ⟨_, U.heap.size, X', rfl, hS.trans hS' (Nat.le_trans hk hg'), Nat.le_refl _, State.Warmed39.trans (t := s.setVm vm0) hZ hS'.1, (hS'.1.alike.findClass _ _).trans hown, N.app N', O', C.trans C'⟩)
theorem own_irem {target : State} {g : JFrame} (A : Jvm.At T m c below) (hx : p.tables.exec = Jvm.exec) (hg : g.method = m) {x y : Int32} {rest : List Value} (hd : decode c.code g.pc = .ok (.irem, 1)) (hs : g.stack = .int y :: .int x :: rest) (hy : y ≠ 0)
    (hr : Steps p.tables e below (T.setTop { g with pc := g.pc + 1, stack := .int (x % y) :: rest }) target) : Steps p.tables e below (T.setTop g) target := by
  have q : x - x / y * y = x % y := irem_eq_mod x y
  exact XS.irem A hx hg hd hs hy (by rw [q]; exact hr)
/-- a step that moves neither the heap nor the base -/
theorem own_stay {T' : State} {g g' : JFrame} (w : own_Wk p l e R s m args below meth c Z EL own n0 T vm0 h cells slots)
    (st : ∀ locs, Stand p l e R (s.setVm vm0) m args below meth c T locs cells slots → T.heap = h → Z.Warmed39 (s.setVm vm0).vm → (s.setVm vm0).vm.findClass own = some m.cls → ∃ T', Stand p l e R (s.setVm vm0) m args below meth c T' locs cells slots ∧ T'.heap = h ∧ ∀ target, Steps p.tables e below (T'.setTop g') target → Steps p.tables e below (T.setTop g) target)
    (k : ∀ T', own_Wk p l e R s m args below meth c Z EL own n0 T' vm0 h cells slots → own_WP p e R below s Z EL n0 Q T' g') : own_WP p e R below s Z EL n0 Q T g := by
  obtain ⟨locs, k0, X, e0, hS, hk, hZ, hown, r⟩ := w
  obtain ⟨T', X', e1, st'⟩ := st locs X e0 hZ hown
  exact own_by st' (k T' ⟨locs, k0, X', e1, hS, hk, hZ, hown, r⟩)
/-- a step that makes a cell -/
theorem own_grow {g g' : JFrame} {kc ks : Nat} {P : Heap → Prop} (w : own_Wk p l e R s m args below meth c Z EL own n0 T vm0 h cells slots)
    (st : ∀ locs, Stand p l e R (s.setVm vm0) m args below meth c T locs cells slots → T.heap = h → Z.Warmed39 (s.setVm vm0).vm → (s.setVm vm0).vm.findClass own = some m.cls → ∃ T' h', Stand p l e R (s.setVm vm0) m args below meth c T' locs (cells + kc) (slots + ks) ∧ T'.heap = h' ∧ Ext h h' ∧ P h' ∧ ∀ target, Steps p.tables e below (T'.setTop g') target → Steps p.tables e below (T.setTop g) target)
    (k : ∀ T' h', Ext h h' → P h' → own_Wk p l e R s m args below meth c Z EL own n0 T' vm0 h' (cells + kc) (slots + ks) → own_WP p e R below s Z EL n0 Q T' g') : own_WP p e R below s Z EL n0 Q T g := by
  obtain ⟨locs, k0, X, e0, hS, hk, hZ, hown, N, O, C⟩ := w
  obtain ⟨T', h', X', e1, E, q, st'⟩ := st locs X e0 hZ hown
  exact own_by st' (k T' h' E q ⟨locs, k0, X', e1, hS, Nat.le_trans hk E.1, hZ, hown, N, O.ext E, C.trans (CHr.ext E C.1)⟩)
/-- a step that writes one place of a cell made since the start -/
theorem own_wrote {g g' : JFrame} {a : Addr} {sl : Nat} {v : Value} (w : own_Wk p l e R s m args below meth c Z EL own n0 T vm0 h cells slots) (ha : n0 ≤ a) (hsf : Safe Z EL vm0 h a)
    (st : ∀ locs, Stand p l e R (s.setVm vm0) m args below meth c T locs cells slots → T.heap = h → Z.Warmed39 (s.setVm vm0).vm → (s.setVm vm0).vm.findClass own = some m.cls → ∃ T' h', Stand p l e R (s.setVm vm0) m args below meth c T' (locs ++ [⟨a, sl⟩]) cells slots ∧ T'.heap = h' ∧ Wr h h' a sl v ∧ ∀ target, Steps p.tables e below (T'.setTop g') target → Steps p.tables e below (T.setTop g) target)
    (k : ∀ T' h', Wr h h' a sl v → own_Wk p l e R s m args below meth c Z EL own n0 T' vm0 h' cells slots → own_WP p e R below s Z EL n0 Q T' g') : own_WP p e R below s Z EL n0 Q T g := by
  obtain ⟨locs, k0, X, e0, hS, hk, hZ, hown, N, O, C⟩ := w
  obtain ⟨T', h', X', e1, W, st'⟩ := st locs X e0 hZ hown
  exact own_by st' (k T' h' W ⟨_, k0, X', e1, hS, by rw [W.size]; exact hk, hZ, hown, Fr.snoc X' N ha, O.wr W ha, C.trans (CHr.wr W hsf C.1)⟩)
theorem own_getF (w : own_Wk p l e R s m args below meth c Z EL own n0 T vm0 h cells slots) (hx : p.tables.exec = Jvm.exec) {O f d : String} {index : Nat} (w1 : (Jvm.Cond.fieldLink own index O f d).before a0 Z = true) {a : Addr} {v : Value} (F : Fld Z h a O f d v) {g : JFrame} (hg : g.method = m) {rest : List Value} (hs : g.stack = .ref a :: rest) (hd : decode c.code g.pc = .ok (.getfield index, 3))
    (k : ∀ T', own_Wk p l e R s m args below meth c Z EL own n0 T' vm0 h cells slots → own_WP p e R below s Z EL n0 Q T' { g with pc := g.pc + 3, stack := v :: rest }) : own_WP p e R below s Z EL n0 Q T g :=
  own_stay (T' := T) w (fun locs X e0 hZ hown => getF X hx hZ hown (host := "") (Or.inl w1) Via.refl e0 F hg hs hd) k
theorem own_getS (w : own_Wk p l e R s m args below meth c Z EL own n0 T vm0 h cells slots) (hx : p.tables.exec = Jvm.exec) {O f d : String} {index : Nat} (w1 : (Jvm.Cond.fieldLink own index O f d).before a0 Z = true) {v : Value} (F : Sta Z h O f d v) {g : JFrame} (hg : g.method = m) (hd : decode c.code g.pc = .ok (.getstatic index, 3))
    (k : ∀ T', own_Wk p l e R s m args below meth c Z EL own n0 T' vm0 h cells slots → own_WP p e R below s Z EL n0 Q T' { g with pc := g.pc + 3, stack := v :: g.stack }) : own_WP p e R below s Z EL n0 Q T g :=
  own_stay (T' := T) w (fun locs X e0 hZ hown => getS (host := "") X hx hZ hown w1 Via.refl e0 F hg hd) k
theorem own_cast (w : own_Wk p l e R s m args below meth c Z EL own n0 T vm0 h cells slots) (hx : p.tables.exec = Jvm.exec) {K : String} {index : Nat} (w1 : (Jvm.Cond.classLink own index K).before a0 Z = true) {a : Addr} (F : Ins Z h a K true) {g : JFrame} (hg : g.method = m) {rest : List Value} (hs : g.stack = .ref a :: rest) (hd : decode c.code g.pc = .ok (.checkcast index, 3))
    (k : ∀ T', own_Wk p l e R s m args below meth c Z EL own n0 T' vm0 h cells slots → own_WP p e R below s Z EL n0 Q T' { g with pc := g.pc + 3 }) : own_WP p e R below s Z EL n0 Q T g :=
  own_stay (T' := T) w (fun locs X e0 hZ hown => castY X hx hZ hown w1 e0 F hg hs hd) k
theorem own_instY (w : own_Wk p l e R s m args below meth c Z EL own n0 T vm0 h cells slots) (hx : p.tables.exec = Jvm.exec) {K : String} {index : Nat} (w1 : (Jvm.Cond.classLink own index K).before a0 Z = true) {a : Addr} (F : Ins Z h a K true) {g : JFrame} (hg : g.method = m) {rest : List Value} (hs : g.stack = .ref a :: rest) (hd : decode c.code g.pc = .ok (.instanceof index, 3))
    (k : ∀ T', own_Wk p l e R s m args below meth c Z EL own n0 T' vm0 h cells slots → own_WP p e R below s Z EL n0 Q T' { g with pc := g.pc + 3, stack := .int 1 :: rest }) : own_WP p e R below s Z EL n0 Q T g :=
  own_stay (T' := T) w (fun locs X e0 hZ hown => instY X hx hZ hown w1 e0 F hg hs hd) k
theorem own_initO (w : own_Wk p l e R s m args below meth c Z EL own n0 T vm0 h cells slots) (hx : p.tables.exec = Jvm.exec) {index : Nat} (w1 : (Jvm.Cond.methodLink own index Lib.objectInit).before a0 Z = true) (w2 : (Jvm.Cond.instanceMethod Lib.objectInit).before a0 Z = true) (w3 : (Jvm.Cond.code Lib.objectInit ⟨#[0xb1]⟩ 1 none).before a0 Z = true)
    {a : Addr} {g : JFrame} (hg : g.method = m) (hsize : g.locals.size = c.maxLocals) {rest : List Value} (hs : g.stack = .ref a :: rest) (hd : decode c.code g.pc = .ok (.invokespecial index, 3)) (hf : 1 ≤ R.frames) {W : Nat} (hW : 2 * g.monitorRoom + (rest.map fun v => v.category).sum ≤ W) (hl : W + 12 ≤ R.locals)
    (k : ∀ T', own_Wk p l e R s m args below meth c Z EL own n0 T' vm0 h cells slots → own_WP p e R below s Z EL n0 Q T' { g with pc := g.pc + 3, stack := rest }) : own_WP p e R below s Z EL n0 Q T g :=
  own_stay (T' := T) w (fun locs X e0 hZ hown => initO X hx hZ hown w1 w2 w3 e0 hg hsize hs hd hf hW hl) k
theorem own_new (w : own_Wk p l e R s m args below meth c Z EL own n0 T vm0 h cells slots) (hx : p.tables.exec = Jvm.exec) {Cn : String} {index n : Nat} (w1 : (Jvm.Cond.classLink own index Cn).before a0 Z = true) (w2 : (Jvm.Cond.instantiable Cn n).before a0 Z = true) (w3 : (Jvm.Cond.initialized Cn).before a0 Z = true) {g : JFrame} (hg : g.method = m) (hd : decode c.code g.pc = .ok (.new index, 3)) (hc : cells + 1 ≤ R.cells) (hl : slots + n ≤ R.slots)
    (k : ∀ T' h' a, a = h.size → Ext h h' → (Exa Z h' a Cn ∧ ∀ {O nm d : String} {ty : FieldType}, Laid Z a0 Cn O nm d → parseFieldDescriptor d = some ty → Fld Z h' a O nm d (defaultValue ty)) → own_Wk p l e R s m args below meth c Z EL own n0 T' vm0 h' (cells + 1) (slots + n) → own_WP p e R below s Z EL n0 Q T' { g with pc := g.pc + 3, stack := .ref a :: g.stack }) : own_WP p e R below s Z EL n0 Q T g :=
  own_grow (P := fun h' => Exa Z h' h.size Cn ∧ ∀ {O nm d : String} {ty : FieldType}, Laid Z a0 Cn O nm d → parseFieldDescriptor d = some ty → Fld Z h' h.size O nm d (defaultValue ty)) w (fun locs X e0 hZ hown => by
    obtain ⟨T', h', X', e1, E, A, D, -, st⟩ := newO X hx hZ hown w1 w2 w3 e0 hg hd hc hl
    exact ⟨T', h', X', e1, E, ⟨A, D⟩, st⟩) (fun T' h' E q w' => k T' h' h.size rfl E q w')
theorem own_newP (w : own_Wk p l e R s m args below meth c Z EL own n0 T vm0 h cells slots) (hx : p.tables.exec = Jvm.exec) {aty : ArrayType} (w1 : (Jvm.Cond.arrayClass (newarray.typeOf aty)).before a0 Z = true) {g : JFrame} (hg : g.method = m) (hd : decode c.code g.pc = .ok (.newarray aty, 2)) {n : Int32} {rest : List Value} (hs : g.stack = .int n :: rest)
    (hn : ¬ n < 0) {cap : Nat} (hcap : n.toNatClampNeg ≤ cap) (hb : cap * 8 ≤ 536870912) (hc : cells + 1 ≤ R.cells) (hl : slots + cap ≤ R.slots)
    (k : ∀ T' h' a cA, a = h.size → Ext h h' → Arv Z h' a cA (newarray.typeOf aty) n [] (defaultValue (newarray.typeOf aty)) → own_Wk p l e R s m args below meth c Z EL own n0 T' vm0 h' (cells + 1) (slots + cap) → own_WP p e R below s Z EL n0 Q T' { g with pc := g.pc + 2, stack := .ref a :: rest }) : own_WP p e R below s Z EL n0 Q T g :=
  own_grow (P := fun h' => ∃ cA, Arr Z h' h.size (newA cA (newarray.typeOf aty) n) (newarray.typeOf aty)) w (fun locs X e0 hZ hown => by
    obtain ⟨T', h', cA, X', e1, E, A, st⟩ := newP X hx hZ w1 e0 hg hd hs hn hcap hb hc hl
    exact ⟨T', h', X', e1, E, ⟨cA, A⟩, st⟩) (fun T' h' E ⟨cA, A⟩ w' => k T' h' h.size cA rfl E (Arv.new A hn) w')
theorem own_putF (w : own_Wk p l e R s m args below meth c Z EL own n0 T vm0 h cells slots) (hx : p.tables.exec = Jvm.exec) {O f d Cn : String} {index kk : Nat} {ty : FieldType} (w1 : (Jvm.Cond.fieldLink own index O f d).before a0 Z = true) {a : Addr} {v old : Value} (F : Fld Z h a O f d old) (E : Exa Z h a Cn)
    (L : (Jvm.Cond.lays Cn O f d).before a0 Z = true ∨ ((Jvm.Cond.laysFinal Cn O f d).before a0 Z = true ∧ own = O ∧ meth.name = "<init>")) (wi : (Jvm.Cond.instantiable Cn kk).before a0 Z = true) (hty : parseFieldDescriptor d = some ty) (hn : narrow ty v = v) (hf : fits ty v = true) (ha : n0 ≤ a) (hsf : Safe Z EL vm0 h a)
    {g : JFrame} (hg : g.method = m) {rest : List Value} (hs : g.stack = v :: .ref a :: rest) (hd : decode c.code g.pc = .ok (.putfield index, 3))
    (k : ∀ T' h', Wr h h' a (Jvm.RoadKit.slotOf Z O f d) v → own_Wk p l e R s m args below meth c Z EL own n0 T' vm0 h' cells slots → own_WP p e R below s Z EL n0 Q T' { g with pc := g.pc + 3, stack := rest }) : own_WP p e R below s Z EL n0 Q T g :=
  own_wrote w ha hsf (fun locs X e0 hZ hown => putF X hx hZ hown (host := "") (Or.inl w1) Via.refl e0 F E L wi hty hn hf hg hs hd) k
theorem own_castore (w : own_Wk p l e R s m args below meth c Z EL own n0 T vm0 h cells slots) (hx : p.tables.exec = Jvm.exec) {a : Addr} {kA : ClassId} {z j x : Int32} {vs : List Value} {dv : Value} (V : Arv Z h a kA .char z vs dv) (hj : ¬ j < 0 ∧ j < z) (hx0 : ¬ x < 0 ∧ ¬ (65535 : Int32) < x) {i : Nat} (hi : j.toNatClampNeg = i) (hl : i < vs.length) (ha : n0 ≤ a)
    {g : JFrame} (hg : g.method = m) {rest : List Value} (hs : g.stack = .int x :: .int j :: .ref a :: rest) (hd : decode c.code g.pc = .ok (.castore, 1))
    (k : ∀ T' h', Wr h h' a i (.int x) → Arv Z h' a kA .char z (vs.set i (.int x)) dv → own_Wk p l e R s m args below meth c Z EL own n0 T' vm0 h' cells slots → own_WP p e R below s Z EL n0 Q T' { g with pc := g.pc + 1, stack := rest }) : own_WP p e R below s Z EL n0 Q T g := by
  subst hi
  have hal : Z.vm.Alike vm0 := (own_hZ w).alike
  obtain ⟨cl, A, q, S, N, H, G⟩ := V
  have hnar : nar .char x = x := own_narC hx0.1 hx0.2
  refine own_wrote (v := .int x) w ha (Safe.arr hal A (by decide)) (fun locs X e0 hZ hown => ?_) (fun T' h' W w' => k T' h' W (Arv.set A q S N H G (by have := fits_nar_char x; rw [hnar] at this; exact this) W _ rfl hl) w')
  have := stC X hx hZ e0 A (j := j) (x := x) (inb_of S hj) hg hs hd
  rw [hnar] at this
  exact this
end OwnKit
section OwnKit2
variable {p : Program} {l : Launch} {e : Env} {R : Room} {s : State} {m : MethodId} {args : Array Value} {below : List Frame} {meth : Method} {c : Code} {Z : State} {a0 : Array Value} {EL : List (String × Nat)} {own : String} {n0 : Nat} {T : State} {vm0 : Vm} {h : Heap} {cells slots : Nat} {Q : Option Value → Heap → Prop}
/-- a step at the same state -/
theorem own_via {g g' : JFrame} (w : own_Wk p l e R s m args below meth c Z EL own n0 T vm0 h cells slots)
    (st : ∀ locs, Stand p l e R (s.setVm vm0) m args below meth c T locs cells slots → T.heap = h → Z.Warmed39 (s.setVm vm0).vm → (s.setVm vm0).vm.findClass own = some m.cls → ∀ t, Steps p.tables e below (T.setTop g') t → Steps p.tables e below (T.setTop g) t)
    (k : own_WP p e R below s Z EL n0 Q T g') : own_WP p e R below s Z EL n0 Q T g := by
  obtain ⟨locs, k0, X, e0, hS, hk, hZ, hown, r⟩ := w
  exact own_by (st locs X e0 hZ hown) k
theorem own_ldc2 (w : own_Wk p l e R s m args below meth c Z EL own n0 T vm0 h cells slots) (hx : p.tables.exec = Jvm.exec) {index : Nat} {v : Int64} (w1 : (Jvm.Cond.constantLong own index v).before a0 Z = true) {g : JFrame} (hg : g.method = m) (hd : decode c.code g.pc = .ok (.ldc2_w index, 3))
    (k : own_WP p e R below s Z EL n0 Q T { g with pc := g.pc + 3, stack := .long v :: g.stack }) : own_WP p e R below s Z EL n0 Q T g :=
  own_via w (fun locs X e0 hZ hown => X.ldc2Long hx hown (mvT hZ w1) hg hd) k
theorem own_ldcI (w : own_Wk p l e R s m args below meth c Z EL own n0 T vm0 h cells slots) (hx : p.tables.exec = Jvm.exec) {index : Nat} {v : Int32} (w1 : (Jvm.Cond.constant own index v).before a0 Z = true) {g : JFrame} (hg : g.method = m) (hd : decode c.code g.pc = .ok (.ldc index, 2))
    (k : own_WP p e R below s Z EL n0 Q T { g with pc := g.pc + 2, stack := .int v :: g.stack }) : own_WP p e R below s Z EL n0 Q T g :=
  own_via w (fun locs X e0 hZ hown => X.ldcInt hx hown (mvT hZ w1) hg hd) k
theorem own_acmp (w : own_Wk p l e R s m args below meth c Z EL own n0 T vm0 h cells slots) (hx : p.tables.exec = Jvm.exec) {g g' : JFrame} (hg : g.method = m) {cd : ACond} {x y : Value} {rest : List Value} (hs : g.stack = y :: x :: rest) (h1 : x.isRef = true) (h2 : y.isRef = true) {o : Int} {pc0 pc' : Nat} {same : Bool} (hpc : g.pc = pc0)
    (hd : decode c.code g.pc = .ok (.if_acmp cd o, 3)) (hq : decide (x = y) = same) (ho : 0 ≤ (pc0 : Int) + o) (hp : pc' = if acV cd same = true then ((pc0 : Int) + o).toNat else pc0 + 3) (hg' : g' = { g with pc := pc', stack := rest })
    (k : own_WP p e R below s Z EL n0 Q T g') : own_WP p e R below s Z EL n0 Q T g := by
  subst hg'
  exact own_via w (fun locs X e0 hZ hown t kk => Jvm.RoadKit.acmp X hx hg h1 h2 hpc hd hs hq ho hp kk) k
theorem own_caload (w : own_Wk p l e R s m args below meth c Z EL own n0 T vm0 h cells slots) (hx : p.tables.exec = Jvm.exec) {a : Addr} {kA : ClassId} {z j x : Int32} {vs : List Value} {dv : Value} (V : Arv Z h a kA .char z vs dv) (hj : ¬ j < 0 ∧ j < z) {g : JFrame} (hg : g.method = m) {rest : List Value} (hs : g.stack = .int j :: .ref a :: rest) (hd : decode c.code g.pc = .ok (.caload, 1)) (hv : vs.getD j.toNatClampNeg dv = .int x)
    (k : own_WP p e R below s Z EL n0 Q T { g with pc := g.pc + 1, stack := .int x :: rest }) : own_WP p e R below s Z EL n0 Q T g := by
  obtain ⟨cl, A, q, S, N, H, G⟩ := V
  exact own_via w (fun locs X e0 hZ hown t kk => X.caload hx (by rw [e0]; exact A.1) (State.isArrayOf_alike (T := s.setVm vm0) hZ.alike A.2.1) A.2.2 (inb_of S hj) (H.at (inb_of S hj) hv) hg hs hd t kk) k
theorem own_baload (w : own_Wk p l e R s m args below meth c Z EL own n0 T vm0 h cells slots) (hx : p.tables.exec = Jvm.exec) {a : Addr} {kA : ClassId} {z j x : Int32} {vs : List Value} {dv : Value} (V : Arv Z h a kA .byte z vs dv) (hj : ¬ j < 0 ∧ j < z) {g : JFrame} (hg : g.method = m) {rest : List Value} (hs : g.stack = .int j :: .ref a :: rest) (hd : decode c.code g.pc = .ok (.baload, 1)) (hv : vs.getD j.toNatClampNeg dv = .int x)
    (k : own_WP p e R below s Z EL n0 Q T { g with pc := g.pc + 1, stack := .int x :: rest }) : own_WP p e R below s Z EL n0 Q T g := by
  obtain ⟨cl, A, q, S, N, H, G⟩ := V
  exact own_via w (fun locs X e0 hZ hown t kk => X.baloadBytes hx (by rw [e0]; exact A.1) (State.isArrayOf_alike (T := s.setVm vm0) hZ.alike A.2.1) A.2.2 (inb_of S hj) (H.at (inb_of S hj) hv) hg hs hd t kk) k
theorem own_bastore (w : own_Wk p l e R s m args below meth c Z EL own n0 T vm0 h cells slots) (hx : p.tables.exec = Jvm.exec) {a : Addr} {kA : ClassId} {z j x : Int32} {vs : List Value} {dv : Value} (V : Arv Z h a kA .byte z vs dv) (hj : ¬ j < 0 ∧ j < z) (hx0 : x.toInt8.toInt32 = x) (hsf : Safe Z EL vm0 h a) {i : Nat} (hi : j.toNatClampNeg = i) (hl : i < vs.length) (ha : n0 ≤ a)
    {g : JFrame} (hg : g.method = m) {rest : List Value} (hs : g.stack = .int x :: .int j :: .ref a :: rest) (hd : decode c.code g.pc = .ok (.bastore, 1))
    (k : ∀ T' h', Wr h h' a i (.int x) → Arv Z h' a kA .byte z (vs.set i (.int x)) dv → own_Wk p l e R s m args below meth c Z EL own n0 T' vm0 h' cells slots → own_WP p e R below s Z EL n0 Q T' { g with pc := g.pc + 1, stack := rest }) : own_WP p e R below s Z EL n0 Q T g := by
  subst hi
  have hal : Z.vm.Alike vm0 := (own_hZ w).alike
  obtain ⟨cl, A, q, S, N, H, G⟩ := V
  have hnar : nar .byte x = x := hx0
  refine own_wrote (v := .int x) w ha hsf (fun locs X e0 hZ hown => ?_) (fun T' h' W w' => k T' h' W (Arv.set A q S N H G (by have := fits_nar_byte x; rw [hx0] at this; exact this) W _ rfl hl) w')
  have := stB X hx hZ e0 A (j := j) (x := x) (inb_of S hj) hg hs hd
  rw [hnar] at this
  exact this
theorem own_instNull (w : own_Wk p l e R s m args below meth c Z EL own n0 T vm0 h cells slots) (hx : p.tables.exec = Jvm.exec) {index : Nat} {g : JFrame} (hg : g.method = m) {rest : List Value} (hs : g.stack = .null :: rest) (hd : decode c.code g.pc = .ok (.instanceof index, 3))
    (k : own_WP p e R below s Z EL n0 Q T { g with pc := g.pc + 3, stack := .int 0 :: rest }) : own_WP p e R below s Z EL n0 Q T g :=
  own_via w (fun locs X e0 hZ hown t kk => X.instanceofNull hx hg hs hd t kk) k
theorem own_instN (w : own_Wk p l e R s m args below meth c Z EL own n0 T vm0 h cells slots) (hx : p.tables.exec = Jvm.exec) {K C : String} {index : Nat} (w1 : (Jvm.Cond.classLink own index K).before a0 Z = true) {a : Addr} (F : Ins Z s.heap a K false) (E : Exa Z s.heap a C) {g : JFrame} (hg : g.method = m) {rest : List Value} (hs : g.stack = .ref a :: rest) (hd : decode c.code g.pc = .ok (.instanceof index, 3))
    (k : ∀ T', own_Wk p l e R s m args below meth c Z EL own n0 T' vm0 h cells slots → own_WP p e R below s Z EL n0 Q T' { g with pc := g.pc + 3, stack := .int 0 :: rest }) : own_WP p e R below s Z EL n0 Q T g :=
  own_stay (T' := T) w (fun locs X e0 hZ hown => instN X hx hZ hown w1 e0 F E hg hs hd) k
theorem own_notInst {C K : String} {n : Nat} (w : (Jvm.Cond.superclass C "java/lang/Object").before a0 Z = true) (w0 : (Jvm.Cond.noSuperclass "java/lang/Object").before a0 Z = true) (wk : (Jvm.Cond.instantiable K n).before a0 Z = true) (hn : C ≠ K) (hn2 : "java/lang/Object" ≠ K) : ∃ c t, Z.vm.findClass C = some c ∧ Z.vm.findClass K = some t ∧ Z.vm.assignable c t = false := by
  obtain ⟨t, kt, g0, g2, g5, g7, -⟩ := Cond.instantiable_spec wk
  obtain ⟨o, ko, o1, o2, o3, -, -⟩ := Cond.noSuperclass_spec w0
  obtain ⟨c, h0⟩ := found_sup w
  obtain ⟨q, k, kp, h1, h2, h3, h4, h5, -, h7⟩ := Cond.superclass_spec h0 w
  cases o1.symm.trans h1
  have ne := ids_ne h0 g0 hn
  have ne2 := ids_ne o1 g0 hn2
  have nr : ∀ fuel, Z.vm.isSubclassAux fuel o t = false := fun fuel => by
    cases fuel with
    | zero => rfl
    | succ f => simp [Vm.isSubclassAux, ne2, o2, o3]
  have ns : ∀ fuel, Z.vm.isSubclassAux fuel c t = false := fun fuel => by
    cases fuel with
    | zero => rfl
    | succ f => simp [Vm.isSubclassAux, ne, h2, h4, nr]
  have g8 : kt.isInterface = false := by
    cases hh : kt.isInterface with
    | false => rfl
    | true => rw [hh] at g7; simp at g7
  refine ⟨c, t, h0, g0, ?_⟩
  show Z.vm.assignableAux (255 + 1) c t = false
  simp [Vm.assignableAux, ne, h2, g2, h5, g5, g8, Vm.isSubclass, ns]
theorem own_instNo (w : own_Wk p l e R s m args below meth c Z EL own n0 T vm0 h cells slots) (hx : p.tables.exec = Jvm.exec) {K C : String} {index : Nat} (w1 : (Jvm.Cond.classLink own index K).before a0 Z = true) {a : Addr} (E : Exa Z h a C) (F : ∃ c t, Z.vm.findClass C = some c ∧ Z.vm.findClass K = some t ∧ Z.vm.assignable c t = false) {g : JFrame} (hg : g.method = m) {rest : List Value} (hs : g.stack = .ref a :: rest) (hd : decode c.code g.pc = .ok (.instanceof index, 3))
    (k : ∀ T', own_Wk p l e R s m args below meth c Z EL own n0 T' vm0 h cells slots → own_WP p e R below s Z EL n0 Q T' { g with pc := g.pc + 3, stack := .int 0 :: rest }) : own_WP p e R below s Z EL n0 Q T g :=
  own_stay (T' := T) w (fun locs X e0 hZ hown => instNo X hx hZ hown w1 e0 E F hg hs hd) k
end OwnKit2
section OwnNum
theorem own_toInt_nn {k : Int32} (hk : ¬ k < 0) : k.toInt = (k.toBitVec.toNat : Int) ∧ k.toBitVec.toNat < 2147483648 := by
  rw [Int32.lt_iff_toInt_lt] at hk
  have e0 : (0 : Int32).toInt = 0 := rfl
  have hb : k.toInt = k.toBitVec.toInt := rfl
  have hl := k.toBitVec.isLt
  rw [e0, hb, BitVec.toInt_eq_toNat_cond] at hk
  rw [hb, BitVec.toInt_eq_toNat_cond]
  split at hk
  · rename_i q; rw [if_pos q]; exact ⟨rfl, by omega⟩
  · omega
theorem own_of_nat {k : Int32} {n : Nat} (h : k.toBitVec.toNat ≤ n) (hn : n < 2147483648) : k.toInt = (k.toBitVec.toNat : Int) := by
  have hb : k.toInt = k.toBitVec.toInt := rfl
  rw [hb, BitVec.toInt_eq_toNat_cond, if_pos (by omega)]
theorem own_mask (x k : Int32) (hk : ¬ k < 0) : ¬ (x &&& k) < 0 ∧ ¬ k < (x &&& k) := by
  obtain ⟨e1, l1⟩ := own_toInt_nn hk
  have h : (x &&& k).toBitVec.toNat ≤ k.toBitVec.toNat := by
    rw [Int32.toBitVec_and, BitVec.toNat_and]; exact Nat.and_le_right
  have e2 := own_of_nat h l1
  rw [Int32.lt_iff_toInt_lt, Int32.lt_iff_toInt_lt, e1, e2]
  have e0 : (0 : Int32).toInt = 0 := rfl
  omega
theorem own_rng255 {x : Int32} (h : ¬ x < 0 ∧ ¬ (255 : Int32) < x) : ¬ x < 0 ∧ ¬ (65535 : Int32) < x := by
  refine ⟨h.1, ?_⟩
  have h2 := h.2
  rw [Int32.lt_iff_toInt_lt] at h2 ⊢
  have e1 : (255 : Int32).toInt = 255 := rfl
  have e2 : (65535 : Int32).toInt = 65535 := rfl
  omega
theorem own_eqInt {x y : Int32} (h : x.toInt = y.toInt) : x = y := Int32.toInt_inj.mp h
theorem own_cases8 {n : Int32} (h : ¬ n < 0 ∧ ¬ (7 : Int32) < n) : n = 0 ∨ n = 1 ∨ n = 2 ∨ n = 3 ∨ n = 4 ∨ n = 5 ∨ n = 6 ∨ n = 7 := by
  obtain ⟨h0, h1⟩ := h
  rw [Int32.lt_iff_toInt_lt] at h0 h1
  have e0 : (0 : Int32).toInt = 0 := rfl
  have e7 : (7 : Int32).toInt = 7 := rfl
  rw [e0] at h0; rw [e7] at h1
  have q : n.toInt = 0 ∨ n.toInt = 1 ∨ n.toInt = 2 ∨ n.toInt = 3 ∨ n.toInt = 4 ∨ n.toInt = 5 ∨ n.toInt = 6 ∨ n.toInt = 7 := by omega
  rcases q with q | q | q | q | q | q | q | q
  · exact Or.inl (own_eqInt q)
  · exact Or.inr (Or.inl (own_eqInt q))
  · exact Or.inr (Or.inr (Or.inl (own_eqInt q)))
  · exact Or.inr (Or.inr (Or.inr (Or.inl (own_eqInt q))))
  · exact Or.inr (Or.inr (Or.inr (Or.inr (Or.inl (own_eqInt q)))))
  · exact Or.inr (Or.inr (Or.inr (Or.inr (Or.inr (Or.inl (own_eqInt q))))))
  · exact Or.inr (Or.inr (Or.inr (Or.inr (Or.inr (Or.inr (Or.inl (own_eqInt q)))))))
  · exact Or.inr (Or.inr (Or.inr (Or.inr (Or.inr (Or.inr (Or.inr (own_eqInt q)))))))
theorem own_cases4 {n : Int32} (h : ¬ n < 0 ∧ ¬ (3 : Int32) < n) : n = 0 ∨ n = 1 ∨ n = 2 ∨ n = 3 := by
  obtain ⟨h0, h1⟩ := h
  rw [Int32.lt_iff_toInt_lt] at h0 h1
  have e0 : (0 : Int32).toInt = 0 := rfl
  have e7 : (3 : Int32).toInt = 3 := rfl
  rw [e0] at h0; rw [e7] at h1
  have q : n.toInt = 0 ∨ n.toInt = 1 ∨ n.toInt = 2 ∨ n.toInt = 3 := by omega
  rcases q with q | q | q | q
  · exact Or.inl (own_eqInt q)
  · exact Or.inr (Or.inl (own_eqInt q))
  · exact Or.inr (Or.inr (Or.inl (own_eqInt q)))
  · exact Or.inr (Or.inr (Or.inr (own_eqInt q)))
/-- (char) (x & 255) -/
theorem own_ch255 (x : Int32) : (x &&& (255 : Int32)).toUInt32.toUInt16.toUInt32.toInt32 = x &&& 255 := i2c_mask x
theorem own_r255 (x : Int32) : ¬ (x &&& (255 : Int32)) < 0 ∧ ¬ (255 : Int32) < (x &&& (255 : Int32)) := own_mask x 255 (by decide)
theorem own_l255 (x : Int64) : (x &&& (255 : Int64)).toInt32 = x.toInt32 &&& (255 : Int32) := by
  apply Int32.toBitVec_inj.mp
  rw [Int32.toBitVec_and, Int64.toBitVec_toInt32, Int64.toBitVec_toInt32, Int64.toBitVec_and]
  apply BitVec.eq_of_getLsbD_eq
  intro i hi
  simp [BitVec.getLsbD_signExtend, BitVec.getLsbD_and, hi]
theorem own_cl255 (x : Int64) : ¬ ((x &&& (255 : Int64)).toInt32.toUInt32.toUInt16.toUInt32.toInt32) < 0 ∧ ¬ (255 : Int32) < ((x &&& (255 : Int64)).toInt32.toUInt32.toUInt16.toUInt32.toInt32) := by
  rw [own_l255, own_ch255]; exact own_r255 _
theorem own_rem {x k : Int32} (h : ¬ x < 0) (hk : (0 : Int32) < k) : ¬ (x % k) < 0 ∧ (x % k) < k := by
  rw [Int32.lt_iff_toInt_lt] at h hk
  have e0 : (0 : Int32).toInt = 0 := rfl
  rw [e0] at h hk
  have q : (x % k).toInt = x.toInt.tmod k.toInt := Int32.toInt_mod x k
  have q2 : x.toInt.tmod k.toInt = x.toInt % k.toInt := Int.tmod_eq_emod_of_nonneg (by omega)
  have q3 := Int.emod_nonneg x.toInt (show k.toInt ≠ 0 by omega)
  have q4 := Int.emod_lt_of_pos x.toInt hk
  rw [Int32.lt_iff_toInt_lt, Int32.lt_iff_toInt_lt, q, q2, e0]
  omega
theorem own_cases5 {n : Int32} (h : ¬ n < 0 ∧ n < (5 : Int32)) : n = 0 ∨ n = 1 ∨ n = 2 ∨ n = 3 ∨ n = 4 := by
  obtain ⟨h0, h1⟩ := h
  rw [Int32.lt_iff_toInt_lt] at h0 h1
  have e0 : (0 : Int32).toInt = 0 := rfl
  have e7 : (5 : Int32).toInt = 5 := rfl
  rw [e0] at h0; rw [e7] at h1
  have q : n.toInt = 0 ∨ n.toInt = 1 ∨ n.toInt = 2 ∨ n.toInt = 3 ∨ n.toInt = 4 := by omega
  rcases q with q | q | q | q | q
  · exact Or.inl (own_eqInt q)
  · exact Or.inr (Or.inl (own_eqInt q))
  · exact Or.inr (Or.inr (Or.inl (own_eqInt q)))
  · exact Or.inr (Or.inr (Or.inr (Or.inl (own_eqInt q))))
  · exact Or.inr (Or.inr (Or.inr (Or.inr (own_eqInt q))))
theorem own_cases6 {n : Int32} (h : ¬ n < 0 ∧ n < (6 : Int32)) : n = 0 ∨ n = 1 ∨ n = 2 ∨ n = 3 ∨ n = 4 ∨ n = 5 := by
  obtain ⟨h0, h1⟩ := h
  rw [Int32.lt_iff_toInt_lt] at h0 h1
  have e0 : (0 : Int32).toInt = 0 := rfl
  have e7 : (6 : Int32).toInt = 6 := rfl
  rw [e0] at h0; rw [e7] at h1
  have q : n.toInt = 0 ∨ n.toInt = 1 ∨ n.toInt = 2 ∨ n.toInt = 3 ∨ n.toInt = 4 ∨ n.toInt = 5 := by omega
  rcases q with q | q | q | q | q | q
  · exact Or.inl (own_eqInt q)
  · exact Or.inr (Or.inl (own_eqInt q))
  · exact Or.inr (Or.inr (Or.inl (own_eqInt q)))
  · exact Or.inr (Or.inr (Or.inr (Or.inl (own_eqInt q))))
  · exact Or.inr (Or.inr (Or.inr (Or.inr (Or.inl (own_eqInt q)))))
  · exact Or.inr (Or.inr (Or.inr (Or.inr (Or.inr (own_eqInt q)))))
theorem own_lo8lo8 (x : Int32) : x.toInt8.toInt32.toInt8.toInt32 = x.toInt8.toInt32 := by rw [Int8.toInt8_toInt32]
end OwnNum
section OwnIdx
theorem own_oi {a : Nat} (ha : a ≤ 4000) : (Int32.ofNat a).toInt = (a : Int) := Int32.toInt_ofNat_of_lt (by omega)
theorem own_olt {a b : Nat} (ha : a ≤ 4000) (hb : b ≤ 4000) : Int32.ofNat a < Int32.ofNat b ↔ a < b := by
  rw [Int32.lt_iff_toInt_lt, own_oi ha, own_oi hb]; omega
theorem own_oeq {a b : Nat} (ha : a ≤ 4000) (hb : b ≤ 4000) : Int32.ofNat a = Int32.ofNat b ↔ a = b := by
  rw [← Int32.toInt_inj, own_oi ha, own_oi hb]; omega
theorem own_osucc (a : Nat) : Int32.ofNat a + (1 : Int32) = Int32.ofNat (a + 1) := by
  rw [Int32.ofNat_add]; rfl
theorem own_oadd (a b : Nat) : Int32.ofNat a + Int32.ofNat b = Int32.ofNat (a + b) := by rw [Int32.ofNat_add]
theorem own_osub {a b : Nat} (h : b ≤ a) : Int32.ofNat a - Int32.ofNat b = Int32.ofNat (a - b) := by
  have q : Int32.ofNat a = Int32.ofNat (a - b) + Int32.ofNat b := by rw [← Int32.ofNat_add]; congr 1; omega
  rw [q, Int32.add_sub_cancel]
theorem own_o0 {a : Nat} (ha : a ≤ 4000) : ¬ Int32.ofNat a < 0 := by
  rw [Int32.lt_iff_toInt_lt, own_oi ha]
  show ¬ ((a : Int) < 0)
  omega
theorem own_on {a : Nat} (ha : a ≤ 4000) : (Int32.ofNat a).toNatClampNeg = a := Int32.toNatClampNeg_ofNat_of_lt (by omega)
/-- the place of a sign in a list, counted from i; -1 where it isn't there -/
def own_find (ch : Int32) : List Int32 → Nat → Int32
  | [], _ => -1
  | c :: cs, i => if c = ch then Int32.ofNat i else own_find ch cs (i + 1)
theorem own_lo8_inj {x y : Int32} (h0 : ¬ x < 0 ∧ ¬ (255 : Int32) < x) (k0 : ¬ y < 0 ∧ ¬ (255 : Int32) < y) (h : x.toInt8.toInt32 = y.toInt8.toInt32) : x = y := by
  have r : ∀ {z : Int32}, ¬ z < 0 ∧ ¬ (255 : Int32) < z → z.toInt8.toInt32 &&& 255 = z := fun {z} q => by
    obtain ⟨q0, q1⟩ := q
    rw [Int32.lt_iff_toInt_lt] at q0 q1
    have e0 : (0 : Int32).toInt = 0 := rfl
    have e1 : (255 : Int32).toInt = 255 := rfl
    have hz : z = Int32.ofNat z.toInt.toNat := by
      apply Int32.toInt_inj.mp
      rw [Int32.toInt_ofNat_of_lt (by omega)]; omega
    have t : ∀ k : Fin 256, (Int32.ofNat k.val).toInt8.toInt32 &&& 255 = Int32.ofNat k.val := by decide +kernel
    rw [hz]
    exact t ⟨z.toInt.toNat, by omega⟩
  rw [← r h0, ← r k0, h]
theorem own_find_tw (ch : Int32) : ∀ (cs : List Int32) (i : Nat), (own_find ch cs i = -1 ∧ cs.takeWhile (fun c => !decide (c = ch)) = cs) ∨ ∃ j, j < cs.length ∧ own_find ch cs i = Int32.ofNat (i + j) ∧ cs.takeWhile (fun c => !decide (c = ch)) = cs.take j
  | [], i => Or.inl ⟨rfl, rfl⟩
  | c :: cs, i => by
    by_cases q : c = ch
    · exact Or.inr ⟨0, by simp, by rw [own_find, if_pos q]; rfl, by simp [q]⟩
    · rcases own_find_tw ch cs (i + 1) with ⟨h1, h2⟩ | ⟨j, h1, h2, h3⟩
      · exact Or.inl ⟨by rw [own_find, if_neg q]; exact h1, by rw [List.takeWhile_cons, if_pos (by simp [q]), h2]⟩
      · refine Or.inr ⟨j + 1, by simp; omega, ?_, ?_⟩
        · rw [own_find, if_neg q, h2]; congr 1; omega
        · rw [List.takeWhile_cons, if_pos (by simp [q]), h3]; rfl
theorem own_opred {a : Nat} (h : 1 ≤ a) : Int32.ofNat a - (1 : Int32) = Int32.ofNat (a - 1) := own_osub (b := 1) h
theorem own_opred' {a : Nat} (h : 1 ≤ a) : Int32.ofNat a + (-1 : Int32) = Int32.ofNat (a - 1) := by
  rw [← own_opred h, Int32.sub_eq_add_neg]
end OwnIdx
section OwnStr
variable {p : Program} {l : Launch} {e : Env} {R : Room} {s : State} {m : MethodId} {args : Array Value} {below : List Frame} {meth : Method} {c : Code} {Z : State} {a0 : Array Value} {EL : List (String × Nat)} {own : String} {n0 : Nat} {T : State} {vm0 : Vm} {h h' : Heap} {cells slots : Nat} {Q : Option Value → Heap → Prop} {x a b : Addr} {cs ds : List Int32}
/-- a Latin-1 String that spells cs -/
def own_Str (Z : State) (h : Heap) (a : Addr) (cs : List Int32) : Prop :=
  Exa Z h a "java/lang/String" ∧ Fld Z h a "java/lang/String" "coder" "B" (.int 0) ∧ (∃ (t : Addr) (k : ClassId), Fld Z h a "java/lang/String" "value" "[B" (.ref t) ∧ Arv Z h t k .byte (Int32.ofNat cs.length) ((cs.map fun c => c.toInt8.toInt32).map Value.int) (.int 0)) ∧ (∀ c ∈ cs, ¬ c < 0 ∧ ¬ (255 : Int32) < c) ∧ cs.length ≤ 4000
theorem own_Str.ext (E : Ext h h') (F : own_Str Z h a cs) : own_Str Z h' a cs := by
  obtain ⟨h1, h2, ⟨t, k, h3, h4⟩, r⟩ := F
  exact ⟨h1.ext E, h2.ext E, ⟨t, k, h3.ext E, h4.ext E⟩, r⟩
/-- a String stays where an object of another class alone is written -/
theorem own_strKeep {C : String} {n : Nat} {y : Addr} (F : own_Str Z h a cs) (X : Exa Z h y C) (K : Keep h h' [y]) (wi : (Jvm.Cond.instantiable C n).before a0 Z = true) (hn : C ≠ "java/lang/String") : own_Str Z h' a cs := by
  obtain ⟨h1, h2, ⟨t, k, h3, h4⟩, r⟩ := F
  have n1 : a ≠ y := Exa.ne h1 X (Ne.symm hn)
  have n2 : t ≠ y := Ne.symm (X.neArv h4 wi)
  exact ⟨h1.keep K, h2.keep K (ninS n1 nin0), ⟨t, k, h3.keep K (ninS n1 nin0), h4.keep K (ninS n2 nin0)⟩, r⟩
theorem own_Str.exa (F : own_Str Z h a cs) : Exa Z h a "java/lang/String" := F.1
theorem own_Str.lt (F : own_Str Z h a cs) : a < h.size := F.1.lt
theorem own_Str.rng (F : own_Str Z h a cs) : ∀ c ∈ cs, ¬ c < 0 ∧ ¬ (255 : Int32) < c := F.2.2.2.1
theorem own_Str.len (F : own_Str Z h a cs) : cs.length ≤ 4000 := F.2.2.2.2
/-- a String that its constructor hasn't filled yet -/
def own_Raw (Z : State) (h : Heap) (x : Addr) : Prop := Exa Z h x "java/lang/String" ∧ Fld Z h x "java/lang/String" "value" "[B" .null ∧ Fld Z h x "java/lang/String" "coder" "B" (.int 0)
theorem own_Raw.ext (E : Ext h h') (F : own_Raw Z h x) : own_Raw Z h' x := ⟨F.1.ext E, F.2.1.ext E, F.2.2.ext E⟩
theorem own_Raw.wr {sl : Nat} {v : Value} (W : Wr h h' b sl v) (hne : x ≠ b) (F : own_Raw Z h x) : own_Raw Z h' x := ⟨F.1.wr W, F.2.1.other W (Or.inl hne), F.2.2.other W (Or.inl hne)⟩
theorem own_Raw.lt (F : own_Raw Z h x) : x < h.size := F.1.lt
theorem own_Raw.safe (hal : Z.vm.Alike vm0) (F : own_Raw Z h x) : Safe Z EL vm0 h x := fun B => by
  obtain ⟨⟨cell, k, e1, e2, e3, -, -⟩, ⟨cell2, cf, kf, i, f, f1, f2, f3, f4, f5, f6, f7⟩, -⟩ := F
  cases e1.symm.trans f1
  obtain ⟨p, -, u, a, -, q, -, F, rfl | rfl⟩ := B
  · cases (show h[q.sa]? = some q.sC from F.ha).symm.trans e1
    obtain ⟨cS, ⟨⟨s1, s2, s3, ⟨cv, kv, iv, s4, s4'⟩, s5, s6, s7, s8, -⟩, -, -⟩, -⟩ := F
    obtain ⟨kv', z4⟩ := ff_back (U := Wst Z vm0 h) hal s4
    cases f2.symm.trans z4
    rw [s8] at f7
    cases f7
  · cases (show h[q.sd]? = some q.SA from F.hd).symm.trans e1
    obtain ⟨cS, -, -, ff, -⟩ := F
    have ff' : Z.vm.findClass "[B" = some q.SA.cls := by rw [← hal.findClass]; exact ff
    obtain ⟨k1, q1, q2⟩ := Vm.findClass_spec ff'
    obtain ⟨k2, q3, q4⟩ := Vm.findClass_spec e2
    cases q1.symm.trans q3
    exact absurd (q2.symm.trans q4) (by decide)
theorem own_up {x : Int32} (h : ¬ (255 : Int32) < x) : ¬ (65535 : Int32) < x := by
  rw [Int32.lt_iff_toInt_lt] at h ⊢
  have e1 : (255 : Int32).toInt = 255 := rfl
  have e2 : (65535 : Int32).toInt = 65535 := rfl
  omega
theorem own_rng (F : ∀ c ∈ cs, ¬ c < 0 ∧ ¬ (255 : Int32) < c) : ∀ c ∈ cs, ¬ c < 0 ∧ ¬ (65535 : Int32) < c := fun c hc => ⟨(F c hc).1, own_up (F c hc).2⟩
theorem own_nneg {n : Nat} (hn : n ≤ 4000) : ¬ Int32.ofNat n < 0 := by
  rw [Int32.lt_iff_toInt_lt, Int32.toInt_ofNat_of_lt (by omega)]
  show ¬ ((n : Int) < 0)
  omega
theorem own_nat {n : Nat} (hn : n ≤ 4000) : (Int32.ofNat n).toNatClampNeg = n := Int32.toNatClampNeg_ofNat_of_lt (by omega)
/-- compact strings are on; the formatter is a reference: at the start -/
def own_SC (Z : State) : Prop := ∃ z : Int32, Sta Z Z.heap "java/lang/String" "COMPACT_STRINGS" "Z" (.int z) ∧ ¬ z = 0
def own_SF (Z : State) : Prop := ∃ fm : Value, Sta Z Z.heap "jdk/internal/util/Preconditions" "SIOOBE_FORMATTER" "Ljava/util/function/BiFunction;" fm ∧ fm.isRef = true
theorem own_ldc (w : own_Wk p l e R s m args below meth c Z EL own n0 T vm0 h cells slots) (hx : p.tables.exec = Jvm.exec) {text : String} {index : Nat} (w1 : (Jvm.Cond.stringLink own index text).before a0 Z = true) (wS : ∀ d ∈ Bundle.stringAtoms, d.before a0 Z = true) (hEL : EW Z a0 EL) (hmem : (own, index) ∈ EL) (cs : List Int32)
    (ht : (∀ c ∈ text.toList, c.toNat < 256) ∧ text.toList.map (fun c => Value.int (Jvm.Lit.byteI c.toNat.toUInt16)) = (cs.map fun c => c.toInt8.toInt32).map Value.int) (hcs : ∀ c ∈ cs, ¬ c < 0 ∧ ¬ (255 : Int32) < c) (hlen : cs.length ≤ 4000) {g : JFrame} (hg : g.method = m) (hd : decode c.code g.pc = .ok (.ldc index, 2)) {n : Nat} (hn : 4 * text.toList.length ≤ n) (hbig : n ≤ 536870912) (hc : cells + 2 ≤ R.cells) (hl : slots + (n + 4) ≤ R.slots)
    (k : ∀ (a : Addr) (T' : State) (vm1 : Vm) (h' : Heap), own_Str Z h' a cs → Ext h h' → CHr Z EL vm0 h vm1 h' → own_Wk p l e R s m args below meth c Z EL own n0 T' vm1 h' (cells + 2) (slots + (n + 4)) → own_WP p e R below s Z EL n0 Q T' { g with pc := g.pc + 2, stack := .ref a :: g.stack }) : own_WP p e R below s Z EL n0 Q T g := by
  obtain ⟨locs, k0, X, e0, hS, hk, hZ, hown, N, O, C⟩ := w
  obtain ⟨a, T', h', k1, b, kk, X', e1, E, hS', hk', hZ', hown', x1, x2, x3, x4, -, -, C', -, -, st⟩ := ldcCH X hx hZ hown w1 wS e0 hS hk hEL hmem C.1 (z := Int32.ofNat cs.length) ht (own_nneg hlen) (by rw [own_nat hlen]; simp) hg hd hn hbig hc hl
  exact own_by st (k a T' T'.vm h' ⟨x1, x2, ⟨b, kk, x3, x4⟩, hcs, hlen⟩ E C' ⟨locs, k1, X', e1, hS', hk', hZ', hown', N, O.ext E, C.trans C'⟩)
theorem own_alen (w : own_Wk p l e R s m args below meth c Z EL own n0 T vm0 h cells slots) (hx : p.tables.exec = Jvm.exec) {kA : ClassId} {ty : FieldType} {z : Int32} {vs : List Value} {dv : Value} (V : Arv Z h a kA ty z vs dv) {g : JFrame} (hg : g.method = m) {rest : List Value} (hs : g.stack = .ref a :: rest) (hd : decode c.code g.pc = .ok (.arraylength, 1))
    (k : own_WP p e R below s Z EL n0 Q T { g with pc := g.pc + 1, stack := .int z :: rest }) : own_WP p e R below s Z EL n0 Q T g := by
  obtain ⟨locs, k0, X, e0, hS, hk, hZ, hown, N, O, C⟩ := w
  obtain ⟨cl, A, q, S, N, H, G⟩ := V
  refine own_by (fun t kk => X.arraylength hx (by rw [e0]; exact A.1) (State.isArrayOf_alike (T := s.setVm vm0) hZ.alike A.2.1) hg hs hd _ ?_) k
  rw [len_of S N]
  exact kk
theorem own_payNew {kC : ClassId} {d : Value} {W kI : Nat} (w : own_Wk p l e R s m args below meth c Z EL own n0 T vm0 h cells slots) (hEL : EW Z a0 EL) (hws : ∀ d ∈ StrChars.Road.words, d.before a0 Z = true) (wi : (Jvm.Cond.instantiable "java/lang/String" kI).before a0 Z = true) (SC : own_SC Z) (F : own_Raw Z h x) (K : Arv Z h b kC .char (Int32.ofNat cs.length) (cs.map Value.int) d) (hx0 : n0 ≤ x)
    (h0 : 0 < cs.length) (hl : cs.length ≤ 4000) (hp : ∀ c ∈ cs, ¬ c < 0 ∧ ¬ (255 : Int32) < c) (hfr : 4 ≤ R.frames) (hlo : W + 65 ≤ R.locals) : own_Pay l R p e below s args (⟨"java/lang/String", "<init>", "([C)V"⟩ : MethodName) 3 W Z EL n0 vm0 h #[.ref x, .ref b] 1 cs.length (fun v h' => v = none ∧ Keep h h' [x] ∧ own_Str Z h' x cs) := by
  obtain ⟨z, S, hz⟩ := SC
  refine own_payBack (ws := [x]) (Q0 := StrChars.Road.QV Z x (Int32.ofNat cs.length) (cs.map fun c => c.toInt8.toInt32) h n0) w hEL (StrChars.Road.backV (s := s.setVm vm0) (own_hZ w) hws wi hx0 (own_n0 w) F.1 F.2.1 F.2.2 K (S.ext (own_old w).2) hz rfl rfl h0 hl hp rfl hfr hlo) (fun v h' L q => ?_) (allS hx0 all0) (sfS (F.safe (own_hZ w).alike) sf0)
  obtain ⟨q1, q2, q3, q4, q5, t, kb, q6, q7, q8, q9, q10⟩ := q
  exact ⟨⟨q1, q3, q4, q5, ⟨t, kb, q9, q10⟩, hp, hl⟩, q2, q3⟩
/-- a Back that leaves the heap as it was -/
theorem own_payPure {y : MethodName} {len W : Nat} {as' : Array Value} {P : Option Value → Prop} (w : own_Wk p l e R s m args below meth c Z EL own n0 T vm0 h cells slots) (hEL : EW Z a0 EL)
    (K : Back l R p e below (s.setVm vm0) args y len W (fun A a => a = as' ∧ A.U.heap = h ∧ A.cells + 0 ≤ R.cells ∧ A.slots + 0 ≤ R.slots) (fun A _ v B => ∃ L, (P v ∧ L = [] ∧ B.U.heap = h) ∧ B.locs = A.locs ++ L ∧ B.cells = A.cells + 0 ∧ B.slots = A.slots + 0)) :
    own_Pay l R p e below s args y len W Z EL n0 vm0 h as' 0 0 (fun v h' => P v ∧ h = h') :=
  own_payBack (ws := []) (Q0 := fun v h' L => P v ∧ L = [] ∧ h' = h) w hEL K (fun v h' L q => ⟨⟨q.1, q.2.2.symm⟩, by rw [q.2.1]; exact Fr.nil _, by rw [q.2.2]; exact Keep.refl _ _⟩) all0 sf0
end OwnStr
section OwnLen
variable {p : Program} {l : Launch} {e : Env} {R : Room} {s : State} {m : MethodId} {args : Array Value} {below : List Frame} {meth : Method} {c : Code} {Z : State} {a0 : Array Value} {EL : List (String × Nat)} {own : String} {n0 : Nat} {T : State} {vm0 : Vm} {h h' : Heap} {cells slots : Nat} {x a b : Addr} {cs ds : List Int32}
theorem own_payLen {len W kI : Nat} (w : own_Wk p l e R s m args below meth c Z EL own n0 T vm0 h cells slots) (hEL : EW Z a0 EL) (hws : ∀ d ∈ StrChars.Road.wordsLen, d.before a0 Z = true) (wi : (Jvm.Cond.instantiable "java/lang/String" kI).before a0 Z = true) (SC : own_SC Z) (F : own_Str Z h x cs) (hfr : 2 ≤ R.frames) (hlo : W + 25 ≤ R.locals) :
    own_Pay l R p e below s args (⟨"java/lang/String", "length", "()I"⟩ : MethodName) len W Z EL n0 vm0 h #[.ref x] 0 0 (fun v h' => v = some (.int (Int32.ofNat cs.length)) ∧ h = h') := by
  obtain ⟨z, S, hz⟩ := SC
  obtain ⟨f1, f2, ⟨t, k, f3, f4⟩, f5, f6⟩ := F
  exact own_payPure (P := fun v => v = some (.int (Int32.ofNat cs.length))) w hEL (StrChars.Road.lenW (s := s.setVm vm0) (own_hZ w) hws wi f1 f3 f2 f4 (StrChars.Road.codOf rfl fun c hc => (f5 c hc).2) (own_rng f5) (S.ext (own_old w).2) hz f6 hfr hlo)
end OwnLen
section OwnChN
variable {p : Program} {l : Launch} {e : Env} {R : Room} {s : State} {m : MethodId} {args : Array Value} {below : List Frame} {meth : Method} {c : Code} {Z : State} {a0 : Array Value} {EL : List (String × Nat)} {own : String} {n0 : Nat} {T : State} {vm0 : Vm} {h h' : Heap} {cells slots : Nat} {x a b : Addr} {cs ds : List Int32}
theorem own_payChN {len W kI i : Nat} {j : Int32} (w : own_Wk p l e R s m args below meth c Z EL own n0 T vm0 h cells slots) (hEL : EW Z a0 EL) (hws : ∀ d ∈ StrChars.Road.wordsChN, d.before a0 Z = true) (wi : (Jvm.Cond.instantiable "java/lang/String" kI).before a0 Z = true) (SC : own_SC Z) (SF : own_SF Z) (F : own_Str Z h x cs) (hi : i < cs.length) (hj : j = Int32.ofNat i) (hfr : 4 ≤ R.frames) (hlo : W + 53 ≤ R.locals) :
    own_Pay l R p e below s args (⟨"java/lang/String", "charAt", "(I)C"⟩ : MethodName) len W Z EL n0 vm0 h #[.ref x, .int j] 0 0 (fun v h' => v = some (.int (cs.getD i 0)) ∧ h = h') := by
  obtain ⟨z, S, hz⟩ := SC
  obtain ⟨fm, S2, hf⟩ := SF
  obtain ⟨f1, f2, ⟨t, k, f3, f4⟩, f5, f6⟩ := F
  exact own_payPure (P := fun v => v = some (.int (cs.getD i 0))) w hEL (StrChars.Road.chN (s := s.setVm vm0) (own_hZ w) hws wi f1 f3 f2 f4 (StrChars.Road.codOf rfl fun c hc => (f5 c hc).2) (own_rng f5) (S.ext (own_old w).2) hz (S2.ext (own_old w).2) hf f6 hi hj hfr hlo)
end OwnChN
section OwnEmp
variable {p : Program} {l : Launch} {e : Env} {R : Room} {s : State} {m : MethodId} {args : Array Value} {below : List Frame} {meth : Method} {c : Code} {Z : State} {a0 : Array Value} {EL : List (String × Nat)} {own : String} {n0 : Nat} {T : State} {vm0 : Vm} {h h' : Heap} {cells slots : Nat} {x a b : Addr} {cs ds : List Int32}
theorem own_payEmp {len W kI : Nat} (w : own_Wk p l e R s m args below meth c Z EL own n0 T vm0 h cells slots) (hEL : EW Z a0 EL) (hws : ∀ d ∈ StrChars.Road.wordsEmp, d.before a0 Z = true) (wi : (Jvm.Cond.instantiable "java/lang/String" kI).before a0 Z = true) (F : own_Str Z h x cs) (hfr : 1 ≤ R.frames) (hlo : W + 12 ≤ R.locals) :
    own_Pay l R p e below s args (⟨"java/lang/String", "isEmpty", "()Z"⟩ : MethodName) len W Z EL n0 vm0 h #[.ref x] 0 0 (fun v h' => v = some (.int (if cs.length = 0 then 1 else 0)) ∧ h = h') := by
  obtain ⟨f1, f2, ⟨t, k, f3, f4⟩, f5, f6⟩ := F
  exact own_payPure (P := fun v => v = some (.int (if cs.length = 0 then 1 else 0))) w hEL (StrChars.Road.empW (s := s.setVm vm0) (own_hZ w) hws wi f1 f3 f2 f4 (StrChars.Road.codOf rfl fun c hc => (f5 c hc).2) (own_rng f5) f6 hfr hlo)
end OwnEmp
section OwnCp
variable {p : Program} {l : Launch} {e : Env} {R : Room} {s : State} {m : MethodId} {args : Array Value} {below : List Frame} {meth : Method} {c : Code} {Z : State} {a0 : Array Value} {EL : List (String × Nat)} {own : String} {n0 : Nat} {T : State} {vm0 : Vm} {h : Heap} {cells slots : Nat} {Q : Option Value → Heap → Prop}
theorem own_cpA (w : own_Wk p l e R s m args below meth c Z EL own n0 T vm0 h cells slots) (hx : p.tables.exec = Jvm.exec) {index : Nat} (w1 : (Jvm.Cond.methodLink own index Jvm.Stand.acN).before a0 Z = true) (w2 : (Jvm.Cond.native Jvm.Stand.acN).before a0 Z = true) (w3 : (Jvm.Cond.static Jvm.Stand.acN).before a0 Z = true) (w4 : (Jvm.Cond.initialized "java/lang/System").before a0 Z = true)
    {a b : Addr} {k k' : ClassId} {ty : FieldType} {z z' sp dp nn : Int32} {vs vd : List Value} {dv dd : Value} (A : Arv Z h a k ty z vs dv) (B : Arv Z h b k' ty z' vd dd) (hty : refKind ty = false) (h1 : ¬ sp < 0) (h2 : ¬ dp < 0) (h3 : ¬ nn < 0) (h4 : sp.toNatClampNeg + nn.toNatClampNeg ≤ z.toNatClampNeg) (h5 : dp.toNatClampNeg + nn.toNatClampNeg ≤ z'.toNatClampNeg)
    (hl : dp.toNatClampNeg + nn.toNatClampNeg ≤ vd.length) (ge : n0 ≤ b) (hsf : Safe Z EL vm0 h b) {g : JFrame} (hg : g.method = m) (hsize : g.locals.size = c.maxLocals) {rest : List Value} (hs : g.stack = .int nn :: .int dp :: .ref b :: .int sp :: .ref a :: rest) (hd : decode c.code g.pc = .ok (.invokestatic index, 3))
    (hf : 1 ≤ R.frames) {W : Nat} (hW : 2 * g.monitorRoom + (rest.map fun v => v.category).sum ≤ W) (hlo : W + (nativeFrameWords "java/lang/System" "arraycopy" 5 + 11) ≤ R.locals)
    (kk : ∀ T' h', Keep h h' [b] → Arv Z h' b k' ty z' (vd.take dp.toNatClampNeg ++ ((List.range nn.toNatClampNeg).map fun i => vs.getD (sp.toNatClampNeg + i) dv) ++ vd.drop (dp.toNatClampNeg + nn.toNatClampNeg)) dd → own_Wk p l e R s m args below meth c Z EL own n0 T' vm0 h' cells slots → own_WP p e R below s Z EL n0 Q T' { g with pc := g.pc + 3, stack := rest }) : own_WP p e R below s Z EL n0 Q T g := by
  obtain ⟨locs, k0, X, e0, hS, hk, hZ, hown, N, O, C⟩ := w
  obtain ⟨T', h', L, X', e1, N', K, V, st⟩ := cpA X hx (Z := Z) hZ hown w1 w2 w3 w4 e0 A B (Or.inl ⟨rfl, hty⟩) h1 h2 h3 h4 h5 rfl hl N ge hg hsize hs hd hf hW hlo
  exact own_by st (kk T' h' K V ⟨L, k0, X', e1, hS, Nat.le_trans hk K.1, hZ, hown, N', O.keep K (allS ge all0), C.trans (CHr.keep K (sfS hsf sf0) C.1)⟩)
theorem own_slice (f : Int32 → Int32) (d : Value) (cs : List Int32) {b n : Nat} (h : b + n ≤ cs.length) : (List.range n).map (fun i => ((cs.map f).map Value.int).getD (b + i) d) = (((cs.drop b).take n).map f).map Value.int := by
  apply List.ext_getElem
  · simp; omega
  · intro i h1 h2
    simp at h1
    simp [show b + i < cs.length by omega]
end OwnCp
section OwnSup
variable {p : Program} {l : Launch} {e : Env} {R : Room} {s : State} {m : MethodId} {args : Array Value} {below : List Frame} {meth : Method} {c : Code} {Z : State} {a0 : Array Value} {EL : List (String × Nat)} {own : String} {n0 : Nat} {T : State} {vm0 : Vm} {h : Heap} {cells slots : Nat} {Q : Option Value → Heap → Prop}
/-- a method that has a body is declared -/
theorem own_decl {y : MethodName} {bytes : ByteArray} {maxL : Nat} {ret : Option FieldType} (w1 : (Jvm.Cond.instanceMethod y).before a0 Z = true) (w2 : (Jvm.Cond.code y bytes maxL ret).before a0 Z = true) : (Jvm.Cond.declares y).before a0 Z = true := by
  obtain ⟨mk, meth, hn, hm, hs, -⟩ := Cond.instanceMethod_spec w1
  obtain ⟨m2, c, q1, -, -, -, -, -, -, hsig⟩ := Cond.code_spec hn w2
  cases hm.symm.trans q1
  simp only [Cond.before, Cond.holds, Cond.value, hn, hm, Option.bind_some, Option.map_some]
  simp [hs, hsig]
theorem own_nf {y y2 : MethodName} {C : String} {Z : State} {a0 : Array Value} (hc : y.cls = y2.cls) (hsel : (Jvm.Cond.selects C y2 y2).before a0 Z = true) : NotFace Z y := fun r0 h0 => by
  obtain ⟨c2, r2, m2, q1, q2, q3, q4, kP, hkP, hkPi⟩ := Cond.selects_spec hsel
  have e1 := findClass_of_methodNamed h0
  have e2 := findClass_of_methodNamed q3
  rw [hc] at e1
  have e3 : r0.cls = m2.cls := Option.some.inj (e1.symm.trans e2)
  exact ⟨kP, by rw [e3]; exact hkP, hkPi⟩
theorem own_same {y y2 : MethodName} {C : String} (hc : y.cls = y2.cls) (hsel : (Jvm.Cond.selects C y2 y2).before a0 Z = true) (w3 : (Jvm.Cond.instanceMethod y).before a0 Z = true) (hy : y.cls ≠ "java/lang/invoke/MethodHandle" ∧ y.cls ≠ "java/lang/invoke/VarHandle") : (Jvm.Cond.sameMethod y.cls y.cls y.name y.desc).before a0 Z = true := by
  obtain ⟨mk, meth, hn, -⟩ := Cond.instanceMethod_spec w3
  obtain ⟨kr, h1, h2⟩ := own_nf hc hsel mk hn
  have hf := State.methodFound?_of_named hn hy
  have hcl := findClass_of_methodNamed hn
  have hn' : Z.methodNamed? ⟨y.cls, y.name, y.desc⟩ = some mk := hn
  simp only [Cond.before, Cond.holds, Cond.value, hcl, hf, hn']
  simp [h1, h2]
theorem own_callU (w : own_Wk p l e R s m args below meth c Z EL own n0 T vm0 h cells slots) (hx : p.tables.exec = Jvm.exec) {index : Nat} {y : MethodName} {bytes : ByteArray} {maxL : Nat} {ret : Option FieldType} {Kc : String}
    (w1 : (Jvm.Cond.methodLink own index y).before a0 Z = true) (w2 : (Jvm.Cond.sameMethod y.cls y.cls y.name y.desc).before a0 Z = true) (w3 : (Jvm.Cond.instanceMethod y).before a0 Z = true) (w4 : (Jvm.Cond.superclass own y.cls).before a0 Z = true) (wc : (Jvm.Cond.code y bytes maxL ret).before a0 Z = true) (hn : y.name ≠ "<init>")
    {W kc ks : Nat} {a : Addr} {argsL rest : List Value} {Q' : Option Value → Heap → Prop} (K : own_Pay l R p e below s args y 3 W Z EL n0 vm0 h (.ref a :: argsL).toArray kc ks Q') (F : Ins Z h a Kc true) {g : JFrame} (hg : g.method = m) (hsize : g.locals.size = c.maxLocals)
    (hlen : ∀ sig, parseMethodDescriptor y.desc = some sig → argsL.length = sig.parameters.length) (hstack : g.stack = argsL.reverse ++ .ref a :: rest) (hW : 2 * g.monitorRoom + (rest.map fun v => v.category).sum ≤ W) (hd : decode c.code g.pc = .ok (.invokespecial index, 3)) (hc : cells + kc ≤ R.cells) (hs : slots + ks ≤ R.slots)
    (k : ∀ (v : Option Value) (T' : State) (vm1 : Vm) (h' : Heap), Q' v h' → CHr Z EL vm0 h vm1 h' → own_Wk p l e R s m args below meth c Z EL own n0 T' vm1 h' (cells + kc) (slots + ks) → own_WP p e R below s Z EL n0 Q T' { g with pc := g.pc + 3, stack := v.toList ++ rest }) : own_WP p e R below s Z EL n0 Q T g := by
  obtain ⟨locs, k0, X, e0, hS, hk, hZ, hown, N, O, C⟩ := w
  obtain ⟨v, vm₁, ⟨U, L', c', s'⟩, hW1, X', hS', hg', ⟨L, ⟨q, N', O'⟩, e1, e2, e3, C'⟩, st⟩ := Jvm.RoadKit.superBackS X hx (Z := Z) hZ hown w1 w2 w3 w4 hn K e0 F hg hsize wc hlen hstack hW hd (fun _ _ => ⟨rfl, e0, hc, hs⟩)
  dsimp only [Pt.U, Pt.locs, Pt.cells, Pt.slots] at X' hS' hg' q O' e1 e2 e3 C' st
  subst e1 e2 e3
  rw [e0] at hg'
  exact own_by (fun t => st.trans) (k v U U.vm U.heap q C' ⟨_, U.heap.size, X', rfl, hS.trans hS' (Nat.le_trans hk hg'), Nat.le_refl _, State.Warmed39.trans (t := s.setVm vm0) hZ hS'.1, (hS'.1.alike.findClass _ _).trans hown, N.app N', O', C.trans C'⟩)
/-- each String constant of EL has B chars at most -/
def own_ELb (Z : State) (a0 : Array Value) (EL : List (String × Nat)) (B : Nat) : Prop := ∀ p ∈ EL, ∃ text : String, (Jvm.Cond.stringLink p.1 p.2 text).before a0 Z = true ∧ (∀ c ∈ text.toList, c.toNat < 256) ∧ text.toList.length ≤ B
theorem own_unitsN {u : Array UInt16} {text : String} (hu : utf16ToString? u = some text) (ht : ∀ c ∈ text.toList, c.toNat < 256) : (stringBytes u).size = text.toList.length := by
  have e := units_of_text hu ht
  have hl : u.all (· < 256) = true := lat_of_text hu ht
  have es : stringBytes u = u.map fun u => byteValue u.toUInt8 := if_pos hl
  rw [es, Array.size_map, ← Array.length_toList, e, List.length_map]
/-- an array of bytes longer than every String constant is none of theirs -/
theorem own_safeN {vm : Vm} {a : Addr} {B : Nat} {k : ClassId} {z : Int32} {vs : List Value} {dv : Value} (hZ : Z.Warmed39 vm) (hb : own_ELb Z a0 EL B) (V : Arv Z h a k .byte z vs dv) (hz : B < z.toNatClampNeg) : Safe Z EL vm h a := fun Bk' => by
  have hal : Z.vm.Alike vm := hZ.alike
  obtain ⟨cl, A, q0, S, -⟩ := V
  obtain ⟨A1, ⟨-, kA, hkA, compA, hkindA⟩, -⟩ := A
  obtain ⟨kA', hkA', ekA⟩ := hal.2.2 _ _ hkA
  obtain ⟨p, hp, u, b, ⟨c, kc, cf, i, hc', hk', hcf', hpool, hu, -⟩, q, -, F, rfl | rfl⟩ := Bk'
  · cases (show h[q.sa]? = some q.sC from F.ha).symm.trans A1
    obtain ⟨cS, ⟨-, -, e⟩, ⟨kS, g1, g2, -⟩, -⟩ := F
    subst e
    cases (show vm.classes[q.sC.cls]? = some kS from g1).symm.trans hkA'
    rw [ekA] at g2
    have := hkindA.symm.trans g2
    cases this
  · cases (show h[q.sd]? = some q.SA from F.hd).symm.trans A1
    obtain ⟨cS, -, -, -, hbs⟩ := F
    obtain ⟨text, wl, ht, hB⟩ := hb p hp
    have wl' : (Jvm.Cond.stringLink p.1 p.2 text).before a0 (Wst Z vm h) = true := mvS (s := { Z with heap := h }) hZ wl
    obtain ⟨k1, cf1, i1, u1, hk1, hcf1, hp1, hu1, -, htext, -⟩ := Cond.stringLink_spec (s := Wst Z vm h) hc' wl'
    cases hk'.symm.trans hk1
    cases hcf'.symm.trans hcf1
    cases hpool.symm.trans hp1
    cases hu.symm.trans hu1
    have e := own_unitsN htext ht
    rw [← hbs, S] at e
    omega
theorem own_shl0 (x : Int32) : x <<< ((0 : Int32) &&& 31) = x := by
  have e : ((0 : Int32) &&& 31) = 0 := by decide
  rw [e]
  apply Int32.toBitVec_inj.mp
  rw [Int32.toBitVec_shiftLeft]
  have e1 : ((0 : Int32).toBitVec.smod 32) = 0#32 := by decide
  rw [e1, BitVec.shiftLeft_eq']
  exact BitVec.shiftLeft_zero _
theorem own_shr0 (x : Int32) : x >>> ((0 : Int32) &&& 31) = x := by
  have e : ((0 : Int32) &&& 31) = 0 := by decide
  rw [e]
  apply Int32.toBitVec_inj.mp
  rw [Int32.toBitVec_shiftRight]
  have e1 : ((0 : Int32).toBitVec.smod 32) = 0#32 := by decide
  rw [e1, BitVec.sshiftRight_eq']
  exact BitVec.sshiftRight_zero
theorem own_sub16 {m : Nat} (hm : m ≤ 16) : ¬ (0 : Int32) < Int32.ofNat m - 16 := by
  have t : ∀ k : Fin 17, ¬ (0 : Int32) < Int32.ofNat k.val - 16 := by decide
  exact t ⟨m, by omega⟩
/-- what arraycopy leaves, of lists of chars -/
theorem own_paste (f : Int32 → Int32) (d : Value) (ds cs : List Int32) (n : Nat) :
    ((ds.map f).map Value.int).take n ++ (List.range cs.length).map (fun i => ((cs.map f).map Value.int).getD (0 + i) d) ++ ((ds.map f).map Value.int).drop (n + cs.length) = ((ds.take n ++ cs ++ ds.drop (n + cs.length)).map f).map Value.int := by
  rw [own_slice f d cs (b := 0) (n := cs.length) (by omega)]
  simp [List.map_take, List.map_drop]
theorem own_pasteTake {ds cs : List Int32} {n : Nat} (h : n ≤ ds.length) : (ds.take n ++ cs ++ ds.drop (n + cs.length)).take (n + cs.length) = ds.take n ++ cs := by
  have e : (ds.take n ++ cs).length = n + cs.length := by simp; omega
  rw [← e, List.take_left']
  rfl
theorem own_pasteLen {ds cs : List Int32} {n : Nat} (h : n + cs.length ≤ ds.length) : (ds.take n ++ cs ++ ds.drop (n + cs.length)).length = ds.length := by
  simp; omega
theorem own_cases3 {n : Int32} (h : ¬ n < 0 ∧ n < (3 : Int32)) : n = 0 ∨ n = 1 ∨ n = 2 := by
  obtain ⟨h0, h1⟩ := h
  rw [Int32.lt_iff_toInt_lt] at h0 h1
  have e0 : (0 : Int32).toInt = 0 := rfl
  have e7 : (3 : Int32).toInt = 3 := rfl
  rw [e0] at h0; rw [e7] at h1
  have q : n.toInt = 0 ∨ n.toInt = 1 ∨ n.toInt = 2 := by omega
  rcases q with q | q | q
  · exact Or.inl (own_eqInt q)
  · exact Or.inr (Or.inl (own_eqInt q))
  · exact Or.inr (Or.inr (own_eqInt q))
theorem own_cases2 {n : Int32} (h : ¬ n < 0 ∧ ¬ (1 : Int32) < n) : n = 0 ∨ n = 1 ∨ n = 2 := by
  obtain ⟨h0, h1⟩ := h
  rw [Int32.lt_iff_toInt_lt] at h0 h1
  have e0 : (0 : Int32).toInt = 0 := rfl
  have e7 : (1 : Int32).toInt = 1 := rfl
  rw [e0] at h0; rw [e7] at h1
  have q : n.toInt = 0 ∨ n.toInt = 1 := by omega
  rcases q with q | q
  · exact Or.inl (own_eqInt q)
  · exact Or.inr (Or.inl (own_eqInt q))
end OwnSup
theorem own_nc : (0 : Int32).toNatClampNeg = 0 ∧ (1 : Int32).toNatClampNeg = 1 ∧ (2 : Int32).toNatClampNeg = 2 ∧ (3 : Int32).toNatClampNeg = 3 ∧ (4 : Int32).toNatClampNeg = 4 ∧ (5 : Int32).toNatClampNeg = 5 ∧ (6 : Int32).toNatClampNeg = 6 ∧ (7 : Int32).toNatClampNeg = 7 := by decide
theorem own_EL {Z : State} {a0 : Array Value} (hw : ∀ d ∈ tables_1, d.before a0 Z = true) : EW Z a0 consts_1 := (EW.cons (hw _ (List.mem_of_getElem? (i := 34) rfl)) (by decide) (EW.cons (hw _ (List.mem_of_getElem? (i := 132) rfl)) (by decide) EW.nil))
theorem own_txt_0 : (∀ c ∈ "".toList, c.toNat < 256) ∧ "".toList.map (fun c => Value.int (Jvm.Lit.byteI c.toNat.toUInt16)) = (([] : List Int32).map fun c => c.toInt8.toInt32).map Value.int := ⟨by decide, by decide⟩
theorem own_rng_0 : ∀ c ∈ ([] : List Int32), ¬ c < 0 ∧ ¬ (255 : Int32) < c := by decide
theorem own_len_0 : 4 * "".toList.length ≤ 0 := by decide
theorem own_txt_1 : (∀ c ∈ ":".toList, c.toNat < 256) ∧ ":".toList.map (fun c => Value.int (Jvm.Lit.byteI c.toNat.toUInt16)) = (([58] : List Int32).map fun c => c.toInt8.toInt32).map Value.int := ⟨by decide, by decide⟩
theorem own_rng_1 : ∀ c ∈ ([58] : List Int32), ¬ c < 0 ∧ ¬ (255 : Int32) < c := by decide
theorem own_len_1 : 4 * ":".toList.length ≤ 4 := by decide
theorem own_wS {Z : State} {a0 : Array Value} (hw : ∀ d ∈ tables_1, d.before a0 Z = true) : ∀ d ∈ Bundle.stringAtoms, d.before a0 Z = true := fun d hd => hw d ((by decide +kernel : ∀ d ∈ Bundle.stringAtoms, d ∈ tables_1) d hd)
theorem own_wNew {Z : State} {a0 : Array Value} (hw : ∀ d ∈ tables_1, d.before a0 Z = true) : ∀ d ∈ StrChars.Road.words, d.before a0 Z = true := fun d hd => hw d ((by decide +kernel : ∀ d ∈ StrChars.Road.words, d ∈ tables_1) d hd)
theorem own_wLen {Z : State} {a0 : Array Value} (hw : ∀ d ∈ tables_1, d.before a0 Z = true) : ∀ d ∈ StrChars.Road.wordsLen, d.before a0 Z = true := fun d hd => hw d ((by decide +kernel : ∀ d ∈ StrChars.Road.wordsLen, d ∈ tables_1) d hd)
theorem own_wChN {Z : State} {a0 : Array Value} (hw : ∀ d ∈ tables_1, d.before a0 Z = true) : ∀ d ∈ StrChars.Road.wordsChN, d.before a0 Z = true := fun d hd => hw d ((by decide +kernel : ∀ d ∈ StrChars.Road.wordsChN, d ∈ tables_1) d hd)
theorem own_wEmp {Z : State} {a0 : Array Value} (hw : ∀ d ∈ tables_1, d.before a0 Z = true) : ∀ d ∈ StrChars.Road.wordsEmp, d.before a0 Z = true := fun d hd => hw d ((by decide +kernel : ∀ d ∈ StrChars.Road.wordsEmp, d ∈ tables_1) d hd)
theorem d42_0 : decode jdk_42_method_151_code 0 = .ok (.aload_n 0, 1) := by decide +kernel
theorem d42_1 : decode jdk_42_method_151_code 1 = .ok (.invokespecial 1, 3) := by decide +kernel
theorem d42_4 : decode jdk_42_method_151_code 4 = .ok (.aload_n 0, 1) := by decide +kernel
theorem d42_5 : decode jdk_42_method_151_code 5 = .ok (.aload_n 1, 1) := by decide +kernel
theorem d42_6 : decode jdk_42_method_151_code 6 = .ok (.putfield 9, 3) := by decide +kernel
theorem d42_9 : decode jdk_42_method_151_code 9 = .ok (.aload_n 0, 1) := by decide +kernel
theorem d42_10 : decode jdk_42_method_151_code 10 = .ok (.iload_n 2, 1) := by decide +kernel
theorem d42_11 : decode jdk_42_method_151_code 11 = .ok (.putfield 15, 3) := by decide +kernel
theorem d42_14 : decode jdk_42_method_151_code 14 = .ok (.return_, 1) := by decide +kernel
theorem pn_399300985 : plainFor (⟨"java/lang/String", "<init>", "([BB)V"⟩ : MethodName) = true := by first | exact plainFor_of_name (by first | (simp [plainName, overriddenIn]; done) | decide +kernel) | decide +kernel
theorem ef_ctInitBB (m : MethodId) (x0 : Addr) (x1 : Addr) (x2 : Int32) : entryFrame m #[(.ref x0), (.ref x1), (.int x2)] 3 = mkF m 0 #[.val (.ref x0), .val (.ref x1), .val (.int x2)] [] := by first | (simp [entryFrame, mkF, argsToLocals, Value.category]; done) | rfl
set_option maxRecDepth 65536 in
set_option maxHeartbeats 40000000 in
theorem ctInitBB (l : Launch) (Z : State) (a0 : Array Value) (hw : ∀ d ∈ tables_1, d.before a0 Z = true) (n0 : Nat) (h0 : Heap) (O0 : Old Z n0 h0) (x t : Addr) (cs : List Int32) (kA : ClassId) (F0 : own_Raw Z h0 x) (K : Arv Z h0 t kA .byte (Int32.ofNat cs.length) ((cs.map fun c => c.toInt8.toInt32).map Value.int) (.int 0)) (hcs : ∀ c ∈ cs, ¬ c < 0 ∧ ¬ (255 : Int32) < c) (hlen : cs.length ≤ 4000) (gx : n0 ≤ x) :
    own_Ct l (⟨"java/lang/String", "<init>", "([BB)V"⟩ : MethodName) jdk_42_method_151_code 3 none ({ frames := 1, cells := 0, slots := 0, locals := 12 } : Room) Z consts_1 n0 #[(.ref x), (.ref t), (.int (0 : Int32))] h0 [] (fun v h => v = none ∧ Keep h0 h [x] ∧ own_Str Z h x cs) := by
  have hEL := own_EL hw
  refine own_body pn_399300985 O0 (fun p e s m below meth cc_ T0 vm0 hx hby hml0 hret hlk hnm hsf w0 => ?_)
  have hml : cc_.maxLocals = 3 := hml0
  have A_0 := own_at w0
  refine own_entry (ef_ctInitBB m x t (0 : Int32)) ?_
  refine own_by (T' := T0) (g' := (mkF m 1 #[.val (.ref x), .val (.ref t), .val (.int (0 : Int32))] [(.ref x)])) (fun t_ hr_ => XS.aloadN A_0 hx rfl (Jvm.hb hby d42_0) rfl rfl hr_) ?_
  refine own_initO w0 hx (hw _ (List.mem_of_getElem? (i := 15) rfl)) (hw _ (List.mem_of_getElem? (i := 16) rfl)) (hw _ (List.mem_of_getElem? (i := 17) rfl)) (g := (mkF m 1 #[.val (.ref x), .val (.ref t), .val (.int (0 : Int32))] [(.ref x)])) rfl (by rw [hml]; rfl) rfl (Jvm.hb hby d42_1) (by decide) (W := 0) (by show 2 * 0 + _ ≤ _; exact Nat.le_of_eq rfl) (by decide) (fun T1_ w1_ => ?_)
  have A1_ := own_at w1_
  show own_WP p e _ below s Z _ n0 _ T1_ (mkF m 4 #[.val (.ref x), .val (.ref t), .val (.int (0 : Int32))] [])
  refine own_by (T' := T1_) (g' := (mkF m 5 #[.val (.ref x), .val (.ref t), .val (.int (0 : Int32))] [(.ref x)])) (fun t_ hr_ => XS.aloadN A1_ hx rfl (Jvm.hb hby d42_4) rfl rfl hr_) ?_
  refine own_by (T' := T1_) (g' := (mkF m 6 #[.val (.ref x), .val (.ref t), .val (.int (0 : Int32))] [(.ref t), (.ref x)])) (fun t_ hr_ => XS.aloadN A1_ hx rfl (Jvm.hb hby d42_5) rfl rfl hr_) ?_
  have Sf1 : Safe Z consts_1 vm0 h0 x := F0.safe (own_hZ w1_).alike
  have ne1 : x ≠ t := F0.1.neArv K (hw _ (List.mem_of_getElem? (i := 5) rfl))
  refine own_putF w1_ hx (hw _ (List.mem_of_getElem? (i := 32) rfl)) F0.2.1 F0.1 (Or.inr ⟨(hw _ (List.mem_of_getElem? (i := 33) rfl)), rfl, hnm⟩) (hw _ (List.mem_of_getElem? (i := 5) rfl)) (ty := (.array .byte)) (by decide) rfl rfl gx Sf1 (g := (mkF m 6 #[.val (.ref x), .val (.ref t), .val (.int (0 : Int32))] [(.ref t), (.ref x)])) rfl rfl (Jvm.hb hby d42_6) (fun T2_ h2_ W2_ w2_ => ?_)
  have A2_ := own_at w2_
  show own_WP p e _ below s Z _ n0 _ T2_ (mkF m 9 #[.val (.ref x), .val (.ref t), .val (.int (0 : Int32))] [])
  have Sf2 : Safe Z consts_1 vm0 h2_ x := Safe.wr W2_ Sf1 (own_chv w1_) Sf1
  have X2 := F0.1.wr W2_
  have V2 := F0.2.1.same W2_
  have D2 := F0.2.2.other W2_ (Or.inr (slot_ne (Or.inr (hw _ (List.mem_of_getElem? (i := 31) rfl))) (Or.inr (hw _ (List.mem_of_getElem? (i := 33) rfl))) (by decide) rfl rfl))
  have Y2 := K.other W2_ (Ne.symm ne1)
  refine own_by (T' := T2_) (g' := (mkF m 10 #[.val (.ref x), .val (.ref t), .val (.int (0 : Int32))] [(.ref x)])) (fun t_ hr_ => XS.aloadN A2_ hx rfl (Jvm.hb hby d42_9) rfl rfl hr_) ?_
  refine own_by (T' := T2_) (g' := (mkF m 11 #[.val (.ref x), .val (.ref t), .val (.int (0 : Int32))] [(.int (0 : Int32)), (.ref x)])) (fun t_ hr_ => XS.iloadN A2_ hx rfl (Jvm.hb hby d42_10) rfl hr_) ?_
  refine own_putF w2_ hx (hw _ (List.mem_of_getElem? (i := 30) rfl)) D2 X2 (Or.inr ⟨(hw _ (List.mem_of_getElem? (i := 31) rfl)), rfl, hnm⟩) (hw _ (List.mem_of_getElem? (i := 5) rfl)) (ty := .byte) (by decide) rfl rfl gx Sf2 (g := (mkF m 11 #[.val (.ref x), .val (.ref t), .val (.int (0 : Int32))] [(.int (0 : Int32)), (.ref x)])) rfl rfl (Jvm.hb hby d42_11) (fun T3_ h3_ W3_ w3_ => ?_)
  have A3_ := own_at w3_
  show own_WP p e _ below s Z _ n0 _ T3_ (mkF m 14 #[.val (.ref x), .val (.ref t), .val (.int (0 : Int32))] [])
  exact own_retV w3_ hx hEL hlk hret (Jvm.hb hby d42_14) (by decide) (by decide) ⟨rfl, ((Keep.refl h0 [x]).wr W2_ (Or.inl (List.mem_of_getElem? (i := 0) rfl))).wr W3_ (Or.inl (List.mem_of_getElem? (i := 0) rfl)), X2.wr W3_, D2.same W3_, ⟨t, kA, V2.other W3_ (Or.inr (slot_ne (Or.inr (hw _ (List.mem_of_getElem? (i := 33) rfl))) (Or.inr (hw _ (List.mem_of_getElem? (i := 31) rfl))) (by decide) rfl rfl)), Y2.other W3_ (Ne.symm ne1)⟩, hcs, hlen⟩

theorem d40_0 : decode jdk_43_method_3_code 0 = .ok (.iload_n 0, 1) := by decide +kernel
theorem d40_1 : decode jdk_43_method_3_code 1 = .ok (.sipush 255, 3) := by decide +kernel
theorem d40_4 : decode jdk_43_method_3_code 4 = .ok (.if_icmp .gt 7, 3) := by decide +kernel
theorem d40_7 : decode jdk_43_method_3_code 7 = .ok (.iconst 1, 1) := by decide +kernel
theorem d40_8 : decode jdk_43_method_3_code 8 = .ok (.goto 4, 3) := by decide +kernel
theorem d40_12 : decode jdk_43_method_3_code 12 = .ok (.ireturn, 1) := by decide +kernel
theorem pn_332800419 : plainFor (⟨"java/lang/StringLatin1", "canEncode", "(C)Z"⟩ : MethodName) = true := by first | exact plainFor_of_name (by first | (simp [plainName, overriddenIn]; done) | decide +kernel) | decide +kernel
theorem ef_ctCanC (m : MethodId) (x0 : Int32) : entryFrame m #[(.int x0)] 1 = mkF m 0 #[.val (.int x0)] [] := by first | (simp [entryFrame, mkF, argsToLocals, Value.category]; done) | rfl
set_option maxRecDepth 65536 in
set_option maxHeartbeats 40000000 in
theorem ctCanC (l : Launch) (Z : State) (a0 : Array Value) (hw : ∀ d ∈ tables_1, d.before a0 Z = true) (n0 : Nat) (h0 : Heap) (O0 : Old Z n0 h0) (c : Int32) (hc : ¬ c < 0 ∧ ¬ (255 : Int32) < c) :
    own_Ct l (⟨"java/lang/StringLatin1", "canEncode", "(C)Z"⟩ : MethodName) jdk_43_method_3_code 1 (some .boolean) ({ frames := 0, cells := 0, slots := 0, locals := 0 } : Room) Z consts_1 n0 #[(.int c)] h0 [] (fun v h => v = some (.int 1) ∧ h0 = h) := by
  have hEL := own_EL hw
  refine own_body pn_332800419 O0 (fun p e s m below meth cc_ T0 vm0 hx hby hml0 hret hlk hnm hsf w0 => ?_)
  have hml : cc_.maxLocals = 1 := hml0
  have A_0 := own_at w0
  refine own_entry (ef_ctCanC m c) ?_
  refine own_by (T' := T0) (g' := (mkF m 1 #[.val (.int c)] [(.int c)])) (fun t_ hr_ => XS.iloadN A_0 hx rfl (Jvm.hb hby d40_0) rfl hr_) ?_
  refine own_by (T' := T0) (g' := (mkF m 4 #[.val (.int c)] [(.int (255 : Int32)), (.int c)])) (fun t_ hr_ => XS.sipush A_0 hx rfl (Jvm.hb hby d40_1) hr_) ?_
  refine own_by (T' := T0) (g' := (mkF m 7 #[.val (.int c)] [])) (fun t_ hr_ => XS.icmpNo A_0 hx rfl (Jvm.hb hby d40_4) rfl (flt hc.2).2.2.1 hr_) ?_
  refine own_by (T' := T0) (g' := (mkF m 8 #[.val (.int c)] [(.int (1 : Int32))])) (fun t_ hr_ => XS.iconst A_0 hx rfl (Jvm.hb hby d40_7) hr_) ?_
  refine own_by (T' := T0) (g' := (mkF m 12 #[.val (.int c)] [(.int (1 : Int32))])) (fun t_ hr_ => XS.goto A_0 hx rfl (pc0 := 8) (pc' := 12) rfl (Jvm.hb hby d40_8) (by decide) (by decide) hr_) ?_
  exact own_retZ w0 hx hEL hlk hret (Or.inr rfl) (Jvm.hb hby d40_12) (by decide) (by decide) ⟨rfl, rfl⟩

theorem d41_0 : decode jdk_43_method_46_code 0 = .ok (.iconst 1, 1) := by decide +kernel
theorem d41_1 : decode jdk_43_method_46_code 1 = .ok (.newarray .byte, 2) := by decide +kernel
theorem d41_3 : decode jdk_43_method_46_code 3 = .ok (.dup, 1) := by decide +kernel
theorem d41_4 : decode jdk_43_method_46_code 4 = .ok (.iconst 0, 1) := by decide +kernel
theorem d41_5 : decode jdk_43_method_46_code 5 = .ok (.iload_n 0, 1) := by decide +kernel
theorem d41_6 : decode jdk_43_method_46_code 6 = .ok (.i2b, 1) := by decide +kernel
theorem d41_7 : decode jdk_43_method_46_code 7 = .ok (.bastore, 1) := by decide +kernel
theorem d41_8 : decode jdk_43_method_46_code 8 = .ok (.areturn, 1) := by decide +kernel
theorem pn_622345997 : plainFor (⟨"java/lang/StringLatin1", "toBytes", "(C)[B"⟩ : MethodName) = true := by first | exact plainFor_of_name (by first | (simp [plainName, overriddenIn]; done) | decide +kernel) | decide +kernel
theorem ef_ctToB (m : MethodId) (x0 : Int32) : entryFrame m #[(.int x0)] 1 = mkF m 0 #[.val (.int x0)] [] := by first | (simp [entryFrame, mkF, argsToLocals, Value.category]; done) | rfl
set_option maxRecDepth 65536 in
set_option maxHeartbeats 40000000 in
theorem ctToB (l : Launch) (Z : State) (a0 : Array Value) (hw : ∀ d ∈ tables_1, d.before a0 Z = true) (n0 : Nat) (h0 : Heap) (O0 : Old Z n0 h0) (c : Int32)  :
    own_Ct l (⟨"java/lang/StringLatin1", "toBytes", "(C)[B"⟩ : MethodName) jdk_43_method_46_code 1 (some (.array .byte)) ({ frames := 0, cells := 1, slots := 1, locals := 0 } : Room) Z consts_1 n0 #[(.int c)] h0 [] (fun v h => ∃ a k, v = some (.ref a) ∧ Ext h0 h ∧ Arv Z h a k .byte (Int32.ofNat ([c] : List Int32).length) (([c].map fun c => c.toInt8.toInt32).map Value.int) (.int 0)) := by
  have hEL := own_EL hw
  refine own_body pn_622345997 O0 (fun p e s m below meth cc_ T0 vm0 hx hby hml0 hret hlk hnm hsf w0 => ?_)
  have hml : cc_.maxLocals = 1 := hml0
  have A_0 := own_at w0
  refine own_entry (ef_ctToB m c) ?_
  refine own_by (T' := T0) (g' := (mkF m 1 #[.val (.int c)] [(.int (1 : Int32))])) (fun t_ hr_ => XS.iconst A_0 hx rfl (Jvm.hb hby d41_0) hr_) ?_
  refine own_newP w0 hx (hw _ (List.mem_of_getElem? (i := 23) rfl)) (g := (mkF m 1 #[.val (.int c)] [(.int (1 : Int32))])) rfl (Jvm.hb hby d41_1) rfl (by decide) (cap := 1) (by decide) (by decide) (by decide) (by decide) (fun T1_ h1_ a1_ k1_ g1_ E1_ V1_ w1_ => ?_)
  have A1_ := own_at w1_
  show own_WP p e _ below s Z _ n0 _ T1_ (mkF m 3 #[.val (.int c)] [(.ref a1_)])
  have Sf1 : Safe Z consts_1 vm0 h1_ a1_ := Safe.ext E1_ (own_chv w0) (Safe.new (by rw [g1_]; exact Nat.le_refl _))
  have ga : n0 ≤ a1_ := by rw [g1_]; exact own_n0 w0
  have gz : h0.size ≤ a1_ := by rw [g1_]; exact Nat.le_refl _
  have U1 : Arv Z h1_ a1_ k1_ .byte (1 : Int32) [(.int 0)] (.int 0) := V1_.pad (vs' := [(.int 0)]) (fun i => pad_rep [] (.int (0 : Int32)) 1 i)
  refine own_by (T' := T1_) (g' := (mkF m 4 #[.val (.int c)] [(.ref a1_), (.ref a1_)])) (fun t_ hr_ => XS.dup A1_ hx rfl (Jvm.hb hby d41_3) rfl rfl hr_) ?_
  refine own_by (T' := T1_) (g' := (mkF m 5 #[.val (.int c)] [(.int (0 : Int32)), (.ref a1_), (.ref a1_)])) (fun t_ hr_ => XS.iconst A1_ hx rfl (Jvm.hb hby d41_4) hr_) ?_
  refine own_by (T' := T1_) (g' := (mkF m 6 #[.val (.int c)] [(.int c), (.int (0 : Int32)), (.ref a1_), (.ref a1_)])) (fun t_ hr_ => XS.iloadN A1_ hx rfl (Jvm.hb hby d41_5) rfl hr_) ?_
  refine own_by (T' := T1_) (g' := (mkF m 7 #[.val (.int c)] [(.int (c.toInt8.toInt32)), (.int (0 : Int32)), (.ref a1_), (.ref a1_)])) (fun t_ hr_ => XS.i2b A1_ hx rfl (Jvm.hb hby d41_6) rfl hr_) ?_
  refine own_bastore w1_ hx U1 (by decide) (own_lo8lo8 c) Sf1 (i := 0) rfl (by decide) ga (g := (mkF m 7 #[.val (.int c)] [(.int (c.toInt8.toInt32)), (.int (0 : Int32)), (.ref a1_), (.ref a1_)])) rfl rfl (Jvm.hb hby d41_7) (fun T2_ h2_ W1 V1 w2_ => ?_)
  have A2_ := own_at w2_
  show own_WP p e _ below s Z _ n0 _ T2_ (mkF m 8 #[.val (.int c)] [(.ref a1_)])
  exact own_retA w2_ hx hEL hlk hret rfl rfl (Jvm.hb hby d41_8) (by decide) (by decide) ⟨_, _, rfl, own_extWr E1_ W1 gz, V1⟩

theorem d39_0 : decode jdk_42_method_139_code 0 = .ok (.getstatic 38, 3) := by decide +kernel
theorem d39_3 : decode jdk_42_method_139_code 3 = .ok (.ifCond .eq 23, 3) := by decide +kernel
theorem d39_6 : decode jdk_42_method_139_code 6 = .ok (.iload_n 0, 1) := by decide +kernel
theorem d39_7 : decode jdk_42_method_139_code 7 = .ok (.invokestatic 1015, 3) := by decide +kernel
theorem pd_91078888 : parseMethodDescriptor "(C)Z" = some ⟨[.char], some .boolean⟩ := by decide +kernel
theorem d39_10 : decode jdk_42_method_139_code 10 = .ok (.ifCond .eq 16, 3) := by decide +kernel
theorem d39_13 : decode jdk_42_method_139_code 13 = .ok (.new 10, 3) := by decide +kernel
theorem d39_16 : decode jdk_42_method_139_code 16 = .ok (.dup, 1) := by decide +kernel
theorem d39_17 : decode jdk_42_method_139_code 17 = .ok (.iload_n 0, 1) := by decide +kernel
theorem d39_18 : decode jdk_42_method_139_code 18 = .ok (.invokestatic 1018, 3) := by decide +kernel
theorem pd_931334448 : parseMethodDescriptor "(C)[B" = some ⟨[.char], some (.array .byte)⟩ := by decide +kernel
theorem d39_21 : decode jdk_42_method_139_code 21 = .ok (.iconst 0, 1) := by decide +kernel
theorem d39_22 : decode jdk_42_method_139_code 22 = .ok (.invokespecial 209, 3) := by decide +kernel
theorem pd_128579950 : parseMethodDescriptor "([BB)V" = some ⟨[(.array .byte), .byte], none⟩ := by decide +kernel
theorem d39_25 : decode jdk_42_method_139_code 25 = .ok (.areturn, 1) := by decide +kernel
theorem pn_676772648 : plainFor (⟨"java/lang/String", "valueOf", "(C)Ljava/lang/String;"⟩ : MethodName) = true := by first | exact plainFor_of_name (by first | (simp [plainName, overriddenIn]; done) | decide +kernel) | decide +kernel
theorem ef_ctValueOf (m : MethodId) (x0 : Int32) : entryFrame m #[(.int x0)] 1 = mkF m 0 #[.val (.int x0)] [] := by first | (simp [entryFrame, mkF, argsToLocals, Value.category]; done) | rfl
set_option maxRecDepth 65536 in
set_option maxHeartbeats 40000000 in
theorem ctValueOf (l : Launch) (Z : State) (a0 : Array Value) (hw : ∀ d ∈ tables_1, d.before a0 Z = true) (SC : own_SC Z) (n0 : Nat) (h0 : Heap) (O0 : Old Z n0 h0) (c : Int32) (hc : ¬ c < 0 ∧ ¬ (255 : Int32) < c) :
    own_Ct l (⟨"java/lang/String", "valueOf", "(C)Ljava/lang/String;"⟩ : MethodName) jdk_42_method_139_code 1 (some (.object "java/lang/String")) ({ frames := 2, cells := 2, slots := 5, locals := 27 } : Room) Z consts_1 n0 #[(.int c)] h0 [] (fun v h => ∃ r, v = some (.ref r) ∧ Ext h0 h ∧ own_Str Z h r [c]) := by
  have hEL := own_EL hw
  refine own_body pn_676772648 O0 (fun p e s m below meth cc_ T0 vm0 hx hby hml0 hret hlk hnm hsf w0 => ?_)
  have hml : cc_.maxLocals = 1 := hml0
  have A_0 := own_at w0
  refine own_entry (ef_ctValueOf m c) ?_
  obtain ⟨z, Sz, hz⟩ := SC
  refine own_getS w0 hx (hw _ (List.mem_of_getElem? (i := 18) rfl)) (Sz.ext O0.2) (g := (mkF m 0 #[.val (.int c)] [])) rfl (Jvm.hb hby d39_0) (fun T1_ w1_ => ?_)
  have A1_ := own_at w1_
  show own_WP p e _ below s Z _ n0 _ T1_ (mkF m 3 #[.val (.int c)] [(.int z)])
  refine own_by (T' := T1_) (g' := (mkF m 6 #[.val (.int c)] [])) (fun t_ hr_ => XS.ifNo A1_ hx rfl (Jvm.hb hby d39_3) rfl ((if0 _ _).trans (feq hz).1) hr_) ?_
  refine own_by (T' := T1_) (g' := (mkF m 7 #[.val (.int c)] [(.int c)])) (fun t_ hr_ => XS.iloadN A1_ hx rfl (Jvm.hb hby d39_6) rfl hr_) ?_
  refine own_callS w1_ hx (y := (⟨"java/lang/StringLatin1", "canEncode", "(C)Z"⟩ : MethodName)) (hw _ (List.mem_of_getElem? (i := 207) rfl)) (hw _ (List.mem_of_getElem? (i := 208) rfl)) (hw _ (List.mem_of_getElem? (i := 194) rfl)) (hw _ (List.mem_of_getElem? (i := 209) rfl)) (by decide) (kc := 0) (ks := 0) (argsL := [(.int c)]) (rest := []) (own_payCt (W := 0) (ctCanC l Z a0 hw n0 h0 (own_old w1_) c hc) w1_ (hw _ (List.mem_of_getElem? (i := 209) rfl)) (hw _ (List.mem_of_getElem? (i := 194) rfl)) hEL (by decide) (by decide)) (g := (mkF m 7 #[.val (.int c)] [(.int c)])) rfl (by rw [hml]; rfl) (lenOf pd_91078888 rfl) rfl (by show 2 * 0 + _ ≤ _; exact Nat.le_of_eq rfl) (Jvm.hb hby d39_7) (by decide) (by decide) (fun v2_ T2_ vm2_ h2_ q2_ C2_ w2_ => ?_)
  obtain ⟨rfl, rfl⟩ := q2_
  have A2_ := own_at w2_
  show own_WP p e _ below s Z _ n0 _ T2_ (mkF m 10 #[.val (.int c)] [(.int (1 : Int32))])
  refine own_by (T' := T2_) (g' := (mkF m 13 #[.val (.int c)] [])) (fun t_ hr_ => XS.ifNo A2_ hx rfl (Jvm.hb hby d39_10) rfl ((if0 _ _).trans (feq (by decide : ¬ (1 : Int32) = 0)).1) hr_) ?_
  refine own_new w2_ hx (hw _ (List.mem_of_getElem? (i := 210) rfl)) (hw _ (List.mem_of_getElem? (i := 5) rfl)) (hw _ (List.mem_of_getElem? (i := 6) rfl)) (g := (mkF m 13 #[.val (.int c)] [])) rfl (Jvm.hb hby d39_13) (by decide) (by decide) (fun T3_ h3_ a3_ g3_ E3_ ⟨X3_, D3_⟩ w3_ => ?_)
  have A3_ := own_at w3_
  show own_WP p e _ below s Z _ n0 _ T3_ (mkF m 16 #[.val (.int c)] [(.ref a3_)])
  have R3_ : own_Raw Z h3_ a3_ := ⟨X3_, D3_ (Or.inr (hw _ (List.mem_of_getElem? (i := 33) rfl))) (ty := (.array .byte)) (by decide), D3_ (Or.inr (hw _ (List.mem_of_getElem? (i := 31) rfl))) (ty := .byte) (by decide)⟩
  have gn3_ : n0 ≤ a3_ := by rw [g3_]; exact own_n0 w2_
  refine own_by (T' := T3_) (g' := (mkF m 17 #[.val (.int c)] [(.ref a3_), (.ref a3_)])) (fun t_ hr_ => XS.dup A3_ hx rfl (Jvm.hb hby d39_16) rfl rfl hr_) ?_
  refine own_by (T' := T3_) (g' := (mkF m 18 #[.val (.int c)] [(.int c), (.ref a3_), (.ref a3_)])) (fun t_ hr_ => XS.iloadN A3_ hx rfl (Jvm.hb hby d39_17) rfl hr_) ?_
  refine own_callS w3_ hx (y := (⟨"java/lang/StringLatin1", "toBytes", "(C)[B"⟩ : MethodName)) (hw _ (List.mem_of_getElem? (i := 211) rfl)) (hw _ (List.mem_of_getElem? (i := 212) rfl)) (hw _ (List.mem_of_getElem? (i := 194) rfl)) (hw _ (List.mem_of_getElem? (i := 213) rfl)) (by decide) (kc := 1) (ks := 1) (argsL := [(.int c)]) (rest := [(.ref a3_), (.ref a3_)]) (own_payCt (W := 2) (ctToB l Z a0 hw n0 h3_ (own_old w3_) c) w3_ (hw _ (List.mem_of_getElem? (i := 213) rfl)) (hw _ (List.mem_of_getElem? (i := 194) rfl)) hEL (by decide) (by decide)) (g := (mkF m 18 #[.val (.int c)] [(.int c), (.ref a3_), (.ref a3_)])) rfl (by rw [hml]; rfl) (lenOf pd_931334448 rfl) rfl (by show 2 * 0 + _ ≤ _; exact Nat.le_of_eq rfl) (Jvm.hb hby d39_18) (by decide) (by decide) (fun v4_ T4_ vm4_ h4_ q4_ C4_ w4_ => ?_)
  obtain ⟨t1, k1, rfl, E1, V1⟩ := q4_
  have A4_ := own_at w4_
  show own_WP p e _ below s Z _ n0 _ T4_ (mkF m 21 #[.val (.int c)] [(.ref t1), (.ref a3_), (.ref a3_)])
  refine own_by (T' := T4_) (g' := (mkF m 22 #[.val (.int c)] [(.int (0 : Int32)), (.ref t1), (.ref a3_), (.ref a3_)])) (fun t_ hr_ => XS.iconst A4_ hx rfl (Jvm.hb hby d39_21) hr_) ?_
  refine own_callC w4_ hx (y := (⟨"java/lang/String", "<init>", "([BB)V"⟩ : MethodName)) rfl (hw _ (List.mem_of_getElem? (i := 214) rfl)) (hw _ (List.mem_of_getElem? (i := 215) rfl)) (hw _ (List.mem_of_getElem? (i := 216) rfl)) (by decide) (kc := 0) (ks := 0) (a := a3_) (argsL := [(.ref t1), (.int (0 : Int32))]) (rest := [(.ref a3_)]) (own_payCt (W := 1) (ctInitBB l Z a0 hw n0 h4_ (own_old w4_) a3_ t1 [c] k1 (R3_.ext E1) V1 (by simp only [List.forall_mem_cons, List.not_mem_nil, false_imp_iff, implies_true, and_true]; exact hc) (by simp) gn3_) w4_ (hw _ (List.mem_of_getElem? (i := 216) rfl)) (hw _ (List.mem_of_getElem? (i := 6) rfl)) hEL (by decide) (by decide)) (g := (mkF m 22 #[.val (.int c)] [(.int (0 : Int32)), (.ref t1), (.ref a3_), (.ref a3_)])) rfl (by rw [hml]; rfl) (lenOf pd_128579950 rfl) rfl (by show 2 * 0 + _ ≤ _; exact Nat.le_of_eq rfl) (Jvm.hb hby d39_22) (by decide) (by decide) (fun v5_ T5_ vm5_ h5_ q5_ C5_ w5_ => ?_)
  obtain ⟨rfl, K2, S2⟩ := q5_
  have A5_ := own_at w5_
  show own_WP p e _ below s Z _ n0 _ T5_ (mkF m 25 #[.val (.int c)] [(.ref a3_)])
  exact own_retA w5_ hx hEL hlk hret rfl rfl (Jvm.hb hby d39_25) (by decide) (by decide) ⟨_, rfl, own_extK (own_extTrans E3_ E1) K2 (allS (by rw [g3_]; exact Nat.le_refl _) all0), S2⟩

theorem d9_0 : decode jdk_30_method_1_code 0 = .ok (.aload_n 0, 1) := by decide +kernel
theorem d9_1 : decode jdk_30_method_1_code 1 = .ok (.invokespecial 1, 3) := by decide +kernel
theorem d9_4 : decode jdk_30_method_1_code 4 = .ok (.return_, 1) := by decide +kernel
theorem pn_896836413 : plainFor (⟨"java/lang/Record", "<init>", "()V"⟩ : MethodName) = true := by first | exact plainFor_of_name (by first | (simp [plainName, overriddenIn]; done) | decide +kernel) | decide +kernel
theorem ef_ctRecord (m : MethodId) (x0 : Addr) : entryFrame m #[(.ref x0)] 1 = mkF m 0 #[.val (.ref x0)] [] := by first | (simp [entryFrame, mkF, argsToLocals, Value.category]; done) | rfl
set_option maxRecDepth 65536 in
set_option maxHeartbeats 40000000 in
theorem ctRecord (l : Launch) (Z : State) (a0 : Array Value) (hw : ∀ d ∈ tables_1, d.before a0 Z = true) (n0 : Nat) (h0 : Heap) (O0 : Old Z n0 h0) (a : Addr)  :
    own_Ct l (⟨"java/lang/Record", "<init>", "()V"⟩ : MethodName) jdk_30_method_1_code 1 none ({ frames := 1, cells := 0, slots := 0, locals := 12 } : Room) Z consts_1 n0 #[(.ref a)] h0 [] (fun v h => v = none ∧ h0 = h) := by
  have hEL := own_EL hw
  refine own_body pn_896836413 O0 (fun p e s m below meth cc_ T0 vm0 hx hby hml0 hret hlk hnm hsf w0 => ?_)
  have hml : cc_.maxLocals = 1 := hml0
  have A_0 := own_at w0
  refine own_entry (ef_ctRecord m a) ?_
  refine own_by (T' := T0) (g' := (mkF m 1 #[.val (.ref a)] [(.ref a)])) (fun t_ hr_ => XS.aloadN A_0 hx rfl (Jvm.hb hby d9_0) rfl rfl hr_) ?_
  refine own_initO w0 hx (hw _ (List.mem_of_getElem? (i := 48) rfl)) (hw _ (List.mem_of_getElem? (i := 16) rfl)) (hw _ (List.mem_of_getElem? (i := 17) rfl)) (g := (mkF m 1 #[.val (.ref a)] [(.ref a)])) rfl (by rw [hml]; rfl) rfl (Jvm.hb hby d9_1) (by decide) (W := 0) (by show 2 * 0 + _ ≤ _; exact Nat.le_of_eq rfl) (by decide) (fun T1_ w1_ => ?_)
  have A1_ := own_at w1_
  show own_WP p e _ below s Z _ n0 _ T1_ (mkF m 4 #[.val (.ref a)] [])
  exact own_retV w1_ hx hEL hlk hret (Jvm.hb hby d9_4) (by decide) (by decide) ⟨rfl, rfl⟩

theorem d32_0 : decode jdk_29_method_69_code 0 = .ok (.iload_n 0, 1) := by decide +kernel
theorem d32_1 : decode jdk_29_method_69_code 1 = .ok (.iload_n 1, 1) := by decide +kernel
theorem d32_2 : decode jdk_29_method_69_code 2 = .ok (.if_icmp .gt 7, 3) := by decide +kernel
theorem d32_9 : decode jdk_29_method_69_code 9 = .ok (.iload_n 1, 1) := by decide +kernel
theorem d32_10 : decode jdk_29_method_69_code 10 = .ok (.ireturn, 1) := by decide +kernel
theorem d32_5 : decode jdk_29_method_69_code 5 = .ok (.iload_n 0, 1) := by decide +kernel
theorem d32_6 : decode jdk_29_method_69_code 6 = .ok (.goto 4, 3) := by decide +kernel
theorem pn_602179938 : plainFor (⟨"java/lang/Math", "min", "(II)I"⟩ : MethodName) = true := Jvm.Free.JP.mathPlain rfl (by decide +kernel)
theorem ef_ctMin (m : MethodId) (x0 : Int32) (x1 : Int32) : entryFrame m #[(.int x0), (.int x1)] 2 = mkF m 0 #[.val (.int x0), .val (.int x1)] [] := by first | (simp [entryFrame, mkF, argsToLocals, Value.category]; done) | rfl
set_option maxRecDepth 65536 in
set_option maxHeartbeats 40000000 in
theorem ctMin (l : Launch) (Z : State) (a0 : Array Value) (hw : ∀ d ∈ tables_1, d.before a0 Z = true) (n0 : Nat) (h0 : Heap) (O0 : Old Z n0 h0) (a b : Int32)  :
    own_Ct l (⟨"java/lang/Math", "min", "(II)I"⟩ : MethodName) jdk_29_method_69_code 2 (some .int) ({ frames := 0, cells := 0, slots := 0, locals := 0 } : Room) Z consts_1 n0 #[(.int a), (.int b)] h0 [] (fun v h => v = some (.int (if b < a then b else a)) ∧ h0 = h) := by
  have hEL := own_EL hw
  refine own_body pn_602179938 O0 (fun p e s m below meth cc_ T0 vm0 hx hby hml0 hret hlk hnm hsf w0 => ?_)
  have hml : cc_.maxLocals = 2 := hml0
  have A_0 := own_at w0
  refine own_entry (ef_ctMin m a b) ?_
  refine own_by (T' := T0) (g' := (mkF m 1 #[.val (.int a), .val (.int b)] [(.int a)])) (fun t_ hr_ => XS.iloadN A_0 hx rfl (Jvm.hb hby d32_0) rfl hr_) ?_
  refine own_by (T' := T0) (g' := (mkF m 2 #[.val (.int a), .val (.int b)] [(.int b), (.int a)])) (fun t_ hr_ => XS.iloadN A_0 hx rfl (Jvm.hb hby d32_1) rfl hr_) ?_
  by_cases hc1_ : b < a
  · refine own_by (T' := T0) (g' := (mkF m 9 #[.val (.int a), .val (.int b)] [])) (fun t_ hr_ => XS.icmpYes A_0 hx rfl (pc0 := 2) (pc' := 9) rfl (Jvm.hb hby d32_2) rfl (tlt hc1_).2.2.1 (by decide) (by decide) hr_) ?_
    refine own_by (T' := T0) (g' := (mkF m 10 #[.val (.int a), .val (.int b)] [(.int b)])) (fun t_ hr_ => XS.iloadN A_0 hx rfl (Jvm.hb hby d32_9) rfl hr_) ?_
    exact own_retI w0 hx hEL hlk hret (Jvm.hb hby d32_10) (by decide) (by decide) ⟨by rw [if_pos hc1_], rfl⟩
  · refine own_by (T' := T0) (g' := (mkF m 5 #[.val (.int a), .val (.int b)] [])) (fun t_ hr_ => XS.icmpNo A_0 hx rfl (Jvm.hb hby d32_2) rfl (flt hc1_).2.2.1 hr_) ?_
    refine own_by (T' := T0) (g' := (mkF m 6 #[.val (.int a), .val (.int b)] [(.int a)])) (fun t_ hr_ => XS.iloadN A_0 hx rfl (Jvm.hb hby d32_5) rfl hr_) ?_
    refine own_by (T' := T0) (g' := (mkF m 10 #[.val (.int a), .val (.int b)] [(.int a)])) (fun t_ hr_ => XS.goto A_0 hx rfl (pc0 := 6) (pc' := 10) rfl (Jvm.hb hby d32_6) (by decide) (by decide) hr_) ?_
    exact own_retI w0 hx hEL hlk hret (Jvm.hb hby d32_10) (by decide) (by decide) ⟨by rw [if_neg hc1_], rfl⟩

theorem d31_0 : decode jdk_65_method_131_code 0 = .ok (.iload_n 1, 1) := by decide +kernel
theorem d31_1 : decode jdk_65_method_131_code 1 = .ok (.iload_n 0, 1) := by decide +kernel
theorem d31_2 : decode jdk_65_method_131_code 2 = .ok (.if_icmp .ge 35, 3) := by decide +kernel
theorem d31_37 : decode jdk_65_method_131_code 37 = .ok (.return_, 1) := by decide +kernel
theorem pn_794252162 : plainFor (⟨"java/util/Arrays", "checkLength", "(II)V"⟩ : MethodName) = true := by first | exact plainFor_of_name (by first | (simp [plainName, overriddenIn]; done) | decide +kernel) | decide +kernel
theorem ef_ctChkLen (m : MethodId) (x0 : Int32) (x1 : Int32) : entryFrame m #[(.int x0), (.int x1)] 2 = mkF m 0 #[.val (.int x0), .val (.int x1)] [] := by first | (simp [entryFrame, mkF, argsToLocals, Value.category]; done) | rfl
set_option maxRecDepth 65536 in
set_option maxHeartbeats 40000000 in
theorem ctChkLen (l : Launch) (Z : State) (a0 : Array Value) (hw : ∀ d ∈ tables_1, d.before a0 Z = true) (n0 : Nat) (h0 : Heap) (O0 : Old Z n0 h0) (a b : Int32) (hab : ¬ b < a) :
    own_Ct l (⟨"java/util/Arrays", "checkLength", "(II)V"⟩ : MethodName) jdk_65_method_131_code 2 none ({ frames := 0, cells := 0, slots := 0, locals := 0 } : Room) Z consts_1 n0 #[(.int a), (.int b)] h0 [] (fun v h => v = none ∧ h0 = h) := by
  have hEL := own_EL hw
  refine own_body pn_794252162 O0 (fun p e s m below meth cc_ T0 vm0 hx hby hml0 hret hlk hnm hsf w0 => ?_)
  have hml : cc_.maxLocals = 2 := hml0
  have A_0 := own_at w0
  refine own_entry (ef_ctChkLen m a b) ?_
  refine own_by (T' := T0) (g' := (mkF m 1 #[.val (.int a), .val (.int b)] [(.int b)])) (fun t_ hr_ => XS.iloadN A_0 hx rfl (Jvm.hb hby d31_0) rfl hr_) ?_
  refine own_by (T' := T0) (g' := (mkF m 2 #[.val (.int a), .val (.int b)] [(.int a), (.int b)])) (fun t_ hr_ => XS.iloadN A_0 hx rfl (Jvm.hb hby d31_1) rfl hr_) ?_
  refine own_by (T' := T0) (g' := (mkF m 37 #[.val (.int a), .val (.int b)] [])) (fun t_ hr_ => XS.icmpYes A_0 hx rfl (pc0 := 2) (pc' := 37) rfl (Jvm.hb hby d31_2) rfl (flt hab).2.1 (by decide) (by decide) hr_) ?_
  exact own_retV w0 hx hEL hlk hret (Jvm.hb hby d31_37) (by decide) (by decide) ⟨rfl, rfl⟩

theorem d30_0 : decode jdk_65_method_133_code 0 = .ok (.iload_n 1, 1) := by decide +kernel
theorem d30_1 : decode jdk_65_method_133_code 1 = .ok (.iload_n 2, 1) := by decide +kernel
theorem d30_2 : decode jdk_65_method_133_code 2 = .ok (.invokestatic 343, 3) := by decide +kernel
theorem pd_945365616 : parseMethodDescriptor "(II)V" = some ⟨[.int, .int], none⟩ := by decide +kernel
theorem d30_5 : decode jdk_65_method_133_code 5 = .ok (.iload_n 2, 1) := by decide +kernel
theorem d30_6 : decode jdk_65_method_133_code 6 = .ok (.iload_n 1, 1) := by decide +kernel
theorem d30_7 : decode jdk_65_method_133_code 7 = .ok (.isub, 1) := by decide +kernel
theorem d30_8 : decode jdk_65_method_133_code 8 = .ok (.istore_n 3, 1) := by decide +kernel
theorem d30_9 : decode jdk_65_method_133_code 9 = .ok (.iload_n 3, 1) := by decide +kernel
theorem d30_10 : decode jdk_65_method_133_code 10 = .ok (.newarray .byte, 2) := by decide +kernel
theorem d30_12 : decode jdk_65_method_133_code 12 = .ok (.astore 4, 2) := by decide +kernel
theorem d30_14 : decode jdk_65_method_133_code 14 = .ok (.aload_n 0, 1) := by decide +kernel
theorem d30_15 : decode jdk_65_method_133_code 15 = .ok (.iload_n 1, 1) := by decide +kernel
theorem d30_16 : decode jdk_65_method_133_code 16 = .ok (.aload 4, 2) := by decide +kernel
theorem d30_18 : decode jdk_65_method_133_code 18 = .ok (.iconst 0, 1) := by decide +kernel
theorem d30_19 : decode jdk_65_method_133_code 19 = .ok (.aload_n 0, 1) := by decide +kernel
theorem d30_20 : decode jdk_65_method_133_code 20 = .ok (.arraylength, 1) := by decide +kernel
theorem d30_21 : decode jdk_65_method_133_code 21 = .ok (.iload_n 1, 1) := by decide +kernel
theorem d30_22 : decode jdk_65_method_133_code 22 = .ok (.isub, 1) := by decide +kernel
theorem d30_23 : decode jdk_65_method_133_code 23 = .ok (.iload_n 3, 1) := by decide +kernel
theorem d30_24 : decode jdk_65_method_133_code 24 = .ok (.invokestatic 304, 3) := by decide +kernel
theorem pd_945365603 : parseMethodDescriptor "(II)I" = some ⟨[.int, .int], some .int⟩ := by decide +kernel
theorem d30_27 : decode jdk_65_method_133_code 27 = .ok (.invokestatic 150, 3) := by decide +kernel
theorem d30_30 : decode jdk_65_method_133_code 30 = .ok (.aload 4, 2) := by decide +kernel
theorem d30_32 : decode jdk_65_method_133_code 32 = .ok (.areturn, 1) := by decide +kernel
theorem pn_792914717 : plainFor (⟨"java/util/Arrays", "copyOfRangeByte", "([BII)[B"⟩ : MethodName) = true := by first | exact plainFor_of_name (by first | (simp [plainName, overriddenIn]; done) | decide +kernel) | decide +kernel
theorem ef_ctCopyB (m : MethodId) (x0 : Addr) (x1 : Int32) (x2 : Int32) : entryFrame m #[(.ref x0), (.int x1), (.int x2)] 5 = mkF m 0 #[.val (.ref x0), .val (.int x1), .val (.int x2), .unset, .unset] [] := by first | (simp [entryFrame, mkF, argsToLocals, Value.category]; done) | rfl
set_option maxRecDepth 65536 in
set_option maxHeartbeats 40000000 in
theorem ctCopyB (l : Launch) (Z : State) (a0 : Array Value) (hw : ∀ d ∈ tables_1, d.before a0 Z = true) (n0 : Nat) (h0 : Heap) (O0 : Old Z n0 h0) (t : Addr) (b n cap : Nat) (cs : List Int32) (kA : ClassId) (K : Arv Z h0 t kA .byte (Int32.ofNat cs.length) ((cs.map fun c => c.toInt8.toInt32).map Value.int) (.int 0)) (hlen : cs.length ≤ 4000) (hbn : b + n ≤ cs.length) (hcap : n ≤ 16) :
    own_Ct l (⟨"java/util/Arrays", "copyOfRangeByte", "([BII)[B"⟩ : MethodName) jdk_65_method_133_code 5 (some (.array .byte)) ({ frames := 1, cells := 1, slots := 16, locals := 40 } : Room) Z consts_1 n0 #[(.ref t), (.int (Int32.ofNat b)), (.int (Int32.ofNat (b + n)))] h0 [] (fun v h => ∃ a k, v = some (.ref a) ∧ Ext h0 h ∧ Arv Z h a k .byte (Int32.ofNat n) ((((cs.drop b).take n).map fun c => c.toInt8.toInt32).map Value.int) (.int 0)) := by
  have hEL := own_EL hw
  refine own_body pn_792914717 O0 (fun p e s m below meth cc_ T0 vm0 hx hby hml0 hret hlk hnm hsf w0 => ?_)
  have hml : cc_.maxLocals = 5 := hml0
  have A_0 := own_at w0
  refine own_entry (ef_ctCopyB m t (Int32.ofNat b) (Int32.ofNat (b + n))) ?_
  refine own_by (T' := T0) (g' := (mkF m 1 #[.val (.ref t), .val (.int (Int32.ofNat b)), .val (.int (Int32.ofNat (b + n))), .unset, .unset] [(.int (Int32.ofNat b))])) (fun t_ hr_ => XS.iloadN A_0 hx rfl (Jvm.hb hby d30_0) rfl hr_) ?_
  refine own_by (T' := T0) (g' := (mkF m 2 #[.val (.ref t), .val (.int (Int32.ofNat b)), .val (.int (Int32.ofNat (b + n))), .unset, .unset] [(.int (Int32.ofNat (b + n))), (.int (Int32.ofNat b))])) (fun t_ hr_ => XS.iloadN A_0 hx rfl (Jvm.hb hby d30_1) rfl hr_) ?_
  refine own_callS w0 hx (y := (⟨"java/util/Arrays", "checkLength", "(II)V"⟩ : MethodName)) (hw _ (List.mem_of_getElem? (i := 170) rfl)) (hw _ (List.mem_of_getElem? (i := 171) rfl)) (hw _ (List.mem_of_getElem? (i := 165) rfl)) (hw _ (List.mem_of_getElem? (i := 172) rfl)) (by decide) (kc := 0) (ks := 0) (argsL := [(.int (Int32.ofNat b)), (.int (Int32.ofNat (b + n)))]) (rest := []) (own_payCt (W := 0) (ctChkLen l Z a0 hw n0 h0 (own_old w0) (Int32.ofNat b) (Int32.ofNat (b + n)) (fun q => by have := (own_olt (by omega) (by omega)).mp q; omega)) w0 (hw _ (List.mem_of_getElem? (i := 172) rfl)) (hw _ (List.mem_of_getElem? (i := 165) rfl)) hEL (by decide) (by decide)) (g := (mkF m 2 #[.val (.ref t), .val (.int (Int32.ofNat b)), .val (.int (Int32.ofNat (b + n))), .unset, .unset] [(.int (Int32.ofNat (b + n))), (.int (Int32.ofNat b))])) rfl (by rw [hml]; rfl) (lenOf pd_945365616 rfl) rfl (by show 2 * 0 + _ ≤ _; exact Nat.le_of_eq rfl) (Jvm.hb hby d30_2) (by decide) (by decide) (fun v1_ T1_ vm1_ h1_ q1_ C1_ w1_ => ?_)
  obtain ⟨rfl, rfl⟩ := q1_
  have A1_ := own_at w1_
  show own_WP p e _ below s Z _ n0 _ T1_ (mkF m 5 #[.val (.ref t), .val (.int (Int32.ofNat b)), .val (.int (Int32.ofNat (b + n))), .unset, .unset] [])
  refine own_by (T' := T1_) (g' := (mkF m 6 #[.val (.ref t), .val (.int (Int32.ofNat b)), .val (.int (Int32.ofNat (b + n))), .unset, .unset] [(.int (Int32.ofNat (b + n)))])) (fun t_ hr_ => XS.iloadN A1_ hx rfl (Jvm.hb hby d30_5) rfl hr_) ?_
  refine own_by (T' := T1_) (g' := (mkF m 7 #[.val (.ref t), .val (.int (Int32.ofNat b)), .val (.int (Int32.ofNat (b + n))), .unset, .unset] [(.int (Int32.ofNat b)), (.int (Int32.ofNat (b + n)))])) (fun t_ hr_ => XS.iloadN A1_ hx rfl (Jvm.hb hby d30_6) rfl hr_) ?_
  refine own_by (T' := T1_) (g' := (mkF m 8 #[.val (.ref t), .val (.int (Int32.ofNat b)), .val (.int (Int32.ofNat (b + n))), .unset, .unset] [(.int ((Int32.ofNat (b + n)) - (Int32.ofNat b)))])) (fun t_ hr_ => XS.isub A1_ hx rfl (Jvm.hb hby d30_7) rfl hr_) ?_
  rw [own_osub (by omega), Nat.add_sub_cancel_left]
  show own_WP p e _ below s Z _ n0 _ T1_ (mkF m 8 #[.val (.ref t), .val (.int (Int32.ofNat b)), .val (.int (Int32.ofNat (b + n))), .unset, .unset] [(.int (Int32.ofNat n))])
  refine own_by (T' := T1_) (g' := (mkF m 9 #[.val (.ref t), .val (.int (Int32.ofNat b)), .val (.int (Int32.ofNat (b + n))), .val (.int (Int32.ofNat n)), .unset] [])) (fun t_ hr_ => XS.istoreN A1_ hx rfl (Jvm.hb hby d30_8) rfl (l' := #[.val (.ref t), .val (.int (Int32.ofNat b)), .val (.int (Int32.ofNat (b + n))), .val (.int (Int32.ofNat n)), .unset]) rfl hr_) ?_
  refine own_by (T' := T1_) (g' := (mkF m 10 #[.val (.ref t), .val (.int (Int32.ofNat b)), .val (.int (Int32.ofNat (b + n))), .val (.int (Int32.ofNat n)), .unset] [(.int (Int32.ofNat n))])) (fun t_ hr_ => XS.iloadN A1_ hx rfl (Jvm.hb hby d30_9) rfl hr_) ?_
  refine own_newP w1_ hx (hw _ (List.mem_of_getElem? (i := 23) rfl)) (g := (mkF m 10 #[.val (.ref t), .val (.int (Int32.ofNat b)), .val (.int (Int32.ofNat (b + n))), .val (.int (Int32.ofNat n)), .unset] [(.int (Int32.ofNat n))])) rfl (Jvm.hb hby d30_10) rfl (own_o0 (by omega)) (cap := 16) (by rw [own_on (by omega)]; exact hcap) (by decide) (by decide) (by decide) (fun T2_ h2_ a2_ k2_ g2_ E2_ V2_ w2_ => ?_)
  have A2_ := own_at w2_
  show own_WP p e _ below s Z _ n0 _ T2_ (mkF m 12 #[.val (.ref t), .val (.int (Int32.ofNat b)), .val (.int (Int32.ofNat (b + n))), .val (.int (Int32.ofNat n)), .unset] [(.ref a2_)])
  have Sf1 : Safe Z consts_1 vm1_ h2_ a2_ := Safe.ext E2_ (own_chv w1_) (Safe.new (by rw [g2_]; exact Nat.le_refl _))
  have ga : n0 ≤ a2_ := by rw [g2_]; exact own_n0 w1_
  have gz : h0.size ≤ a2_ := by rw [g2_]; exact Nat.le_refl _
  have U1 : Arv Z h2_ a2_ k2_ .byte (Int32.ofNat n) (List.replicate n (.int 0)) (.int 0) := V2_.pad (fun i => by first | exact pad_rep [] (.int (0 : Int32)) n i | (have := pad_rep [] (.int (0 : Int32)) n i; simpa using this))
  have K1 := K.ext E2_
  refine own_by (T' := T2_) (g' := (mkF m 14 #[.val (.ref t), .val (.int (Int32.ofNat b)), .val (.int (Int32.ofNat (b + n))), .val (.int (Int32.ofNat n)), .val (.ref a2_)] [])) (fun t_ hr_ => XS.astore A2_ hx rfl (Jvm.hb hby d30_12) rfl rfl (l' := #[.val (.ref t), .val (.int (Int32.ofNat b)), .val (.int (Int32.ofNat (b + n))), .val (.int (Int32.ofNat n)), .val (.ref a2_)]) rfl hr_) ?_
  refine own_by (T' := T2_) (g' := (mkF m 15 #[.val (.ref t), .val (.int (Int32.ofNat b)), .val (.int (Int32.ofNat (b + n))), .val (.int (Int32.ofNat n)), .val (.ref a2_)] [(.ref t)])) (fun t_ hr_ => XS.aloadN A2_ hx rfl (Jvm.hb hby d30_14) rfl rfl hr_) ?_
  refine own_by (T' := T2_) (g' := (mkF m 16 #[.val (.ref t), .val (.int (Int32.ofNat b)), .val (.int (Int32.ofNat (b + n))), .val (.int (Int32.ofNat n)), .val (.ref a2_)] [(.int (Int32.ofNat b)), (.ref t)])) (fun t_ hr_ => XS.iloadN A2_ hx rfl (Jvm.hb hby d30_15) rfl hr_) ?_
  refine own_by (T' := T2_) (g' := (mkF m 18 #[.val (.ref t), .val (.int (Int32.ofNat b)), .val (.int (Int32.ofNat (b + n))), .val (.int (Int32.ofNat n)), .val (.ref a2_)] [(.ref a2_), (.int (Int32.ofNat b)), (.ref t)])) (fun t_ hr_ => XS.aload A2_ hx rfl (Jvm.hb hby d30_16) rfl rfl hr_) ?_
  refine own_by (T' := T2_) (g' := (mkF m 19 #[.val (.ref t), .val (.int (Int32.ofNat b)), .val (.int (Int32.ofNat (b + n))), .val (.int (Int32.ofNat n)), .val (.ref a2_)] [(.int (0 : Int32)), (.ref a2_), (.int (Int32.ofNat b)), (.ref t)])) (fun t_ hr_ => XS.iconst A2_ hx rfl (Jvm.hb hby d30_18) hr_) ?_
  refine own_by (T' := T2_) (g' := (mkF m 20 #[.val (.ref t), .val (.int (Int32.ofNat b)), .val (.int (Int32.ofNat (b + n))), .val (.int (Int32.ofNat n)), .val (.ref a2_)] [(.ref t), (.int (0 : Int32)), (.ref a2_), (.int (Int32.ofNat b)), (.ref t)])) (fun t_ hr_ => XS.aloadN A2_ hx rfl (Jvm.hb hby d30_19) rfl rfl hr_) ?_
  refine own_alen w2_ hx K1 (g := (mkF m 20 #[.val (.ref t), .val (.int (Int32.ofNat b)), .val (.int (Int32.ofNat (b + n))), .val (.int (Int32.ofNat n)), .val (.ref a2_)] [(.ref t), (.int (0 : Int32)), (.ref a2_), (.int (Int32.ofNat b)), (.ref t)])) rfl rfl (Jvm.hb hby d30_20) ?_
  show own_WP p e _ below s Z _ n0 _ T2_ (mkF m 21 #[.val (.ref t), .val (.int (Int32.ofNat b)), .val (.int (Int32.ofNat (b + n))), .val (.int (Int32.ofNat n)), .val (.ref a2_)] [(.int (Int32.ofNat cs.length)), (.int (0 : Int32)), (.ref a2_), (.int (Int32.ofNat b)), (.ref t)])
  refine own_by (T' := T2_) (g' := (mkF m 22 #[.val (.ref t), .val (.int (Int32.ofNat b)), .val (.int (Int32.ofNat (b + n))), .val (.int (Int32.ofNat n)), .val (.ref a2_)] [(.int (Int32.ofNat b)), (.int (Int32.ofNat cs.length)), (.int (0 : Int32)), (.ref a2_), (.int (Int32.ofNat b)), (.ref t)])) (fun t_ hr_ => XS.iloadN A2_ hx rfl (Jvm.hb hby d30_21) rfl hr_) ?_
  refine own_by (T' := T2_) (g' := (mkF m 23 #[.val (.ref t), .val (.int (Int32.ofNat b)), .val (.int (Int32.ofNat (b + n))), .val (.int (Int32.ofNat n)), .val (.ref a2_)] [(.int ((Int32.ofNat cs.length) - (Int32.ofNat b))), (.int (0 : Int32)), (.ref a2_), (.int (Int32.ofNat b)), (.ref t)])) (fun t_ hr_ => XS.isub A2_ hx rfl (Jvm.hb hby d30_22) rfl hr_) ?_
  rw [own_osub (by omega)]
  show own_WP p e _ below s Z _ n0 _ T2_ (mkF m 23 #[.val (.ref t), .val (.int (Int32.ofNat b)), .val (.int (Int32.ofNat (b + n))), .val (.int (Int32.ofNat n)), .val (.ref a2_)] [(.int (Int32.ofNat (cs.length - b))), (.int (0 : Int32)), (.ref a2_), (.int (Int32.ofNat b)), (.ref t)])
  refine own_by (T' := T2_) (g' := (mkF m 24 #[.val (.ref t), .val (.int (Int32.ofNat b)), .val (.int (Int32.ofNat (b + n))), .val (.int (Int32.ofNat n)), .val (.ref a2_)] [(.int (Int32.ofNat n)), (.int (Int32.ofNat (cs.length - b))), (.int (0 : Int32)), (.ref a2_), (.int (Int32.ofNat b)), (.ref t)])) (fun t_ hr_ => XS.iloadN A2_ hx rfl (Jvm.hb hby d30_23) rfl hr_) ?_
  refine own_callS w2_ hx (y := (⟨"java/lang/Math", "min", "(II)I"⟩ : MethodName)) (hw _ (List.mem_of_getElem? (i := 173) rfl)) (hw _ (List.mem_of_getElem? (i := 174) rfl)) (hw _ (List.mem_of_getElem? (i := 175) rfl)) (hw _ (List.mem_of_getElem? (i := 176) rfl)) (by decide) (kc := 0) (ks := 0) (argsL := [(.int (Int32.ofNat (cs.length - b))), (.int (Int32.ofNat n))]) (rest := [(.int (0 : Int32)), (.ref a2_), (.int (Int32.ofNat b)), (.ref t)]) (own_payCt (W := 4) (ctMin l Z a0 hw n0 h2_ (own_old w2_) (Int32.ofNat (cs.length - b)) (Int32.ofNat n)) w2_ (hw _ (List.mem_of_getElem? (i := 176) rfl)) (hw _ (List.mem_of_getElem? (i := 175) rfl)) hEL (by decide) (by decide)) (g := (mkF m 24 #[.val (.ref t), .val (.int (Int32.ofNat b)), .val (.int (Int32.ofNat (b + n))), .val (.int (Int32.ofNat n)), .val (.ref a2_)] [(.int (Int32.ofNat n)), (.int (Int32.ofNat (cs.length - b))), (.int (0 : Int32)), (.ref a2_), (.int (Int32.ofNat b)), (.ref t)])) rfl (by rw [hml]; rfl) (lenOf pd_945365603 rfl) rfl (by show 2 * 0 + _ ≤ _; exact Nat.le_of_eq rfl) (Jvm.hb hby d30_24) (by decide) (by decide) (fun v3_ T3_ vm3_ h3_ q3_ C3_ w3_ => ?_)
  obtain ⟨rfl, rfl⟩ := q3_
  have A3_ := own_at w3_
  show own_WP p e _ below s Z _ n0 _ T3_ (mkF m 27 #[.val (.ref t), .val (.int (Int32.ofNat b)), .val (.int (Int32.ofNat (b + n))), .val (.int (Int32.ofNat n)), .val (.ref a2_)] [(.int (if (Int32.ofNat n) < (Int32.ofNat (cs.length - b)) then (Int32.ofNat n) else (Int32.ofNat (cs.length - b)))), (.int (0 : Int32)), (.ref a2_), (.int (Int32.ofNat b)), (.ref t)])
  have em : (if (Int32.ofNat n) < (Int32.ofNat (cs.length - b)) then (Int32.ofNat n) else (Int32.ofNat (cs.length - b))) = Int32.ofNat n := by
    by_cases q : n < cs.length - b
    · rw [if_pos ((own_olt (by omega) (by omega)).mpr q)]
    · rw [if_neg (fun z => q ((own_olt (by omega) (by omega)).mp z))]; congr 1; omega
  rw [em]
  show own_WP p e _ below s Z _ n0 _ T3_ (mkF m 27 #[.val (.ref t), .val (.int (Int32.ofNat b)), .val (.int (Int32.ofNat (b + n))), .val (.int (Int32.ofNat n)), .val (.ref a2_)] [(.int (Int32.ofNat n)), (.int (0 : Int32)), (.ref a2_), (.int (Int32.ofNat b)), (.ref t)])
  have Sf2 : Safe Z consts_1 vm3_ h2_ a2_ := C3_.safe U1.lt Sf1
  refine own_cpA w3_ hx (hw _ (List.mem_of_getElem? (i := 177) rfl)) (hw _ (List.mem_of_getElem? (i := 131) rfl)) (hw _ (List.mem_of_getElem? (i := 129) rfl)) (hw _ (List.mem_of_getElem? (i := 130) rfl)) K1 U1 rfl (own_o0 (by omega)) (by decide) (own_o0 (by omega)) (by rw [own_on (a := b) (by omega), own_on (a := n) (by omega), own_on (a := cs.length) (by omega)]; omega) (by rw [show (0 : Int32).toNatClampNeg = 0 from rfl, own_on (a := n) (by omega)]; omega) (by rw [show (0 : Int32).toNatClampNeg = 0 from rfl, own_on (a := n) (by omega)]; simp) ga Sf2 (g := (mkF m 27 #[.val (.ref t), .val (.int (Int32.ofNat b)), .val (.int (Int32.ofNat (b + n))), .val (.int (Int32.ofNat n)), .val (.ref a2_)] [(.int (Int32.ofNat n)), (.int (0 : Int32)), (.ref a2_), (.int (Int32.ofNat b)), (.ref t)])) rfl (by rw [hml]; rfl) rfl (Jvm.hb hby d30_27) (by decide) (W := 0) (by show 2 * 0 + _ ≤ _; exact Nat.le_of_eq rfl) (by decide) (fun T4_ h4_ Kc Vc w4_ => ?_)
  have A4_ := own_at w4_
  show own_WP p e _ below s Z _ n0 _ T4_ (mkF m 30 #[.val (.ref t), .val (.int (Int32.ofNat b)), .val (.int (Int32.ofNat (b + n))), .val (.int (Int32.ofNat n)), .val (.ref a2_)] [])
  refine own_by (T' := T4_) (g' := (mkF m 32 #[.val (.ref t), .val (.int (Int32.ofNat b)), .val (.int (Int32.ofNat (b + n))), .val (.int (Int32.ofNat n)), .val (.ref a2_)] [(.ref a2_)])) (fun t_ hr_ => XS.aload A4_ hx rfl (Jvm.hb hby d30_30) rfl rfl hr_) ?_
  have Vd : Arv Z h4_ a2_ k2_ .byte (Int32.ofNat n) ((((cs.drop b).take n).map fun c => c.toInt8.toInt32).map Value.int) (.int 0) := by
    have q := Vc
    rw [show (0 : Int32).toNatClampNeg = 0 from rfl, own_on (a := n) (by omega), own_on (a := b) (by omega), own_slice _ _ cs (by omega)] at q
    simpa using q
  exact own_retA w4_ hx hEL hlk hret rfl rfl (Jvm.hb hby d30_32) (by decide) (by decide) ⟨_, _, rfl, own_extK E2_ Kc (allS gz all0), Vd⟩

theorem d29_0 : decode jdk_65_method_132_code 0 = .ok (.iload_n 1, 1) := by decide +kernel
theorem d29_1 : decode jdk_65_method_132_code 1 = .ok (.ifCond .ne 9, 3) := by decide +kernel
theorem d29_4 : decode jdk_65_method_132_code 4 = .ok (.iload_n 2, 1) := by decide +kernel
theorem d29_5 : decode jdk_65_method_132_code 5 = .ok (.aload_n 0, 1) := by decide +kernel
theorem d29_6 : decode jdk_65_method_132_code 6 = .ok (.arraylength, 1) := by decide +kernel
theorem d29_7 : decode jdk_65_method_132_code 7 = .ok (.if_icmp .eq 10, 3) := by decide +kernel
theorem d29_10 : decode jdk_65_method_132_code 10 = .ok (.aload_n 0, 1) := by decide +kernel
theorem d29_11 : decode jdk_65_method_132_code 11 = .ok (.iload_n 1, 1) := by decide +kernel
theorem d29_12 : decode jdk_65_method_132_code 12 = .ok (.iload_n 2, 1) := by decide +kernel
theorem d29_13 : decode jdk_65_method_132_code 13 = .ok (.invokestatic 339, 3) := by decide +kernel
theorem pd_693184595 : parseMethodDescriptor "([BII)[B" = some ⟨[(.array .byte), .int, .int], some (.array .byte)⟩ := by decide +kernel
theorem d29_16 : decode jdk_65_method_132_code 16 = .ok (.areturn, 1) := by decide +kernel
theorem pn_250289563 : plainFor (⟨"java/util/Arrays", "copyOfRange", "([BII)[B"⟩ : MethodName) = true := by first | exact plainFor_of_name (by first | (simp [plainName, overriddenIn]; done) | decide +kernel) | decide +kernel
theorem ef_ctCopyR (m : MethodId) (x0 : Addr) (x1 : Int32) (x2 : Int32) : entryFrame m #[(.ref x0), (.int x1), (.int x2)] 3 = mkF m 0 #[.val (.ref x0), .val (.int x1), .val (.int x2)] [] := by first | (simp [entryFrame, mkF, argsToLocals, Value.category]; done) | rfl
set_option maxRecDepth 65536 in
set_option maxHeartbeats 40000000 in
theorem ctCopyR (l : Launch) (Z : State) (a0 : Array Value) (hw : ∀ d ∈ tables_1, d.before a0 Z = true) (n0 : Nat) (h0 : Heap) (O0 : Old Z n0 h0) (t : Addr) (b n cap : Nat) (cs : List Int32) (kA : ClassId) (K : Arv Z h0 t kA .byte (Int32.ofNat cs.length) ((cs.map fun c => c.toInt8.toInt32).map Value.int) (.int 0)) (hlen : cs.length ≤ 4000) (hbn : b + n ≤ cs.length) (hcap : n ≤ 16) (hne : ¬ (b = 0 ∧ b + n = cs.length)) :
    own_Ct l (⟨"java/util/Arrays", "copyOfRange", "([BII)[B"⟩ : MethodName) jdk_65_method_132_code 3 (some (.array .byte)) ({ frames := 2, cells := 1, slots := 16, locals := 56 } : Room) Z consts_1 n0 #[(.ref t), (.int (Int32.ofNat b)), (.int (Int32.ofNat (b + n)))] h0 [] (fun v h => ∃ a k, v = some (.ref a) ∧ Ext h0 h ∧ Arv Z h a k .byte (Int32.ofNat n) ((((cs.drop b).take n).map fun c => c.toInt8.toInt32).map Value.int) (.int 0)) := by
  have hEL := own_EL hw
  refine own_body pn_250289563 O0 (fun p e s m below meth cc_ T0 vm0 hx hby hml0 hret hlk hnm hsf w0 => ?_)
  have hml : cc_.maxLocals = 3 := hml0
  have A_0 := own_at w0
  refine own_entry (ef_ctCopyR m t (Int32.ofNat b) (Int32.ofNat (b + n))) ?_
  refine own_by (T' := T0) (g' := (mkF m 1 #[.val (.ref t), .val (.int (Int32.ofNat b)), .val (.int (Int32.ofNat (b + n)))] [(.int (Int32.ofNat b))])) (fun t_ hr_ => XS.iloadN A_0 hx rfl (Jvm.hb hby d29_0) rfl hr_) ?_
  by_cases hc1_ : (Int32.ofNat b) = (0 : Int32)
  · refine own_by (T' := T0) (g' := (mkF m 4 #[.val (.ref t), .val (.int (Int32.ofNat b)), .val (.int (Int32.ofNat (b + n)))] [])) (fun t_ hr_ => XS.ifNo A_0 hx rfl (Jvm.hb hby d29_1) rfl ((if0 _ _).trans (teq hc1_).2) hr_) ?_
    refine own_by (T' := T0) (g' := (mkF m 5 #[.val (.ref t), .val (.int (Int32.ofNat b)), .val (.int (Int32.ofNat (b + n)))] [(.int (Int32.ofNat (b + n)))])) (fun t_ hr_ => XS.iloadN A_0 hx rfl (Jvm.hb hby d29_4) rfl hr_) ?_
    refine own_by (T' := T0) (g' := (mkF m 6 #[.val (.ref t), .val (.int (Int32.ofNat b)), .val (.int (Int32.ofNat (b + n)))] [(.ref t), (.int (Int32.ofNat (b + n)))])) (fun t_ hr_ => XS.aloadN A_0 hx rfl (Jvm.hb hby d29_5) rfl rfl hr_) ?_
    refine own_alen w0 hx K (g := (mkF m 6 #[.val (.ref t), .val (.int (Int32.ofNat b)), .val (.int (Int32.ofNat (b + n)))] [(.ref t), (.int (Int32.ofNat (b + n)))])) rfl rfl (Jvm.hb hby d29_6) ?_
    show own_WP p e _ below s Z _ n0 _ T0 (mkF m 7 #[.val (.ref t), .val (.int (Int32.ofNat b)), .val (.int (Int32.ofNat (b + n)))] [(.int (Int32.ofNat cs.length)), (.int (Int32.ofNat (b + n)))])
    refine own_by (T' := T0) (g' := (mkF m 10 #[.val (.ref t), .val (.int (Int32.ofNat b)), .val (.int (Int32.ofNat (b + n)))] [])) (fun t_ hr_ => XS.icmpNo A_0 hx rfl (Jvm.hb hby d29_7) rfl (feq (fun q => hne ⟨(own_oeq (by omega) (by omega)).mp hc1_, by have := (own_oeq (by omega) (by omega)).mp q; omega⟩)).1 hr_) ?_
    refine own_by (T' := T0) (g' := (mkF m 11 #[.val (.ref t), .val (.int (Int32.ofNat b)), .val (.int (Int32.ofNat (b + n)))] [(.ref t)])) (fun t_ hr_ => XS.aloadN A_0 hx rfl (Jvm.hb hby d29_10) rfl rfl hr_) ?_
    refine own_by (T' := T0) (g' := (mkF m 12 #[.val (.ref t), .val (.int (Int32.ofNat b)), .val (.int (Int32.ofNat (b + n)))] [(.int (Int32.ofNat b)), (.ref t)])) (fun t_ hr_ => XS.iloadN A_0 hx rfl (Jvm.hb hby d29_11) rfl hr_) ?_
    refine own_by (T' := T0) (g' := (mkF m 13 #[.val (.ref t), .val (.int (Int32.ofNat b)), .val (.int (Int32.ofNat (b + n)))] [(.int (Int32.ofNat (b + n))), (.int (Int32.ofNat b)), (.ref t)])) (fun t_ hr_ => XS.iloadN A_0 hx rfl (Jvm.hb hby d29_12) rfl hr_) ?_
    refine own_callS w0 hx (y := (⟨"java/util/Arrays", "copyOfRangeByte", "([BII)[B"⟩ : MethodName)) (hw _ (List.mem_of_getElem? (i := 167) rfl)) (hw _ (List.mem_of_getElem? (i := 168) rfl)) (hw _ (List.mem_of_getElem? (i := 165) rfl)) (hw _ (List.mem_of_getElem? (i := 169) rfl)) (by decide) (kc := 1) (ks := 16) (argsL := [(.ref t), (.int (Int32.ofNat b)), (.int (Int32.ofNat (b + n)))]) (rest := []) (own_payCt (W := 0) (ctCopyB l Z a0 hw n0 h0 (own_old w0) t b n cap cs kA K hlen hbn hcap) w0 (hw _ (List.mem_of_getElem? (i := 169) rfl)) (hw _ (List.mem_of_getElem? (i := 165) rfl)) hEL (by decide) (by decide)) (g := (mkF m 13 #[.val (.ref t), .val (.int (Int32.ofNat b)), .val (.int (Int32.ofNat (b + n)))] [(.int (Int32.ofNat (b + n))), (.int (Int32.ofNat b)), (.ref t)])) rfl (by rw [hml]; rfl) (lenOf pd_693184595 rfl) rfl (by show 2 * 0 + _ ≤ _; exact Nat.le_of_eq rfl) (Jvm.hb hby d29_13) (by decide) (by decide) (fun v2_ T2_ vm2_ h2_ q2_ C2_ w2_ => ?_)
    obtain ⟨a1, k1, rfl, E1, V1⟩ := q2_
    have A2_ := own_at w2_
    show own_WP p e _ below s Z _ n0 _ T2_ (mkF m 16 #[.val (.ref t), .val (.int (Int32.ofNat b)), .val (.int (Int32.ofNat (b + n)))] [(.ref a1)])
    exact own_retA w2_ hx hEL hlk hret rfl rfl (Jvm.hb hby d29_16) (by decide) (by decide) ⟨_, _, rfl, E1, V1⟩
  · refine own_by (T' := T0) (g' := (mkF m 10 #[.val (.ref t), .val (.int (Int32.ofNat b)), .val (.int (Int32.ofNat (b + n)))] [])) (fun t_ hr_ => XS.ifYes A_0 hx rfl (pc0 := 1) (pc' := 10) rfl (Jvm.hb hby d29_1) rfl ((if0 _ _).trans (feq hc1_).2) (by decide) (by decide) hr_) ?_
    refine own_by (T' := T0) (g' := (mkF m 11 #[.val (.ref t), .val (.int (Int32.ofNat b)), .val (.int (Int32.ofNat (b + n)))] [(.ref t)])) (fun t_ hr_ => XS.aloadN A_0 hx rfl (Jvm.hb hby d29_10) rfl rfl hr_) ?_
    refine own_by (T' := T0) (g' := (mkF m 12 #[.val (.ref t), .val (.int (Int32.ofNat b)), .val (.int (Int32.ofNat (b + n)))] [(.int (Int32.ofNat b)), (.ref t)])) (fun t_ hr_ => XS.iloadN A_0 hx rfl (Jvm.hb hby d29_11) rfl hr_) ?_
    refine own_by (T' := T0) (g' := (mkF m 13 #[.val (.ref t), .val (.int (Int32.ofNat b)), .val (.int (Int32.ofNat (b + n)))] [(.int (Int32.ofNat (b + n))), (.int (Int32.ofNat b)), (.ref t)])) (fun t_ hr_ => XS.iloadN A_0 hx rfl (Jvm.hb hby d29_12) rfl hr_) ?_
    refine own_callS w0 hx (y := (⟨"java/util/Arrays", "copyOfRangeByte", "([BII)[B"⟩ : MethodName)) (hw _ (List.mem_of_getElem? (i := 167) rfl)) (hw _ (List.mem_of_getElem? (i := 168) rfl)) (hw _ (List.mem_of_getElem? (i := 165) rfl)) (hw _ (List.mem_of_getElem? (i := 169) rfl)) (by decide) (kc := 1) (ks := 16) (argsL := [(.ref t), (.int (Int32.ofNat b)), (.int (Int32.ofNat (b + n)))]) (rest := []) (own_payCt (W := 0) (ctCopyB l Z a0 hw n0 h0 (own_old w0) t b n cap cs kA K hlen hbn hcap) w0 (hw _ (List.mem_of_getElem? (i := 169) rfl)) (hw _ (List.mem_of_getElem? (i := 165) rfl)) hEL (by decide) (by decide)) (g := (mkF m 13 #[.val (.ref t), .val (.int (Int32.ofNat b)), .val (.int (Int32.ofNat (b + n)))] [(.int (Int32.ofNat (b + n))), (.int (Int32.ofNat b)), (.ref t)])) rfl (by rw [hml]; rfl) (lenOf pd_693184595 rfl) rfl (by show 2 * 0 + _ ≤ _; exact Nat.le_of_eq rfl) (Jvm.hb hby d29_13) (by decide) (by decide) (fun v3_ T3_ vm3_ h3_ q3_ C3_ w3_ => ?_)
    obtain ⟨a1, k1, rfl, E1, V1⟩ := q3_
    have A3_ := own_at w3_
    show own_WP p e _ below s Z _ n0 _ T3_ (mkF m 16 #[.val (.ref t), .val (.int (Int32.ofNat b)), .val (.int (Int32.ofNat (b + n)))] [(.ref a1)])
    exact own_retA w3_ hx hEL hlk hret rfl rfl (Jvm.hb hby d29_16) (by decide) (by decide) ⟨_, _, rfl, E1, V1⟩

theorem own_EB {Z : State} {a0 : Array Value} (hw : ∀ d ∈ tables_1, d.before a0 Z = true) : own_ELb Z a0 consts_1 1 := fun p hp => by
  rcases List.mem_cons.mp hp with rfl | hp
  · exact ⟨"", (hw _ (List.mem_of_getElem? (i := 34) rfl)), by decide, by decide⟩
  · rcases List.mem_cons.mp hp with rfl | hp
    · exact ⟨":", (hw _ (List.mem_of_getElem? (i := 132) rfl)), by decide, by decide⟩
    · cases hp
/-- a StringBuilder of 16 places: its array t spells ds, n of them in use -/
def own_Bld (Z : State) (h : Heap) (b t : Addr) (k : ClassId) (ds : List Int32) (n : Nat) : Prop :=
  Exa Z h b "java/lang/StringBuilder" ∧ Fld Z h b "java/lang/AbstractStringBuilder" "value" "[B" (.ref t) ∧ Fld Z h b "java/lang/AbstractStringBuilder" "coder" "B" (.int 0) ∧ Fld Z h b "java/lang/AbstractStringBuilder" "count" "I" (.int (Int32.ofNat n)) ∧ Arv Z h t k .byte (16 : Int32) ((ds.map fun c => c.toInt8.toInt32).map Value.int) (.int 0) ∧ ds.length = 16 ∧ n ≤ 16
theorem own_Bld.ext {Z : State} {h h' : Heap} {b t : Addr} {k : ClassId} {ds : List Int32} {n : Nat} (E : Ext h h') (F : own_Bld Z h b t k ds n) : own_Bld Z h' b t k ds n := ⟨F.1.ext E, F.2.1.ext E, F.2.2.1.ext E, F.2.2.2.1.ext E, F.2.2.2.2.1.ext E, F.2.2.2.2.2⟩
theorem own_z16 : ((([0, 0, 0, 0, 0, 0, 0, 0, 0, 0, 0, 0, 0, 0, 0, 0] : List Int32).map fun c => c.toInt8.toInt32).map Value.int) = List.replicate 16 (.int (0 : Int32)) := by first | decide | rfl
theorem d13_0 : decode jdk_68_method_2_code 0 = .ok (.aload_n 0, 1) := by decide +kernel
theorem d13_1 : decode jdk_68_method_2_code 1 = .ok (.invokespecial 3, 3) := by decide +kernel
theorem d13_4 : decode jdk_68_method_2_code 4 = .ok (.getstatic 18, 3) := by decide +kernel
theorem d13_7 : decode jdk_68_method_2_code 7 = .ok (.ifCond .eq 18, 3) := by decide +kernel
theorem d13_10 : decode jdk_68_method_2_code 10 = .ok (.aload_n 0, 1) := by decide +kernel
theorem d13_11 : decode jdk_68_method_2_code 11 = .ok (.iload_n 1, 1) := by decide +kernel
theorem d13_12 : decode jdk_68_method_2_code 12 = .ok (.newarray .byte, 2) := by decide +kernel
theorem d13_14 : decode jdk_68_method_2_code 14 = .ok (.putfield 15, 3) := by decide +kernel
theorem d13_17 : decode jdk_68_method_2_code 17 = .ok (.aload_n 0, 1) := by decide +kernel
theorem d13_18 : decode jdk_68_method_2_code 18 = .ok (.iconst 0, 1) := by decide +kernel
theorem d13_19 : decode jdk_68_method_2_code 19 = .ok (.putfield 22, 3) := by decide +kernel
theorem d13_22 : decode jdk_68_method_2_code 22 = .ok (.goto 16, 3) := by decide +kernel
theorem d13_38 : decode jdk_68_method_2_code 38 = .ok (.return_, 1) := by decide +kernel
theorem pn_246081097 : plainFor (⟨"java/lang/AbstractStringBuilder", "<init>", "(I)V"⟩ : MethodName) = true := by first | exact plainFor_of_name (by first | (simp [plainName, overriddenIn]; done) | decide +kernel) | decide +kernel
theorem ef_ctAbI (m : MethodId) (x0 : Addr) (x1 : Int32) : entryFrame m #[(.ref x0), (.int x1)] 2 = mkF m 0 #[.val (.ref x0), .val (.int x1)] [] := by first | (simp [entryFrame, mkF, argsToLocals, Value.category]; done) | rfl
set_option maxRecDepth 65536 in
set_option maxHeartbeats 40000000 in
theorem ctAbI (l : Launch) (Z : State) (a0 : Array Value) (hw : ∀ d ∈ tables_1, d.before a0 Z = true) (SC : own_SC Z) (n0 : Nat) (h0 : Heap) (O0 : Old Z n0 h0) (b : Addr) (u0 u1 : Value) (X0 : Exa Z h0 b "java/lang/StringBuilder") (F0 : Fld Z h0 b "java/lang/AbstractStringBuilder" "value" "[B" u0) (F1 : Fld Z h0 b "java/lang/AbstractStringBuilder" "coder" "B" u1) (F2 : Fld Z h0 b "java/lang/AbstractStringBuilder" "count" "I" (.int 0)) (gb : n0 ≤ b) :
    own_Ct l (⟨"java/lang/AbstractStringBuilder", "<init>", "(I)V"⟩ : MethodName) jdk_68_method_2_code 2 none ({ frames := 1, cells := 1, slots := 16, locals := 12 } : Room) Z consts_1 n0 #[(.ref b), (.int (16 : Int32))] h0 [] (fun v h => v = none ∧ Keep h0 h [b] ∧ ∃ t k, h0.size ≤ t ∧ own_Bld Z h b t k ([0, 0, 0, 0, 0, 0, 0, 0, 0, 0, 0, 0, 0, 0, 0, 0] : List Int32) 0) := by
  have hEL := own_EL hw
  refine own_body pn_246081097 O0 (fun p e s m below meth cc_ T0 vm0 hx hby hml0 hret hlk hnm hsf w0 => ?_)
  have hml : cc_.maxLocals = 2 := hml0
  have A_0 := own_at w0
  refine own_entry (ef_ctAbI m b (16 : Int32)) ?_
  obtain ⟨z, Sz, hz⟩ := SC
  refine own_by (T' := T0) (g' := (mkF m 1 #[.val (.ref b), .val (.int (16 : Int32))] [(.ref b)])) (fun t_ hr_ => XS.aloadN A_0 hx rfl (Jvm.hb hby d13_0) rfl rfl hr_) ?_
  refine own_initO w0 hx (hw _ (List.mem_of_getElem? (i := 79) rfl)) (hw _ (List.mem_of_getElem? (i := 16) rfl)) (hw _ (List.mem_of_getElem? (i := 17) rfl)) (g := (mkF m 1 #[.val (.ref b), .val (.int (16 : Int32))] [(.ref b)])) rfl (by rw [hml]; rfl) rfl (Jvm.hb hby d13_1) (by decide) (W := 0) (by show 2 * 0 + _ ≤ _; exact Nat.le_of_eq rfl) (by decide) (fun T1_ w1_ => ?_)
  have A1_ := own_at w1_
  show own_WP p e _ below s Z _ n0 _ T1_ (mkF m 4 #[.val (.ref b), .val (.int (16 : Int32))] [])
  refine own_getS w1_ hx (hw _ (List.mem_of_getElem? (i := 80) rfl)) (Sz.ext O0.2) (g := (mkF m 4 #[.val (.ref b), .val (.int (16 : Int32))] [])) rfl (Jvm.hb hby d13_4) (fun T2_ w2_ => ?_)
  have A2_ := own_at w2_
  show own_WP p e _ below s Z _ n0 _ T2_ (mkF m 7 #[.val (.ref b), .val (.int (16 : Int32))] [(.int z)])
  refine own_by (T' := T2_) (g' := (mkF m 10 #[.val (.ref b), .val (.int (16 : Int32))] [])) (fun t_ hr_ => XS.ifNo A2_ hx rfl (Jvm.hb hby d13_7) rfl ((if0 _ _).trans (feq hz).1) hr_) ?_
  refine own_by (T' := T2_) (g' := (mkF m 11 #[.val (.ref b), .val (.int (16 : Int32))] [(.ref b)])) (fun t_ hr_ => XS.aloadN A2_ hx rfl (Jvm.hb hby d13_10) rfl rfl hr_) ?_
  refine own_by (T' := T2_) (g' := (mkF m 12 #[.val (.ref b), .val (.int (16 : Int32))] [(.int (16 : Int32)), (.ref b)])) (fun t_ hr_ => XS.iloadN A2_ hx rfl (Jvm.hb hby d13_11) rfl hr_) ?_
  refine own_newP w2_ hx (hw _ (List.mem_of_getElem? (i := 23) rfl)) (g := (mkF m 12 #[.val (.ref b), .val (.int (16 : Int32))] [(.int (16 : Int32)), (.ref b)])) rfl (Jvm.hb hby d13_12) rfl (by decide) (cap := 16) (by decide) (by decide) (by decide) (by decide) (fun T3_ h3_ a3_ k3_ g3_ E3_ V3_ w3_ => ?_)
  have A3_ := own_at w3_
  show own_WP p e _ below s Z _ n0 _ T3_ (mkF m 14 #[.val (.ref b), .val (.int (16 : Int32))] [(.ref a3_), (.ref b)])
  have ne1 : b ≠ a3_ := Nat.ne_of_lt (by rw [g3_]; exact X0.lt)
  have V0 : Arv Z h3_ a3_ k3_ .byte (16 : Int32) ((([0, 0, 0, 0, 0, 0, 0, 0, 0, 0, 0, 0, 0, 0, 0, 0] : List Int32).map fun c => c.toInt8.toInt32).map Value.int) (.int 0) := by
    rw [own_z16]
    exact V3_.pad (vs' := List.replicate 16 (.int (0 : Int32))) (fun i => by first | exact pad_rep [] (.int (0 : Int32)) 16 i | (have := pad_rep [] (.int (0 : Int32)) 16 i; simpa using this))
  have X0E := X0.ext E3_
  have F0E := F0.ext E3_
  have F1E := F1.ext E3_
  have F2E := F2.ext E3_
  refine own_putF w3_ hx (hw _ (List.mem_of_getElem? (i := 81) rfl)) F0E X0E (Or.inl (hw _ (List.mem_of_getElem? (i := 82) rfl))) (hw _ (List.mem_of_getElem? (i := 68) rfl)) (ty := (.array .byte)) (by decide) rfl rfl gb (Safe.exa (own_hZ w3_).alike X0E (by decide) (by decide)) (g := (mkF m 14 #[.val (.ref b), .val (.int (16 : Int32))] [(.ref a3_), (.ref b)])) rfl rfl (Jvm.hb hby d13_14) (fun T4_ h4_ W4_ w4_ => ?_)
  have A4_ := own_at w4_
  show own_WP p e _ below s Z _ n0 _ T4_ (mkF m 17 #[.val (.ref b), .val (.int (16 : Int32))] [])
  refine own_by (T' := T4_) (g' := (mkF m 18 #[.val (.ref b), .val (.int (16 : Int32))] [(.ref b)])) (fun t_ hr_ => XS.aloadN A4_ hx rfl (Jvm.hb hby d13_17) rfl rfl hr_) ?_
  refine own_by (T' := T4_) (g' := (mkF m 19 #[.val (.ref b), .val (.int (16 : Int32))] [(.int (0 : Int32)), (.ref b)])) (fun t_ hr_ => XS.iconst A4_ hx rfl (Jvm.hb hby d13_18) hr_) ?_
  have X1 := X0E.wr W4_
  have A0' := F0E.same W4_
  have A1' := F1E.other W4_ (Or.inr (slot_ne (Or.inl (hw _ (List.mem_of_getElem? (i := 84) rfl))) (Or.inl (hw _ (List.mem_of_getElem? (i := 82) rfl))) (by decide) rfl rfl))
  have A2' := F2E.other W4_ (Or.inr (slot_ne (Or.inl (hw _ (List.mem_of_getElem? (i := 106) rfl))) (Or.inl (hw _ (List.mem_of_getElem? (i := 82) rfl))) (by decide) rfl rfl))
  have V1 := V0.other W4_ (Ne.symm ne1)
  refine own_putF w4_ hx (hw _ (List.mem_of_getElem? (i := 83) rfl)) A1' X1 (Or.inl (hw _ (List.mem_of_getElem? (i := 84) rfl))) (hw _ (List.mem_of_getElem? (i := 68) rfl)) (ty := .byte) (by decide) rfl rfl gb (Safe.exa (own_hZ w4_).alike X1 (by decide) (by decide)) (g := (mkF m 19 #[.val (.ref b), .val (.int (16 : Int32))] [(.int (0 : Int32)), (.ref b)])) rfl rfl (Jvm.hb hby d13_19) (fun T5_ h5_ W5_ w5_ => ?_)
  have A5_ := own_at w5_
  show own_WP p e _ below s Z _ n0 _ T5_ (mkF m 22 #[.val (.ref b), .val (.int (16 : Int32))] [])
  refine own_by (T' := T5_) (g' := (mkF m 38 #[.val (.ref b), .val (.int (16 : Int32))] [])) (fun t_ hr_ => XS.goto A5_ hx rfl (pc0 := 22) (pc' := 38) rfl (Jvm.hb hby d13_22) (by decide) (by decide) hr_) ?_
  exact own_retV w5_ hx hEL hlk hret (Jvm.hb hby d13_38) (by decide) (by decide) ⟨rfl, ((((Keep.refl h0 [b]).ext E3_).wr W4_ (Or.inl (List.mem_of_getElem? (i := 0) rfl))).wr W5_ (Or.inl (List.mem_of_getElem? (i := 0) rfl))), _, _, (by rw [g3_]; exact Nat.le_refl _), X1.wr W5_, A0'.other W5_ (Or.inr (slot_ne (Or.inl (hw _ (List.mem_of_getElem? (i := 82) rfl))) (Or.inl (hw _ (List.mem_of_getElem? (i := 84) rfl))) (by decide) rfl rfl)), A1'.same W5_, A2'.other W5_ (Or.inr (slot_ne (Or.inl (hw _ (List.mem_of_getElem? (i := 106) rfl))) (Or.inl (hw _ (List.mem_of_getElem? (i := 84) rfl))) (by decide) rfl rfl)), V1.other W5_ (Ne.symm ne1), rfl, Nat.zero_le _⟩

theorem d12_0 : decode jdk_67_method_1_code 0 = .ok (.aload_n 0, 1) := by decide +kernel
theorem d12_1 : decode jdk_67_method_1_code 1 = .ok (.bipush 16, 2) := by decide +kernel
theorem d12_3 : decode jdk_67_method_1_code 3 = .ok (.invokespecial 1, 3) := by decide +kernel
theorem pd_91181850 : parseMethodDescriptor "(I)V" = some ⟨[.int], none⟩ := by decide +kernel
theorem d12_6 : decode jdk_67_method_1_code 6 = .ok (.return_, 1) := by decide +kernel
theorem pn_513524239 : plainFor (⟨"java/lang/StringBuilder", "<init>", "()V"⟩ : MethodName) = true := by first | exact plainFor_of_name (by first | (simp [plainName, overriddenIn]; done) | decide +kernel) | decide +kernel
theorem ef_ctSbI (m : MethodId) (x0 : Addr) : entryFrame m #[(.ref x0)] 1 = mkF m 0 #[.val (.ref x0)] [] := by first | (simp [entryFrame, mkF, argsToLocals, Value.category]; done) | rfl
set_option maxRecDepth 65536 in
set_option maxHeartbeats 40000000 in
theorem ctSbI (l : Launch) (Z : State) (a0 : Array Value) (hw : ∀ d ∈ tables_1, d.before a0 Z = true) (SC : own_SC Z) (n0 : Nat) (h0 : Heap) (O0 : Old Z n0 h0) (b : Addr) (u0 u1 : Value) (X0 : Exa Z h0 b "java/lang/StringBuilder") (F0 : Fld Z h0 b "java/lang/AbstractStringBuilder" "value" "[B" u0) (F1 : Fld Z h0 b "java/lang/AbstractStringBuilder" "coder" "B" u1) (F2 : Fld Z h0 b "java/lang/AbstractStringBuilder" "count" "I" (.int 0)) (gb : n0 ≤ b) :
    own_Ct l (⟨"java/lang/StringBuilder", "<init>", "()V"⟩ : MethodName) jdk_67_method_1_code 1 none ({ frames := 2, cells := 1, slots := 16, locals := 25 } : Room) Z consts_1 n0 #[(.ref b)] h0 [] (fun v h => v = none ∧ Keep h0 h [b] ∧ ∃ t k, h0.size ≤ t ∧ own_Bld Z h b t k ([0, 0, 0, 0, 0, 0, 0, 0, 0, 0, 0, 0, 0, 0, 0, 0] : List Int32) 0) := by
  have hEL := own_EL hw
  refine own_body pn_513524239 O0 (fun p e s m below meth cc_ T0 vm0 hx hby hml0 hret hlk hnm hsf w0 => ?_)
  have hml : cc_.maxLocals = 1 := hml0
  have A_0 := own_at w0
  refine own_entry (ef_ctSbI m b) ?_
  refine own_by (T' := T0) (g' := (mkF m 1 #[.val (.ref b)] [(.ref b)])) (fun t_ hr_ => XS.aloadN A_0 hx rfl (Jvm.hb hby d12_0) rfl rfl hr_) ?_
  refine own_by (T' := T0) (g' := (mkF m 3 #[.val (.ref b)] [(.int (16 : Int32)), (.ref b)])) (fun t_ hr_ => XS.bipush A_0 hx rfl (Jvm.hb hby d12_1) hr_) ?_
  refine own_callC w0 hx (y := (⟨"java/lang/AbstractStringBuilder", "<init>", "(I)V"⟩ : MethodName)) rfl (hw _ (List.mem_of_getElem? (i := 73) rfl)) (hw _ (List.mem_of_getElem? (i := 74) rfl)) (hw _ (List.mem_of_getElem? (i := 78) rfl)) (by decide) (kc := 1) (ks := 16) (a := b) (argsL := [(.int (16 : Int32))]) (rest := []) (own_payCt (W := 0) (ctAbI l Z a0 hw SC n0 h0 (own_old w0) b u0 u1 X0 F0 F1 F2 gb) w0 (hw _ (List.mem_of_getElem? (i := 78) rfl)) (hw _ (List.mem_of_getElem? (i := 77) rfl)) hEL (by decide) (by decide)) (g := (mkF m 3 #[.val (.ref b)] [(.int (16 : Int32)), (.ref b)])) rfl (by rw [hml]; rfl) (lenOf pd_91181850 rfl) rfl (by show 2 * 0 + _ ≤ _; exact Nat.le_of_eq rfl) (Jvm.hb hby d12_3) (by decide) (by decide) (fun v1_ T1_ vm1_ h1_ q1_ C1_ w1_ => ?_)
  obtain ⟨rfl, K1, t, k, g1, B1⟩ := q1_
  have A1_ := own_at w1_
  show own_WP p e _ below s Z _ n0 _ T1_ (mkF m 6 #[.val (.ref b)] [])
  exact own_retV w1_ hx hEL hlk hret (Jvm.hb hby d12_6) (by decide) (by decide) ⟨rfl, K1, t, k, g1, B1⟩

theorem d17_0 : decode jdk_42_method_152_code 0 = .ok (.getstatic 38, 3) := by decide +kernel
theorem d17_3 : decode jdk_42_method_152_code 3 = .ok (.ifCond .eq 10, 3) := by decide +kernel
theorem d17_6 : decode jdk_42_method_152_code 6 = .ok (.aload_n 0, 1) := by decide +kernel
theorem d17_7 : decode jdk_42_method_152_code 7 = .ok (.getfield 15, 3) := by decide +kernel
theorem d17_10 : decode jdk_42_method_152_code 10 = .ok (.goto 4, 3) := by decide +kernel
theorem d17_14 : decode jdk_42_method_152_code 14 = .ok (.ireturn, 1) := by decide +kernel
theorem pn_164818843 : plainFor (⟨"java/lang/String", "coder", "()B"⟩ : MethodName) = true := by first | exact plainFor_of_name (by first | (simp [plainName, overriddenIn]; done) | decide +kernel) | decide +kernel
theorem ef_ctCd (m : MethodId) (x0 : Addr) : entryFrame m #[(.ref x0)] 1 = mkF m 0 #[.val (.ref x0)] [] := by first | (simp [entryFrame, mkF, argsToLocals, Value.category]; done) | rfl
set_option maxRecDepth 65536 in
set_option maxHeartbeats 40000000 in
theorem ctCd (l : Launch) (Z : State) (a0 : Array Value) (hw : ∀ d ∈ tables_1, d.before a0 Z = true) (SC : own_SC Z) (n0 : Nat) (h0 : Heap) (O0 : Old Z n0 h0) (x : Addr) (cs : List Int32) (S0 : own_Str Z h0 x cs) :
    own_Ct l (⟨"java/lang/String", "coder", "()B"⟩ : MethodName) jdk_42_method_152_code 1 (some .byte) ({ frames := 0, cells := 0, slots := 0, locals := 0 } : Room) Z consts_1 n0 #[(.ref x)] h0 [] (fun v h => v = some (.int 0) ∧ h0 = h) := by
  have hEL := own_EL hw
  refine own_body pn_164818843 O0 (fun p e s m below meth cc_ T0 vm0 hx hby hml0 hret hlk hnm hsf w0 => ?_)
  have hml : cc_.maxLocals = 1 := hml0
  have A_0 := own_at w0
  refine own_entry (ef_ctCd m x) ?_
  obtain ⟨z, Sz, hz⟩ := SC
  refine own_getS w0 hx (hw _ (List.mem_of_getElem? (i := 18) rfl)) (Sz.ext O0.2) (g := (mkF m 0 #[.val (.ref x)] [])) rfl (Jvm.hb hby d17_0) (fun T1_ w1_ => ?_)
  have A1_ := own_at w1_
  show own_WP p e _ below s Z _ n0 _ T1_ (mkF m 3 #[.val (.ref x)] [(.int z)])
  refine own_by (T' := T1_) (g' := (mkF m 6 #[.val (.ref x)] [])) (fun t_ hr_ => XS.ifNo A1_ hx rfl (Jvm.hb hby d17_3) rfl ((if0 _ _).trans (feq hz).1) hr_) ?_
  refine own_by (T' := T1_) (g' := (mkF m 7 #[.val (.ref x)] [(.ref x)])) (fun t_ hr_ => XS.aloadN A1_ hx rfl (Jvm.hb hby d17_6) rfl rfl hr_) ?_
  refine own_getF w1_ hx (hw _ (List.mem_of_getElem? (i := 30) rfl)) S0.2.1 (g := (mkF m 7 #[.val (.ref x)] [(.ref x)])) rfl rfl (Jvm.hb hby d17_7) (fun T2_ w2_ => ?_)
  have A2_ := own_at w2_
  show own_WP p e _ below s Z _ n0 _ T2_ (mkF m 10 #[.val (.ref x)] [(.int (0 : Int32))])
  refine own_by (T' := T2_) (g' := (mkF m 14 #[.val (.ref x)] [(.int (0 : Int32))])) (fun t_ hr_ => XS.goto A2_ hx rfl (pc0 := 10) (pc' := 14) rfl (Jvm.hb hby d17_10) (by decide) (by decide) hr_) ?_
  exact own_retB w2_ hx hEL hlk hret rfl (Jvm.hb hby d17_14) (by decide) (by decide) ⟨rfl, rfl⟩

theorem d18_0 : decode jdk_68_method_9_code 0 = .ok (.aload_n 0, 1) := by decide +kernel
theorem d18_1 : decode jdk_68_method_9_code 1 = .ok (.getfield 15, 3) := by decide +kernel
theorem d18_4 : decode jdk_68_method_9_code 4 = .ok (.arraylength, 1) := by decide +kernel
theorem d18_5 : decode jdk_68_method_9_code 5 = .ok (.aload_n 0, 1) := by decide +kernel
theorem d18_6 : decode jdk_68_method_9_code 6 = .ok (.getfield 22, 3) := by decide +kernel
theorem d18_9 : decode jdk_68_method_9_code 9 = .ok (.ishr, 1) := by decide +kernel
theorem d18_10 : decode jdk_68_method_9_code 10 = .ok (.istore_n 2, 1) := by decide +kernel
theorem d18_11 : decode jdk_68_method_9_code 11 = .ok (.iload_n 1, 1) := by decide +kernel
theorem d18_12 : decode jdk_68_method_9_code 12 = .ok (.iload_n 2, 1) := by decide +kernel
theorem d18_13 : decode jdk_68_method_9_code 13 = .ok (.isub, 1) := by decide +kernel
theorem d18_14 : decode jdk_68_method_9_code 14 = .ok (.ifCond .le 24, 3) := by decide +kernel
theorem d18_38 : decode jdk_68_method_9_code 38 = .ok (.return_, 1) := by decide +kernel
theorem pn_453629130 : plainFor (⟨"java/lang/AbstractStringBuilder", "ensureCapacityInternal", "(I)V"⟩ : MethodName) = true := by first | exact plainFor_of_name (by first | (simp [plainName, overriddenIn]; done) | decide +kernel) | decide +kernel
theorem ef_ctEC (m : MethodId) (x0 : Addr) (x1 : Int32) : entryFrame m #[(.ref x0), (.int x1)] 3 = mkF m 0 #[.val (.ref x0), .val (.int x1), .unset] [] := by first | (simp [entryFrame, mkF, argsToLocals, Value.category]; done) | rfl
set_option maxRecDepth 65536 in
set_option maxHeartbeats 40000000 in
theorem ctEC (l : Launch) (Z : State) (a0 : Array Value) (hw : ∀ d ∈ tables_1, d.before a0 Z = true) (n0 : Nat) (h0 : Heap) (O0 : Old Z n0 h0) (b t : Addr) (k : ClassId) (ds : List Int32) (n : Nat) (mm : Nat) (B0 : own_Bld Z h0 b t k ds n) (hm : mm ≤ 16) :
    own_Ct l (⟨"java/lang/AbstractStringBuilder", "ensureCapacityInternal", "(I)V"⟩ : MethodName) jdk_68_method_9_code 3 none ({ frames := 0, cells := 0, slots := 0, locals := 0 } : Room) Z consts_1 n0 #[(.ref b), (.int (Int32.ofNat mm))] h0 [] (fun v h => v = none ∧ h0 = h) := by
  have hEL := own_EL hw
  refine own_body pn_453629130 O0 (fun p e s m below meth cc_ T0 vm0 hx hby hml0 hret hlk hnm hsf w0 => ?_)
  have hml : cc_.maxLocals = 3 := hml0
  have A_0 := own_at w0
  refine own_entry (ef_ctEC m b (Int32.ofNat mm)) ?_
  obtain ⟨b1, b2, b3, b4, b5, b6, b7⟩ := id B0
  refine own_by (T' := T0) (g' := (mkF m 1 #[.val (.ref b), .val (.int (Int32.ofNat mm)), .unset] [(.ref b)])) (fun t_ hr_ => XS.aloadN A_0 hx rfl (Jvm.hb hby d18_0) rfl rfl hr_) ?_
  refine own_getF w0 hx (hw _ (List.mem_of_getElem? (i := 81) rfl)) b2 (g := (mkF m 1 #[.val (.ref b), .val (.int (Int32.ofNat mm)), .unset] [(.ref b)])) rfl rfl (Jvm.hb hby d18_1) (fun T1_ w1_ => ?_)
  have A1_ := own_at w1_
  show own_WP p e _ below s Z _ n0 _ T1_ (mkF m 4 #[.val (.ref b), .val (.int (Int32.ofNat mm)), .unset] [(.ref t)])
  refine own_alen w1_ hx b5 (g := (mkF m 4 #[.val (.ref b), .val (.int (Int32.ofNat mm)), .unset] [(.ref t)])) rfl rfl (Jvm.hb hby d18_4) ?_
  show own_WP p e _ below s Z _ n0 _ T1_ (mkF m 5 #[.val (.ref b), .val (.int (Int32.ofNat mm)), .unset] [(.int (16 : Int32))])
  refine own_by (T' := T1_) (g' := (mkF m 6 #[.val (.ref b), .val (.int (Int32.ofNat mm)), .unset] [(.ref b), (.int (16 : Int32))])) (fun t_ hr_ => XS.aloadN A1_ hx rfl (Jvm.hb hby d18_5) rfl rfl hr_) ?_
  refine own_getF w1_ hx (hw _ (List.mem_of_getElem? (i := 83) rfl)) b3 (g := (mkF m 6 #[.val (.ref b), .val (.int (Int32.ofNat mm)), .unset] [(.ref b), (.int (16 : Int32))])) rfl rfl (Jvm.hb hby d18_6) (fun T2_ w2_ => ?_)
  have A2_ := own_at w2_
  show own_WP p e _ below s Z _ n0 _ T2_ (mkF m 9 #[.val (.ref b), .val (.int (Int32.ofNat mm)), .unset] [(.int (0 : Int32)), (.int (16 : Int32))])
  refine own_by (T' := T2_) (g' := (mkF m 10 #[.val (.ref b), .val (.int (Int32.ofNat mm)), .unset] [(.int ((16 : Int32) >>> ((0 : Int32) &&& 31)))])) (fun t_ hr_ => XS.ishr A2_ hx rfl (Jvm.hb hby d18_9) rfl hr_) ?_
  rw [show ((16 : Int32) >>> ((0 : Int32) &&& 31)) = (16 : Int32) from own_shr0 _]
  show own_WP p e _ below s Z _ n0 _ T2_ (mkF m 10 #[.val (.ref b), .val (.int (Int32.ofNat mm)), .unset] [(.int (16 : Int32))])
  refine own_by (T' := T2_) (g' := (mkF m 11 #[.val (.ref b), .val (.int (Int32.ofNat mm)), .val (.int (16 : Int32))] [])) (fun t_ hr_ => XS.istoreN A2_ hx rfl (Jvm.hb hby d18_10) rfl (l' := #[.val (.ref b), .val (.int (Int32.ofNat mm)), .val (.int (16 : Int32))]) rfl hr_) ?_
  refine own_by (T' := T2_) (g' := (mkF m 12 #[.val (.ref b), .val (.int (Int32.ofNat mm)), .val (.int (16 : Int32))] [(.int (Int32.ofNat mm))])) (fun t_ hr_ => XS.iloadN A2_ hx rfl (Jvm.hb hby d18_11) rfl hr_) ?_
  refine own_by (T' := T2_) (g' := (mkF m 13 #[.val (.ref b), .val (.int (Int32.ofNat mm)), .val (.int (16 : Int32))] [(.int (16 : Int32)), (.int (Int32.ofNat mm))])) (fun t_ hr_ => XS.iloadN A2_ hx rfl (Jvm.hb hby d18_12) rfl hr_) ?_
  refine own_by (T' := T2_) (g' := (mkF m 14 #[.val (.ref b), .val (.int (Int32.ofNat mm)), .val (.int (16 : Int32))] [(.int ((Int32.ofNat mm) - (16 : Int32)))])) (fun t_ hr_ => XS.isub A2_ hx rfl (Jvm.hb hby d18_13) rfl hr_) ?_
  refine own_by (T' := T2_) (g' := (mkF m 38 #[.val (.ref b), .val (.int (Int32.ofNat mm)), .val (.int (16 : Int32))] [])) (fun t_ hr_ => XS.ifYes A2_ hx rfl (pc0 := 14) (pc' := 38) rfl (Jvm.hb hby d18_14) rfl ((if0 _ _).trans (flt (own_sub16 hm)).2.2.2) (by decide) (by decide) hr_) ?_
  exact own_retV w2_ hx hEL hlk hret (Jvm.hb hby d18_38) (by decide) (by decide) ⟨rfl, rfl⟩

theorem d20_0 : decode jdk_68_method_71_code 0 = .ok (.getstatic 18, 3) := by decide +kernel
theorem d20_3 : decode jdk_68_method_71_code 3 = .ok (.ifCond .eq 18, 3) := by decide +kernel
theorem d20_6 : decode jdk_68_method_71_code 6 = .ok (.aload_n 0, 1) := by decide +kernel
theorem d20_7 : decode jdk_68_method_71_code 7 = .ok (.getfield 22, 3) := by decide +kernel
theorem d20_10 : decode jdk_68_method_71_code 10 = .ok (.aload_n 1, 1) := by decide +kernel
theorem d20_11 : decode jdk_68_method_71_code 11 = .ok (.invokevirtual 40, 3) := by decide +kernel
theorem pd_691877 : parseMethodDescriptor "()B" = some ⟨[], some .byte⟩ := by decide +kernel
theorem d20_14 : decode jdk_68_method_71_code 14 = .ok (.if_icmp .eq 7, 3) := by decide +kernel
theorem d20_21 : decode jdk_68_method_71_code 21 = .ok (.return_, 1) := by decide +kernel
theorem pn_376144569 : plainFor (⟨"java/lang/AbstractStringBuilder", "inflateIfNeededFor", "(Ljava/lang/String;)V"⟩ : MethodName) = true := by first | exact plainFor_of_name (by first | (simp [plainName, overriddenIn]; done) | decide +kernel) | decide +kernel
theorem ef_ctInf (m : MethodId) (x0 : Addr) (x1 : Addr) : entryFrame m #[(.ref x0), (.ref x1)] 2 = mkF m 0 #[.val (.ref x0), .val (.ref x1)] [] := by first | (simp [entryFrame, mkF, argsToLocals, Value.category]; done) | rfl
set_option maxRecDepth 65536 in
set_option maxHeartbeats 40000000 in
theorem ctInf (l : Launch) (Z : State) (a0 : Array Value) (hw : ∀ d ∈ tables_1, d.before a0 Z = true) (SC : own_SC Z) (n0 : Nat) (h0 : Heap) (O0 : Old Z n0 h0) (b t : Addr) (k : ClassId) (ds : List Int32) (n : Nat) (x : Addr) (cs : List Int32) (B0 : own_Bld Z h0 b t k ds n) (S0 : own_Str Z h0 x cs) :
    own_Ct l (⟨"java/lang/AbstractStringBuilder", "inflateIfNeededFor", "(Ljava/lang/String;)V"⟩ : MethodName) jdk_68_method_71_code 2 none ({ frames := 1, cells := 0, slots := 0, locals := 13 } : Room) Z consts_1 n0 #[(.ref b), (.ref x)] h0 [] (fun v h => v = none ∧ h0 = h) := by
  have hEL := own_EL hw
  refine own_body pn_376144569 O0 (fun p e s m below meth cc_ T0 vm0 hx hby hml0 hret hlk hnm hsf w0 => ?_)
  have hml : cc_.maxLocals = 2 := hml0
  have A_0 := own_at w0
  refine own_entry (ef_ctInf m b x) ?_
  obtain ⟨b1, b2, b3, b4, b5, b6, b7⟩ := id B0
  obtain ⟨z, Sz, hz⟩ := id SC
  refine own_getS w0 hx (hw _ (List.mem_of_getElem? (i := 80) rfl)) (Sz.ext O0.2) (g := (mkF m 0 #[.val (.ref b), .val (.ref x)] [])) rfl (Jvm.hb hby d20_0) (fun T1_ w1_ => ?_)
  have A1_ := own_at w1_
  show own_WP p e _ below s Z _ n0 _ T1_ (mkF m 3 #[.val (.ref b), .val (.ref x)] [(.int z)])
  refine own_by (T' := T1_) (g' := (mkF m 6 #[.val (.ref b), .val (.ref x)] [])) (fun t_ hr_ => XS.ifNo A1_ hx rfl (Jvm.hb hby d20_3) rfl ((if0 _ _).trans (feq hz).1) hr_) ?_
  refine own_by (T' := T1_) (g' := (mkF m 7 #[.val (.ref b), .val (.ref x)] [(.ref b)])) (fun t_ hr_ => XS.aloadN A1_ hx rfl (Jvm.hb hby d20_6) rfl rfl hr_) ?_
  refine own_getF w1_ hx (hw _ (List.mem_of_getElem? (i := 83) rfl)) b3 (g := (mkF m 7 #[.val (.ref b), .val (.ref x)] [(.ref b)])) rfl rfl (Jvm.hb hby d20_7) (fun T2_ w2_ => ?_)
  have A2_ := own_at w2_
  show own_WP p e _ below s Z _ n0 _ T2_ (mkF m 10 #[.val (.ref b), .val (.ref x)] [(.int (0 : Int32))])
  refine own_by (T' := T2_) (g' := (mkF m 11 #[.val (.ref b), .val (.ref x)] [(.ref x), (.int (0 : Int32))])) (fun t_ hr_ => XS.aloadN A2_ hx rfl (Jvm.hb hby d20_10) rfl rfl hr_) ?_
  refine own_callV w2_ hx (y := (⟨"java/lang/String", "coder", "()B"⟩ : MethodName)) (z := (⟨"java/lang/String", "coder", "()B"⟩ : MethodName)) (hw _ (List.mem_of_getElem? (i := 122) rfl)) (hw _ (List.mem_of_getElem? (i := 101) rfl)) (fun u hu => notFace_of_selects (args := #[]) (mvT hu (hw _ (List.mem_of_getElem? (i := 103) rfl)))) (hw _ (List.mem_of_getElem? (i := 103) rfl)) (hw _ (List.mem_of_getElem? (i := 102) rfl)) (by decide) (kc := 0) (ks := 0) (a := x) (argsL := []) (rest := [(.int (0 : Int32))]) (own_payCt (W := 1) (ctCd l Z a0 hw SC n0 h0 (own_old w2_) x cs S0) w2_ (hw _ (List.mem_of_getElem? (i := 104) rfl)) (hw _ (List.mem_of_getElem? (i := 6) rfl)) hEL (by decide) (by decide)) S0.exa (g := (mkF m 11 #[.val (.ref b), .val (.ref x)] [(.ref x), (.int (0 : Int32))])) rfl (by rw [hml]; rfl) (lenOf pd_691877 rfl) rfl (by show 2 * 0 + _ ≤ _; exact Nat.le_of_eq rfl) (Jvm.hb hby d20_11) (by decide) (by decide) (fun v3_ T3_ vm3_ h3_ q3_ C3_ w3_ => ?_)
  obtain ⟨rfl, rfl⟩ := q3_
  have A3_ := own_at w3_
  show own_WP p e _ below s Z _ n0 _ T3_ (mkF m 14 #[.val (.ref b), .val (.ref x)] [(.int (0 : Int32)), (.int (0 : Int32))])
  refine own_by (T' := T3_) (g' := (mkF m 21 #[.val (.ref b), .val (.ref x)] [])) (fun t_ hr_ => XS.icmpYes A3_ hx rfl (pc0 := 14) (pc' := 21) rfl (Jvm.hb hby d20_14) rfl (teq (rfl : (0 : Int32) = 0)).1 (by decide) (by decide) hr_) ?_
  exact own_retV w3_ hx hEL hlk hret (Jvm.hb hby d20_21) (by decide) (by decide) ⟨rfl, rfl⟩

theorem d21_0 : decode jdk_42_method_147_code 0 = .ok (.aload_n 0, 1) := by decide +kernel
theorem d21_1 : decode jdk_42_method_147_code 1 = .ok (.invokevirtual 335, 3) := by decide +kernel
theorem d21_4 : decode jdk_42_method_147_code 4 = .ok (.iload_n 3, 1) := by decide +kernel
theorem d21_5 : decode jdk_42_method_147_code 5 = .ok (.if_icmp .ne 23, 3) := by decide +kernel
theorem d21_8 : decode jdk_42_method_147_code 8 = .ok (.aload_n 0, 1) := by decide +kernel
theorem d21_9 : decode jdk_42_method_147_code 9 = .ok (.getfield 9, 3) := by decide +kernel
theorem d21_12 : decode jdk_42_method_147_code 12 = .ok (.iconst 0, 1) := by decide +kernel
theorem d21_13 : decode jdk_42_method_147_code 13 = .ok (.aload_n 1, 1) := by decide +kernel
theorem d21_14 : decode jdk_42_method_147_code 14 = .ok (.iload_n 2, 1) := by decide +kernel
theorem d21_15 : decode jdk_42_method_147_code 15 = .ok (.iload_n 3, 1) := by decide +kernel
theorem d21_16 : decode jdk_42_method_147_code 16 = .ok (.ishl, 1) := by decide +kernel
theorem d21_17 : decode jdk_42_method_147_code 17 = .ok (.aload_n 0, 1) := by decide +kernel
theorem d21_18 : decode jdk_42_method_147_code 18 = .ok (.getfield 9, 3) := by decide +kernel
theorem d21_21 : decode jdk_42_method_147_code 21 = .ok (.arraylength, 1) := by decide +kernel
theorem d21_22 : decode jdk_42_method_147_code 22 = .ok (.invokestatic 212, 3) := by decide +kernel
theorem d21_25 : decode jdk_42_method_147_code 25 = .ok (.goto 18, 3) := by decide +kernel
theorem d21_43 : decode jdk_42_method_147_code 43 = .ok (.return_, 1) := by decide +kernel
theorem pn_111998034 : plainFor (⟨"java/lang/String", "getBytes", "([BIB)V"⟩ : MethodName) = true := by first | exact plainFor_of_name (by first | (simp [plainName, overriddenIn]; done) | decide +kernel) | decide +kernel
theorem ef_ctGB (m : MethodId) (x0 : Addr) (x1 : Addr) (x2 : Int32) (x3 : Int32) : entryFrame m #[(.ref x0), (.ref x1), (.int x2), (.int x3)] 4 = mkF m 0 #[.val (.ref x0), .val (.ref x1), .val (.int x2), .val (.int x3)] [] := by first | (simp [entryFrame, mkF, argsToLocals, Value.category]; done) | rfl
set_option maxRecDepth 65536 in
set_option maxHeartbeats 40000000 in
theorem ctGB (l : Launch) (Z : State) (a0 : Array Value) (hw : ∀ d ∈ tables_1, d.before a0 Z = true) (SC : own_SC Z) (n0 : Nat) (h0 : Heap) (O0 : Old Z n0 h0) (x t : Addr) (k : ClassId) (ds cs : List Int32) (n : Nat) (S0 : own_Str Z h0 x cs) (V0 : Arv Z h0 t k .byte (16 : Int32) ((ds.map fun c => c.toInt8.toInt32).map Value.int) (.int 0)) (hd : ds.length = 16) (hn : n + cs.length ≤ 16) (gt : n0 ≤ t) :
    own_Ct l (⟨"java/lang/String", "getBytes", "([BIB)V"⟩ : MethodName) jdk_42_method_147_code 4 none ({ frames := 1, cells := 0, slots := 0, locals := 40 } : Room) Z consts_1 n0 #[(.ref x), (.ref t), (.int (Int32.ofNat n)), (.int (0 : Int32))] h0 [] (fun v h => v = none ∧ Keep h0 h [t] ∧ Arv Z h t k .byte (16 : Int32) (((ds.take n ++ cs ++ ds.drop (n + cs.length)).map fun c => c.toInt8.toInt32).map Value.int) (.int 0)) := by
  have hEL := own_EL hw
  refine own_body pn_111998034 O0 (fun p e s m below meth cc_ T0 vm0 hx hby hml0 hret hlk hnm hsf w0 => ?_)
  have hml : cc_.maxLocals = 4 := hml0
  have A_0 := own_at w0
  refine own_entry (ef_ctGB m x t (Int32.ofNat n) (0 : Int32)) ?_
  obtain ⟨s1, s2, ⟨t', k', s3, s4⟩, s5, s6⟩ := id S0
  refine own_by (T' := T0) (g' := (mkF m 1 #[.val (.ref x), .val (.ref t), .val (.int (Int32.ofNat n)), .val (.int (0 : Int32))] [(.ref x)])) (fun t_ hr_ => XS.aloadN A_0 hx rfl (Jvm.hb hby d21_0) rfl rfl hr_) ?_
  refine own_callV w0 hx (y := (⟨"java/lang/String", "coder", "()B"⟩ : MethodName)) (z := (⟨"java/lang/String", "coder", "()B"⟩ : MethodName)) (hw _ (List.mem_of_getElem? (i := 100) rfl)) (hw _ (List.mem_of_getElem? (i := 101) rfl)) (fun u hu => notFace_of_selects (args := #[]) (mvT hu (hw _ (List.mem_of_getElem? (i := 103) rfl)))) (hw _ (List.mem_of_getElem? (i := 103) rfl)) (hw _ (List.mem_of_getElem? (i := 102) rfl)) (by decide) (kc := 0) (ks := 0) (a := x) (argsL := []) (rest := []) (own_payCt (W := 0) (ctCd l Z a0 hw SC n0 h0 (own_old w0) x cs S0) w0 (hw _ (List.mem_of_getElem? (i := 104) rfl)) (hw _ (List.mem_of_getElem? (i := 6) rfl)) hEL (by decide) (by decide)) S0.exa (g := (mkF m 1 #[.val (.ref x), .val (.ref t), .val (.int (Int32.ofNat n)), .val (.int (0 : Int32))] [(.ref x)])) rfl (by rw [hml]; rfl) (lenOf pd_691877 rfl) rfl (by show 2 * 0 + _ ≤ _; exact Nat.le_of_eq rfl) (Jvm.hb hby d21_1) (by decide) (by decide) (fun v1_ T1_ vm1_ h1_ q1_ C1_ w1_ => ?_)
  obtain ⟨rfl, rfl⟩ := q1_
  have A1_ := own_at w1_
  show own_WP p e _ below s Z _ n0 _ T1_ (mkF m 4 #[.val (.ref x), .val (.ref t), .val (.int (Int32.ofNat n)), .val (.int (0 : Int32))] [(.int (0 : Int32))])
  refine own_by (T' := T1_) (g' := (mkF m 5 #[.val (.ref x), .val (.ref t), .val (.int (Int32.ofNat n)), .val (.int (0 : Int32))] [(.int (0 : Int32)), (.int (0 : Int32))])) (fun t_ hr_ => XS.iloadN A1_ hx rfl (Jvm.hb hby d21_4) rfl hr_) ?_
  refine own_by (T' := T1_) (g' := (mkF m 8 #[.val (.ref x), .val (.ref t), .val (.int (Int32.ofNat n)), .val (.int (0 : Int32))] [])) (fun t_ hr_ => XS.icmpNo A1_ hx rfl (Jvm.hb hby d21_5) rfl (teq (rfl : (0 : Int32) = 0)).2 hr_) ?_
  refine own_by (T' := T1_) (g' := (mkF m 9 #[.val (.ref x), .val (.ref t), .val (.int (Int32.ofNat n)), .val (.int (0 : Int32))] [(.ref x)])) (fun t_ hr_ => XS.aloadN A1_ hx rfl (Jvm.hb hby d21_8) rfl rfl hr_) ?_
  refine own_getF w1_ hx (hw _ (List.mem_of_getElem? (i := 32) rfl)) s3 (g := (mkF m 9 #[.val (.ref x), .val (.ref t), .val (.int (Int32.ofNat n)), .val (.int (0 : Int32))] [(.ref x)])) rfl rfl (Jvm.hb hby d21_9) (fun T2_ w2_ => ?_)
  have A2_ := own_at w2_
  show own_WP p e _ below s Z _ n0 _ T2_ (mkF m 12 #[.val (.ref x), .val (.ref t), .val (.int (Int32.ofNat n)), .val (.int (0 : Int32))] [(.ref t')])
  refine own_by (T' := T2_) (g' := (mkF m 13 #[.val (.ref x), .val (.ref t), .val (.int (Int32.ofNat n)), .val (.int (0 : Int32))] [(.int (0 : Int32)), (.ref t')])) (fun t_ hr_ => XS.iconst A2_ hx rfl (Jvm.hb hby d21_12) hr_) ?_
  refine own_by (T' := T2_) (g' := (mkF m 14 #[.val (.ref x), .val (.ref t), .val (.int (Int32.ofNat n)), .val (.int (0 : Int32))] [(.ref t), (.int (0 : Int32)), (.ref t')])) (fun t_ hr_ => XS.aloadN A2_ hx rfl (Jvm.hb hby d21_13) rfl rfl hr_) ?_
  refine own_by (T' := T2_) (g' := (mkF m 15 #[.val (.ref x), .val (.ref t), .val (.int (Int32.ofNat n)), .val (.int (0 : Int32))] [(.int (Int32.ofNat n)), (.ref t), (.int (0 : Int32)), (.ref t')])) (fun t_ hr_ => XS.iloadN A2_ hx rfl (Jvm.hb hby d21_14) rfl hr_) ?_
  refine own_by (T' := T2_) (g' := (mkF m 16 #[.val (.ref x), .val (.ref t), .val (.int (Int32.ofNat n)), .val (.int (0 : Int32))] [(.int (0 : Int32)), (.int (Int32.ofNat n)), (.ref t), (.int (0 : Int32)), (.ref t')])) (fun t_ hr_ => XS.iloadN A2_ hx rfl (Jvm.hb hby d21_15) rfl hr_) ?_
  refine own_by (T' := T2_) (g' := (mkF m 17 #[.val (.ref x), .val (.ref t), .val (.int (Int32.ofNat n)), .val (.int (0 : Int32))] [(.int ((Int32.ofNat n) <<< ((0 : Int32) &&& 31))), (.ref t), (.int (0 : Int32)), (.ref t')])) (fun t_ hr_ => XS.ishl A2_ hx rfl (Jvm.hb hby d21_16) rfl hr_) ?_
  rw [show ((Int32.ofNat n) <<< ((0 : Int32) &&& 31)) = (Int32.ofNat n) from own_shl0 _]
  show own_WP p e _ below s Z _ n0 _ T2_ (mkF m 17 #[.val (.ref x), .val (.ref t), .val (.int (Int32.ofNat n)), .val (.int (0 : Int32))] [(.int (Int32.ofNat n)), (.ref t), (.int (0 : Int32)), (.ref t')])
  refine own_by (T' := T2_) (g' := (mkF m 18 #[.val (.ref x), .val (.ref t), .val (.int (Int32.ofNat n)), .val (.int (0 : Int32))] [(.ref x), (.int (Int32.ofNat n)), (.ref t), (.int (0 : Int32)), (.ref t')])) (fun t_ hr_ => XS.aloadN A2_ hx rfl (Jvm.hb hby d21_17) rfl rfl hr_) ?_
  refine own_getF w2_ hx (hw _ (List.mem_of_getElem? (i := 32) rfl)) s3 (g := (mkF m 18 #[.val (.ref x), .val (.ref t), .val (.int (Int32.ofNat n)), .val (.int (0 : Int32))] [(.ref x), (.int (Int32.ofNat n)), (.ref t), (.int (0 : Int32)), (.ref t')])) rfl rfl (Jvm.hb hby d21_18) (fun T3_ w3_ => ?_)
  have A3_ := own_at w3_
  show own_WP p e _ below s Z _ n0 _ T3_ (mkF m 21 #[.val (.ref x), .val (.ref t), .val (.int (Int32.ofNat n)), .val (.int (0 : Int32))] [(.ref t'), (.int (Int32.ofNat n)), (.ref t), (.int (0 : Int32)), (.ref t')])
  refine own_alen w3_ hx s4 (g := (mkF m 21 #[.val (.ref x), .val (.ref t), .val (.int (Int32.ofNat n)), .val (.int (0 : Int32))] [(.ref t'), (.int (Int32.ofNat n)), (.ref t), (.int (0 : Int32)), (.ref t')])) rfl rfl (Jvm.hb hby d21_21) ?_
  show own_WP p e _ below s Z _ n0 _ T3_ (mkF m 22 #[.val (.ref x), .val (.ref t), .val (.int (Int32.ofNat n)), .val (.int (0 : Int32))] [(.int (Int32.ofNat cs.length)), (.int (Int32.ofNat n)), (.ref t), (.int (0 : Int32)), (.ref t')])
  refine own_cpA w3_ hx (hw _ (List.mem_of_getElem? (i := 128) rfl)) (hw _ (List.mem_of_getElem? (i := 131) rfl)) (hw _ (List.mem_of_getElem? (i := 129) rfl)) (hw _ (List.mem_of_getElem? (i := 130) rfl)) s4 V0 rfl (by decide) (own_o0 (by omega)) (own_o0 (by omega)) (by rw [show (0 : Int32).toNatClampNeg = 0 from rfl, own_on (a := cs.length) (by omega)]; omega) (by rw [own_on (a := n) (by omega), own_on (a := cs.length) (by omega), show (16 : Int32).toNatClampNeg = 16 from rfl]; omega) (by rw [own_on (a := n) (by omega), own_on (a := cs.length) (by omega)]; simp; omega) gt (own_safeN (own_hZ w3_) (own_EB hw) V0 (by decide)) (g := (mkF m 22 #[.val (.ref x), .val (.ref t), .val (.int (Int32.ofNat n)), .val (.int (0 : Int32))] [(.int (Int32.ofNat cs.length)), (.int (Int32.ofNat n)), (.ref t), (.int (0 : Int32)), (.ref t')])) rfl (by rw [hml]; rfl) rfl (Jvm.hb hby d21_22) (by decide) (W := 0) (by show 2 * 0 + _ ≤ _; exact Nat.le_of_eq rfl) (by decide) (fun T4_ h4_ Kc Vc w4_ => ?_)
  have A4_ := own_at w4_
  show own_WP p e _ below s Z _ n0 _ T4_ (mkF m 25 #[.val (.ref x), .val (.ref t), .val (.int (Int32.ofNat n)), .val (.int (0 : Int32))] [])
  refine own_by (T' := T4_) (g' := (mkF m 43 #[.val (.ref x), .val (.ref t), .val (.int (Int32.ofNat n)), .val (.int (0 : Int32))] [])) (fun t_ hr_ => XS.goto A4_ hx rfl (pc0 := 25) (pc' := 43) rfl (Jvm.hb hby d21_25) (by decide) (by decide) hr_) ?_
  have Vd : Arv Z h4_ t k .byte (16 : Int32) (((ds.take n ++ cs ++ ds.drop (n + cs.length)).map fun c => c.toInt8.toInt32).map Value.int) (.int 0) := by
    have q := Vc
    rw [show (0 : Int32).toNatClampNeg = 0 from rfl, own_on (a := n) (by omega), own_on (a := cs.length) (by omega), own_paste] at q
    exact q
  exact own_retV w4_ hx hEL hlk hret (Jvm.hb hby d21_43) (by decide) (by decide) ⟨rfl, Kc, Vd⟩

theorem d19_0 : decode jdk_68_method_73_code 0 = .ok (.aload_n 0, 1) := by decide +kernel
theorem d19_1 : decode jdk_68_method_73_code 1 = .ok (.aload_n 2, 1) := by decide +kernel
theorem d19_2 : decode jdk_68_method_73_code 2 = .ok (.invokevirtual 397, 3) := by decide +kernel
theorem pd_445242154 : parseMethodDescriptor "(Ljava/lang/String;)V" = some ⟨[(.object "java/lang/String")], none⟩ := by decide +kernel
theorem d19_5 : decode jdk_68_method_73_code 5 = .ok (.aload_n 2, 1) := by decide +kernel
theorem d19_6 : decode jdk_68_method_73_code 6 = .ok (.aload_n 0, 1) := by decide +kernel
theorem d19_7 : decode jdk_68_method_73_code 7 = .ok (.getfield 15, 3) := by decide +kernel
theorem d19_10 : decode jdk_68_method_73_code 10 = .ok (.iload_n 1, 1) := by decide +kernel
theorem d19_11 : decode jdk_68_method_73_code 11 = .ok (.aload_n 0, 1) := by decide +kernel
theorem d19_12 : decode jdk_68_method_73_code 12 = .ok (.getfield 22, 3) := by decide +kernel
theorem d19_15 : decode jdk_68_method_73_code 15 = .ok (.invokevirtual 399, 3) := by decide +kernel
theorem pd_860133191 : parseMethodDescriptor "([BIB)V" = some ⟨[(.array .byte), .int, .byte], none⟩ := by decide +kernel
theorem d19_18 : decode jdk_68_method_73_code 18 = .ok (.return_, 1) := by decide +kernel
theorem pn_567851837 : plainFor (⟨"java/lang/AbstractStringBuilder", "putStringAt", "(ILjava/lang/String;)V"⟩ : MethodName) = true := by first | exact plainFor_of_name (by first | (simp [plainName, overriddenIn]; done) | decide +kernel) | decide +kernel
theorem ef_ctPS (m : MethodId) (x0 : Addr) (x1 : Int32) (x2 : Addr) : entryFrame m #[(.ref x0), (.int x1), (.ref x2)] 3 = mkF m 0 #[.val (.ref x0), .val (.int x1), .val (.ref x2)] [] := by first | (simp [entryFrame, mkF, argsToLocals, Value.category]; done) | rfl
set_option maxRecDepth 65536 in
set_option maxHeartbeats 40000000 in
theorem ctPS (l : Launch) (Z : State) (a0 : Array Value) (hw : ∀ d ∈ tables_1, d.before a0 Z = true) (SC : own_SC Z) (n0 : Nat) (h0 : Heap) (O0 : Old Z n0 h0) (b t : Addr) (k : ClassId) (ds : List Int32) (n : Nat) (x : Addr) (cs : List Int32) (B0 : own_Bld Z h0 b t k ds n) (S0 : own_Str Z h0 x cs) (hn : n + cs.length ≤ 16) (gt : n0 ≤ t) :
    own_Ct l (⟨"java/lang/AbstractStringBuilder", "putStringAt", "(ILjava/lang/String;)V"⟩ : MethodName) jdk_68_method_73_code 3 none ({ frames := 2, cells := 0, slots := 0, locals := 55 } : Room) Z consts_1 n0 #[(.ref b), (.int (Int32.ofNat n)), (.ref x)] h0 [] (fun v h => v = none ∧ Keep h0 h [t] ∧ Arv Z h t k .byte (16 : Int32) (((ds.take n ++ cs ++ ds.drop (n + cs.length)).map fun c => c.toInt8.toInt32).map Value.int) (.int 0)) := by
  have hEL := own_EL hw
  refine own_body pn_567851837 O0 (fun p e s m below meth cc_ T0 vm0 hx hby hml0 hret hlk hnm hsf w0 => ?_)
  have hml : cc_.maxLocals = 3 := hml0
  have A_0 := own_at w0
  refine own_entry (ef_ctPS m b (Int32.ofNat n) x) ?_
  obtain ⟨b1, b2, b3, b4, b5, b6, b7⟩ := id B0
  refine own_by (T' := T0) (g' := (mkF m 1 #[.val (.ref b), .val (.int (Int32.ofNat n)), .val (.ref x)] [(.ref b)])) (fun t_ hr_ => XS.aloadN A_0 hx rfl (Jvm.hb hby d19_0) rfl rfl hr_) ?_
  refine own_by (T' := T0) (g' := (mkF m 2 #[.val (.ref b), .val (.int (Int32.ofNat n)), .val (.ref x)] [(.ref x), (.ref b)])) (fun t_ hr_ => XS.aloadN A_0 hx rfl (Jvm.hb hby d19_1) rfl rfl hr_) ?_
  refine own_callV w0 hx (y := (⟨"java/lang/AbstractStringBuilder", "inflateIfNeededFor", "(Ljava/lang/String;)V"⟩ : MethodName)) (z := (⟨"java/lang/AbstractStringBuilder", "inflateIfNeededFor", "(Ljava/lang/String;)V"⟩ : MethodName)) (hw _ (List.mem_of_getElem? (i := 117) rfl)) (own_decl (hw _ (List.mem_of_getElem? (i := 118) rfl)) (hw _ (List.mem_of_getElem? (i := 121) rfl))) (fun u hu => notFace_of_selects (args := #[]) (mvT hu (hw _ (List.mem_of_getElem? (i := 120) rfl)))) (hw _ (List.mem_of_getElem? (i := 120) rfl)) (hw _ (List.mem_of_getElem? (i := 118) rfl)) (by decide) (kc := 0) (ks := 0) (a := b) (argsL := [(.ref x)]) (rest := []) (own_payCt (W := 0) (ctInf l Z a0 hw SC n0 h0 (own_old w0) b t k ds n x cs B0 S0) w0 (hw _ (List.mem_of_getElem? (i := 121) rfl)) (hw _ (List.mem_of_getElem? (i := 77) rfl)) hEL (by decide) (by decide)) b1 (g := (mkF m 2 #[.val (.ref b), .val (.int (Int32.ofNat n)), .val (.ref x)] [(.ref x), (.ref b)])) rfl (by rw [hml]; rfl) (lenOf pd_445242154 rfl) rfl (by show 2 * 0 + _ ≤ _; exact Nat.le_of_eq rfl) (Jvm.hb hby d19_2) (by decide) (by decide) (fun v1_ T1_ vm1_ h1_ q1_ C1_ w1_ => ?_)
  obtain ⟨rfl, rfl⟩ := q1_
  have A1_ := own_at w1_
  show own_WP p e _ below s Z _ n0 _ T1_ (mkF m 5 #[.val (.ref b), .val (.int (Int32.ofNat n)), .val (.ref x)] [])
  refine own_by (T' := T1_) (g' := (mkF m 6 #[.val (.ref b), .val (.int (Int32.ofNat n)), .val (.ref x)] [(.ref x)])) (fun t_ hr_ => XS.aloadN A1_ hx rfl (Jvm.hb hby d19_5) rfl rfl hr_) ?_
  refine own_by (T' := T1_) (g' := (mkF m 7 #[.val (.ref b), .val (.int (Int32.ofNat n)), .val (.ref x)] [(.ref b), (.ref x)])) (fun t_ hr_ => XS.aloadN A1_ hx rfl (Jvm.hb hby d19_6) rfl rfl hr_) ?_
  refine own_getF w1_ hx (hw _ (List.mem_of_getElem? (i := 81) rfl)) b2 (g := (mkF m 7 #[.val (.ref b), .val (.int (Int32.ofNat n)), .val (.ref x)] [(.ref b), (.ref x)])) rfl rfl (Jvm.hb hby d19_7) (fun T2_ w2_ => ?_)
  have A2_ := own_at w2_
  show own_WP p e _ below s Z _ n0 _ T2_ (mkF m 10 #[.val (.ref b), .val (.int (Int32.ofNat n)), .val (.ref x)] [(.ref t), (.ref x)])
  refine own_by (T' := T2_) (g' := (mkF m 11 #[.val (.ref b), .val (.int (Int32.ofNat n)), .val (.ref x)] [(.int (Int32.ofNat n)), (.ref t), (.ref x)])) (fun t_ hr_ => XS.iloadN A2_ hx rfl (Jvm.hb hby d19_10) rfl hr_) ?_
  refine own_by (T' := T2_) (g' := (mkF m 12 #[.val (.ref b), .val (.int (Int32.ofNat n)), .val (.ref x)] [(.ref b), (.int (Int32.ofNat n)), (.ref t), (.ref x)])) (fun t_ hr_ => XS.aloadN A2_ hx rfl (Jvm.hb hby d19_11) rfl rfl hr_) ?_
  refine own_getF w2_ hx (hw _ (List.mem_of_getElem? (i := 83) rfl)) b3 (g := (mkF m 12 #[.val (.ref b), .val (.int (Int32.ofNat n)), .val (.ref x)] [(.ref b), (.int (Int32.ofNat n)), (.ref t), (.ref x)])) rfl rfl (Jvm.hb hby d19_12) (fun T3_ w3_ => ?_)
  have A3_ := own_at w3_
  show own_WP p e _ below s Z _ n0 _ T3_ (mkF m 15 #[.val (.ref b), .val (.int (Int32.ofNat n)), .val (.ref x)] [(.int (0 : Int32)), (.int (Int32.ofNat n)), (.ref t), (.ref x)])
  refine own_callV w3_ hx (y := (⟨"java/lang/String", "getBytes", "([BIB)V"⟩ : MethodName)) (z := (⟨"java/lang/String", "getBytes", "([BIB)V"⟩ : MethodName)) (hw _ (List.mem_of_getElem? (i := 123) rfl)) (hw _ (List.mem_of_getElem? (i := 124) rfl)) (fun u hu => notFace_of_selects (args := #[]) (mvT hu (hw _ (List.mem_of_getElem? (i := 126) rfl)))) (hw _ (List.mem_of_getElem? (i := 126) rfl)) (hw _ (List.mem_of_getElem? (i := 125) rfl)) (by decide) (kc := 0) (ks := 0) (a := x) (argsL := [(.ref t), (.int (Int32.ofNat n)), (.int (0 : Int32))]) (rest := []) (own_payCt (W := 0) (ctGB l Z a0 hw SC n0 h0 (own_old w3_) x t k ds cs n S0 b5 b6 hn gt) w3_ (hw _ (List.mem_of_getElem? (i := 127) rfl)) (hw _ (List.mem_of_getElem? (i := 6) rfl)) hEL (by decide) (by decide)) S0.exa (g := (mkF m 15 #[.val (.ref b), .val (.int (Int32.ofNat n)), .val (.ref x)] [(.int (0 : Int32)), (.int (Int32.ofNat n)), (.ref t), (.ref x)])) rfl (by rw [hml]; rfl) (lenOf pd_860133191 rfl) rfl (by show 2 * 0 + _ ≤ _; exact Nat.le_of_eq rfl) (Jvm.hb hby d19_15) (by decide) (by decide) (fun v4_ T4_ vm4_ h4_ q4_ C4_ w4_ => ?_)
  obtain ⟨rfl, K1, V1⟩ := q4_
  have A4_ := own_at w4_
  show own_WP p e _ below s Z _ n0 _ T4_ (mkF m 18 #[.val (.ref b), .val (.int (Int32.ofNat n)), .val (.ref x)] [])
  exact own_retV w4_ hx hEL hlk hret (Jvm.hb hby d19_18) (by decide) (by decide) ⟨rfl, K1, V1⟩

theorem own_keep2 {h h1 h2 : Heap} {t b : Addr} {sl : Nat} {v : Value} (K : Keep h h1 [t]) (W : Wr h1 h2 b sl v) : Keep h h2 [t, b] :=
  ((Keep.refl h [t, b]).trans K (fun x hx => Or.inl (by rw [List.mem_singleton.mp hx]; exact List.mem_of_getElem? (i := 0) rfl))).wr W (Or.inl (List.mem_of_getElem? (i := 1) rfl))
theorem d15_0 : decode jdk_68_method_22_code 0 = .ok (.aload_n 1, 1) := by decide +kernel
theorem d15_1 : decode jdk_68_method_22_code 1 = .ok (.ifnonnull 8, 3) := by decide +kernel
theorem d15_9 : decode jdk_68_method_22_code 9 = .ok (.aload_n 1, 1) := by decide +kernel
theorem d15_10 : decode jdk_68_method_22_code 10 = .ok (.invokevirtual 32, 3) := by decide +kernel
theorem pd_691884 : parseMethodDescriptor "()I" = some ⟨[], some .int⟩ := by decide +kernel
theorem d15_13 : decode jdk_68_method_22_code 13 = .ok (.istore_n 2, 1) := by decide +kernel
theorem d15_14 : decode jdk_68_method_22_code 14 = .ok (.aload_n 0, 1) := by decide +kernel
theorem d15_15 : decode jdk_68_method_22_code 15 = .ok (.aload_n 0, 1) := by decide +kernel
theorem d15_16 : decode jdk_68_method_22_code 16 = .ok (.getfield 79, 3) := by decide +kernel
theorem d15_19 : decode jdk_68_method_22_code 19 = .ok (.iload_n 2, 1) := by decide +kernel
theorem d15_20 : decode jdk_68_method_22_code 20 = .ok (.iadd, 1) := by decide +kernel
theorem d15_21 : decode jdk_68_method_22_code 21 = .ok (.invokevirtual 100, 3) := by decide +kernel
theorem d15_24 : decode jdk_68_method_22_code 24 = .ok (.aload_n 0, 1) := by decide +kernel
theorem d15_25 : decode jdk_68_method_22_code 25 = .ok (.aload_n 0, 1) := by decide +kernel
theorem d15_26 : decode jdk_68_method_22_code 26 = .ok (.getfield 79, 3) := by decide +kernel
theorem d15_29 : decode jdk_68_method_22_code 29 = .ok (.aload_n 1, 1) := by decide +kernel
theorem d15_30 : decode jdk_68_method_22_code 30 = .ok (.invokevirtual 208, 3) := by decide +kernel
theorem pd_199097374 : parseMethodDescriptor "(ILjava/lang/String;)V" = some ⟨[.int, (.object "java/lang/String")], none⟩ := by decide +kernel
theorem d15_33 : decode jdk_68_method_22_code 33 = .ok (.aload_n 0, 1) := by decide +kernel
theorem d15_34 : decode jdk_68_method_22_code 34 = .ok (.dup, 1) := by decide +kernel
theorem d15_35 : decode jdk_68_method_22_code 35 = .ok (.getfield 79, 3) := by decide +kernel
theorem d15_38 : decode jdk_68_method_22_code 38 = .ok (.iload_n 2, 1) := by decide +kernel
theorem d15_39 : decode jdk_68_method_22_code 39 = .ok (.iadd, 1) := by decide +kernel
theorem d15_40 : decode jdk_68_method_22_code 40 = .ok (.putfield 79, 3) := by decide +kernel
theorem d15_43 : decode jdk_68_method_22_code 43 = .ok (.aload_n 0, 1) := by decide +kernel
theorem d15_44 : decode jdk_68_method_22_code 44 = .ok (.areturn, 1) := by decide +kernel
theorem pn_352518600 : plainFor (⟨"java/lang/AbstractStringBuilder", "append", "(Ljava/lang/String;)Ljava/lang/AbstractStringBuilder;"⟩ : MethodName) = true := by first | exact plainFor_of_name (by first | (simp [plainName, overriddenIn]; done) | decide +kernel) | decide +kernel
theorem ef_ctAp (m : MethodId) (x0 : Addr) (x1 : Addr) : entryFrame m #[(.ref x0), (.ref x1)] 3 = mkF m 0 #[.val (.ref x0), .val (.ref x1), .unset] [] := by first | (simp [entryFrame, mkF, argsToLocals, Value.category]; done) | rfl
set_option maxRecDepth 65536 in
set_option maxHeartbeats 40000000 in
theorem ctAp (l : Launch) (Z : State) (a0 : Array Value) (hw : ∀ d ∈ tables_1, d.before a0 Z = true) (SC : own_SC Z) (n0 : Nat) (h0 : Heap) (O0 : Old Z n0 h0) (b t : Addr) (k : ClassId) (ds : List Int32) (n : Nat) (x : Addr) (cs : List Int32) (B0 : own_Bld Z h0 b t k ds n) (S0 : own_Str Z h0 x cs) (hn : n + cs.length ≤ 16) (gt : n0 ≤ t) (gb : n0 ≤ b) :
    own_Ct l (⟨"java/lang/AbstractStringBuilder", "append", "(Ljava/lang/String;)Ljava/lang/AbstractStringBuilder;"⟩ : MethodName) jdk_68_method_22_code 3 (some (.object "java/lang/AbstractStringBuilder")) ({ frames := 3, cells := 0, slots := 0, locals := 69 } : Room) Z consts_1 n0 #[(.ref b), (.ref x)] h0 [] (fun v h => v = some (.ref b) ∧ Keep h0 h [t, b] ∧ own_Bld Z h b t k (ds.take n ++ cs ++ ds.drop (n + cs.length)) (n + cs.length)) := by
  have hEL := own_EL hw
  refine own_body pn_352518600 O0 (fun p e s m below meth cc_ T0 vm0 hx hby hml0 hret hlk hnm hsf w0 => ?_)
  have hml : cc_.maxLocals = 3 := hml0
  have A_0 := own_at w0
  refine own_entry (ef_ctAp m b x) ?_
  obtain ⟨b1, b2, b3, b4, b5, b6, b7⟩ := id B0
  refine own_by (T' := T0) (g' := (mkF m 1 #[.val (.ref b), .val (.ref x), .unset] [(.ref x)])) (fun t_ hr_ => XS.aloadN A_0 hx rfl (Jvm.hb hby d15_0) rfl rfl hr_) ?_
  refine own_by (T' := T0) (g' := (mkF m 9 #[.val (.ref b), .val (.ref x), .unset] [])) (fun t_ hr_ => XS.ifnonnullYes A_0 hx rfl (pc0 := 1) (pc' := 9) rfl (Jvm.hb hby d15_1) rfl (by decide) (by decide) hr_) ?_
  refine own_by (T' := T0) (g' := (mkF m 10 #[.val (.ref b), .val (.ref x), .unset] [(.ref x)])) (fun t_ hr_ => XS.aloadN A_0 hx rfl (Jvm.hb hby d15_9) rfl rfl hr_) ?_
  refine own_callV w0 hx (y := (⟨"java/lang/String", "length", "()I"⟩ : MethodName)) (z := (⟨"java/lang/String", "length", "()I"⟩ : MethodName)) (hw _ (List.mem_of_getElem? (i := 95) rfl)) (hw _ (List.mem_of_getElem? (i := 96) rfl)) (fun u hu => notFace_of_selects (args := #[]) (mvT hu (hw _ (List.mem_of_getElem? (i := 98) rfl)))) (hw _ (List.mem_of_getElem? (i := 98) rfl)) (hw _ (List.mem_of_getElem? (i := 97) rfl)) (by decide) (kc := 0) (ks := 0) (a := x) (argsL := []) (rest := []) (own_payLen (W := 0) w0 hEL (own_wLen hw) (hw _ (List.mem_of_getElem? (i := 5) rfl)) SC S0 (by decide) (by decide)) S0.exa (g := (mkF m 10 #[.val (.ref b), .val (.ref x), .unset] [(.ref x)])) rfl (by rw [hml]; rfl) (lenOf pd_691884 rfl) rfl (by show 2 * 0 + _ ≤ _; exact Nat.le_of_eq rfl) (Jvm.hb hby d15_10) (by decide) (by decide) (fun v1_ T1_ vm1_ h1_ q1_ C1_ w1_ => ?_)
  obtain ⟨rfl, rfl⟩ := q1_
  have A1_ := own_at w1_
  show own_WP p e _ below s Z _ n0 _ T1_ (mkF m 13 #[.val (.ref b), .val (.ref x), .unset] [(.int (Int32.ofNat cs.length))])
  refine own_by (T' := T1_) (g' := (mkF m 14 #[.val (.ref b), .val (.ref x), .val (.int (Int32.ofNat cs.length))] [])) (fun t_ hr_ => XS.istoreN A1_ hx rfl (Jvm.hb hby d15_13) rfl (l' := #[.val (.ref b), .val (.ref x), .val (.int (Int32.ofNat cs.length))]) rfl hr_) ?_
  refine own_by (T' := T1_) (g' := (mkF m 15 #[.val (.ref b), .val (.ref x), .val (.int (Int32.ofNat cs.length))] [(.ref b)])) (fun t_ hr_ => XS.aloadN A1_ hx rfl (Jvm.hb hby d15_14) rfl rfl hr_) ?_
  refine own_by (T' := T1_) (g' := (mkF m 16 #[.val (.ref b), .val (.ref x), .val (.int (Int32.ofNat cs.length))] [(.ref b), (.ref b)])) (fun t_ hr_ => XS.aloadN A1_ hx rfl (Jvm.hb hby d15_15) rfl rfl hr_) ?_
  refine own_getF w1_ hx (hw _ (List.mem_of_getElem? (i := 105) rfl)) b4 (g := (mkF m 16 #[.val (.ref b), .val (.ref x), .val (.int (Int32.ofNat cs.length))] [(.ref b), (.ref b)])) rfl rfl (Jvm.hb hby d15_16) (fun T2_ w2_ => ?_)
  have A2_ := own_at w2_
  show own_WP p e _ below s Z _ n0 _ T2_ (mkF m 19 #[.val (.ref b), .val (.ref x), .val (.int (Int32.ofNat cs.length))] [(.int (Int32.ofNat n)), (.ref b)])
  refine own_by (T' := T2_) (g' := (mkF m 20 #[.val (.ref b), .val (.ref x), .val (.int (Int32.ofNat cs.length))] [(.int (Int32.ofNat cs.length)), (.int (Int32.ofNat n)), (.ref b)])) (fun t_ hr_ => XS.iloadN A2_ hx rfl (Jvm.hb hby d15_19) rfl hr_) ?_
  refine own_by (T' := T2_) (g' := (mkF m 21 #[.val (.ref b), .val (.ref x), .val (.int (Int32.ofNat cs.length))] [(.int ((Int32.ofNat n) + (Int32.ofNat cs.length))), (.ref b)])) (fun t_ hr_ => XS.iadd A2_ hx rfl (Jvm.hb hby d15_20) rfl hr_) ?_
  rw [show ((Int32.ofNat n) + (Int32.ofNat cs.length)) = (Int32.ofNat (n + cs.length)) from own_oadd _ _]
  show own_WP p e _ below s Z _ n0 _ T2_ (mkF m 21 #[.val (.ref b), .val (.ref x), .val (.int (Int32.ofNat cs.length))] [(.int (Int32.ofNat (n + cs.length))), (.ref b)])
  refine own_callV w2_ hx (y := (⟨"java/lang/AbstractStringBuilder", "ensureCapacityInternal", "(I)V"⟩ : MethodName)) (z := (⟨"java/lang/AbstractStringBuilder", "ensureCapacityInternal", "(I)V"⟩ : MethodName)) (hw _ (List.mem_of_getElem? (i := 107) rfl)) (own_decl (hw _ (List.mem_of_getElem? (i := 108) rfl)) (hw _ (List.mem_of_getElem? (i := 111) rfl))) (fun u hu => notFace_of_selects (args := #[]) (mvT hu (hw _ (List.mem_of_getElem? (i := 110) rfl)))) (hw _ (List.mem_of_getElem? (i := 110) rfl)) (hw _ (List.mem_of_getElem? (i := 108) rfl)) (by decide) (kc := 0) (ks := 0) (a := b) (argsL := [(.int (Int32.ofNat (n + cs.length)))]) (rest := []) (own_payCt (W := 0) (ctEC l Z a0 hw n0 h0 (own_old w2_) b t k ds n (n + cs.length) B0 hn) w2_ (hw _ (List.mem_of_getElem? (i := 111) rfl)) (hw _ (List.mem_of_getElem? (i := 77) rfl)) hEL (by decide) (by decide)) b1 (g := (mkF m 21 #[.val (.ref b), .val (.ref x), .val (.int (Int32.ofNat cs.length))] [(.int (Int32.ofNat (n + cs.length))), (.ref b)])) rfl (by rw [hml]; rfl) (lenOf pd_91181850 rfl) rfl (by show 2 * 0 + _ ≤ _; exact Nat.le_of_eq rfl) (Jvm.hb hby d15_21) (by decide) (by decide) (fun v3_ T3_ vm3_ h3_ q3_ C3_ w3_ => ?_)
  obtain ⟨rfl, rfl⟩ := q3_
  have A3_ := own_at w3_
  show own_WP p e _ below s Z _ n0 _ T3_ (mkF m 24 #[.val (.ref b), .val (.ref x), .val (.int (Int32.ofNat cs.length))] [])
  refine own_by (T' := T3_) (g' := (mkF m 25 #[.val (.ref b), .val (.ref x), .val (.int (Int32.ofNat cs.length))] [(.ref b)])) (fun t_ hr_ => XS.aloadN A3_ hx rfl (Jvm.hb hby d15_24) rfl rfl hr_) ?_
  refine own_by (T' := T3_) (g' := (mkF m 26 #[.val (.ref b), .val (.ref x), .val (.int (Int32.ofNat cs.length))] [(.ref b), (.ref b)])) (fun t_ hr_ => XS.aloadN A3_ hx rfl (Jvm.hb hby d15_25) rfl rfl hr_) ?_
  refine own_getF w3_ hx (hw _ (List.mem_of_getElem? (i := 105) rfl)) b4 (g := (mkF m 26 #[.val (.ref b), .val (.ref x), .val (.int (Int32.ofNat cs.length))] [(.ref b), (.ref b)])) rfl rfl (Jvm.hb hby d15_26) (fun T4_ w4_ => ?_)
  have A4_ := own_at w4_
  show own_WP p e _ below s Z _ n0 _ T4_ (mkF m 29 #[.val (.ref b), .val (.ref x), .val (.int (Int32.ofNat cs.length))] [(.int (Int32.ofNat n)), (.ref b)])
  refine own_by (T' := T4_) (g' := (mkF m 30 #[.val (.ref b), .val (.ref x), .val (.int (Int32.ofNat cs.length))] [(.ref x), (.int (Int32.ofNat n)), (.ref b)])) (fun t_ hr_ => XS.aloadN A4_ hx rfl (Jvm.hb hby d15_29) rfl rfl hr_) ?_
  refine own_callV w4_ hx (y := (⟨"java/lang/AbstractStringBuilder", "putStringAt", "(ILjava/lang/String;)V"⟩ : MethodName)) (z := (⟨"java/lang/AbstractStringBuilder", "putStringAt", "(ILjava/lang/String;)V"⟩ : MethodName)) (hw _ (List.mem_of_getElem? (i := 112) rfl)) (own_decl (hw _ (List.mem_of_getElem? (i := 113) rfl)) (hw _ (List.mem_of_getElem? (i := 116) rfl))) (fun u hu => notFace_of_selects (args := #[]) (mvT hu (hw _ (List.mem_of_getElem? (i := 115) rfl)))) (hw _ (List.mem_of_getElem? (i := 115) rfl)) (hw _ (List.mem_of_getElem? (i := 113) rfl)) (by decide) (kc := 0) (ks := 0) (a := b) (argsL := [(.int (Int32.ofNat n)), (.ref x)]) (rest := []) (own_payCt (W := 0) (ctPS l Z a0 hw SC n0 h0 (own_old w4_) b t k ds n x cs B0 S0 hn gt) w4_ (hw _ (List.mem_of_getElem? (i := 116) rfl)) (hw _ (List.mem_of_getElem? (i := 77) rfl)) hEL (by decide) (by decide)) b1 (g := (mkF m 30 #[.val (.ref b), .val (.ref x), .val (.int (Int32.ofNat cs.length))] [(.ref x), (.int (Int32.ofNat n)), (.ref b)])) rfl (by rw [hml]; rfl) (lenOf pd_199097374 rfl) rfl (by show 2 * 0 + _ ≤ _; exact Nat.le_of_eq rfl) (Jvm.hb hby d15_30) (by decide) (by decide) (fun v5_ T5_ vm5_ h5_ q5_ C5_ w5_ => ?_)
  obtain ⟨rfl, K1, V1⟩ := q5_
  have A5_ := own_at w5_
  show own_WP p e _ below s Z _ n0 _ T5_ (mkF m 33 #[.val (.ref b), .val (.ref x), .val (.int (Int32.ofNat cs.length))] [])
  have ne1 : b ≠ t := b1.neArv b5 (hw _ (List.mem_of_getElem? (i := 68) rfl))
  have X1 := b1.keep K1
  have f1 := b2.keep K1 (ninS ne1 nin0)
  have f2 := b3.keep K1 (ninS ne1 nin0)
  have f3 := b4.keep K1 (ninS ne1 nin0)
  refine own_by (T' := T5_) (g' := (mkF m 34 #[.val (.ref b), .val (.ref x), .val (.int (Int32.ofNat cs.length))] [(.ref b)])) (fun t_ hr_ => XS.aloadN A5_ hx rfl (Jvm.hb hby d15_33) rfl rfl hr_) ?_
  refine own_by (T' := T5_) (g' := (mkF m 35 #[.val (.ref b), .val (.ref x), .val (.int (Int32.ofNat cs.length))] [(.ref b), (.ref b)])) (fun t_ hr_ => XS.dup A5_ hx rfl (Jvm.hb hby d15_34) rfl rfl hr_) ?_
  refine own_getF w5_ hx (hw _ (List.mem_of_getElem? (i := 105) rfl)) f3 (g := (mkF m 35 #[.val (.ref b), .val (.ref x), .val (.int (Int32.ofNat cs.length))] [(.ref b), (.ref b)])) rfl rfl (Jvm.hb hby d15_35) (fun T6_ w6_ => ?_)
  have A6_ := own_at w6_
  show own_WP p e _ below s Z _ n0 _ T6_ (mkF m 38 #[.val (.ref b), .val (.ref x), .val (.int (Int32.ofNat cs.length))] [(.int (Int32.ofNat n)), (.ref b)])
  refine own_by (T' := T6_) (g' := (mkF m 39 #[.val (.ref b), .val (.ref x), .val (.int (Int32.ofNat cs.length))] [(.int (Int32.ofNat cs.length)), (.int (Int32.ofNat n)), (.ref b)])) (fun t_ hr_ => XS.iloadN A6_ hx rfl (Jvm.hb hby d15_38) rfl hr_) ?_
  refine own_by (T' := T6_) (g' := (mkF m 40 #[.val (.ref b), .val (.ref x), .val (.int (Int32.ofNat cs.length))] [(.int ((Int32.ofNat n) + (Int32.ofNat cs.length))), (.ref b)])) (fun t_ hr_ => XS.iadd A6_ hx rfl (Jvm.hb hby d15_39) rfl hr_) ?_
  rw [show ((Int32.ofNat n) + (Int32.ofNat cs.length)) = (Int32.ofNat (n + cs.length)) from own_oadd _ _]
  show own_WP p e _ below s Z _ n0 _ T6_ (mkF m 40 #[.val (.ref b), .val (.ref x), .val (.int (Int32.ofNat cs.length))] [(.int (Int32.ofNat (n + cs.length))), (.ref b)])
  refine own_putF w6_ hx (hw _ (List.mem_of_getElem? (i := 105) rfl)) f3 X1 (Or.inl (hw _ (List.mem_of_getElem? (i := 106) rfl))) (hw _ (List.mem_of_getElem? (i := 68) rfl)) (ty := .int) (by decide) rfl rfl gb (Safe.exa (own_hZ w6_).alike X1 (by decide) (by decide)) (g := (mkF m 40 #[.val (.ref b), .val (.ref x), .val (.int (Int32.ofNat cs.length))] [(.int (Int32.ofNat (n + cs.length))), (.ref b)])) rfl rfl (Jvm.hb hby d15_40) (fun T7_ h7_ W7_ w7_ => ?_)
  have A7_ := own_at w7_
  show own_WP p e _ below s Z _ n0 _ T7_ (mkF m 43 #[.val (.ref b), .val (.ref x), .val (.int (Int32.ofNat cs.length))] [])
  refine own_by (T' := T7_) (g' := (mkF m 44 #[.val (.ref b), .val (.ref x), .val (.int (Int32.ofNat cs.length))] [(.ref b)])) (fun t_ hr_ => XS.aloadN A7_ hx rfl (Jvm.hb hby d15_43) rfl rfl hr_) ?_
  exact own_retA w7_ hx hEL hlk hret rfl rfl (Jvm.hb hby d15_44) (by decide) (by decide) ⟨rfl, (own_keep2 K1 W7_), X1.wr W7_, f1.other W7_ (Or.inr (slot_ne (Or.inl (hw _ (List.mem_of_getElem? (i := 82) rfl))) (Or.inl (hw _ (List.mem_of_getElem? (i := 106) rfl))) (by decide) rfl rfl)), f2.other W7_ (Or.inr (slot_ne (Or.inl (hw _ (List.mem_of_getElem? (i := 84) rfl))) (Or.inl (hw _ (List.mem_of_getElem? (i := 106) rfl))) (by decide) rfl rfl)), f3.same W7_, V1.other W7_ (Ne.symm ne1), by rw [own_pasteLen (by omega)]; exact b6, hn⟩

theorem d14_0 : decode jdk_67_method_7_code 0 = .ok (.aload_n 0, 1) := by decide +kernel
theorem d14_1 : decode jdk_67_method_7_code 1 = .ok (.aload_n 1, 1) := by decide +kernel
theorem d14_2 : decode jdk_67_method_7_code 2 = .ok (.invokespecial 29, 3) := by decide +kernel
theorem pd_736245340 : parseMethodDescriptor "(Ljava/lang/String;)Ljava/lang/AbstractStringBuilder;" = some ⟨[(.object "java/lang/String")], some (.object "java/lang/AbstractStringBuilder")⟩ := by decide +kernel
theorem d14_5 : decode jdk_67_method_7_code 5 = .ok (.pop, 1) := by decide +kernel
theorem d14_6 : decode jdk_67_method_7_code 6 = .ok (.aload_n 0, 1) := by decide +kernel
theorem d14_7 : decode jdk_67_method_7_code 7 = .ok (.areturn, 1) := by decide +kernel
theorem pn_508473411 : plainFor (⟨"java/lang/StringBuilder", "append", "(Ljava/lang/String;)Ljava/lang/StringBuilder;"⟩ : MethodName) = true := by first | exact plainFor_of_name (by first | (simp [plainName, overriddenIn]; done) | decide +kernel) | decide +kernel
theorem ef_ctSap (m : MethodId) (x0 : Addr) (x1 : Addr) : entryFrame m #[(.ref x0), (.ref x1)] 2 = mkF m 0 #[.val (.ref x0), .val (.ref x1)] [] := by first | (simp [entryFrame, mkF, argsToLocals, Value.category]; done) | rfl
set_option maxRecDepth 65536 in
set_option maxHeartbeats 40000000 in
theorem ctSap (l : Launch) (Z : State) (a0 : Array Value) (hw : ∀ d ∈ tables_1, d.before a0 Z = true) (SC : own_SC Z) (n0 : Nat) (h0 : Heap) (O0 : Old Z n0 h0) (b t : Addr) (k : ClassId) (ds : List Int32) (n : Nat) (x : Addr) (cs : List Int32) (B0 : own_Bld Z h0 b t k ds n) (S0 : own_Str Z h0 x cs) (hn : n + cs.length ≤ 16) (gt : n0 ≤ t) (gb : n0 ≤ b) :
    own_Ct l (⟨"java/lang/StringBuilder", "append", "(Ljava/lang/String;)Ljava/lang/StringBuilder;"⟩ : MethodName) jdk_67_method_7_code 2 (some (.object "java/lang/StringBuilder")) ({ frames := 4, cells := 0, slots := 0, locals := 83 } : Room) Z consts_1 n0 #[(.ref b), (.ref x)] h0 [] (fun v h => v = some (.ref b) ∧ Keep h0 h [t, b] ∧ own_Bld Z h b t k (ds.take n ++ cs ++ ds.drop (n + cs.length)) (n + cs.length)) := by
  have hEL := own_EL hw
  refine own_body pn_508473411 O0 (fun p e s m below meth cc_ T0 vm0 hx hby hml0 hret hlk hnm hsf w0 => ?_)
  have hml : cc_.maxLocals = 2 := hml0
  have A_0 := own_at w0
  refine own_entry (ef_ctSap m b x) ?_
  refine own_by (T' := T0) (g' := (mkF m 1 #[.val (.ref b), .val (.ref x)] [(.ref b)])) (fun t_ hr_ => XS.aloadN A_0 hx rfl (Jvm.hb hby d14_0) rfl rfl hr_) ?_
  refine own_by (T' := T0) (g' := (mkF m 2 #[.val (.ref b), .val (.ref x)] [(.ref x), (.ref b)])) (fun t_ hr_ => XS.aloadN A_0 hx rfl (Jvm.hb hby d14_1) rfl rfl hr_) ?_
  refine own_callU w0 hx (y := (⟨"java/lang/AbstractStringBuilder", "append", "(Ljava/lang/String;)Ljava/lang/AbstractStringBuilder;"⟩ : MethodName)) (hw _ (List.mem_of_getElem? (i := 90) rfl)) (own_same (y := (⟨"java/lang/AbstractStringBuilder", "append", "(Ljava/lang/String;)Ljava/lang/AbstractStringBuilder;"⟩ : MethodName)) (y2 := (⟨"java/lang/AbstractStringBuilder", "ensureCapacityInternal", "(I)V"⟩ : MethodName)) rfl (hw _ (List.mem_of_getElem? (i := 110) rfl)) (hw _ (List.mem_of_getElem? (i := 91) rfl)) (by decide)) (hw _ (List.mem_of_getElem? (i := 91) rfl)) (hw _ (List.mem_of_getElem? (i := 92) rfl)) (hw _ (List.mem_of_getElem? (i := 94) rfl)) (by decide) (kc := 0) (ks := 0) (a := b) (argsL := [(.ref x)]) (rest := []) (own_payCt (W := 0) (ctAp l Z a0 hw SC n0 h0 (own_old w0) b t k ds n x cs B0 S0 hn gt gb) w0 (hw _ (List.mem_of_getElem? (i := 94) rfl)) (hw _ (List.mem_of_getElem? (i := 77) rfl)) hEL (by decide) (by decide)) (Ins.self B0.1) (g := (mkF m 2 #[.val (.ref b), .val (.ref x)] [(.ref x), (.ref b)])) rfl (by rw [hml]; rfl) (lenOf pd_736245340 rfl) rfl (by show 2 * 0 + _ ≤ _; exact Nat.le_of_eq rfl) (Jvm.hb hby d14_2) (by decide) (by decide) (fun v1_ T1_ vm1_ h1_ q1_ C1_ w1_ => ?_)
  obtain ⟨rfl, K1, B1⟩ := q1_
  have A1_ := own_at w1_
  show own_WP p e _ below s Z _ n0 _ T1_ (mkF m 5 #[.val (.ref b), .val (.ref x)] [(.ref b)])
  refine own_by (T' := T1_) (g' := (mkF m 6 #[.val (.ref b), .val (.ref x)] [])) (fun t_ hr_ => XS.pop A1_ hx rfl (Jvm.hb hby d14_5) rfl rfl hr_) ?_
  refine own_by (T' := T1_) (g' := (mkF m 7 #[.val (.ref b), .val (.ref x)] [(.ref b)])) (fun t_ hr_ => XS.aloadN A1_ hx rfl (Jvm.hb hby d14_6) rfl rfl hr_) ?_
  exact own_retA w1_ hx hEL hlk hret rfl rfl (Jvm.hb hby d14_7) (by decide) (by decide) ⟨rfl, K1, B1⟩

theorem d25_0 : decode jdk_68_method_64_code 0 = .ok (.aload_n 0, 1) := by decide +kernel
theorem d25_1 : decode jdk_68_method_64_code 1 = .ok (.getfield 15, 3) := by decide +kernel
theorem d25_4 : decode jdk_68_method_64_code 4 = .ok (.areturn, 1) := by decide +kernel
theorem pn_666515410 : plainFor (⟨"java/lang/AbstractStringBuilder", "getValue", "()[B"⟩ : MethodName) = true := by first | exact plainFor_of_name (by first | (simp [plainName, overriddenIn]; done) | decide +kernel) | decide +kernel
theorem ef_ctGV (m : MethodId) (x0 : Addr) : entryFrame m #[(.ref x0)] 1 = mkF m 0 #[.val (.ref x0)] [] := by first | (simp [entryFrame, mkF, argsToLocals, Value.category]; done) | rfl
set_option maxRecDepth 65536 in
set_option maxHeartbeats 40000000 in
theorem ctGV (l : Launch) (Z : State) (a0 : Array Value) (hw : ∀ d ∈ tables_1, d.before a0 Z = true) (n0 : Nat) (h0 : Heap) (O0 : Old Z n0 h0) (b t : Addr) (k : ClassId) (ds : List Int32) (n : Nat) (B0 : own_Bld Z h0 b t k ds n) :
    own_Ct l (⟨"java/lang/AbstractStringBuilder", "getValue", "()[B"⟩ : MethodName) jdk_68_method_64_code 1 (some (.array .byte)) ({ frames := 0, cells := 0, slots := 0, locals := 0 } : Room) Z consts_1 n0 #[(.ref b)] h0 [] (fun v h => v = some (.ref t) ∧ h0 = h) := by
  have hEL := own_EL hw
  refine own_body pn_666515410 O0 (fun p e s m below meth cc_ T0 vm0 hx hby hml0 hret hlk hnm hsf w0 => ?_)
  have hml : cc_.maxLocals = 1 := hml0
  have A_0 := own_at w0
  refine own_entry (ef_ctGV m b) ?_
  refine own_by (T' := T0) (g' := (mkF m 1 #[.val (.ref b)] [(.ref b)])) (fun t_ hr_ => XS.aloadN A_0 hx rfl (Jvm.hb hby d25_0) rfl rfl hr_) ?_
  refine own_getF w0 hx (hw _ (List.mem_of_getElem? (i := 81) rfl)) B0.2.1 (g := (mkF m 1 #[.val (.ref b)] [(.ref b)])) rfl rfl (Jvm.hb hby d25_1) (fun T1_ w1_ => ?_)
  have A1_ := own_at w1_
  show own_WP p e _ below s Z _ n0 _ T1_ (mkF m 4 #[.val (.ref b)] [(.ref t)])
  exact own_retA w1_ hx hEL hlk hret rfl rfl (Jvm.hb hby d25_4) (by decide) (by decide) ⟨rfl, rfl⟩

theorem d27_0 : decode jdk_68_method_6_code 0 = .ok (.aload_n 0, 1) := by decide +kernel
theorem d27_1 : decode jdk_68_method_6_code 1 = .ok (.getfield 79, 3) := by decide +kernel
theorem d27_4 : decode jdk_68_method_6_code 4 = .ok (.ireturn, 1) := by decide +kernel
theorem pn_318999882 : plainFor (⟨"java/lang/AbstractStringBuilder", "length", "()I"⟩ : MethodName) = true := by first | exact plainFor_of_name (by first | (simp [plainName, overriddenIn]; done) | decide +kernel) | decide +kernel
theorem ef_ctAL (m : MethodId) (x0 : Addr) : entryFrame m #[(.ref x0)] 1 = mkF m 0 #[.val (.ref x0)] [] := by first | (simp [entryFrame, mkF, argsToLocals, Value.category]; done) | rfl
set_option maxRecDepth 65536 in
set_option maxHeartbeats 40000000 in
theorem ctAL (l : Launch) (Z : State) (a0 : Array Value) (hw : ∀ d ∈ tables_1, d.before a0 Z = true) (n0 : Nat) (h0 : Heap) (O0 : Old Z n0 h0) (b t : Addr) (k : ClassId) (ds : List Int32) (n : Nat) (B0 : own_Bld Z h0 b t k ds n) :
    own_Ct l (⟨"java/lang/AbstractStringBuilder", "length", "()I"⟩ : MethodName) jdk_68_method_6_code 1 (some .int) ({ frames := 0, cells := 0, slots := 0, locals := 0 } : Room) Z consts_1 n0 #[(.ref b)] h0 [] (fun v h => v = some (.int (Int32.ofNat n)) ∧ h0 = h) := by
  have hEL := own_EL hw
  refine own_body pn_318999882 O0 (fun p e s m below meth cc_ T0 vm0 hx hby hml0 hret hlk hnm hsf w0 => ?_)
  have hml : cc_.maxLocals = 1 := hml0
  have A_0 := own_at w0
  refine own_entry (ef_ctAL m b) ?_
  refine own_by (T' := T0) (g' := (mkF m 1 #[.val (.ref b)] [(.ref b)])) (fun t_ hr_ => XS.aloadN A_0 hx rfl (Jvm.hb hby d27_0) rfl rfl hr_) ?_
  refine own_getF w0 hx (hw _ (List.mem_of_getElem? (i := 105) rfl)) B0.2.2.2.1 (g := (mkF m 1 #[.val (.ref b)] [(.ref b)])) rfl rfl (Jvm.hb hby d27_1) (fun T1_ w1_ => ?_)
  have A1_ := own_at w1_
  show own_WP p e _ below s Z _ n0 _ T1_ (mkF m 4 #[.val (.ref b)] [(.int (Int32.ofNat n))])
  exact own_retI w1_ hx hEL hlk hret (Jvm.hb hby d27_4) (by decide) (by decide) ⟨rfl, rfl⟩

theorem d26_0 : decode jdk_67_method_93_code 0 = .ok (.aload_n 0, 1) := by decide +kernel
theorem d26_1 : decode jdk_67_method_93_code 1 = .ok (.invokespecial 343, 3) := by decide +kernel
theorem d26_4 : decode jdk_67_method_93_code 4 = .ok (.ireturn, 1) := by decide +kernel
theorem pn_382775756 : plainFor (⟨"java/lang/StringBuilder", "length", "()I"⟩ : MethodName) = true := by first | exact plainFor_of_name (by first | (simp [plainName, overriddenIn]; done) | decide +kernel) | decide +kernel
theorem ef_ctSL (m : MethodId) (x0 : Addr) : entryFrame m #[(.ref x0)] 1 = mkF m 0 #[.val (.ref x0)] [] := by first | (simp [entryFrame, mkF, argsToLocals, Value.category]; done) | rfl
set_option maxRecDepth 65536 in
set_option maxHeartbeats 40000000 in
theorem ctSL (l : Launch) (Z : State) (a0 : Array Value) (hw : ∀ d ∈ tables_1, d.before a0 Z = true) (n0 : Nat) (h0 : Heap) (O0 : Old Z n0 h0) (b t : Addr) (k : ClassId) (ds : List Int32) (n : Nat) (B0 : own_Bld Z h0 b t k ds n) :
    own_Ct l (⟨"java/lang/StringBuilder", "length", "()I"⟩ : MethodName) jdk_67_method_93_code 1 (some .int) ({ frames := 1, cells := 0, slots := 0, locals := 12 } : Room) Z consts_1 n0 #[(.ref b)] h0 [] (fun v h => v = some (.int (Int32.ofNat n)) ∧ h0 = h) := by
  have hEL := own_EL hw
  refine own_body pn_382775756 O0 (fun p e s m below meth cc_ T0 vm0 hx hby hml0 hret hlk hnm hsf w0 => ?_)
  have hml : cc_.maxLocals = 1 := hml0
  have A_0 := own_at w0
  refine own_entry (ef_ctSL m b) ?_
  refine own_by (T' := T0) (g' := (mkF m 1 #[.val (.ref b)] [(.ref b)])) (fun t_ hr_ => XS.aloadN A_0 hx rfl (Jvm.hb hby d26_0) rfl rfl hr_) ?_
  refine own_callU w0 hx (y := (⟨"java/lang/AbstractStringBuilder", "length", "()I"⟩ : MethodName)) (hw _ (List.mem_of_getElem? (i := 156) rfl)) (own_same (y := (⟨"java/lang/AbstractStringBuilder", "length", "()I"⟩ : MethodName)) (y2 := (⟨"java/lang/AbstractStringBuilder", "ensureCapacityInternal", "(I)V"⟩ : MethodName)) rfl (hw _ (List.mem_of_getElem? (i := 110) rfl)) (hw _ (List.mem_of_getElem? (i := 152) rfl)) (by decide)) (hw _ (List.mem_of_getElem? (i := 152) rfl)) (hw _ (List.mem_of_getElem? (i := 92) rfl)) (hw _ (List.mem_of_getElem? (i := 157) rfl)) (by decide) (kc := 0) (ks := 0) (a := b) (argsL := []) (rest := []) (own_payCt (W := 0) (ctAL l Z a0 hw n0 h0 (own_old w0) b t k ds n B0) w0 (hw _ (List.mem_of_getElem? (i := 157) rfl)) (hw _ (List.mem_of_getElem? (i := 77) rfl)) hEL (by decide) (by decide)) (Ins.self B0.1) (g := (mkF m 1 #[.val (.ref b)] [(.ref b)])) rfl (by rw [hml]; rfl) (lenOf pd_691884 rfl) rfl (by show 2 * 0 + _ ≤ _; exact Nat.le_of_eq rfl) (Jvm.hb hby d26_1) (by decide) (by decide) (fun v1_ T1_ vm1_ h1_ q1_ C1_ w1_ => ?_)
  obtain ⟨rfl, rfl⟩ := q1_
  have A1_ := own_at w1_
  show own_WP p e _ below s Z _ n0 _ T1_ (mkF m 4 #[.val (.ref b)] [(.int (Int32.ofNat n))])
  exact own_retI w1_ hx hEL hlk hret (Jvm.hb hby d26_4) (by decide) (by decide) ⟨rfl, rfl⟩

theorem d28_0 : decode jdk_68_method_68_code 0 = .ok (.getstatic 18, 3) := by decide +kernel
theorem d28_3 : decode jdk_68_method_68_code 3 = .ok (.ifCond .eq 14, 3) := by decide +kernel
theorem d28_6 : decode jdk_68_method_68_code 6 = .ok (.aload_n 0, 1) := by decide +kernel
theorem d28_7 : decode jdk_68_method_68_code 7 = .ok (.getfield 22, 3) := by decide +kernel
theorem d28_10 : decode jdk_68_method_68_code 10 = .ok (.ifCond .ne 7, 3) := by decide +kernel
theorem d28_13 : decode jdk_68_method_68_code 13 = .ok (.iconst 1, 1) := by decide +kernel
theorem d28_14 : decode jdk_68_method_68_code 14 = .ok (.goto 4, 3) := by decide +kernel
theorem d28_18 : decode jdk_68_method_68_code 18 = .ok (.ireturn, 1) := by decide +kernel
theorem pn_873581882 : plainFor (⟨"java/lang/AbstractStringBuilder", "isLatin1", "()Z"⟩ : MethodName) = true := by first | exact plainFor_of_name (by first | (simp [plainName, overriddenIn]; done) | decide +kernel) | decide +kernel
theorem ef_ctIL (m : MethodId) (x0 : Addr) : entryFrame m #[(.ref x0)] 1 = mkF m 0 #[.val (.ref x0)] [] := by first | (simp [entryFrame, mkF, argsToLocals, Value.category]; done) | rfl
set_option maxRecDepth 65536 in
set_option maxHeartbeats 40000000 in
theorem ctIL (l : Launch) (Z : State) (a0 : Array Value) (hw : ∀ d ∈ tables_1, d.before a0 Z = true) (SC : own_SC Z) (n0 : Nat) (h0 : Heap) (O0 : Old Z n0 h0) (b t : Addr) (k : ClassId) (ds : List Int32) (n : Nat) (B0 : own_Bld Z h0 b t k ds n) :
    own_Ct l (⟨"java/lang/AbstractStringBuilder", "isLatin1", "()Z"⟩ : MethodName) jdk_68_method_68_code 1 (some .boolean) ({ frames := 0, cells := 0, slots := 0, locals := 0 } : Room) Z consts_1 n0 #[(.ref b)] h0 [] (fun v h => v = some (.int 1) ∧ h0 = h) := by
  have hEL := own_EL hw
  refine own_body pn_873581882 O0 (fun p e s m below meth cc_ T0 vm0 hx hby hml0 hret hlk hnm hsf w0 => ?_)
  have hml : cc_.maxLocals = 1 := hml0
  have A_0 := own_at w0
  refine own_entry (ef_ctIL m b) ?_
  obtain ⟨z, Sz, hz⟩ := SC
  refine own_getS w0 hx (hw _ (List.mem_of_getElem? (i := 80) rfl)) (Sz.ext O0.2) (g := (mkF m 0 #[.val (.ref b)] [])) rfl (Jvm.hb hby d28_0) (fun T1_ w1_ => ?_)
  have A1_ := own_at w1_
  show own_WP p e _ below s Z _ n0 _ T1_ (mkF m 3 #[.val (.ref b)] [(.int z)])
  refine own_by (T' := T1_) (g' := (mkF m 6 #[.val (.ref b)] [])) (fun t_ hr_ => XS.ifNo A1_ hx rfl (Jvm.hb hby d28_3) rfl ((if0 _ _).trans (feq hz).1) hr_) ?_
  refine own_by (T' := T1_) (g' := (mkF m 7 #[.val (.ref b)] [(.ref b)])) (fun t_ hr_ => XS.aloadN A1_ hx rfl (Jvm.hb hby d28_6) rfl rfl hr_) ?_
  refine own_getF w1_ hx (hw _ (List.mem_of_getElem? (i := 83) rfl)) B0.2.2.1 (g := (mkF m 7 #[.val (.ref b)] [(.ref b)])) rfl rfl (Jvm.hb hby d28_7) (fun T2_ w2_ => ?_)
  have A2_ := own_at w2_
  show own_WP p e _ below s Z _ n0 _ T2_ (mkF m 10 #[.val (.ref b)] [(.int (0 : Int32))])
  refine own_by (T' := T2_) (g' := (mkF m 13 #[.val (.ref b)] [])) (fun t_ hr_ => XS.ifNo A2_ hx rfl (Jvm.hb hby d28_10) rfl ((if0 _ _).trans (teq (rfl : (0 : Int32) = 0)).2) hr_) ?_
  refine own_by (T' := T2_) (g' := (mkF m 14 #[.val (.ref b)] [(.int (1 : Int32))])) (fun t_ hr_ => XS.iconst A2_ hx rfl (Jvm.hb hby d28_13) hr_) ?_
  refine own_by (T' := T2_) (g' := (mkF m 18 #[.val (.ref b)] [(.int (1 : Int32))])) (fun t_ hr_ => XS.goto A2_ hx rfl (pc0 := 14) (pc' := 18) rfl (Jvm.hb hby d28_14) (by decide) (by decide) hr_) ?_
  exact own_retZ w2_ hx hEL hlk hret (Or.inr rfl) (Jvm.hb hby d28_18) (by decide) (by decide) ⟨rfl, rfl⟩

theorem ctCopyR0 (l : Launch) (Z : State) (a0 : Array Value) (hw : ∀ d ∈ tables_1, d.before a0 Z = true) (n0 : Nat) (h0 : Heap) (O0 : Old Z n0 h0) (t : Addr) (n : Nat) (cs : List Int32) (kA : ClassId) (K : Arv Z h0 t kA .byte (Int32.ofNat cs.length) ((cs.map fun c => c.toInt8.toInt32).map Value.int) (.int 0)) (hlen : cs.length ≤ 4000) (hbn : n ≤ cs.length) (hcap : n ≤ 16) (hne : ¬ n = cs.length) :
    own_Ct l (⟨"java/util/Arrays", "copyOfRange", "([BII)[B"⟩ : MethodName) jdk_65_method_132_code 3 (some (.array .byte)) ({ frames := 2, cells := 1, slots := 16, locals := 56 } : Room) Z consts_1 n0 #[(.ref t), (.int (0 : Int32)), (.int (Int32.ofNat n))] h0 [] (fun v h => ∃ a k, v = some (.ref a) ∧ Ext h0 h ∧ Arv Z h a k .byte (Int32.ofNat n) ((((cs.drop 0).take n).map fun c => c.toInt8.toInt32).map Value.int) (.int 0)) := by
  have q := ctCopyR l Z a0 hw n0 h0 O0 t 0 n 0 cs kA K hlen (by omega) hcap (by omega)
  rw [Nat.zero_add] at q
  exact q
theorem d24_0 : decode jdk_42_method_150_code 0 = .ok (.aload_n 0, 1) := by decide +kernel
theorem d24_1 : decode jdk_42_method_150_code 1 = .ok (.invokespecial 1, 3) := by decide +kernel
theorem d24_4 : decode jdk_42_method_150_code 4 = .ok (.aload_n 1, 1) := by decide +kernel
theorem d24_5 : decode jdk_42_method_150_code 5 = .ok (.invokevirtual 552, 3) := by decide +kernel
theorem pd_90639228 : parseMethodDescriptor "()[B" = some ⟨[], some (.array .byte)⟩ := by decide +kernel
theorem d24_8 : decode jdk_42_method_150_code 8 = .ok (.astore_n 3, 1) := by decide +kernel
theorem d24_9 : decode jdk_42_method_150_code 9 = .ok (.aload_n 1, 1) := by decide +kernel
theorem d24_10 : decode jdk_42_method_150_code 10 = .ok (.invokevirtual 549, 3) := by decide +kernel
theorem d24_13 : decode jdk_42_method_150_code 13 = .ok (.istore 4, 2) := by decide +kernel
theorem d24_15 : decode jdk_42_method_150_code 15 = .ok (.aload_n 1, 1) := by decide +kernel
theorem d24_16 : decode jdk_42_method_150_code 16 = .ok (.invokevirtual 1047, 3) := by decide +kernel
theorem pd_691901 : parseMethodDescriptor "()Z" = some ⟨[], some .boolean⟩ := by decide +kernel
theorem d24_19 : decode jdk_42_method_150_code 19 = .ok (.ifCond .eq 22, 3) := by decide +kernel
theorem d24_22 : decode jdk_42_method_150_code 22 = .ok (.aload_n 0, 1) := by decide +kernel
theorem d24_23 : decode jdk_42_method_150_code 23 = .ok (.iconst 0, 1) := by decide +kernel
theorem d24_24 : decode jdk_42_method_150_code 24 = .ok (.putfield 15, 3) := by decide +kernel
theorem d24_27 : decode jdk_42_method_150_code 27 = .ok (.aload_n 0, 1) := by decide +kernel
theorem d24_28 : decode jdk_42_method_150_code 28 = .ok (.aload_n 3, 1) := by decide +kernel
theorem d24_29 : decode jdk_42_method_150_code 29 = .ok (.iconst 0, 1) := by decide +kernel
theorem d24_30 : decode jdk_42_method_150_code 30 = .ok (.iload 4, 2) := by decide +kernel
theorem d24_32 : decode jdk_42_method_150_code 32 = .ok (.invokestatic 54, 3) := by decide +kernel
theorem d24_35 : decode jdk_42_method_150_code 35 = .ok (.putfield 9, 3) := by decide +kernel
theorem d24_38 : decode jdk_42_method_150_code 38 = .ok (.goto 59, 3) := by decide +kernel
theorem d24_97 : decode jdk_42_method_150_code 97 = .ok (.return_, 1) := by decide +kernel
theorem pn_101569933 : plainFor (⟨"java/lang/String", "<init>", "(Ljava/lang/AbstractStringBuilder;Ljava/lang/Void;)V"⟩ : MethodName) = true := by first | exact plainFor_of_name (by first | (simp [plainName, overriddenIn]; done) | decide +kernel) | decide +kernel
theorem ef_ctN3 (m : MethodId) (x0 : Addr) (x1 : Addr) : entryFrame m #[(.ref x0), (.ref x1), .null] 5 = mkF m 0 #[.val (.ref x0), .val (.ref x1), .val .null, .unset, .unset] [] := by first | (simp [entryFrame, mkF, argsToLocals, Value.category]; done) | rfl
set_option maxRecDepth 65536 in
set_option maxHeartbeats 40000000 in
theorem ctN3 (l : Launch) (Z : State) (a0 : Array Value) (hw : ∀ d ∈ tables_1, d.before a0 Z = true) (SC : own_SC Z) (n0 : Nat) (h0 : Heap) (O0 : Old Z n0 h0) (b t : Addr) (k : ClassId) (ds : List Int32) (n : Nat) (x : Addr) (B0 : own_Bld Z h0 b t k ds n) (hcs : ∀ c ∈ ds.take n, ¬ c < 0 ∧ ¬ (255 : Int32) < c) (hn16 : n < 16) (F0 : own_Raw Z h0 x) (gx : n0 ≤ x) :
    own_Ct l (⟨"java/lang/String", "<init>", "(Ljava/lang/AbstractStringBuilder;Ljava/lang/Void;)V"⟩ : MethodName) jdk_42_method_150_code 5 none ({ frames := 3, cells := 1, slots := 16, locals := 71 } : Room) Z consts_1 n0 #[(.ref x), (.ref b), .null] h0 [] (fun v h => v = none ∧ Keep h0 h [x] ∧ own_Str Z h x (ds.take n)) := by
  have hEL := own_EL hw
  refine own_body pn_101569933 O0 (fun p e s m below meth cc_ T0 vm0 hx hby hml0 hret hlk hnm hsf w0 => ?_)
  have hml : cc_.maxLocals = 5 := hml0
  have A_0 := own_at w0
  refine own_entry (ef_ctN3 m x b) ?_
  obtain ⟨b1, b2, b3, b4, b5, b6, b7⟩ := id B0
  refine own_by (T' := T0) (g' := (mkF m 1 #[.val (.ref x), .val (.ref b), .val .null, .unset, .unset] [(.ref x)])) (fun t_ hr_ => XS.aloadN A_0 hx rfl (Jvm.hb hby d24_0) rfl rfl hr_) ?_
  refine own_initO w0 hx (hw _ (List.mem_of_getElem? (i := 15) rfl)) (hw _ (List.mem_of_getElem? (i := 16) rfl)) (hw _ (List.mem_of_getElem? (i := 17) rfl)) (g := (mkF m 1 #[.val (.ref x), .val (.ref b), .val .null, .unset, .unset] [(.ref x)])) rfl (by rw [hml]; rfl) rfl (Jvm.hb hby d24_1) (by decide) (W := 0) (by show 2 * 0 + _ ≤ _; exact Nat.le_of_eq rfl) (by decide) (fun T1_ w1_ => ?_)
  have A1_ := own_at w1_
  show own_WP p e _ below s Z _ n0 _ T1_ (mkF m 4 #[.val (.ref x), .val (.ref b), .val .null, .unset, .unset] [])
  refine own_by (T' := T1_) (g' := (mkF m 5 #[.val (.ref x), .val (.ref b), .val .null, .unset, .unset] [(.ref b)])) (fun t_ hr_ => XS.aloadN A1_ hx rfl (Jvm.hb hby d24_4) rfl rfl hr_) ?_
  refine own_callV w1_ hx (y := (⟨"java/lang/AbstractStringBuilder", "getValue", "()[B"⟩ : MethodName)) (z := (⟨"java/lang/AbstractStringBuilder", "getValue", "()[B"⟩ : MethodName)) (hw _ (List.mem_of_getElem? (i := 145) rfl)) (hw _ (List.mem_of_getElem? (i := 146) rfl)) (fun u hu => notFace_of_selects (args := #[]) (mvT hu (hw _ (List.mem_of_getElem? (i := 148) rfl)))) (hw _ (List.mem_of_getElem? (i := 148) rfl)) (hw _ (List.mem_of_getElem? (i := 147) rfl)) (by decide) (kc := 0) (ks := 0) (a := b) (argsL := []) (rest := []) (own_payCt (W := 0) (ctGV l Z a0 hw n0 h0 (own_old w1_) b t k ds n B0) w1_ (hw _ (List.mem_of_getElem? (i := 149) rfl)) (hw _ (List.mem_of_getElem? (i := 77) rfl)) hEL (by decide) (by decide)) b1 (g := (mkF m 5 #[.val (.ref x), .val (.ref b), .val .null, .unset, .unset] [(.ref b)])) rfl (by rw [hml]; rfl) (lenOf pd_90639228 rfl) rfl (by show 2 * 0 + _ ≤ _; exact Nat.le_of_eq rfl) (Jvm.hb hby d24_5) (by decide) (by decide) (fun v2_ T2_ vm2_ h2_ q2_ C2_ w2_ => ?_)
  obtain ⟨rfl, rfl⟩ := q2_
  have A2_ := own_at w2_
  show own_WP p e _ below s Z _ n0 _ T2_ (mkF m 8 #[.val (.ref x), .val (.ref b), .val .null, .unset, .unset] [(.ref t)])
  refine own_by (T' := T2_) (g' := (mkF m 9 #[.val (.ref x), .val (.ref b), .val .null, .val (.ref t), .unset] [])) (fun t_ hr_ => XS.astoreN A2_ hx rfl (Jvm.hb hby d24_8) rfl rfl (l' := #[.val (.ref x), .val (.ref b), .val .null, .val (.ref t), .unset]) rfl hr_) ?_
  refine own_by (T' := T2_) (g' := (mkF m 10 #[.val (.ref x), .val (.ref b), .val .null, .val (.ref t), .unset] [(.ref b)])) (fun t_ hr_ => XS.aloadN A2_ hx rfl (Jvm.hb hby d24_9) rfl rfl hr_) ?_
  refine own_callV w2_ hx (y := (⟨"java/lang/AbstractStringBuilder", "length", "()I"⟩ : MethodName)) (z := (⟨"java/lang/StringBuilder", "length", "()I"⟩ : MethodName)) (hw _ (List.mem_of_getElem? (i := 150) rfl)) (hw _ (List.mem_of_getElem? (i := 151) rfl)) (fun u hu => own_nf (y := (⟨"java/lang/AbstractStringBuilder", "length", "()I"⟩ : MethodName)) (y2 := (⟨"java/lang/AbstractStringBuilder", "ensureCapacityInternal", "(I)V"⟩ : MethodName)) (a0 := #[]) rfl (mvT hu (hw _ (List.mem_of_getElem? (i := 110) rfl)))) (hw _ (List.mem_of_getElem? (i := 153) rfl)) (hw _ (List.mem_of_getElem? (i := 154) rfl)) (by decide) (kc := 0) (ks := 0) (a := b) (argsL := []) (rest := []) (own_payCt (W := 0) (ctSL l Z a0 hw n0 h0 (own_old w2_) b t k ds n B0) w2_ (hw _ (List.mem_of_getElem? (i := 155) rfl)) (hw _ (List.mem_of_getElem? (i := 69) rfl)) hEL (by decide) (by decide)) b1 (g := (mkF m 10 #[.val (.ref x), .val (.ref b), .val .null, .val (.ref t), .unset] [(.ref b)])) rfl (by rw [hml]; rfl) (lenOf pd_691884 rfl) rfl (by show 2 * 0 + _ ≤ _; exact Nat.le_of_eq rfl) (Jvm.hb hby d24_10) (by decide) (by decide) (fun v3_ T3_ vm3_ h3_ q3_ C3_ w3_ => ?_)
  obtain ⟨rfl, rfl⟩ := q3_
  have A3_ := own_at w3_
  show own_WP p e _ below s Z _ n0 _ T3_ (mkF m 13 #[.val (.ref x), .val (.ref b), .val .null, .val (.ref t), .unset] [(.int (Int32.ofNat n))])
  refine own_by (T' := T3_) (g' := (mkF m 15 #[.val (.ref x), .val (.ref b), .val .null, .val (.ref t), .val (.int (Int32.ofNat n))] [])) (fun t_ hr_ => XS.istore A3_ hx rfl (Jvm.hb hby d24_13) rfl (l' := #[.val (.ref x), .val (.ref b), .val .null, .val (.ref t), .val (.int (Int32.ofNat n))]) rfl hr_) ?_
  refine own_by (T' := T3_) (g' := (mkF m 16 #[.val (.ref x), .val (.ref b), .val .null, .val (.ref t), .val (.int (Int32.ofNat n))] [(.ref b)])) (fun t_ hr_ => XS.aloadN A3_ hx rfl (Jvm.hb hby d24_15) rfl rfl hr_) ?_
  refine own_callV w3_ hx (y := (⟨"java/lang/AbstractStringBuilder", "isLatin1", "()Z"⟩ : MethodName)) (z := (⟨"java/lang/AbstractStringBuilder", "isLatin1", "()Z"⟩ : MethodName)) (hw _ (List.mem_of_getElem? (i := 158) rfl)) (hw _ (List.mem_of_getElem? (i := 159) rfl)) (fun u hu => notFace_of_selects (args := #[]) (mvT hu (hw _ (List.mem_of_getElem? (i := 161) rfl)))) (hw _ (List.mem_of_getElem? (i := 161) rfl)) (hw _ (List.mem_of_getElem? (i := 160) rfl)) (by decide) (kc := 0) (ks := 0) (a := b) (argsL := []) (rest := []) (own_payCt (W := 0) (ctIL l Z a0 hw SC n0 h0 (own_old w3_) b t k ds n B0) w3_ (hw _ (List.mem_of_getElem? (i := 162) rfl)) (hw _ (List.mem_of_getElem? (i := 77) rfl)) hEL (by decide) (by decide)) b1 (g := (mkF m 16 #[.val (.ref x), .val (.ref b), .val .null, .val (.ref t), .val (.int (Int32.ofNat n))] [(.ref b)])) rfl (by rw [hml]; rfl) (lenOf pd_691901 rfl) rfl (by show 2 * 0 + _ ≤ _; exact Nat.le_of_eq rfl) (Jvm.hb hby d24_16) (by decide) (by decide) (fun v4_ T4_ vm4_ h4_ q4_ C4_ w4_ => ?_)
  obtain ⟨rfl, rfl⟩ := q4_
  have A4_ := own_at w4_
  show own_WP p e _ below s Z _ n0 _ T4_ (mkF m 19 #[.val (.ref x), .val (.ref b), .val .null, .val (.ref t), .val (.int (Int32.ofNat n))] [(.int (1 : Int32))])
  refine own_by (T' := T4_) (g' := (mkF m 22 #[.val (.ref x), .val (.ref b), .val .null, .val (.ref t), .val (.int (Int32.ofNat n))] [])) (fun t_ hr_ => XS.ifNo A4_ hx rfl (Jvm.hb hby d24_19) rfl ((if0 _ _).trans (feq (by decide : ¬ (1 : Int32) = 0)).1) hr_) ?_
  refine own_by (T' := T4_) (g' := (mkF m 23 #[.val (.ref x), .val (.ref b), .val .null, .val (.ref t), .val (.int (Int32.ofNat n))] [(.ref x)])) (fun t_ hr_ => XS.aloadN A4_ hx rfl (Jvm.hb hby d24_22) rfl rfl hr_) ?_
  refine own_by (T' := T4_) (g' := (mkF m 24 #[.val (.ref x), .val (.ref b), .val .null, .val (.ref t), .val (.int (Int32.ofNat n))] [(.int (0 : Int32)), (.ref x)])) (fun t_ hr_ => XS.iconst A4_ hx rfl (Jvm.hb hby d24_23) hr_) ?_
  have Sf1 : Safe Z consts_1 vm4_ h0 x := F0.safe (own_hZ w4_).alike
  have ne1 : x ≠ t := F0.1.neArv b5 (hw _ (List.mem_of_getElem? (i := 5) rfl))
  refine own_putF w4_ hx (hw _ (List.mem_of_getElem? (i := 30) rfl)) F0.2.2 F0.1 (Or.inr ⟨(hw _ (List.mem_of_getElem? (i := 31) rfl)), rfl, hnm⟩) (hw _ (List.mem_of_getElem? (i := 5) rfl)) (ty := .byte) (by decide) rfl rfl gx Sf1 (g := (mkF m 24 #[.val (.ref x), .val (.ref b), .val .null, .val (.ref t), .val (.int (Int32.ofNat n))] [(.int (0 : Int32)), (.ref x)])) rfl rfl (Jvm.hb hby d24_24) (fun T5_ h5_ W5_ w5_ => ?_)
  have A5_ := own_at w5_
  show own_WP p e _ below s Z _ n0 _ T5_ (mkF m 27 #[.val (.ref x), .val (.ref b), .val .null, .val (.ref t), .val (.int (Int32.ofNat n))] [])
  refine own_by (T' := T5_) (g' := (mkF m 28 #[.val (.ref x), .val (.ref b), .val .null, .val (.ref t), .val (.int (Int32.ofNat n))] [(.ref x)])) (fun t_ hr_ => XS.aloadN A5_ hx rfl (Jvm.hb hby d24_27) rfl rfl hr_) ?_
  refine own_by (T' := T5_) (g' := (mkF m 29 #[.val (.ref x), .val (.ref b), .val .null, .val (.ref t), .val (.int (Int32.ofNat n))] [(.ref t), (.ref x)])) (fun t_ hr_ => XS.aloadN A5_ hx rfl (Jvm.hb hby d24_28) rfl rfl hr_) ?_
  refine own_by (T' := T5_) (g' := (mkF m 30 #[.val (.ref x), .val (.ref b), .val .null, .val (.ref t), .val (.int (Int32.ofNat n))] [(.int (0 : Int32)), (.ref t), (.ref x)])) (fun t_ hr_ => XS.iconst A5_ hx rfl (Jvm.hb hby d24_29) hr_) ?_
  refine own_by (T' := T5_) (g' := (mkF m 32 #[.val (.ref x), .val (.ref b), .val .null, .val (.ref t), .val (.int (Int32.ofNat n))] [(.int (Int32.ofNat n)), (.int (0 : Int32)), (.ref t), (.ref x)])) (fun t_ hr_ => XS.iload A5_ hx rfl (Jvm.hb hby d24_30) rfl hr_) ?_
  have X2 := F0.1.wr W5_
  have D2 := F0.2.2.same W5_
  have V2 := F0.2.1.other W5_ (Or.inr (slot_ne (Or.inr (hw _ (List.mem_of_getElem? (i := 33) rfl))) (Or.inr (hw _ (List.mem_of_getElem? (i := 31) rfl))) (by decide) rfl rfl))
  have Y2 := b5.other W5_ (Ne.symm ne1)
  have Sf2 : Safe Z consts_1 vm4_ h5_ x := Safe.wr W5_ Sf1 (own_chv w4_) Sf1
  have Y3 : Arv Z h5_ t k .byte (Int32.ofNat ds.length) ((ds.map fun c => c.toInt8.toInt32).map Value.int) (.int 0) := by rw [b6]; exact Y2
  refine own_callS w5_ hx (y := (⟨"java/util/Arrays", "copyOfRange", "([BII)[B"⟩ : MethodName)) (hw _ (List.mem_of_getElem? (i := 163) rfl)) (hw _ (List.mem_of_getElem? (i := 164) rfl)) (hw _ (List.mem_of_getElem? (i := 165) rfl)) (hw _ (List.mem_of_getElem? (i := 166) rfl)) (by decide) (kc := 1) (ks := 16) (argsL := [(.ref t), (.int (0 : Int32)), (.int (Int32.ofNat n))]) (rest := [(.ref x)]) (own_payCt (W := 1) (ctCopyR0 l Z a0 hw n0 h5_ (own_old w5_) t n ds k Y3 (by omega) (by omega) (by omega) (by omega)) w5_ (hw _ (List.mem_of_getElem? (i := 166) rfl)) (hw _ (List.mem_of_getElem? (i := 165) rfl)) hEL (by decide) (by decide)) (g := (mkF m 32 #[.val (.ref x), .val (.ref b), .val .null, .val (.ref t), .val (.int (Int32.ofNat n))] [(.int (Int32.ofNat n)), (.int (0 : Int32)), (.ref t), (.ref x)])) rfl (by rw [hml]; rfl) (lenOf pd_693184595 rfl) rfl (by show 2 * 0 + _ ≤ _; exact Nat.le_of_eq rfl) (Jvm.hb hby d24_32) (by decide) (by decide) (fun v6_ T6_ vm6_ h6_ q6_ C6_ w6_ => ?_)
  obtain ⟨a1, k1, rfl, E1, V1⟩ := q6_
  have A6_ := own_at w6_
  show own_WP p e _ below s Z _ n0 _ T6_ (mkF m 35 #[.val (.ref x), .val (.ref b), .val .null, .val (.ref t), .val (.int (Int32.ofNat n))] [(.ref a1), (.ref x)])
  have Sf3 : Safe Z consts_1 vm6_ h6_ x := C6_.safe X2.lt Sf2
  have X3 := X2.ext E1
  have D3 := D2.ext E1
  have V3 := V2.ext E1
  have ne2 : x ≠ a1 := X3.neArv V1 (hw _ (List.mem_of_getElem? (i := 5) rfl))
  refine own_putF w6_ hx (hw _ (List.mem_of_getElem? (i := 32) rfl)) V3 X3 (Or.inr ⟨(hw _ (List.mem_of_getElem? (i := 33) rfl)), rfl, hnm⟩) (hw _ (List.mem_of_getElem? (i := 5) rfl)) (ty := (.array .byte)) (by decide) rfl rfl gx Sf3 (g := (mkF m 35 #[.val (.ref x), .val (.ref b), .val .null, .val (.ref t), .val (.int (Int32.ofNat n))] [(.ref a1), (.ref x)])) rfl rfl (Jvm.hb hby d24_35) (fun T7_ h7_ W7_ w7_ => ?_)
  have A7_ := own_at w7_
  show own_WP p e _ below s Z _ n0 _ T7_ (mkF m 38 #[.val (.ref x), .val (.ref b), .val .null, .val (.ref t), .val (.int (Int32.ofNat n))] [])
  refine own_by (T' := T7_) (g' := (mkF m 97 #[.val (.ref x), .val (.ref b), .val .null, .val (.ref t), .val (.int (Int32.ofNat n))] [])) (fun t_ hr_ => XS.goto A7_ hx rfl (pc0 := 38) (pc' := 97) rfl (Jvm.hb hby d24_38) (by decide) (by decide) hr_) ?_
  have hl2 : (ds.take n).length = n := by rw [List.length_take]; omega
  have V4 := V1.other W7_ (Ne.symm ne2)
  rw [List.drop_zero] at V4
  exact own_retV w7_ hx hEL hlk hret (Jvm.hb hby d24_97) (by decide) (by decide) ⟨rfl, ((((Keep.refl h0 [x]).wr W5_ (Or.inl (List.mem_of_getElem? (i := 0) rfl))).ext E1).wr W7_ (Or.inl (List.mem_of_getElem? (i := 0) rfl))), X3.wr W7_, D3.other W7_ (Or.inr (slot_ne (Or.inr (hw _ (List.mem_of_getElem? (i := 31) rfl))) (Or.inr (hw _ (List.mem_of_getElem? (i := 33) rfl))) (by decide) rfl rfl)), ⟨a1, k1, V3.same W7_, by rw [hl2]; exact V4⟩, hcs, by omega⟩

theorem d23_0 : decode jdk_42_method_53_code 0 = .ok (.aload_n 0, 1) := by decide +kernel
theorem d23_1 : decode jdk_42_method_53_code 1 = .ok (.aload_n 1, 1) := by decide +kernel
theorem d23_2 : decode jdk_42_method_53_code 2 = .ok (.aconst_null, 1) := by decide +kernel
theorem d23_3 : decode jdk_42_method_53_code 3 = .ok (.invokespecial 489, 3) := by decide +kernel
theorem pd_372224719 : parseMethodDescriptor "(Ljava/lang/AbstractStringBuilder;Ljava/lang/Void;)V" = some ⟨[(.object "java/lang/AbstractStringBuilder"), (.object "java/lang/Void")], none⟩ := by decide +kernel
theorem d23_6 : decode jdk_42_method_53_code 6 = .ok (.return_, 1) := by decide +kernel
theorem pn_399481264 : plainFor (⟨"java/lang/String", "<init>", "(Ljava/lang/StringBuilder;)V"⟩ : MethodName) = true := by first | exact plainFor_of_name (by first | (simp [plainName, overriddenIn]; done) | decide +kernel) | decide +kernel
theorem ef_ctN2 (m : MethodId) (x0 : Addr) (x1 : Addr) : entryFrame m #[(.ref x0), (.ref x1)] 2 = mkF m 0 #[.val (.ref x0), .val (.ref x1)] [] := by first | (simp [entryFrame, mkF, argsToLocals, Value.category]; done) | rfl
set_option maxRecDepth 65536 in
set_option maxHeartbeats 40000000 in
theorem ctN2 (l : Launch) (Z : State) (a0 : Array Value) (hw : ∀ d ∈ tables_1, d.before a0 Z = true) (SC : own_SC Z) (n0 : Nat) (h0 : Heap) (O0 : Old Z n0 h0) (b t : Addr) (k : ClassId) (ds : List Int32) (n : Nat) (x : Addr) (B0 : own_Bld Z h0 b t k ds n) (hcs : ∀ c ∈ ds.take n, ¬ c < 0 ∧ ¬ (255 : Int32) < c) (hn16 : n < 16) (F0 : own_Raw Z h0 x) (gx : n0 ≤ x) :
    own_Ct l (⟨"java/lang/String", "<init>", "(Ljava/lang/StringBuilder;)V"⟩ : MethodName) jdk_42_method_53_code 2 none ({ frames := 4, cells := 1, slots := 16, locals := 87 } : Room) Z consts_1 n0 #[(.ref x), (.ref b)] h0 [] (fun v h => v = none ∧ Keep h0 h [x] ∧ own_Str Z h x (ds.take n)) := by
  have hEL := own_EL hw
  refine own_body pn_399481264 O0 (fun p e s m below meth cc_ T0 vm0 hx hby hml0 hret hlk hnm hsf w0 => ?_)
  have hml : cc_.maxLocals = 2 := hml0
  have A_0 := own_at w0
  refine own_entry (ef_ctN2 m x b) ?_
  refine own_by (T' := T0) (g' := (mkF m 1 #[.val (.ref x), .val (.ref b)] [(.ref x)])) (fun t_ hr_ => XS.aloadN A_0 hx rfl (Jvm.hb hby d23_0) rfl rfl hr_) ?_
  refine own_by (T' := T0) (g' := (mkF m 2 #[.val (.ref x), .val (.ref b)] [(.ref b), (.ref x)])) (fun t_ hr_ => XS.aloadN A_0 hx rfl (Jvm.hb hby d23_1) rfl rfl hr_) ?_
  refine own_by (T' := T0) (g' := (mkF m 3 #[.val (.ref x), .val (.ref b)] [.null, (.ref b), (.ref x)])) (fun t_ hr_ => XS.aconstNull A_0 hx rfl (Jvm.hb hby d23_2) hr_) ?_
  refine own_callC w0 hx (y := (⟨"java/lang/String", "<init>", "(Ljava/lang/AbstractStringBuilder;Ljava/lang/Void;)V"⟩ : MethodName)) rfl (hw _ (List.mem_of_getElem? (i := 142) rfl)) (hw _ (List.mem_of_getElem? (i := 143) rfl)) (hw _ (List.mem_of_getElem? (i := 144) rfl)) (by decide) (kc := 1) (ks := 16) (a := x) (argsL := [(.ref b), .null]) (rest := []) (own_payCt (W := 0) (ctN3 l Z a0 hw SC n0 h0 (own_old w0) b t k ds n x B0 hcs hn16 F0 gx) w0 (hw _ (List.mem_of_getElem? (i := 144) rfl)) (hw _ (List.mem_of_getElem? (i := 6) rfl)) hEL (by decide) (by decide)) (g := (mkF m 3 #[.val (.ref x), .val (.ref b)] [.null, (.ref b), (.ref x)])) rfl (by rw [hml]; rfl) (lenOf pd_372224719 rfl) rfl (by show 2 * 0 + _ ≤ _; exact Nat.le_of_eq rfl) (Jvm.hb hby d23_3) (by decide) (by decide) (fun v1_ T1_ vm1_ h1_ q1_ C1_ w1_ => ?_)
  obtain ⟨rfl, K1, S1⟩ := q1_
  have A1_ := own_at w1_
  show own_WP p e _ below s Z _ n0 _ T1_ (mkF m 6 #[.val (.ref x), .val (.ref b)] [])
  exact own_retV w1_ hx hEL hlk hret (Jvm.hb hby d23_6) (by decide) (by decide) ⟨rfl, K1, S1⟩

theorem d22_0 : decode jdk_67_method_42_code 0 = .ok (.new 18, 3) := by decide +kernel
theorem d22_3 : decode jdk_67_method_42_code 3 = .ok (.dup, 1) := by decide +kernel
theorem d22_4 : decode jdk_67_method_42_code 4 = .ok (.aload_n 0, 1) := by decide +kernel
theorem d22_5 : decode jdk_67_method_42_code 5 = .ok (.invokespecial 137, 3) := by decide +kernel
theorem pd_519535122 : parseMethodDescriptor "(Ljava/lang/StringBuilder;)V" = some ⟨[(.object "java/lang/StringBuilder")], none⟩ := by decide +kernel
theorem d22_8 : decode jdk_67_method_42_code 8 = .ok (.areturn, 1) := by decide +kernel
theorem pn_274576369 : plainFor (⟨"java/lang/StringBuilder", "toString", "()Ljava/lang/String;"⟩ : MethodName) = true := by first | exact plainFor_of_name (by first | (simp [plainName, overriddenIn]; done) | decide +kernel) | decide +kernel
theorem ef_ctTS (m : MethodId) (x0 : Addr) : entryFrame m #[(.ref x0)] 1 = mkF m 0 #[.val (.ref x0)] [] := by first | (simp [entryFrame, mkF, argsToLocals, Value.category]; done) | rfl
set_option maxRecDepth 65536 in
set_option maxHeartbeats 40000000 in
theorem ctTS (l : Launch) (Z : State) (a0 : Array Value) (hw : ∀ d ∈ tables_1, d.before a0 Z = true) (SC : own_SC Z) (n0 : Nat) (h0 : Heap) (O0 : Old Z n0 h0) (b t : Addr) (k : ClassId) (ds : List Int32) (n : Nat) (B0 : own_Bld Z h0 b t k ds n) (hcs : ∀ c ∈ ds.take n, ¬ c < 0 ∧ ¬ (255 : Int32) < c) (hn16 : n < 16) :
    own_Ct l (⟨"java/lang/StringBuilder", "toString", "()Ljava/lang/String;"⟩ : MethodName) jdk_67_method_42_code 1 (some (.object "java/lang/String")) ({ frames := 5, cells := 2, slots := 20, locals := 101 } : Room) Z consts_1 n0 #[(.ref b)] h0 [] (fun v h => ∃ r, v = some (.ref r) ∧ Ext h0 h ∧ own_Str Z h r (ds.take n)) := by
  have hEL := own_EL hw
  refine own_body pn_274576369 O0 (fun p e s m below meth cc_ T0 vm0 hx hby hml0 hret hlk hnm hsf w0 => ?_)
  have hml : cc_.maxLocals = 1 := hml0
  have A_0 := own_at w0
  refine own_entry (ef_ctTS m b) ?_
  refine own_new w0 hx (hw _ (List.mem_of_getElem? (i := 138) rfl)) (hw _ (List.mem_of_getElem? (i := 5) rfl)) (hw _ (List.mem_of_getElem? (i := 6) rfl)) (g := (mkF m 0 #[.val (.ref b)] [])) rfl (Jvm.hb hby d22_0) (by decide) (by decide) (fun T1_ h1_ a1_ g1_ E1_ ⟨X1_, D1_⟩ w1_ => ?_)
  have A1_ := own_at w1_
  show own_WP p e _ below s Z _ n0 _ T1_ (mkF m 3 #[.val (.ref b)] [(.ref a1_)])
  have R1_ : own_Raw Z h1_ a1_ := ⟨X1_, D1_ (Or.inr (hw _ (List.mem_of_getElem? (i := 33) rfl))) (ty := (.array .byte)) (by decide), D1_ (Or.inr (hw _ (List.mem_of_getElem? (i := 31) rfl))) (ty := .byte) (by decide)⟩
  have gn1_ : n0 ≤ a1_ := by rw [g1_]; exact own_n0 w0
  refine own_by (T' := T1_) (g' := (mkF m 4 #[.val (.ref b)] [(.ref a1_), (.ref a1_)])) (fun t_ hr_ => XS.dup A1_ hx rfl (Jvm.hb hby d22_3) rfl rfl hr_) ?_
  refine own_by (T' := T1_) (g' := (mkF m 5 #[.val (.ref b)] [(.ref b), (.ref a1_), (.ref a1_)])) (fun t_ hr_ => XS.aloadN A1_ hx rfl (Jvm.hb hby d22_4) rfl rfl hr_) ?_
  refine own_callC w1_ hx (y := (⟨"java/lang/String", "<init>", "(Ljava/lang/StringBuilder;)V"⟩ : MethodName)) rfl (hw _ (List.mem_of_getElem? (i := 139) rfl)) (hw _ (List.mem_of_getElem? (i := 140) rfl)) (hw _ (List.mem_of_getElem? (i := 141) rfl)) (by decide) (kc := 1) (ks := 16) (a := a1_) (argsL := [(.ref b)]) (rest := [(.ref a1_)]) (own_payCt (W := 1) (ctN2 l Z a0 hw SC n0 h1_ (own_old w1_) b t k ds n a1_ (B0.ext E1_) hcs hn16 R1_ gn1_) w1_ (hw _ (List.mem_of_getElem? (i := 141) rfl)) (hw _ (List.mem_of_getElem? (i := 6) rfl)) hEL (by decide) (by decide)) (g := (mkF m 5 #[.val (.ref b)] [(.ref b), (.ref a1_), (.ref a1_)])) rfl (by rw [hml]; rfl) (lenOf pd_519535122 rfl) rfl (by show 2 * 0 + _ ≤ _; exact Nat.le_of_eq rfl) (Jvm.hb hby d22_5) (by decide) (by decide) (fun v2_ T2_ vm2_ h2_ q2_ C2_ w2_ => ?_)
  obtain ⟨rfl, K1, S1⟩ := q2_
  have A2_ := own_at w2_
  show own_WP p e _ below s Z _ n0 _ T2_ (mkF m 8 #[.val (.ref b)] [(.ref a1_)])
  exact own_retA w2_ hx hEL hlk hret rfl rfl (Jvm.hb hby d22_8) (by decide) (by decide) ⟨_, rfl, own_extK E1_ K1 (allS (by rw [g1_]; exact Nat.le_refl _) all0), S1⟩

theorem d8_0 : decode prog_33_method_1_code 0 = .ok (.aload_n 0, 1) := by decide +kernel
theorem d8_1 : decode prog_33_method_1_code 1 = .ok (.invokespecial 1, 3) := by decide +kernel
theorem pd_691897 : parseMethodDescriptor "()V" = some ⟨[], none⟩ := by decide +kernel
theorem d8_4 : decode prog_33_method_1_code 4 = .ok (.aload_n 0, 1) := by decide +kernel
theorem d8_5 : decode prog_33_method_1_code 5 = .ok (.aload_n 1, 1) := by decide +kernel
theorem d8_6 : decode prog_33_method_1_code 6 = .ok (.putfield 7, 3) := by decide +kernel
theorem d8_9 : decode prog_33_method_1_code 9 = .ok (.aload_n 0, 1) := by decide +kernel
theorem d8_10 : decode prog_33_method_1_code 10 = .ok (.aload_n 2, 1) := by decide +kernel
theorem d8_11 : decode prog_33_method_1_code 11 = .ok (.putfield 13, 3) := by decide +kernel
theorem d8_14 : decode prog_33_method_1_code 14 = .ok (.aload_n 0, 1) := by decide +kernel
theorem d8_15 : decode prog_33_method_1_code 15 = .ok (.aload_n 3, 1) := by decide +kernel
theorem d8_16 : decode prog_33_method_1_code 16 = .ok (.putfield 16, 3) := by decide +kernel
theorem d8_19 : decode prog_33_method_1_code 19 = .ok (.aload_n 0, 1) := by decide +kernel
theorem d8_20 : decode prog_33_method_1_code 20 = .ok (.aload 4, 2) := by decide +kernel
theorem d8_22 : decode prog_33_method_1_code 22 = .ok (.putfield 19, 3) := by decide +kernel
theorem d8_25 : decode prog_33_method_1_code 25 = .ok (.return_, 1) := by decide +kernel
theorem pn_410045092 : plainFor (⟨"com/example/sigillo/sigillo/soap/XmlElement$Attribute", "<init>", "(Ljava/lang/String;Ljava/lang/String;Ljava/lang/String;Ljava/lang/String;)V"⟩ : MethodName) = true := by first | exact plainFor_of_name (by first | (simp [plainName, overriddenIn]; done) | decide +kernel) | decide +kernel
theorem ef_ctAtt (m : MethodId) (x0 : Addr) (x1 : Addr) (x2 : Addr) (x3 : Addr) (x4 : Addr) : entryFrame m #[(.ref x0), (.ref x1), (.ref x2), (.ref x3), (.ref x4)] 5 = mkF m 0 #[.val (.ref x0), .val (.ref x1), .val (.ref x2), .val (.ref x3), .val (.ref x4)] [] := by first | (simp [entryFrame, mkF, argsToLocals, Value.category]; done) | rfl
set_option maxRecDepth 65536 in
set_option maxHeartbeats 40000000 in
theorem ctAtt (l : Launch) (Z : State) (a0 : Array Value) (hw : ∀ d ∈ tables_1, d.before a0 Z = true) (n0 : Nat) (h0 : Heap) (O0 : Old Z n0 h0) (a : Addr) (pp ll uu vv : Addr) (u0 u1 u2 u3 : Value) (X0 : Exa Z h0 a "com/example/sigillo/sigillo/soap/XmlElement$Attribute") (F0 : Fld Z h0 a "com/example/sigillo/sigillo/soap/XmlElement$Attribute" "prefix" "Ljava/lang/String;" u0) (F1 : Fld Z h0 a "com/example/sigillo/sigillo/soap/XmlElement$Attribute" "localName" "Ljava/lang/String;" u1) (F2 : Fld Z h0 a "com/example/sigillo/sigillo/soap/XmlElement$Attribute" "namespaceUri" "Ljava/lang/String;" u2) (F3 : Fld Z h0 a "com/example/sigillo/sigillo/soap/XmlElement$Attribute" "value" "Ljava/lang/String;" u3) (ga : n0 ≤ a) :
    own_Ct l (⟨"com/example/sigillo/sigillo/soap/XmlElement$Attribute", "<init>", "(Ljava/lang/String;Ljava/lang/String;Ljava/lang/String;Ljava/lang/String;)V"⟩ : MethodName) prog_33_method_1_code 5 none ({ frames := 2, cells := 0, slots := 0, locals := 24 } : Room) Z consts_1 n0 #[(.ref a), (.ref pp), (.ref ll), (.ref uu), (.ref vv)] h0 [] (fun v h => v = none ∧ Keep h0 h [a] ∧ Exa Z h a "com/example/sigillo/sigillo/soap/XmlElement$Attribute" ∧ Fld Z h a "com/example/sigillo/sigillo/soap/XmlElement$Attribute" "prefix" "Ljava/lang/String;" (.ref pp) ∧ Fld Z h a "com/example/sigillo/sigillo/soap/XmlElement$Attribute" "localName" "Ljava/lang/String;" (.ref ll) ∧ Fld Z h a "com/example/sigillo/sigillo/soap/XmlElement$Attribute" "namespaceUri" "Ljava/lang/String;" (.ref uu) ∧ Fld Z h a "com/example/sigillo/sigillo/soap/XmlElement$Attribute" "value" "Ljava/lang/String;" (.ref vv)) := by
  have hEL := own_EL hw
  refine own_body pn_410045092 O0 (fun p e s m below meth cc_ T0 vm0 hx hby hml0 hret hlk hnm hsf w0 => ?_)
  have hml : cc_.maxLocals = 5 := hml0
  have A_0 := own_at w0
  refine own_entry (ef_ctAtt m a pp ll uu vv) ?_
  refine own_by (T' := T0) (g' := (mkF m 1 #[.val (.ref a), .val (.ref pp), .val (.ref ll), .val (.ref uu), .val (.ref vv)] [(.ref a)])) (fun t_ hr_ => XS.aloadN A_0 hx rfl (Jvm.hb hby d8_0) rfl rfl hr_) ?_
  refine own_callC w0 hx (y := (⟨"java/lang/Record", "<init>", "()V"⟩ : MethodName)) rfl (hw _ (List.mem_of_getElem? (i := 43) rfl)) (hw _ (List.mem_of_getElem? (i := 44) rfl)) (hw _ (List.mem_of_getElem? (i := 47) rfl)) (by decide) (kc := 0) (ks := 0) (a := a) (argsL := []) (rest := []) (own_payCt (W := 0) (ctRecord l Z a0 hw n0 h0 (own_old w0) a) w0 (hw _ (List.mem_of_getElem? (i := 47) rfl)) (hw _ (List.mem_of_getElem? (i := 46) rfl)) hEL (by decide) (by decide)) (g := (mkF m 1 #[.val (.ref a), .val (.ref pp), .val (.ref ll), .val (.ref uu), .val (.ref vv)] [(.ref a)])) rfl (by rw [hml]; rfl) (lenOf pd_691897 rfl) rfl (by show 2 * 0 + _ ≤ _; exact Nat.le_of_eq rfl) (Jvm.hb hby d8_1) (by decide) (by decide) (fun v1_ T1_ vm1_ h1_ q1_ C1_ w1_ => ?_)
  obtain ⟨rfl, rfl⟩ := q1_
  have A1_ := own_at w1_
  show own_WP p e _ below s Z _ n0 _ T1_ (mkF m 4 #[.val (.ref a), .val (.ref pp), .val (.ref ll), .val (.ref uu), .val (.ref vv)] [])
  refine own_by (T' := T1_) (g' := (mkF m 5 #[.val (.ref a), .val (.ref pp), .val (.ref ll), .val (.ref uu), .val (.ref vv)] [(.ref a)])) (fun t_ hr_ => XS.aloadN A1_ hx rfl (Jvm.hb hby d8_4) rfl rfl hr_) ?_
  refine own_by (T' := T1_) (g' := (mkF m 6 #[.val (.ref a), .val (.ref pp), .val (.ref ll), .val (.ref uu), .val (.ref vv)] [(.ref pp), (.ref a)])) (fun t_ hr_ => XS.aloadN A1_ hx rfl (Jvm.hb hby d8_5) rfl rfl hr_) ?_
  refine own_putF w1_ hx (hw _ (List.mem_of_getElem? (i := 49) rfl)) F0 X0 (Or.inr ⟨(hw _ (List.mem_of_getElem? (i := 50) rfl)), rfl, hnm⟩) (hw _ (List.mem_of_getElem? (i := 38) rfl)) (ty := (.object "java/lang/String")) (by decide) rfl rfl ga (Safe.exa (own_hZ w1_).alike X0 (by decide) (by decide)) (g := (mkF m 6 #[.val (.ref a), .val (.ref pp), .val (.ref ll), .val (.ref uu), .val (.ref vv)] [(.ref pp), (.ref a)])) rfl rfl (Jvm.hb hby d8_6) (fun T2_ h2_ W2_ w2_ => ?_)
  have A2_ := own_at w2_
  show own_WP p e _ below s Z _ n0 _ T2_ (mkF m 9 #[.val (.ref a), .val (.ref pp), .val (.ref ll), .val (.ref uu), .val (.ref vv)] [])
  have X0' := X0.wr W2_
  have F0_0 := F0.same W2_
  have F1_0 := F1.other W2_ (Or.inr (slot_ne (Or.inr (hw _ (List.mem_of_getElem? (i := 52) rfl))) (Or.inr (hw _ (List.mem_of_getElem? (i := 50) rfl))) (by decide) rfl rfl))
  have F2_0 := F2.other W2_ (Or.inr (slot_ne (Or.inr (hw _ (List.mem_of_getElem? (i := 54) rfl))) (Or.inr (hw _ (List.mem_of_getElem? (i := 50) rfl))) (by decide) rfl rfl))
  have F3_0 := F3.other W2_ (Or.inr (slot_ne (Or.inr (hw _ (List.mem_of_getElem? (i := 56) rfl))) (Or.inr (hw _ (List.mem_of_getElem? (i := 50) rfl))) (by decide) rfl rfl))
  refine own_by (T' := T2_) (g' := (mkF m 10 #[.val (.ref a), .val (.ref pp), .val (.ref ll), .val (.ref uu), .val (.ref vv)] [(.ref a)])) (fun t_ hr_ => XS.aloadN A2_ hx rfl (Jvm.hb hby d8_9) rfl rfl hr_) ?_
  refine own_by (T' := T2_) (g' := (mkF m 11 #[.val (.ref a), .val (.ref pp), .val (.ref ll), .val (.ref uu), .val (.ref vv)] [(.ref ll), (.ref a)])) (fun t_ hr_ => XS.aloadN A2_ hx rfl (Jvm.hb hby d8_10) rfl rfl hr_) ?_
  refine own_putF w2_ hx (hw _ (List.mem_of_getElem? (i := 51) rfl)) F1_0 X0' (Or.inr ⟨(hw _ (List.mem_of_getElem? (i := 52) rfl)), rfl, hnm⟩) (hw _ (List.mem_of_getElem? (i := 38) rfl)) (ty := (.object "java/lang/String")) (by decide) rfl rfl ga (Safe.exa (own_hZ w2_).alike X0' (by decide) (by decide)) (g := (mkF m 11 #[.val (.ref a), .val (.ref pp), .val (.ref ll), .val (.ref uu), .val (.ref vv)] [(.ref ll), (.ref a)])) rfl rfl (Jvm.hb hby d8_11) (fun T3_ h3_ W3_ w3_ => ?_)
  have A3_ := own_at w3_
  show own_WP p e _ below s Z _ n0 _ T3_ (mkF m 14 #[.val (.ref a), .val (.ref pp), .val (.ref ll), .val (.ref uu), .val (.ref vv)] [])
  have X1' := X0'.wr W3_
  have F0_0_1 := F0_0.other W3_ (Or.inr (slot_ne (Or.inr (hw _ (List.mem_of_getElem? (i := 50) rfl))) (Or.inr (hw _ (List.mem_of_getElem? (i := 52) rfl))) (by decide) rfl rfl))
  have F1_0_1 := F1_0.same W3_
  have F2_0_1 := F2_0.other W3_ (Or.inr (slot_ne (Or.inr (hw _ (List.mem_of_getElem? (i := 54) rfl))) (Or.inr (hw _ (List.mem_of_getElem? (i := 52) rfl))) (by decide) rfl rfl))
  have F3_0_1 := F3_0.other W3_ (Or.inr (slot_ne (Or.inr (hw _ (List.mem_of_getElem? (i := 56) rfl))) (Or.inr (hw _ (List.mem_of_getElem? (i := 52) rfl))) (by decide) rfl rfl))
  refine own_by (T' := T3_) (g' := (mkF m 15 #[.val (.ref a), .val (.ref pp), .val (.ref ll), .val (.ref uu), .val (.ref vv)] [(.ref a)])) (fun t_ hr_ => XS.aloadN A3_ hx rfl (Jvm.hb hby d8_14) rfl rfl hr_) ?_
  refine own_by (T' := T3_) (g' := (mkF m 16 #[.val (.ref a), .val (.ref pp), .val (.ref ll), .val (.ref uu), .val (.ref vv)] [(.ref uu), (.ref a)])) (fun t_ hr_ => XS.aloadN A3_ hx rfl (Jvm.hb hby d8_15) rfl rfl hr_) ?_
  refine own_putF w3_ hx (hw _ (List.mem_of_getElem? (i := 53) rfl)) F2_0_1 X1' (Or.inr ⟨(hw _ (List.mem_of_getElem? (i := 54) rfl)), rfl, hnm⟩) (hw _ (List.mem_of_getElem? (i := 38) rfl)) (ty := (.object "java/lang/String")) (by decide) rfl rfl ga (Safe.exa (own_hZ w3_).alike X1' (by decide) (by decide)) (g := (mkF m 16 #[.val (.ref a), .val (.ref pp), .val (.ref ll), .val (.ref uu), .val (.ref vv)] [(.ref uu), (.ref a)])) rfl rfl (Jvm.hb hby d8_16) (fun T4_ h4_ W4_ w4_ => ?_)
  have A4_ := own_at w4_
  show own_WP p e _ below s Z _ n0 _ T4_ (mkF m 19 #[.val (.ref a), .val (.ref pp), .val (.ref ll), .val (.ref uu), .val (.ref vv)] [])
  have X2' := X1'.wr W4_
  have F0_0_1_2 := F0_0_1.other W4_ (Or.inr (slot_ne (Or.inr (hw _ (List.mem_of_getElem? (i := 50) rfl))) (Or.inr (hw _ (List.mem_of_getElem? (i := 54) rfl))) (by decide) rfl rfl))
  have F1_0_1_2 := F1_0_1.other W4_ (Or.inr (slot_ne (Or.inr (hw _ (List.mem_of_getElem? (i := 52) rfl))) (Or.inr (hw _ (List.mem_of_getElem? (i := 54) rfl))) (by decide) rfl rfl))
  have F2_0_1_2 := F2_0_1.same W4_
  have F3_0_1_2 := F3_0_1.other W4_ (Or.inr (slot_ne (Or.inr (hw _ (List.mem_of_getElem? (i := 56) rfl))) (Or.inr (hw _ (List.mem_of_getElem? (i := 54) rfl))) (by decide) rfl rfl))
  refine own_by (T' := T4_) (g' := (mkF m 20 #[.val (.ref a), .val (.ref pp), .val (.ref ll), .val (.ref uu), .val (.ref vv)] [(.ref a)])) (fun t_ hr_ => XS.aloadN A4_ hx rfl (Jvm.hb hby d8_19) rfl rfl hr_) ?_
  refine own_by (T' := T4_) (g' := (mkF m 22 #[.val (.ref a), .val (.ref pp), .val (.ref ll), .val (.ref uu), .val (.ref vv)] [(.ref vv), (.ref a)])) (fun t_ hr_ => XS.aload A4_ hx rfl (Jvm.hb hby d8_20) rfl rfl hr_) ?_
  refine own_putF w4_ hx (hw _ (List.mem_of_getElem? (i := 55) rfl)) F3_0_1_2 X2' (Or.inr ⟨(hw _ (List.mem_of_getElem? (i := 56) rfl)), rfl, hnm⟩) (hw _ (List.mem_of_getElem? (i := 38) rfl)) (ty := (.object "java/lang/String")) (by decide) rfl rfl ga (Safe.exa (own_hZ w4_).alike X2' (by decide) (by decide)) (g := (mkF m 22 #[.val (.ref a), .val (.ref pp), .val (.ref ll), .val (.ref uu), .val (.ref vv)] [(.ref vv), (.ref a)])) rfl rfl (Jvm.hb hby d8_22) (fun T5_ h5_ W5_ w5_ => ?_)
  have A5_ := own_at w5_
  show own_WP p e _ below s Z _ n0 _ T5_ (mkF m 25 #[.val (.ref a), .val (.ref pp), .val (.ref ll), .val (.ref uu), .val (.ref vv)] [])
  have X3' := X2'.wr W5_
  have F0_0_1_2_3 := F0_0_1_2.other W5_ (Or.inr (slot_ne (Or.inr (hw _ (List.mem_of_getElem? (i := 50) rfl))) (Or.inr (hw _ (List.mem_of_getElem? (i := 56) rfl))) (by decide) rfl rfl))
  have F1_0_1_2_3 := F1_0_1_2.other W5_ (Or.inr (slot_ne (Or.inr (hw _ (List.mem_of_getElem? (i := 52) rfl))) (Or.inr (hw _ (List.mem_of_getElem? (i := 56) rfl))) (by decide) rfl rfl))
  have F2_0_1_2_3 := F2_0_1_2.other W5_ (Or.inr (slot_ne (Or.inr (hw _ (List.mem_of_getElem? (i := 54) rfl))) (Or.inr (hw _ (List.mem_of_getElem? (i := 56) rfl))) (by decide) rfl rfl))
  have F3_0_1_2_3 := F3_0_1_2.same W5_
  exact own_retV w5_ hx hEL hlk hret (Jvm.hb hby d8_25) (by decide) (by decide) ⟨rfl, (((((Keep.refl h0 [a]).wr W2_ (Or.inl (List.mem_of_getElem? (i := 0) rfl))).wr W3_ (Or.inl (List.mem_of_getElem? (i := 0) rfl))).wr W4_ (Or.inl (List.mem_of_getElem? (i := 0) rfl))).wr W5_ (Or.inl (List.mem_of_getElem? (i := 0) rfl))), X3', F0_0_1_2_3, F1_0_1_2_3, F2_0_1_2_3, F3_0_1_2_3⟩

theorem own_three {ps ls ds1 ds2 ds3 : List Int32} (e1 : ds1 = ([0, 0, 0, 0, 0, 0, 0, 0, 0, 0, 0, 0, 0, 0, 0, 0] : List Int32).take 0 ++ ps ++ ([0, 0, 0, 0, 0, 0, 0, 0, 0, 0, 0, 0, 0, 0, 0, 0] : List Int32).drop (0 + ps.length)) (e2 : ds2 = ds1.take (0 + ps.length) ++ [58] ++ ds1.drop (0 + ps.length + ([58] : List Int32).length)) (e3 : ds3 = ds2.take (0 + ps.length + ([58] : List Int32).length) ++ ls ++ ds2.drop (0 + ps.length + ([58] : List Int32).length + ls.length)) (l1 : ds1.length = 16) (l2 : ds2.length = 16) (h1 : ps.length ≤ 2) (h2 : ls.length ≤ 2) : ds3.take (0 + ps.length + ([58] : List Int32).length + ls.length) = ps ++ [58] ++ ls := by
  have k1 : ([58] : List Int32).length = 1 := rfl
  have t1 : ds1.take (0 + ps.length) = ps := by
    rw [e1, own_pasteTake (by omega)] <;> rfl
  have t2 : ds2.take (0 + ps.length + ([58] : List Int32).length) = ps ++ [58] := by
    rw [e2, own_pasteTake (by omega), t1]
  rw [e3, own_pasteTake (by omega), t2]
theorem own_three' {ps ls : List Int32} (h1 : ∀ c ∈ ps, ¬ c < 0 ∧ ¬ (255 : Int32) < c) (h2 : ∀ c ∈ ls, ¬ c < 0 ∧ ¬ (255 : Int32) < c) : ∀ c ∈ ps ++ [58] ++ ls, ¬ c < 0 ∧ ¬ (255 : Int32) < c := fun c hc => by
  rcases List.mem_append.mp hc with hc | hc
  · rcases List.mem_append.mp hc with hc | hc
    · exact h1 c hc
    · rw [List.mem_singleton.mp hc]; decide
  · exact h2 c hc
theorem d10_0 : decode prog_33_method_2_code 0 = .ok (.aload_n 0, 1) := by decide +kernel
theorem d10_1 : decode prog_33_method_2_code 1 = .ok (.getfield 7, 3) := by decide +kernel
theorem d10_4 : decode prog_33_method_2_code 4 = .ok (.invokevirtual 22, 3) := by decide +kernel
theorem d10_7 : decode prog_33_method_2_code 7 = .ok (.ifCond .eq 10, 3) := by decide +kernel
theorem d10_10 : decode prog_33_method_2_code 10 = .ok (.aload_n 0, 1) := by decide +kernel
theorem d10_11 : decode prog_33_method_2_code 11 = .ok (.getfield 13, 3) := by decide +kernel
theorem d10_14 : decode prog_33_method_2_code 14 = .ok (.goto 32, 3) := by decide +kernel
theorem d10_46 : decode prog_33_method_2_code 46 = .ok (.areturn, 1) := by decide +kernel
theorem d10_17 : decode prog_33_method_2_code 17 = .ok (.new 28, 3) := by decide +kernel
theorem d10_20 : decode prog_33_method_2_code 20 = .ok (.dup, 1) := by decide +kernel
theorem d10_21 : decode prog_33_method_2_code 21 = .ok (.invokespecial 30, 3) := by decide +kernel
theorem d10_24 : decode prog_33_method_2_code 24 = .ok (.aload_n 0, 1) := by decide +kernel
theorem d10_25 : decode prog_33_method_2_code 25 = .ok (.getfield 7, 3) := by decide +kernel
theorem d10_28 : decode prog_33_method_2_code 28 = .ok (.invokevirtual 31, 3) := by decide +kernel
theorem pd_672924696 : parseMethodDescriptor "(Ljava/lang/String;)Ljava/lang/StringBuilder;" = some ⟨[(.object "java/lang/String")], some (.object "java/lang/StringBuilder")⟩ := by decide +kernel
theorem d10_31 : decode prog_33_method_2_code 31 = .ok (.ldc 35, 2) := by decide +kernel
theorem d10_33 : decode prog_33_method_2_code 33 = .ok (.invokevirtual 31, 3) := by decide +kernel
theorem d10_36 : decode prog_33_method_2_code 36 = .ok (.aload_n 0, 1) := by decide +kernel
theorem d10_37 : decode prog_33_method_2_code 37 = .ok (.getfield 13, 3) := by decide +kernel
theorem d10_40 : decode prog_33_method_2_code 40 = .ok (.invokevirtual 31, 3) := by decide +kernel
theorem d10_43 : decode prog_33_method_2_code 43 = .ok (.invokevirtual 37, 3) := by decide +kernel
theorem pd_179586189 : parseMethodDescriptor "()Ljava/lang/String;" = some ⟨[], some (.object "java/lang/String")⟩ := by decide +kernel
theorem pn_599205772 : plainFor (⟨"com/example/sigillo/sigillo/soap/XmlElement$Attribute", "name", "()Ljava/lang/String;"⟩ : MethodName) = true := by first | exact plainFor_of_name (by first | (simp [plainName, overriddenIn]; done) | decide +kernel) | decide +kernel
theorem ef_ctNm (m : MethodId) (x0 : Addr) : entryFrame m #[(.ref x0)] 1 = mkF m 0 #[.val (.ref x0)] [] := by first | (simp [entryFrame, mkF, argsToLocals, Value.category]; done) | rfl
set_option maxRecDepth 65536 in
set_option maxHeartbeats 40000000 in
theorem ctNm (l : Launch) (Z : State) (a0 : Array Value) (hw : ∀ d ∈ tables_1, d.before a0 Z = true) (SC : own_SC Z) (n0 : Nat) (h0 : Heap) (O0 : Old Z n0 h0) (a pp ll : Addr) (ps ls : List Int32) (A0' : Fld Z h0 a "com/example/sigillo/sigillo/soap/XmlElement$Attribute" "prefix" "Ljava/lang/String;" (.ref pp)) (A1' : Fld Z h0 a "com/example/sigillo/sigillo/soap/XmlElement$Attribute" "localName" "Ljava/lang/String;" (.ref ll)) (S0 : own_Str Z h0 pp ps) (S1 : own_Str Z h0 ll ls) (h1 : ps.length ≤ 2) (h2 : ls.length ≤ 2) :
    own_Ct l (⟨"com/example/sigillo/sigillo/soap/XmlElement$Attribute", "name", "()Ljava/lang/String;"⟩ : MethodName) prog_33_method_2_code 1 (some (.object "java/lang/String")) ({ frames := 6, cells := 6, slots := 48, locals := 113 } : Room) Z consts_1 n0 #[(.ref a)] h0 [] (fun v h => ∃ r, v = some (.ref r) ∧ Ext h0 h ∧ own_Str Z h r (if ps = [] then ls else ps ++ [58] ++ ls)) := by
  have hEL := own_EL hw
  refine own_body pn_599205772 O0 (fun p e s m below meth cc_ T0 vm0 hx hby hml0 hret hlk hnm hsf w0 => ?_)
  have hml : cc_.maxLocals = 1 := hml0
  have A_0 := own_at w0
  refine own_entry (ef_ctNm m a) ?_
  refine own_by (T' := T0) (g' := (mkF m 1 #[.val (.ref a)] [(.ref a)])) (fun t_ hr_ => XS.aloadN A_0 hx rfl (Jvm.hb hby d10_0) rfl rfl hr_) ?_
  refine own_getF w0 hx (hw _ (List.mem_of_getElem? (i := 49) rfl)) A0' (g := (mkF m 1 #[.val (.ref a)] [(.ref a)])) rfl rfl (Jvm.hb hby d10_1) (fun T1_ w1_ => ?_)
  have A1_ := own_at w1_
  show own_WP p e _ below s Z _ n0 _ T1_ (mkF m 4 #[.val (.ref a)] [(.ref pp)])
  refine own_callV w1_ hx (y := (⟨"java/lang/String", "isEmpty", "()Z"⟩ : MethodName)) (z := (⟨"java/lang/String", "isEmpty", "()Z"⟩ : MethodName)) (hw _ (List.mem_of_getElem? (i := 62) rfl)) (hw _ (List.mem_of_getElem? (i := 63) rfl)) (fun u hu => notFace_of_selects (args := #[]) (mvT hu (hw _ (List.mem_of_getElem? (i := 65) rfl)))) (hw _ (List.mem_of_getElem? (i := 65) rfl)) (hw _ (List.mem_of_getElem? (i := 64) rfl)) (by decide) (kc := 0) (ks := 0) (a := pp) (argsL := []) (rest := []) (own_payEmp (W := 0) w1_ hEL (own_wEmp hw) (hw _ (List.mem_of_getElem? (i := 5) rfl)) S0 (by decide) (by decide)) S0.exa (g := (mkF m 4 #[.val (.ref a)] [(.ref pp)])) rfl (by rw [hml]; rfl) (lenOf pd_691901 rfl) rfl (by show 2 * 0 + _ ≤ _; exact Nat.le_of_eq rfl) (Jvm.hb hby d10_4) (by decide) (by decide) (fun v2_ T2_ vm2_ h2_ q2_ C2_ w2_ => ?_)
  obtain ⟨rfl, rfl⟩ := q2_
  have A2_ := own_at w2_
  show own_WP p e _ below s Z _ n0 _ T2_ (mkF m 7 #[.val (.ref a)] [(.int (if ps.length = 0 then 1 else 0))])
  by_cases hp0 : ps.length = 0
  · rw [if_pos hp0]
    show own_WP p e _ below s Z _ n0 _ T2_ (mkF m 7 #[.val (.ref a)] [(.int (1 : Int32))])
    refine own_by (T' := T2_) (g' := (mkF m 10 #[.val (.ref a)] [])) (fun t_ hr_ => XS.ifNo A2_ hx rfl (Jvm.hb hby d10_7) rfl ((if0 _ _).trans (feq (by decide : ¬ (1 : Int32) = 0)).1) hr_) ?_
    refine own_by (T' := T2_) (g' := (mkF m 11 #[.val (.ref a)] [(.ref a)])) (fun t_ hr_ => XS.aloadN A2_ hx rfl (Jvm.hb hby d10_10) rfl rfl hr_) ?_
    refine own_getF w2_ hx (hw _ (List.mem_of_getElem? (i := 51) rfl)) A1' (g := (mkF m 11 #[.val (.ref a)] [(.ref a)])) rfl rfl (Jvm.hb hby d10_11) (fun T3_ w3_ => ?_)
    have A3_ := own_at w3_
    show own_WP p e _ below s Z _ n0 _ T3_ (mkF m 14 #[.val (.ref a)] [(.ref ll)])
    refine own_by (T' := T3_) (g' := (mkF m 46 #[.val (.ref a)] [(.ref ll)])) (fun t_ hr_ => XS.goto A3_ hx rfl (pc0 := 14) (pc' := 46) rfl (Jvm.hb hby d10_14) (by decide) (by decide) hr_) ?_
    exact own_retA w3_ hx hEL hlk hret rfl rfl (Jvm.hb hby d10_46) (by decide) (by decide) ⟨_, rfl, own_extRefl _, by have e : ps = [] := List.eq_nil_of_length_eq_zero hp0; rw [if_pos e]; exact S1⟩
  · rw [if_neg hp0]
    show own_WP p e _ below s Z _ n0 _ T2_ (mkF m 7 #[.val (.ref a)] [(.int (0 : Int32))])
    refine own_by (T' := T2_) (g' := (mkF m 17 #[.val (.ref a)] [])) (fun t_ hr_ => XS.ifYes A2_ hx rfl (pc0 := 7) (pc' := 17) rfl (Jvm.hb hby d10_7) rfl ((if0 _ _).trans (teq (rfl : (0 : Int32) = 0)).1) (by decide) (by decide) hr_) ?_
    refine own_new w2_ hx (hw _ (List.mem_of_getElem? (i := 67) rfl)) (hw _ (List.mem_of_getElem? (i := 68) rfl)) (hw _ (List.mem_of_getElem? (i := 69) rfl)) (g := (mkF m 17 #[.val (.ref a)] [])) rfl (Jvm.hb hby d10_17) (by decide) (by decide) (fun T4_ h4_ a4_ g4_ E4_ ⟨X4_, D4_⟩ w4_ => ?_)
    have A4_ := own_at w4_
    show own_WP p e _ below s Z _ n0 _ T4_ (mkF m 20 #[.val (.ref a)] [(.ref a4_)])
    refine own_by (T' := T4_) (g' := (mkF m 21 #[.val (.ref a)] [(.ref a4_), (.ref a4_)])) (fun t_ hr_ => XS.dup A4_ hx rfl (Jvm.hb hby d10_20) rfl rfl hr_) ?_
    have gb : n0 ≤ a4_ := by rw [g4_]; exact own_n0 w2_
    have gz : h0.size ≤ a4_ := by rw [g4_]; exact Nat.le_refl _
    refine own_callC w4_ hx (y := (⟨"java/lang/StringBuilder", "<init>", "()V"⟩ : MethodName)) rfl (hw _ (List.mem_of_getElem? (i := 70) rfl)) (hw _ (List.mem_of_getElem? (i := 71) rfl)) (hw _ (List.mem_of_getElem? (i := 72) rfl)) (by decide) (kc := 1) (ks := 16) (a := a4_) (argsL := []) (rest := [(.ref a4_)]) (own_payCt (W := 1) (ctSbI l Z a0 hw SC n0 h4_ (own_old w4_) a4_ _ _ X4_ (D4_ (Or.inl (hw _ (List.mem_of_getElem? (i := 82) rfl))) (ty := (.array .byte)) (by decide)) (D4_ (Or.inl (hw _ (List.mem_of_getElem? (i := 84) rfl))) (ty := .byte) (by decide)) (D4_ (Or.inl (hw _ (List.mem_of_getElem? (i := 106) rfl))) (ty := .int) (by decide)) gb) w4_ (hw _ (List.mem_of_getElem? (i := 72) rfl)) (hw _ (List.mem_of_getElem? (i := 69) rfl)) hEL (by decide) (by decide)) (g := (mkF m 21 #[.val (.ref a)] [(.ref a4_), (.ref a4_)])) rfl (by rw [hml]; rfl) (lenOf pd_691897 rfl) rfl (by show 2 * 0 + _ ≤ _; exact Nat.le_of_eq rfl) (Jvm.hb hby d10_21) (by decide) (by decide) (fun v5_ T5_ vm5_ h5_ q5_ C5_ w5_ => ?_)
    obtain ⟨rfl, K1, t, k, gt0, B1⟩ := q5_
    have A5_ := own_at w5_
    show own_WP p e _ below s Z _ n0 _ T5_ (mkF m 24 #[.val (.ref a)] [(.ref a4_)])
    have E1 := own_extK E4_ K1 (allS gz all0)
    have gtz : h0.size ≤ t := Nat.le_trans E4_.1 gt0
    have gt : n0 ≤ t := Nat.le_trans (own_n0 w0) gtz
    refine own_by (T' := T5_) (g' := (mkF m 25 #[.val (.ref a)] [(.ref a), (.ref a4_)])) (fun t_ hr_ => XS.aloadN A5_ hx rfl (Jvm.hb hby d10_24) rfl rfl hr_) ?_
    refine own_getF w5_ hx (hw _ (List.mem_of_getElem? (i := 49) rfl)) (A0'.ext E1) (g := (mkF m 25 #[.val (.ref a)] [(.ref a), (.ref a4_)])) rfl rfl (Jvm.hb hby d10_25) (fun T6_ w6_ => ?_)
    have A6_ := own_at w6_
    show own_WP p e _ below s Z _ n0 _ T6_ (mkF m 28 #[.val (.ref a)] [(.ref pp), (.ref a4_)])
    refine own_callV w6_ hx (y := (⟨"java/lang/StringBuilder", "append", "(Ljava/lang/String;)Ljava/lang/StringBuilder;"⟩ : MethodName)) (z := (⟨"java/lang/StringBuilder", "append", "(Ljava/lang/String;)Ljava/lang/StringBuilder;"⟩ : MethodName)) (hw _ (List.mem_of_getElem? (i := 85) rfl)) (hw _ (List.mem_of_getElem? (i := 86) rfl)) (fun u hu => notFace_of_selects (args := #[]) (mvT hu (hw _ (List.mem_of_getElem? (i := 88) rfl)))) (hw _ (List.mem_of_getElem? (i := 88) rfl)) (hw _ (List.mem_of_getElem? (i := 87) rfl)) (by decide) (kc := 0) (ks := 0) (a := a4_) (argsL := [(.ref pp)]) (rest := []) (own_payCt (W := 0) (ctSap l Z a0 hw SC n0 h5_ (own_old w6_) a4_ t k ([0, 0, 0, 0, 0, 0, 0, 0, 0, 0, 0, 0, 0, 0, 0, 0] : List Int32) 0 pp ps B1 (S0.ext E1) (by have k58 : ([58] : List Int32).length = 1 := rfl; omega) gt gb) w6_ (hw _ (List.mem_of_getElem? (i := 89) rfl)) (hw _ (List.mem_of_getElem? (i := 69) rfl)) hEL (by decide) (by decide)) B1.1 (g := (mkF m 28 #[.val (.ref a)] [(.ref pp), (.ref a4_)])) rfl (by rw [hml]; rfl) (lenOf pd_672924696 rfl) rfl (by show 2 * 0 + _ ≤ _; exact Nat.le_of_eq rfl) (Jvm.hb hby d10_28) (by decide) (by decide) (fun v7_ T7_ vm7_ h7_ q7_ C7_ w7_ => ?_)
    obtain ⟨rfl, KA1, BA1⟩ := q7_
    have A7_ := own_at w7_
    show own_WP p e _ below s Z _ n0 _ T7_ (mkF m 31 #[.val (.ref a)] [(.ref a4_)])
    have EA1 := own_extK E1 KA1 (allS gtz (allS gz all0))
    refine own_ldc w7_ hx (hw _ (List.mem_of_getElem? (i := 132) rfl)) (own_wS hw) hEL (List.mem_of_getElem? (i := 1) rfl) [58] own_txt_1 own_rng_1 (by decide) (g := (mkF m 31 #[.val (.ref a)] [(.ref a4_)])) rfl (Jvm.hb hby d10_31) (n := 4) own_len_1 (by decide) (by decide) (by decide) (fun a8_ T8_ vm8_ h8_ S8_ E8_ C8_ w8_ => ?_)
    have A8_ := own_at w8_
    show own_WP p e _ below s Z _ n0 _ T8_ (mkF m 33 #[.val (.ref a)] [(.ref a8_), (.ref a4_)])
    have E2 := own_extTrans EA1 E8_
    obtain ⟨ds1, eds1⟩ : ∃ d, d = (([0, 0, 0, 0, 0, 0, 0, 0, 0, 0, 0, 0, 0, 0, 0, 0] : List Int32).take 0 ++ ps ++ ([0, 0, 0, 0, 0, 0, 0, 0, 0, 0, 0, 0, 0, 0, 0, 0] : List Int32).drop (0 + ps.length)) := ⟨_, rfl⟩
    rw [← eds1] at BA1
    refine own_callV w8_ hx (y := (⟨"java/lang/StringBuilder", "append", "(Ljava/lang/String;)Ljava/lang/StringBuilder;"⟩ : MethodName)) (z := (⟨"java/lang/StringBuilder", "append", "(Ljava/lang/String;)Ljava/lang/StringBuilder;"⟩ : MethodName)) (hw _ (List.mem_of_getElem? (i := 85) rfl)) (hw _ (List.mem_of_getElem? (i := 86) rfl)) (fun u hu => notFace_of_selects (args := #[]) (mvT hu (hw _ (List.mem_of_getElem? (i := 88) rfl)))) (hw _ (List.mem_of_getElem? (i := 88) rfl)) (hw _ (List.mem_of_getElem? (i := 87) rfl)) (by decide) (kc := 0) (ks := 0) (a := a4_) (argsL := [(.ref a8_)]) (rest := []) (own_payCt (W := 0) (ctSap l Z a0 hw SC n0 h8_ (own_old w8_) a4_ t k ds1 (0 + ps.length) a8_ [58] (BA1.ext E8_) S8_ (by have k58 : ([58] : List Int32).length = 1 := rfl; omega) gt gb) w8_ (hw _ (List.mem_of_getElem? (i := 89) rfl)) (hw _ (List.mem_of_getElem? (i := 69) rfl)) hEL (by decide) (by decide)) (BA1.ext E8_).1 (g := (mkF m 33 #[.val (.ref a)] [(.ref a8_), (.ref a4_)])) rfl (by rw [hml]; rfl) (lenOf pd_672924696 rfl) rfl (by show 2 * 0 + _ ≤ _; exact Nat.le_of_eq rfl) (Jvm.hb hby d10_33) (by decide) (by decide) (fun v9_ T9_ vm9_ h9_ q9_ C9_ w9_ => ?_)
    obtain ⟨rfl, KA2, BA2⟩ := q9_
    have A9_ := own_at w9_
    show own_WP p e _ below s Z _ n0 _ T9_ (mkF m 36 #[.val (.ref a)] [(.ref a4_)])
    have EA2 := own_extK E2 KA2 (allS gtz (allS gz all0))
    refine own_by (T' := T9_) (g' := (mkF m 37 #[.val (.ref a)] [(.ref a), (.ref a4_)])) (fun t_ hr_ => XS.aloadN A9_ hx rfl (Jvm.hb hby d10_36) rfl rfl hr_) ?_
    refine own_getF w9_ hx (hw _ (List.mem_of_getElem? (i := 51) rfl)) (A1'.ext EA2) (g := (mkF m 37 #[.val (.ref a)] [(.ref a), (.ref a4_)])) rfl rfl (Jvm.hb hby d10_37) (fun T10_ w10_ => ?_)
    have A10_ := own_at w10_
    show own_WP p e _ below s Z _ n0 _ T10_ (mkF m 40 #[.val (.ref a)] [(.ref ll), (.ref a4_)])
    obtain ⟨ds2, eds2⟩ : ∃ d, d = (ds1.take (0 + ps.length) ++ [58] ++ ds1.drop (0 + ps.length + ([58] : List Int32).length)) := ⟨_, rfl⟩
    rw [← eds2] at BA2
    refine own_callV w10_ hx (y := (⟨"java/lang/StringBuilder", "append", "(Ljava/lang/String;)Ljava/lang/StringBuilder;"⟩ : MethodName)) (z := (⟨"java/lang/StringBuilder", "append", "(Ljava/lang/String;)Ljava/lang/StringBuilder;"⟩ : MethodName)) (hw _ (List.mem_of_getElem? (i := 85) rfl)) (hw _ (List.mem_of_getElem? (i := 86) rfl)) (fun u hu => notFace_of_selects (args := #[]) (mvT hu (hw _ (List.mem_of_getElem? (i := 88) rfl)))) (hw _ (List.mem_of_getElem? (i := 88) rfl)) (hw _ (List.mem_of_getElem? (i := 87) rfl)) (by decide) (kc := 0) (ks := 0) (a := a4_) (argsL := [(.ref ll)]) (rest := []) (own_payCt (W := 0) (ctSap l Z a0 hw SC n0 h9_ (own_old w10_) a4_ t k ds2 (0 + ps.length + ([58] : List Int32).length) ll ls BA2 (S1.ext EA2) (by have k58 : ([58] : List Int32).length = 1 := rfl; omega) gt gb) w10_ (hw _ (List.mem_of_getElem? (i := 89) rfl)) (hw _ (List.mem_of_getElem? (i := 69) rfl)) hEL (by decide) (by decide)) BA2.1 (g := (mkF m 40 #[.val (.ref a)] [(.ref ll), (.ref a4_)])) rfl (by rw [hml]; rfl) (lenOf pd_672924696 rfl) rfl (by show 2 * 0 + _ ≤ _; exact Nat.le_of_eq rfl) (Jvm.hb hby d10_40) (by decide) (by decide) (fun v11_ T11_ vm11_ h11_ q11_ C11_ w11_ => ?_)
    obtain ⟨rfl, KA3, BA3⟩ := q11_
    have A11_ := own_at w11_
    show own_WP p e _ below s Z _ n0 _ T11_ (mkF m 43 #[.val (.ref a)] [(.ref a4_)])
    have EA3 := own_extK EA2 KA3 (allS gtz (allS gz all0))
    obtain ⟨ds3, eds3⟩ : ∃ d, d = (ds2.take (0 + ps.length + ([58] : List Int32).length) ++ ls ++ ds2.drop (0 + ps.length + ([58] : List Int32).length + ls.length)) := ⟨_, rfl⟩
    rw [← eds3] at BA3
    have et : ds3.take (0 + ps.length + ([58] : List Int32).length + ls.length) = ps ++ [58] ++ ls := own_three eds1 eds2 eds3 BA1.2.2.2.2.2.1 BA2.2.2.2.2.2.1 h1 h2
    refine own_callV w11_ hx (y := (⟨"java/lang/StringBuilder", "toString", "()Ljava/lang/String;"⟩ : MethodName)) (z := (⟨"java/lang/StringBuilder", "toString", "()Ljava/lang/String;"⟩ : MethodName)) (hw _ (List.mem_of_getElem? (i := 133) rfl)) (hw _ (List.mem_of_getElem? (i := 134) rfl)) (fun u hu => notFace_of_selects (args := #[]) (mvT hu (hw _ (List.mem_of_getElem? (i := 136) rfl)))) (hw _ (List.mem_of_getElem? (i := 136) rfl)) (hw _ (List.mem_of_getElem? (i := 135) rfl)) (by decide) (kc := 2) (ks := 20) (a := a4_) (argsL := []) (rest := []) (own_payCt (W := 0) (ctTS l Z a0 hw SC n0 h11_ (own_old w11_) a4_ t k ds3 _ BA3 (by rw [et]; exact own_three' S0.rng S1.rng) (by have k58 : ([58] : List Int32).length = 1 := rfl; omega)) w11_ (hw _ (List.mem_of_getElem? (i := 137) rfl)) (hw _ (List.mem_of_getElem? (i := 69) rfl)) hEL (by decide) (by decide)) BA3.1 (g := (mkF m 43 #[.val (.ref a)] [(.ref a4_)])) rfl (by rw [hml]; rfl) (lenOf pd_179586189 rfl) rfl (by show 2 * 0 + _ ≤ _; exact Nat.le_of_eq rfl) (Jvm.hb hby d10_43) (by decide) (by decide) (fun v12_ T12_ vm12_ h12_ q12_ C12_ w12_ => ?_)
    obtain ⟨r, rfl, E4, S4⟩ := q12_
    have A12_ := own_at w12_
    show own_WP p e _ below s Z _ n0 _ T12_ (mkF m 46 #[.val (.ref a)] [(.ref r)])
    exact own_retA w12_ hx hEL hlk hret rfl rfl (Jvm.hb hby d10_46) (by decide) (by decide) ⟨_, rfl, own_extTrans EA3 E4, by rw [if_neg (fun q => hp0 (by rw [q] <;> rfl)), ← et]; exact S4⟩

theorem d1_0 : decode method_2_code 0 = .ok (.iload_n 0, 1) := by decide +kernel
theorem d1_1 : decode method_2_code 1 = .ok (.ifCond .ne 6, 3) := by decide +kernel
theorem d1_4 : decode method_2_code 4 = .ok (.ldc 7, 2) := by decide +kernel
theorem d1_6 : decode method_2_code 6 = .ok (.areturn, 1) := by decide +kernel
theorem d1_7 : decode method_2_code 7 = .ok (.iload_n 0, 1) := by decide +kernel
theorem d1_8 : decode method_2_code 8 = .ok (.iconst 1, 1) := by decide +kernel
theorem d1_9 : decode method_2_code 9 = .ok (.if_icmp .ne 8, 3) := by decide +kernel
theorem d1_12 : decode method_2_code 12 = .ok (.iload_n 1, 1) := by decide +kernel
theorem d1_13 : decode method_2_code 13 = .ok (.invokestatic 9, 3) := by decide +kernel
theorem pd_622859146 : parseMethodDescriptor "(C)Ljava/lang/String;" = some ⟨[.char], some (.object "java/lang/String")⟩ := by decide +kernel
theorem d1_16 : decode method_2_code 16 = .ok (.areturn, 1) := by decide +kernel
theorem d1_17 : decode method_2_code 17 = .ok (.new 10, 3) := by decide +kernel
theorem d1_20 : decode method_2_code 20 = .ok (.dup, 1) := by decide +kernel
theorem d1_21 : decode method_2_code 21 = .ok (.iconst 2, 1) := by decide +kernel
theorem d1_22 : decode method_2_code 22 = .ok (.newarray .char, 2) := by decide +kernel
theorem d1_24 : decode method_2_code 24 = .ok (.dup, 1) := by decide +kernel
theorem d1_25 : decode method_2_code 25 = .ok (.iconst 0, 1) := by decide +kernel
theorem d1_26 : decode method_2_code 26 = .ok (.iload_n 1, 1) := by decide +kernel
theorem d1_27 : decode method_2_code 27 = .ok (.castore, 1) := by decide +kernel
theorem d1_28 : decode method_2_code 28 = .ok (.dup, 1) := by decide +kernel
theorem d1_29 : decode method_2_code 29 = .ok (.iconst 1, 1) := by decide +kernel
theorem d1_30 : decode method_2_code 30 = .ok (.iload_n 2, 1) := by decide +kernel
theorem d1_31 : decode method_2_code 31 = .ok (.castore, 1) := by decide +kernel
theorem d1_32 : decode method_2_code 32 = .ok (.invokespecial 15, 3) := by decide +kernel
theorem pd_985728288 : parseMethodDescriptor "([C)V" = some ⟨[(.array .char)], none⟩ := by decide +kernel
theorem d1_35 : decode method_2_code 35 = .ok (.areturn, 1) := by decide +kernel
theorem pn_973388404 : plainFor (⟨"com/example/sigillo/sigillo/soap/AttributeNamePinLaw", "draw", "(ICC)Ljava/lang/String;"⟩ : MethodName) = true := by first | exact plainFor_of_name (by first | (simp [plainName, overriddenIn]; done) | decide +kernel) | decide +kernel
theorem ef_ctDr (m : MethodId) (x0 : Int32) (x1 : Int32) (x2 : Int32) : entryFrame m #[(.int x0), (.int x1), (.int x2)] 3 = mkF m 0 #[.val (.int x0), .val (.int x1), .val (.int x2)] [] := by first | (simp [entryFrame, mkF, argsToLocals, Value.category]; done) | rfl
set_option maxRecDepth 65536 in
set_option maxHeartbeats 40000000 in
theorem ctDr (l : Launch) (Z : State) (a0 : Array Value) (hw : ∀ d ∈ tables_1, d.before a0 Z = true) (SC : own_SC Z) (n0 : Nat) (h0 : Heap) (O0 : Old Z n0 h0) (n c0 c1 : Int32) (hn3 : n = 0 ∨ n = 1 ∨ n = 2) (r0 : ¬ c0 < 0 ∧ ¬ (255 : Int32) < c0) (r1 : ¬ c1 < 0 ∧ ¬ (255 : Int32) < c1) :
    own_Ct l (⟨"com/example/sigillo/sigillo/soap/AttributeNamePinLaw", "draw", "(ICC)Ljava/lang/String;"⟩ : MethodName) method_2_code 3 (some (.object "java/lang/String")) ({ frames := 4, cells := 3, slots := 8, locals := 66 } : Room) Z consts_1 n0 #[(.int n), (.int c0), (.int c1)] h0 [] (fun v h => ∃ x cs, v = some (.ref x) ∧ Ext h0 h ∧ own_Str Z h x cs ∧ cs = [c0, c1].take n.toNatClampNeg) := by
  have hEL := own_EL hw
  refine own_body pn_973388404 O0 (fun p e s m below meth cc_ T0 vm0 hx hby hml0 hret hlk hnm hsf w0 => ?_)
  have hml : cc_.maxLocals = 3 := hml0
  have A_0 := own_at w0
  refine own_entry (ef_ctDr m n c0 c1) ?_
  rcases hn3 with rfl | rfl | rfl
  · show own_WP p e _ below s Z _ n0 _ T0 (mkF m 0 #[.val (.int (0 : Int32)), .val (.int c0), .val (.int c1)] [])
    refine own_by (T' := T0) (g' := (mkF m 1 #[.val (.int (0 : Int32)), .val (.int c0), .val (.int c1)] [(.int (0 : Int32))])) (fun t_ hr_ => XS.iloadN A_0 hx rfl (Jvm.hb hby d1_0) rfl hr_) ?_
    refine own_by (T' := T0) (g' := (mkF m 4 #[.val (.int (0 : Int32)), .val (.int c0), .val (.int c1)] [])) (fun t_ hr_ => XS.ifNo A_0 hx rfl (Jvm.hb hby d1_1) rfl ((if0 _ _).trans (teq (rfl : (0 : Int32) = 0)).2) hr_) ?_
    refine own_ldc w0 hx (hw _ (List.mem_of_getElem? (i := 34) rfl)) (own_wS hw) hEL (List.mem_of_getElem? (i := 0) rfl) [] own_txt_0 own_rng_0 (by decide) (g := (mkF m 4 #[.val (.int (0 : Int32)), .val (.int c0), .val (.int c1)] [])) rfl (Jvm.hb hby d1_4) (n := 0) own_len_0 (by decide) (by decide) (by decide) (fun a1_ T1_ vm1_ h1_ S1_ E1_ C1_ w1_ => ?_)
    have A1_ := own_at w1_
    show own_WP p e _ below s Z _ n0 _ T1_ (mkF m 6 #[.val (.int (0 : Int32)), .val (.int c0), .val (.int c1)] [(.ref a1_)])
    exact own_retA w1_ hx hEL hlk hret rfl rfl (Jvm.hb hby d1_6) (by decide) (by decide) ⟨_, _, rfl, E1_, S1_, rfl⟩
  · show own_WP p e _ below s Z _ n0 _ T0 (mkF m 0 #[.val (.int (1 : Int32)), .val (.int c0), .val (.int c1)] [])
    refine own_by (T' := T0) (g' := (mkF m 1 #[.val (.int (1 : Int32)), .val (.int c0), .val (.int c1)] [(.int (1 : Int32))])) (fun t_ hr_ => XS.iloadN A_0 hx rfl (Jvm.hb hby d1_0) rfl hr_) ?_
    refine own_by (T' := T0) (g' := (mkF m 7 #[.val (.int (1 : Int32)), .val (.int c0), .val (.int c1)] [])) (fun t_ hr_ => XS.ifYes A_0 hx rfl (pc0 := 1) (pc' := 7) rfl (Jvm.hb hby d1_1) rfl ((if0 _ _).trans (feq (by decide)).2) (by decide) (by decide) hr_) ?_
    refine own_by (T' := T0) (g' := (mkF m 8 #[.val (.int (1 : Int32)), .val (.int c0), .val (.int c1)] [(.int (1 : Int32))])) (fun t_ hr_ => XS.iloadN A_0 hx rfl (Jvm.hb hby d1_7) rfl hr_) ?_
    refine own_by (T' := T0) (g' := (mkF m 9 #[.val (.int (1 : Int32)), .val (.int c0), .val (.int c1)] [(.int (1 : Int32)), (.int (1 : Int32))])) (fun t_ hr_ => XS.iconst A_0 hx rfl (Jvm.hb hby d1_8) hr_) ?_
    refine own_by (T' := T0) (g' := (mkF m 12 #[.val (.int (1 : Int32)), .val (.int c0), .val (.int c1)] [])) (fun t_ hr_ => XS.icmpNo A_0 hx rfl (Jvm.hb hby d1_9) rfl (teq (by decide)).2 hr_) ?_
    refine own_by (T' := T0) (g' := (mkF m 13 #[.val (.int (1 : Int32)), .val (.int c0), .val (.int c1)] [(.int c0)])) (fun t_ hr_ => XS.iloadN A_0 hx rfl (Jvm.hb hby d1_12) rfl hr_) ?_
    refine own_callS w0 hx (y := (⟨"java/lang/String", "valueOf", "(C)Ljava/lang/String;"⟩ : MethodName)) (hw _ (List.mem_of_getElem? (i := 204) rfl)) (hw _ (List.mem_of_getElem? (i := 205) rfl)) (hw _ (List.mem_of_getElem? (i := 6) rfl)) (hw _ (List.mem_of_getElem? (i := 206) rfl)) (by decide) (kc := 2) (ks := 5) (argsL := [(.int c0)]) (rest := []) (own_payCt (W := 0) (ctValueOf l Z a0 hw SC n0 h0 (own_old w0) c0 r0) w0 (hw _ (List.mem_of_getElem? (i := 206) rfl)) (hw _ (List.mem_of_getElem? (i := 6) rfl)) hEL (by decide) (by decide)) (g := (mkF m 13 #[.val (.int (1 : Int32)), .val (.int c0), .val (.int c1)] [(.int c0)])) rfl (by rw [hml]; rfl) (lenOf pd_622859146 rfl) rfl (by show 2 * 0 + _ ≤ _; exact Nat.le_of_eq rfl) (Jvm.hb hby d1_13) (by decide) (by decide) (fun v2_ T2_ vm2_ h2_ q2_ C2_ w2_ => ?_)
    obtain ⟨r, rfl, E1, S1⟩ := q2_
    have A2_ := own_at w2_
    show own_WP p e _ below s Z _ n0 _ T2_ (mkF m 16 #[.val (.int (1 : Int32)), .val (.int c0), .val (.int c1)] [(.ref r)])
    exact own_retA w2_ hx hEL hlk hret rfl rfl (Jvm.hb hby d1_16) (by decide) (by decide) ⟨_, _, rfl, E1, S1, rfl⟩
  · show own_WP p e _ below s Z _ n0 _ T0 (mkF m 0 #[.val (.int (2 : Int32)), .val (.int c0), .val (.int c1)] [])
    refine own_by (T' := T0) (g' := (mkF m 1 #[.val (.int (2 : Int32)), .val (.int c0), .val (.int c1)] [(.int (2 : Int32))])) (fun t_ hr_ => XS.iloadN A_0 hx rfl (Jvm.hb hby d1_0) rfl hr_) ?_
    refine own_by (T' := T0) (g' := (mkF m 7 #[.val (.int (2 : Int32)), .val (.int c0), .val (.int c1)] [])) (fun t_ hr_ => XS.ifYes A_0 hx rfl (pc0 := 1) (pc' := 7) rfl (Jvm.hb hby d1_1) rfl ((if0 _ _).trans (feq (by decide)).2) (by decide) (by decide) hr_) ?_
    refine own_by (T' := T0) (g' := (mkF m 8 #[.val (.int (2 : Int32)), .val (.int c0), .val (.int c1)] [(.int (2 : Int32))])) (fun t_ hr_ => XS.iloadN A_0 hx rfl (Jvm.hb hby d1_7) rfl hr_) ?_
    refine own_by (T' := T0) (g' := (mkF m 9 #[.val (.int (2 : Int32)), .val (.int c0), .val (.int c1)] [(.int (1 : Int32)), (.int (2 : Int32))])) (fun t_ hr_ => XS.iconst A_0 hx rfl (Jvm.hb hby d1_8) hr_) ?_
    refine own_by (T' := T0) (g' := (mkF m 17 #[.val (.int (2 : Int32)), .val (.int c0), .val (.int c1)] [])) (fun t_ hr_ => XS.icmpYes A_0 hx rfl (pc0 := 9) (pc' := 17) rfl (Jvm.hb hby d1_9) rfl (feq (by decide)).2 (by decide) (by decide) hr_) ?_
    refine own_new w0 hx (hw _ (List.mem_of_getElem? (i := 4) rfl)) (hw _ (List.mem_of_getElem? (i := 5) rfl)) (hw _ (List.mem_of_getElem? (i := 6) rfl)) (g := (mkF m 17 #[.val (.int (2 : Int32)), .val (.int c0), .val (.int c1)] [])) rfl (Jvm.hb hby d1_17) (by decide) (by decide) (fun T3_ h3_ a3_ g3_ E3_ ⟨X3_, D3_⟩ w3_ => ?_)
    have A3_ := own_at w3_
    show own_WP p e _ below s Z _ n0 _ T3_ (mkF m 20 #[.val (.int (2 : Int32)), .val (.int c0), .val (.int c1)] [(.ref a3_)])
    have R3_ : own_Raw Z h3_ a3_ := ⟨X3_, D3_ (Or.inr (hw _ (List.mem_of_getElem? (i := 33) rfl))) (ty := (.array .byte)) (by decide), D3_ (Or.inr (hw _ (List.mem_of_getElem? (i := 31) rfl))) (ty := .byte) (by decide)⟩
    have gn3_ : n0 ≤ a3_ := by rw [g3_]; exact own_n0 w0
    refine own_by (T' := T3_) (g' := (mkF m 21 #[.val (.int (2 : Int32)), .val (.int c0), .val (.int c1)] [(.ref a3_), (.ref a3_)])) (fun t_ hr_ => XS.dup A3_ hx rfl (Jvm.hb hby d1_20) rfl rfl hr_) ?_
    refine own_by (T' := T3_) (g' := (mkF m 22 #[.val (.int (2 : Int32)), .val (.int c0), .val (.int c1)] [(.int (2 : Int32)), (.ref a3_), (.ref a3_)])) (fun t_ hr_ => XS.iconst A3_ hx rfl (Jvm.hb hby d1_21) hr_) ?_
    refine own_newP w3_ hx (hw _ (List.mem_of_getElem? (i := 7) rfl)) (g := (mkF m 22 #[.val (.int (2 : Int32)), .val (.int c0), .val (.int c1)] [(.int (2 : Int32)), (.ref a3_), (.ref a3_)])) rfl (Jvm.hb hby d1_22) rfl (by decide) (cap := 2) (by decide) (by decide) (by decide) (by decide) (fun T4_ h4_ a4_ k4_ g4_ E4_ V4_ w4_ => ?_)
    have A4_ := own_at w4_
    show own_WP p e _ below s Z _ n0 _ T4_ (mkF m 24 #[.val (.int (2 : Int32)), .val (.int c0), .val (.int c1)] [(.ref a4_), (.ref a3_), (.ref a3_)])
    have gn4_ : n0 ≤ a4_ := Nat.le_trans gn3_ (by rw [g3_, g4_]; exact E3_.1)
    have ne4_ : a3_ ≠ a4_ := Nat.ne_of_lt (by rw [g4_]; exact R3_.lt)
    have ge4_ : h0.size ≤ a4_ := by rw [g4_]; exact E3_.1
    have R4_ := R3_.ext E4_
    have E_4_ := own_extTrans E3_ E4_
    have U4_ : Arv Z h4_ a4_ k4_ .char (2 : Int32) [(.int (0 : Int32)), (.int (0 : Int32))] (.int 0) := V4_.pad (vs' := [(.int (0 : Int32)), (.int (0 : Int32))]) (fun i => pad_rep [] (.int (0 : Int32)) 2 i)
    refine own_by (T' := T4_) (g' := (mkF m 25 #[.val (.int (2 : Int32)), .val (.int c0), .val (.int c1)] [(.ref a4_), (.ref a4_), (.ref a3_), (.ref a3_)])) (fun t_ hr_ => XS.dup A4_ hx rfl (Jvm.hb hby d1_24) rfl rfl hr_) ?_
    refine own_by (T' := T4_) (g' := (mkF m 26 #[.val (.int (2 : Int32)), .val (.int c0), .val (.int c1)] [(.int (0 : Int32)), (.ref a4_), (.ref a4_), (.ref a3_), (.ref a3_)])) (fun t_ hr_ => XS.iconst A4_ hx rfl (Jvm.hb hby d1_25) hr_) ?_
    refine own_by (T' := T4_) (g' := (mkF m 27 #[.val (.int (2 : Int32)), .val (.int c0), .val (.int c1)] [(.int c0), (.int (0 : Int32)), (.ref a4_), (.ref a4_), (.ref a3_), (.ref a3_)])) (fun t_ hr_ => XS.iloadN A4_ hx rfl (Jvm.hb hby d1_26) rfl hr_) ?_
    refine own_castore w4_ hx U4_ (by decide) (own_rng255 r0) (i := 0) rfl (by simp) gn4_ (g := (mkF m 27 #[.val (.int (2 : Int32)), .val (.int c0), .val (.int c1)] [(.int c0), (.int (0 : Int32)), (.ref a4_), (.ref a4_), (.ref a3_), (.ref a3_)])) rfl rfl (Jvm.hb hby d1_27) (fun T5_ h5_ W5_ V5_ w5_ => ?_)
    have A5_ := own_at w5_
    show own_WP p e _ below s Z _ n0 _ T5_ (mkF m 28 #[.val (.int (2 : Int32)), .val (.int c0), .val (.int c1)] [(.ref a4_), (.ref a3_), (.ref a3_)])
    have R5_ := own_Raw.wr W5_ ne4_ R4_
    have E_5_ := own_extWr E_4_ W5_ ge4_
    refine own_by (T' := T5_) (g' := (mkF m 29 #[.val (.int (2 : Int32)), .val (.int c0), .val (.int c1)] [(.ref a4_), (.ref a4_), (.ref a3_), (.ref a3_)])) (fun t_ hr_ => XS.dup A5_ hx rfl (Jvm.hb hby d1_28) rfl rfl hr_) ?_
    refine own_by (T' := T5_) (g' := (mkF m 30 #[.val (.int (2 : Int32)), .val (.int c0), .val (.int c1)] [(.int (1 : Int32)), (.ref a4_), (.ref a4_), (.ref a3_), (.ref a3_)])) (fun t_ hr_ => XS.iconst A5_ hx rfl (Jvm.hb hby d1_29) hr_) ?_
    refine own_by (T' := T5_) (g' := (mkF m 31 #[.val (.int (2 : Int32)), .val (.int c0), .val (.int c1)] [(.int c1), (.int (1 : Int32)), (.ref a4_), (.ref a4_), (.ref a3_), (.ref a3_)])) (fun t_ hr_ => XS.iloadN A5_ hx rfl (Jvm.hb hby d1_30) rfl hr_) ?_
    refine own_castore w5_ hx V5_ (by decide) (own_rng255 r1) (i := 1) rfl (by simp) gn4_ (g := (mkF m 31 #[.val (.int (2 : Int32)), .val (.int c0), .val (.int c1)] [(.int c1), (.int (1 : Int32)), (.ref a4_), (.ref a4_), (.ref a3_), (.ref a3_)])) rfl rfl (Jvm.hb hby d1_31) (fun T6_ h6_ W6_ V6_ w6_ => ?_)
    have A6_ := own_at w6_
    show own_WP p e _ below s Z _ n0 _ T6_ (mkF m 32 #[.val (.int (2 : Int32)), .val (.int c0), .val (.int c1)] [(.ref a4_), (.ref a3_), (.ref a3_)])
    have R6_ := own_Raw.wr W6_ ne4_ R5_
    have E_6_ := own_extWr E_5_ W6_ ge4_
    refine own_callC w6_ hx (y := (⟨"java/lang/String", "<init>", "([C)V"⟩ : MethodName)) rfl (hw _ (List.mem_of_getElem? (i := 8) rfl)) (hw _ (List.mem_of_getElem? (i := 9) rfl)) (hw _ (List.mem_of_getElem? (i := 10) rfl)) (by decide) (kc := 1) (ks := 2) (a := a3_) (argsL := [(.ref a4_)]) (rest := [(.ref a3_)]) (own_payNew (W := 1) (cs := [c0, c1]) w6_ hEL (own_wNew hw) (hw _ (List.mem_of_getElem? (i := 5) rfl)) SC R6_ V6_ gn3_ (by simp) (by simp) (by simp only [List.forall_mem_cons, List.not_mem_nil, false_imp_iff, implies_true, and_true]; exact ⟨r0, r1⟩) (by decide) (by decide)) (g := (mkF m 32 #[.val (.int (2 : Int32)), .val (.int c0), .val (.int c1)] [(.ref a4_), (.ref a3_), (.ref a3_)])) rfl (by rw [hml]; rfl) (lenOf pd_985728288 rfl) rfl (by show 2 * 0 + _ ≤ _; exact Nat.le_of_eq rfl) (Jvm.hb hby d1_32) (by decide) (by decide) (fun v8_ T8_ vm8_ h8_ q8_ C8_ w8_ => ?_)
    obtain ⟨rfl, K7_, S7_⟩ := q8_
    have A8_ := own_at w8_
    show own_WP p e _ below s Z _ n0 _ T8_ (mkF m 35 #[.val (.int (2 : Int32)), .val (.int c0), .val (.int c1)] [(.ref a3_)])
    have F_7_ := own_extK E_6_ K7_ (allS (by rw [g3_]; exact Nat.le_refl _) all0)
    exact own_retA w8_ hx hEL hlk hret rfl rfl (Jvm.hb hby d1_35) (by decide) (by decide) ⟨_, _, rfl, F_7_, S7_, rfl⟩

theorem own_mapD (es : List Int32) (i : Nat) (h : i < es.length) : (es.map Value.int).getD i (.int 0) = .int (es.getD i 0) := by
  simp [List.getD_eq_getElem?_getD, h]
theorem d33_0 : decode method_3_code 0 = .ok (.iload_n 3, 1) := by decide +kernel
theorem d33_1 : decode method_3_code 1 = .ok (.iload_n 2, 1) := by decide +kernel
theorem d33_2 : decode method_3_code 2 = .ok (.if_icmp .ge 14, 3) := by decide +kernel
theorem d33_5 : decode method_3_code 5 = .ok (.aload_n 0, 1) := by decide +kernel
theorem d33_6 : decode method_3_code 6 = .ok (.iload_n 3, 1) := by decide +kernel
theorem d33_7 : decode method_3_code 7 = .ok (.invokevirtual 18, 3) := by decide +kernel
theorem pd_91181831 : parseMethodDescriptor "(I)C" = some ⟨[.int], some .char⟩ := by decide +kernel
theorem d33_10 : decode method_3_code 10 = .ok (.aload_n 1, 1) := by decide +kernel
theorem d33_11 : decode method_3_code 11 = .ok (.iload_n 3, 1) := by decide +kernel
theorem d33_12 : decode method_3_code 12 = .ok (.caload, 1) := by decide +kernel
theorem d33_13 : decode method_3_code 13 = .ok (.if_icmp .ne 7, 3) := by decide +kernel
theorem d33_16 : decode method_3_code 16 = .ok (.iconst 1, 1) := by decide +kernel
theorem d33_17 : decode method_3_code 17 = .ok (.goto 4, 3) := by decide +kernel
theorem d33_21 : decode method_3_code 21 = .ok (.ireturn, 1) := by decide +kernel
theorem pn_114629078 : plainFor (⟨"com/example/sigillo/sigillo/soap/AttributeNamePinLaw", "at", "(Ljava/lang/String;[CII)Z"⟩ : MethodName) = true := by first | exact plainFor_of_name (by first | (simp [plainName, overriddenIn]; done) | decide +kernel) | decide +kernel
theorem ef_ctAt (m : MethodId) (x0 : Addr) (x1 : Addr) (x2 : Int32) (x3 : Int32) : entryFrame m #[(.ref x0), (.ref x1), (.int x2), (.int x3)] 4 = mkF m 0 #[.val (.ref x0), .val (.ref x1), .val (.int x2), .val (.int x3)] [] := by first | (simp [entryFrame, mkF, argsToLocals, Value.category]; done) | rfl
set_option maxRecDepth 65536 in
set_option maxHeartbeats 40000000 in
theorem ctAt (l : Launch) (Z : State) (a0 : Array Value) (hw : ∀ d ∈ tables_1, d.before a0 Z = true) (SC : own_SC Z) (SF : own_SF Z) (n0 : Nat) (h0 : Heap) (O0 : Old Z n0 h0) (x ea : Addr) (k : ClassId) (cs es : List Int32) (n i : Nat) (S0 : own_Str Z h0 x cs) (V0 : Arv Z h0 ea k .char (5 : Int32) (es.map Value.int) (.int 0)) (hes : es.length = 5) (hn : n = cs.length) (hi : i < 5) (hn5 : n ≤ 5) (heq : i < n → cs.getD i 0 = es.getD i 0) :
    own_Ct l (⟨"com/example/sigillo/sigillo/soap/AttributeNamePinLaw", "at", "(Ljava/lang/String;[CII)Z"⟩ : MethodName) method_3_code 4 (some .boolean) ({ frames := 4, cells := 0, slots := 0, locals := 53 } : Room) Z consts_1 n0 #[(.ref x), (.ref ea), (.int (Int32.ofNat n)), (.int (Int32.ofNat i))] h0 [] (fun v h => v = some (.int 1) ∧ h0 = h) := by
  have hEL := own_EL hw
  refine own_body pn_114629078 O0 (fun p e s m below meth cc_ T0 vm0 hx hby hml0 hret hlk hnm hsf w0 => ?_)
  have hml : cc_.maxLocals = 4 := hml0
  have A_0 := own_at w0
  refine own_entry (ef_ctAt m x ea (Int32.ofNat n) (Int32.ofNat i)) ?_
  refine own_by (T' := T0) (g' := (mkF m 1 #[.val (.ref x), .val (.ref ea), .val (.int (Int32.ofNat n)), .val (.int (Int32.ofNat i))] [(.int (Int32.ofNat i))])) (fun t_ hr_ => XS.iloadN A_0 hx rfl (Jvm.hb hby d33_0) rfl hr_) ?_
  refine own_by (T' := T0) (g' := (mkF m 2 #[.val (.ref x), .val (.ref ea), .val (.int (Int32.ofNat n)), .val (.int (Int32.ofNat i))] [(.int (Int32.ofNat n)), (.int (Int32.ofNat i))])) (fun t_ hr_ => XS.iloadN A_0 hx rfl (Jvm.hb hby d33_1) rfl hr_) ?_
  by_cases hc1_ : (Int32.ofNat i) < (Int32.ofNat n)
  · refine own_by (T' := T0) (g' := (mkF m 5 #[.val (.ref x), .val (.ref ea), .val (.int (Int32.ofNat n)), .val (.int (Int32.ofNat i))] [])) (fun t_ hr_ => XS.icmpNo A_0 hx rfl (Jvm.hb hby d33_2) rfl (tlt hc1_).2.1 hr_) ?_
    have hin : i < n := (own_olt (by omega) (by omega)).mp hc1_
    refine own_by (T' := T0) (g' := (mkF m 6 #[.val (.ref x), .val (.ref ea), .val (.int (Int32.ofNat n)), .val (.int (Int32.ofNat i))] [(.ref x)])) (fun t_ hr_ => XS.aloadN A_0 hx rfl (Jvm.hb hby d33_5) rfl rfl hr_) ?_
    refine own_by (T' := T0) (g' := (mkF m 7 #[.val (.ref x), .val (.ref ea), .val (.int (Int32.ofNat n)), .val (.int (Int32.ofNat i))] [(.int (Int32.ofNat i)), (.ref x)])) (fun t_ hr_ => XS.iloadN A_0 hx rfl (Jvm.hb hby d33_6) rfl hr_) ?_
    refine own_callV w0 hx (y := (⟨"java/lang/String", "charAt", "(I)C"⟩ : MethodName)) (z := (⟨"java/lang/String", "charAt", "(I)C"⟩ : MethodName)) (hw _ (List.mem_of_getElem? (i := 182) rfl)) (hw _ (List.mem_of_getElem? (i := 183) rfl)) (fun u hu => notFace_of_selects (args := #[]) (mvT hu (hw _ (List.mem_of_getElem? (i := 185) rfl)))) (hw _ (List.mem_of_getElem? (i := 185) rfl)) (hw _ (List.mem_of_getElem? (i := 184) rfl)) (by decide) (kc := 0) (ks := 0) (a := x) (argsL := [(.int (Int32.ofNat i))]) (rest := []) (own_payChN (W := 0) (i := i) w0 hEL (own_wChN hw) (hw _ (List.mem_of_getElem? (i := 5) rfl)) SC SF S0 (by omega) rfl (by decide) (by decide)) S0.exa (g := (mkF m 7 #[.val (.ref x), .val (.ref ea), .val (.int (Int32.ofNat n)), .val (.int (Int32.ofNat i))] [(.int (Int32.ofNat i)), (.ref x)])) rfl (by rw [hml]; rfl) (lenOf pd_91181831 rfl) rfl (by show 2 * 0 + _ ≤ _; exact Nat.le_of_eq rfl) (Jvm.hb hby d33_7) (by decide) (by decide) (fun v2_ T2_ vm2_ h2_ q2_ C2_ w2_ => ?_)
    obtain ⟨rfl, rfl⟩ := q2_
    have A2_ := own_at w2_
    show own_WP p e _ below s Z _ n0 _ T2_ (mkF m 10 #[.val (.ref x), .val (.ref ea), .val (.int (Int32.ofNat n)), .val (.int (Int32.ofNat i))] [(.int (cs.getD i 0))])
    refine own_by (T' := T2_) (g' := (mkF m 11 #[.val (.ref x), .val (.ref ea), .val (.int (Int32.ofNat n)), .val (.int (Int32.ofNat i))] [(.ref ea), (.int (cs.getD i 0))])) (fun t_ hr_ => XS.aloadN A2_ hx rfl (Jvm.hb hby d33_10) rfl rfl hr_) ?_
    refine own_by (T' := T2_) (g' := (mkF m 12 #[.val (.ref x), .val (.ref ea), .val (.int (Int32.ofNat n)), .val (.int (Int32.ofNat i))] [(.int (Int32.ofNat i)), (.ref ea), (.int (cs.getD i 0))])) (fun t_ hr_ => XS.iloadN A2_ hx rfl (Jvm.hb hby d33_11) rfl hr_) ?_
    refine own_caload w2_ hx (x := (es.getD i 0)) V0 ⟨own_o0 (by omega), (own_olt (b := 5) (by omega) (by omega)).mpr (by omega)⟩ (g := (mkF m 12 #[.val (.ref x), .val (.ref ea), .val (.int (Int32.ofNat n)), .val (.int (Int32.ofNat i))] [(.int (Int32.ofNat i)), (.ref ea), (.int (cs.getD i 0))])) rfl rfl (Jvm.hb hby d33_12) (by rw [own_on (by omega)]; exact own_mapD es i (by omega)) ?_
    show own_WP p e _ below s Z _ n0 _ T2_ (mkF m 13 #[.val (.ref x), .val (.ref ea), .val (.int (Int32.ofNat n)), .val (.int (Int32.ofNat i))] [(.int (es.getD i 0)), (.int (cs.getD i 0))])
    refine own_by (T' := T2_) (g' := (mkF m 16 #[.val (.ref x), .val (.ref ea), .val (.int (Int32.ofNat n)), .val (.int (Int32.ofNat i))] [])) (fun t_ hr_ => XS.icmpNo A2_ hx rfl (Jvm.hb hby d33_13) rfl (teq (heq hin)).2 hr_) ?_
    refine own_by (T' := T2_) (g' := (mkF m 17 #[.val (.ref x), .val (.ref ea), .val (.int (Int32.ofNat n)), .val (.int (Int32.ofNat i))] [(.int (1 : Int32))])) (fun t_ hr_ => XS.iconst A2_ hx rfl (Jvm.hb hby d33_16) hr_) ?_
    refine own_by (T' := T2_) (g' := (mkF m 21 #[.val (.ref x), .val (.ref ea), .val (.int (Int32.ofNat n)), .val (.int (Int32.ofNat i))] [(.int (1 : Int32))])) (fun t_ hr_ => XS.goto A2_ hx rfl (pc0 := 17) (pc' := 21) rfl (Jvm.hb hby d33_17) (by decide) (by decide) hr_) ?_
    exact own_retZ w2_ hx hEL hlk hret (Or.inr rfl) (Jvm.hb hby d33_21) (by decide) (by decide) ⟨rfl, rfl⟩
  · refine own_by (T' := T0) (g' := (mkF m 16 #[.val (.ref x), .val (.ref ea), .val (.int (Int32.ofNat n)), .val (.int (Int32.ofNat i))] [])) (fun t_ hr_ => XS.icmpYes A_0 hx rfl (pc0 := 2) (pc' := 16) rfl (Jvm.hb hby d33_2) rfl (flt hc1_).2.1 (by decide) (by decide) hr_) ?_
    refine own_by (T' := T0) (g' := (mkF m 17 #[.val (.ref x), .val (.ref ea), .val (.int (Int32.ofNat n)), .val (.int (Int32.ofNat i))] [(.int (1 : Int32))])) (fun t_ hr_ => XS.iconst A_0 hx rfl (Jvm.hb hby d33_16) hr_) ?_
    refine own_by (T' := T0) (g' := (mkF m 21 #[.val (.ref x), .val (.ref ea), .val (.int (Int32.ofNat n)), .val (.int (Int32.ofNat i))] [(.int (1 : Int32))])) (fun t_ hr_ => XS.goto A_0 hx rfl (pc0 := 17) (pc' := 21) rfl (Jvm.hb hby d33_17) (by decide) (by decide) hr_) ?_
    exact own_retZ w0 hx hEL hlk hret (Or.inr rfl) (Jvm.hb hby d33_21) (by decide) (by decide) ⟨rfl, rfl⟩

theorem pd_805342835 : parseMethodDescriptor "(Ljava/lang/String;[CII)Z" = some ⟨[(.object "java/lang/String"), (.array .char), .int, .int], some .boolean⟩ := by decide +kernel
set_option maxRecDepth 65536 in
set_option maxHeartbeats 40000000 in
theorem J139 {p : Program} {l : Launch} {e : Env} {s : State} {m : MethodId} {below : List Frame} {meth : Method} {cc_ : Code} {Z : State} {a0 : Array Value} {n0 : Nat} {T0 : State} {vm0 : Vm} {h0 : Heap} (hw : ∀ d ∈ tables_1, d.before a0 Z = true) (SC : own_SC Z) (SF : own_SF Z) (hx : p.tables.exec = Jvm.exec) (hby : cc_.code = code) (hml : cc_.maxLocals = 18) (hret : meth.sig.returnType = ret) (hlk : meth.locks = false) (hnm : meth.name = "law") (i0 i1 i2 i3 pl ll a b x y : Int32) (sp sl sn sv at' r : Addr) (w0 : own_Wk p l e room_1 s m #[.int i0, .int i1, .int i2, .int i3] below meth cc_ Z consts_1 "com/example/sigillo/sigillo/soap/AttributeNamePinLaw" n0 T0 vm0 h0 30 400) (hp : pl = 0 ∨ pl = 1 ∨ pl = 2) (hl : ll = 0 ∨ ll = 1 ∨ ll = 2) (ra : ¬ a < 0 ∧ ¬ (255 : Int32) < a) (rb : ¬ b < 0 ∧ ¬ (255 : Int32) < b) (rx : ¬ x < 0 ∧ ¬ (255 : Int32) < x) (ry : ¬ y < 0 ∧ ¬ (255 : Int32) < y) (S0 : own_Str Z h0 r (if ([a, b].take pl.toNatClampNeg) = [] then [x, y].take ll.toNatClampNeg else [a, b].take pl.toNatClampNeg ++ [58] ++ [x, y].take ll.toNatClampNeg)) :
    own_WP p e room_1 below s Z consts_1 n0 (fun v h => v = some (.int 1)) T0 (mkF m 139 #[.val (.int i0), .val (.int i1), .val (.int i2), .val (.int i3), .val (.int pl), .val (.int ll), .val (.int a), .val (.int b), .val (.int x), .val (.int y), .val (.ref sp), .val (.ref sl), .val (.ref sn), .val (.ref sv), .val (.ref at'), .val (.ref r), .unset, .unset] []) := by
  have hEL := own_EL hw
  have A_0 := own_at w0
  rcases hp with rfl | rfl | rfl <;> rcases hl with rfl | rfl | rfl
  · show own_WP p e _ below s Z _ n0 _ T0 (mkF m 139 #[.val (.int i0), .val (.int i1), .val (.int i2), .val (.int i3), .val (.int (0 : Int32)), .val (.int (0 : Int32)), .val (.int a), .val (.int b), .val (.int x), .val (.int y), .val (.ref sp), .val (.ref sl), .val (.ref sn), .val (.ref sv), .val (.ref at'), .val (.ref r), .unset, .unset] [])
    refine own_by (T' := T0) (g' := (mkF m 140 #[.val (.int i0), .val (.int i1), .val (.int i2), .val (.int i3), .val (.int (0 : Int32)), .val (.int (0 : Int32)), .val (.int a), .val (.int b), .val (.int x), .val (.int y), .val (.ref sp), .val (.ref sl), .val (.ref sn), .val (.ref sv), .val (.ref at'), .val (.ref r), .unset, .unset] [(.int (5 : Int32))])) (fun t_ hr_ => XS.iconst A_0 hx rfl (Jvm.hb hby at_139) hr_) ?_
    refine own_newP w0 hx (hw _ (List.mem_of_getElem? (i := 7) rfl)) (g := (mkF m 140 #[.val (.int i0), .val (.int i1), .val (.int i2), .val (.int i3), .val (.int (0 : Int32)), .val (.int (0 : Int32)), .val (.int a), .val (.int b), .val (.int x), .val (.int y), .val (.ref sp), .val (.ref sl), .val (.ref sn), .val (.ref sv), .val (.ref at'), .val (.ref r), .unset, .unset] [(.int (5 : Int32))])) rfl (Jvm.hb hby at_140) rfl (by decide) (cap := 5) (by decide) (by decide) (by decide) (by decide) (fun T1_ h1_ a1_ k1_ g1_ E1_ V1_ w1_ => ?_)
    have A1_ := own_at w1_
    show own_WP p e _ below s Z _ n0 _ T1_ (mkF m 142 #[.val (.int i0), .val (.int i1), .val (.int i2), .val (.int i3), .val (.int (0 : Int32)), .val (.int (0 : Int32)), .val (.int a), .val (.int b), .val (.int x), .val (.int y), .val (.ref sp), .val (.ref sl), .val (.ref sn), .val (.ref sv), .val (.ref at'), .val (.ref r), .unset, .unset] [(.ref a1_)])
    have ge : n0 ≤ a1_ := by rw [g1_]; exact own_n0 w0
    have U0 : Arv Z h1_ a1_ k1_ .char (5 : Int32) [(.int (0 : Int32)), (.int (0 : Int32)), (.int (0 : Int32)), (.int (0 : Int32)), (.int (0 : Int32))] (.int 0) := V1_.pad (vs' := [(.int (0 : Int32)), (.int (0 : Int32)), (.int (0 : Int32)), (.int (0 : Int32)), (.int (0 : Int32))]) (fun i => pad_rep [] (.int (0 : Int32)) 5 i)
    have gez : h0.size ≤ a1_ := by rw [g1_]; exact Nat.le_refl _
    refine own_by (T' := T1_) (g' := (mkF m 144 #[.val (.int i0), .val (.int i1), .val (.int i2), .val (.int i3), .val (.int (0 : Int32)), .val (.int (0 : Int32)), .val (.int a), .val (.int b), .val (.int x), .val (.int y), .val (.ref sp), .val (.ref sl), .val (.ref sn), .val (.ref sv), .val (.ref at'), .val (.ref r), .val (.ref a1_), .unset] [])) (fun t_ hr_ => XS.astore A1_ hx rfl (Jvm.hb hby at_142) rfl rfl (l' := #[.val (.int i0), .val (.int i1), .val (.int i2), .val (.int i3), .val (.int (0 : Int32)), .val (.int (0 : Int32)), .val (.int a), .val (.int b), .val (.int x), .val (.int y), .val (.ref sp), .val (.ref sl), .val (.ref sn), .val (.ref sv), .val (.ref at'), .val (.ref r), .val (.ref a1_), .unset]) rfl hr_) ?_
    refine own_by (T' := T1_) (g' := (mkF m 146 #[.val (.int i0), .val (.int i1), .val (.int i2), .val (.int i3), .val (.int (0 : Int32)), .val (.int (0 : Int32)), .val (.int a), .val (.int b), .val (.int x), .val (.int y), .val (.ref sp), .val (.ref sl), .val (.ref sn), .val (.ref sv), .val (.ref at'), .val (.ref r), .val (.ref a1_), .unset] [(.int (0 : Int32))])) (fun t_ hr_ => XS.iload A1_ hx rfl (Jvm.hb hby at_144) rfl hr_) ?_
    refine own_by (T' := T1_) (g' := (mkF m 149 #[.val (.int i0), .val (.int i1), .val (.int i2), .val (.int i3), .val (.int (0 : Int32)), .val (.int (0 : Int32)), .val (.int a), .val (.int b), .val (.int x), .val (.int y), .val (.ref sp), .val (.ref sl), .val (.ref sn), .val (.ref sv), .val (.ref at'), .val (.ref r), .val (.ref a1_), .unset] [])) (fun t_ hr_ => XS.ifNo A1_ hx rfl (Jvm.hb hby at_146) rfl ((if0 _ _).trans (teq (rfl : (0 : Int32) = 0)).2) hr_) ?_
    refine own_by (T' := T1_) (g' := (mkF m 151 #[.val (.int i0), .val (.int i1), .val (.int i2), .val (.int i3), .val (.int (0 : Int32)), .val (.int (0 : Int32)), .val (.int a), .val (.int b), .val (.int x), .val (.int y), .val (.ref sp), .val (.ref sl), .val (.ref sn), .val (.ref sv), .val (.ref at'), .val (.ref r), .val (.ref a1_), .unset] [(.ref a1_)])) (fun t_ hr_ => XS.aload A1_ hx rfl (Jvm.hb hby at_149) rfl rfl hr_) ?_
    refine own_by (T' := T1_) (g' := (mkF m 152 #[.val (.int i0), .val (.int i1), .val (.int i2), .val (.int i3), .val (.int (0 : Int32)), .val (.int (0 : Int32)), .val (.int a), .val (.int b), .val (.int x), .val (.int y), .val (.ref sp), .val (.ref sl), .val (.ref sn), .val (.ref sv), .val (.ref at'), .val (.ref r), .val (.ref a1_), .unset] [(.int (0 : Int32)), (.ref a1_)])) (fun t_ hr_ => XS.iconst A1_ hx rfl (Jvm.hb hby at_151) hr_) ?_
    refine own_by (T' := T1_) (g' := (mkF m 154 #[.val (.int i0), .val (.int i1), .val (.int i2), .val (.int i3), .val (.int (0 : Int32)), .val (.int (0 : Int32)), .val (.int a), .val (.int b), .val (.int x), .val (.int y), .val (.ref sp), .val (.ref sl), .val (.ref sn), .val (.ref sv), .val (.ref at'), .val (.ref r), .val (.ref a1_), .unset] [(.int x), (.int (0 : Int32)), (.ref a1_)])) (fun t_ hr_ => XS.iload A1_ hx rfl (Jvm.hb hby at_152) rfl hr_) ?_
    refine own_castore w1_ hx U0 (by decide) (own_rng255 rx) (i := 0) rfl (by simp) ge (g := (mkF m 154 #[.val (.int i0), .val (.int i1), .val (.int i2), .val (.int i3), .val (.int (0 : Int32)), .val (.int (0 : Int32)), .val (.int a), .val (.int b), .val (.int x), .val (.int y), .val (.ref sp), .val (.ref sl), .val (.ref sn), .val (.ref sv), .val (.ref at'), .val (.ref r), .val (.ref a1_), .unset] [(.int x), (.int (0 : Int32)), (.ref a1_)])) rfl rfl (Jvm.hb hby at_154) (fun T2_ h2_ W2_ V2_ w2_ => ?_)
    have A2_ := own_at w2_
    show own_WP p e _ below s Z _ n0 _ T2_ (mkF m 155 #[.val (.int i0), .val (.int i1), .val (.int i2), .val (.int i3), .val (.int (0 : Int32)), .val (.int (0 : Int32)), .val (.int a), .val (.int b), .val (.int x), .val (.int y), .val (.ref sp), .val (.ref sl), .val (.ref sn), .val (.ref sv), .val (.ref at'), .val (.ref r), .val (.ref a1_), .unset] [])
    have EeW2_ := own_extWr E1_ W2_ gez
    refine own_by (T' := T2_) (g' := (mkF m 157 #[.val (.int i0), .val (.int i1), .val (.int i2), .val (.int i3), .val (.int (0 : Int32)), .val (.int (0 : Int32)), .val (.int a), .val (.int b), .val (.int x), .val (.int y), .val (.ref sp), .val (.ref sl), .val (.ref sn), .val (.ref sv), .val (.ref at'), .val (.ref r), .val (.ref a1_), .unset] [(.ref a1_)])) (fun t_ hr_ => XS.aload A2_ hx rfl (Jvm.hb hby at_155) rfl rfl hr_) ?_
    refine own_by (T' := T2_) (g' := (mkF m 158 #[.val (.int i0), .val (.int i1), .val (.int i2), .val (.int i3), .val (.int (0 : Int32)), .val (.int (0 : Int32)), .val (.int a), .val (.int b), .val (.int x), .val (.int y), .val (.ref sp), .val (.ref sl), .val (.ref sn), .val (.ref sv), .val (.ref at'), .val (.ref r), .val (.ref a1_), .unset] [(.int (1 : Int32)), (.ref a1_)])) (fun t_ hr_ => XS.iconst A2_ hx rfl (Jvm.hb hby at_157) hr_) ?_
    refine own_by (T' := T2_) (g' := (mkF m 160 #[.val (.int i0), .val (.int i1), .val (.int i2), .val (.int i3), .val (.int (0 : Int32)), .val (.int (0 : Int32)), .val (.int a), .val (.int b), .val (.int x), .val (.int y), .val (.ref sp), .val (.ref sl), .val (.ref sn), .val (.ref sv), .val (.ref at'), .val (.ref r), .val (.ref a1_), .unset] [(.int y), (.int (1 : Int32)), (.ref a1_)])) (fun t_ hr_ => XS.iload A2_ hx rfl (Jvm.hb hby at_158) rfl hr_) ?_
    refine own_castore w2_ hx V2_ (by decide) (own_rng255 ry) (i := 1) rfl (by simp) ge (g := (mkF m 160 #[.val (.int i0), .val (.int i1), .val (.int i2), .val (.int i3), .val (.int (0 : Int32)), .val (.int (0 : Int32)), .val (.int a), .val (.int b), .val (.int x), .val (.int y), .val (.ref sp), .val (.ref sl), .val (.ref sn), .val (.ref sv), .val (.ref at'), .val (.ref r), .val (.ref a1_), .unset] [(.int y), (.int (1 : Int32)), (.ref a1_)])) rfl rfl (Jvm.hb hby at_160) (fun T3_ h3_ W3_ V3_ w3_ => ?_)
    have A3_ := own_at w3_
    show own_WP p e _ below s Z _ n0 _ T3_ (mkF m 161 #[.val (.int i0), .val (.int i1), .val (.int i2), .val (.int i3), .val (.int (0 : Int32)), .val (.int (0 : Int32)), .val (.int a), .val (.int b), .val (.int x), .val (.int y), .val (.ref sp), .val (.ref sl), .val (.ref sn), .val (.ref sv), .val (.ref at'), .val (.ref r), .val (.ref a1_), .unset] [])
    have EeW3_ := own_extWr EeW2_ W3_ gez
    refine own_by (T' := T3_) (g' := (mkF m 163 #[.val (.int i0), .val (.int i1), .val (.int i2), .val (.int i3), .val (.int (0 : Int32)), .val (.int (0 : Int32)), .val (.int a), .val (.int b), .val (.int x), .val (.int y), .val (.ref sp), .val (.ref sl), .val (.ref sn), .val (.ref sv), .val (.ref at'), .val (.ref r), .val (.ref a1_), .unset] [(.int (0 : Int32))])) (fun t_ hr_ => XS.iload A3_ hx rfl (Jvm.hb hby at_161) rfl hr_) ?_
    refine own_by (T' := T3_) (g' := (mkF m 165 #[.val (.int i0), .val (.int i1), .val (.int i2), .val (.int i3), .val (.int (0 : Int32)), .val (.int (0 : Int32)), .val (.int a), .val (.int b), .val (.int x), .val (.int y), .val (.ref sp), .val (.ref sl), .val (.ref sn), .val (.ref sv), .val (.ref at'), .val (.ref r), .val (.ref a1_), .val (.int (0 : Int32))] [])) (fun t_ hr_ => XS.istore A3_ hx rfl (Jvm.hb hby at_163) rfl (l' := #[.val (.int i0), .val (.int i1), .val (.int i2), .val (.int i3), .val (.int (0 : Int32)), .val (.int (0 : Int32)), .val (.int a), .val (.int b), .val (.int x), .val (.int y), .val (.ref sp), .val (.ref sl), .val (.ref sn), .val (.ref sv), .val (.ref at'), .val (.ref r), .val (.ref a1_), .val (.int (0 : Int32))]) rfl hr_) ?_
    refine own_by (T' := T3_) (g' := (mkF m 214 #[.val (.int i0), .val (.int i1), .val (.int i2), .val (.int i3), .val (.int (0 : Int32)), .val (.int (0 : Int32)), .val (.int a), .val (.int b), .val (.int x), .val (.int y), .val (.ref sp), .val (.ref sl), .val (.ref sn), .val (.ref sv), .val (.ref at'), .val (.ref r), .val (.ref a1_), .val (.int (0 : Int32))] [])) (fun t_ hr_ => XS.goto A3_ hx rfl (pc0 := 165) (pc' := 214) rfl (Jvm.hb hby at_165) (by decide) (by decide) hr_) ?_
    refine own_by (T' := T3_) (g' := (mkF m 216 #[.val (.int i0), .val (.int i1), .val (.int i2), .val (.int i3), .val (.int (0 : Int32)), .val (.int (0 : Int32)), .val (.int a), .val (.int b), .val (.int x), .val (.int y), .val (.ref sp), .val (.ref sl), .val (.ref sn), .val (.ref sv), .val (.ref at'), .val (.ref r), .val (.ref a1_), .val (.int (0 : Int32))] [(.ref r)])) (fun t_ hr_ => XS.aload A3_ hx rfl (Jvm.hb hby at_214) rfl rfl hr_) ?_
    refine own_by (T' := T3_) (g' := (mkF m 219 #[.val (.int i0), .val (.int i1), .val (.int i2), .val (.int i3), .val (.int (0 : Int32)), .val (.int (0 : Int32)), .val (.int a), .val (.int b), .val (.int x), .val (.int y), .val (.ref sp), .val (.ref sl), .val (.ref sn), .val (.ref sv), .val (.ref at'), .val (.ref r), .val (.ref a1_), .val (.int (0 : Int32))] [])) (fun t_ hr_ => XS.ifnullNo A3_ hx rfl (Jvm.hb hby at_216) rfl hr_) ?_
    refine own_by (T' := T3_) (g' := (mkF m 221 #[.val (.int i0), .val (.int i1), .val (.int i2), .val (.int i3), .val (.int (0 : Int32)), .val (.int (0 : Int32)), .val (.int a), .val (.int b), .val (.int x), .val (.int y), .val (.ref sp), .val (.ref sl), .val (.ref sn), .val (.ref sv), .val (.ref at'), .val (.ref r), .val (.ref a1_), .val (.int (0 : Int32))] [(.ref r)])) (fun t_ hr_ => XS.aload A3_ hx rfl (Jvm.hb hby at_219) rfl rfl hr_) ?_
    have Sz : own_Str Z h3_ r ([] : List Int32) := by first | exact S0.ext EeW3_ | (have q := S0.ext EeW3_; simpa [own_nc] using q)
    refine own_callV w3_ hx (y := (⟨"java/lang/String", "length", "()I"⟩ : MethodName)) (z := (⟨"java/lang/String", "length", "()I"⟩ : MethodName)) (hw _ (List.mem_of_getElem? (i := 178) rfl)) (hw _ (List.mem_of_getElem? (i := 96) rfl)) (fun u hu => notFace_of_selects (args := #[]) (mvT hu (hw _ (List.mem_of_getElem? (i := 98) rfl)))) (hw _ (List.mem_of_getElem? (i := 98) rfl)) (hw _ (List.mem_of_getElem? (i := 97) rfl)) (by decide) (kc := 0) (ks := 0) (a := r) (argsL := []) (rest := []) (own_payLen (W := 0) w3_ hEL (own_wLen hw) (hw _ (List.mem_of_getElem? (i := 5) rfl)) SC Sz (by decide) (by decide)) Sz.exa (g := (mkF m 221 #[.val (.int i0), .val (.int i1), .val (.int i2), .val (.int i3), .val (.int (0 : Int32)), .val (.int (0 : Int32)), .val (.int a), .val (.int b), .val (.int x), .val (.int y), .val (.ref sp), .val (.ref sl), .val (.ref sn), .val (.ref sv), .val (.ref at'), .val (.ref r), .val (.ref a1_), .val (.int (0 : Int32))] [(.ref r)])) rfl (by rw [hml]; rfl) (lenOf pd_691884 rfl) rfl (by show 2 * 0 + _ ≤ _; exact Nat.le_of_eq rfl) (Jvm.hb hby at_221) (by decide) (by decide) (fun v4_ T4_ vm4_ h4_ q4_ C4_ w4_ => ?_)
    obtain ⟨rfl, rfl⟩ := q4_
    have A4_ := own_at w4_
    show own_WP p e _ below s Z _ n0 _ T4_ (mkF m 224 #[.val (.int i0), .val (.int i1), .val (.int i2), .val (.int i3), .val (.int (0 : Int32)), .val (.int (0 : Int32)), .val (.int a), .val (.int b), .val (.int x), .val (.int y), .val (.ref sp), .val (.ref sl), .val (.ref sn), .val (.ref sv), .val (.ref at'), .val (.ref r), .val (.ref a1_), .val (.int (0 : Int32))] [(.int (Int32.ofNat ([] : List Int32).length))])
    refine own_by (T' := T4_) (g' := (mkF m 226 #[.val (.int i0), .val (.int i1), .val (.int i2), .val (.int i3), .val (.int (0 : Int32)), .val (.int (0 : Int32)), .val (.int a), .val (.int b), .val (.int x), .val (.int y), .val (.ref sp), .val (.ref sl), .val (.ref sn), .val (.ref sv), .val (.ref at'), .val (.ref r), .val (.ref a1_), .val (.int (0 : Int32))] [(.int (0 : Int32)), (.int (Int32.ofNat ([] : List Int32).length))])) (fun t_ hr_ => XS.iload A4_ hx rfl (Jvm.hb hby at_224) rfl hr_) ?_
    refine own_by (T' := T4_) (g' := (mkF m 231 #[.val (.int i0), .val (.int i1), .val (.int i2), .val (.int i3), .val (.int (0 : Int32)), .val (.int (0 : Int32)), .val (.int a), .val (.int b), .val (.int x), .val (.int y), .val (.ref sp), .val (.ref sl), .val (.ref sn), .val (.ref sv), .val (.ref at'), .val (.ref r), .val (.ref a1_), .val (.int (0 : Int32))] [])) (fun t_ hr_ => XS.icmpYes A4_ hx rfl (pc0 := 226) (pc' := 231) rfl (Jvm.hb hby at_226) rfl (teq (rfl)).1 (by decide) (by decide) hr_) ?_
    refine own_by (T' := T4_) (g' := (mkF m 233 #[.val (.int i0), .val (.int i1), .val (.int i2), .val (.int i3), .val (.int (0 : Int32)), .val (.int (0 : Int32)), .val (.int a), .val (.int b), .val (.int x), .val (.int y), .val (.ref sp), .val (.ref sl), .val (.ref sn), .val (.ref sv), .val (.ref at'), .val (.ref r), .val (.ref a1_), .val (.int (0 : Int32))] [(.ref r)])) (fun t_ hr_ => XS.aload A4_ hx rfl (Jvm.hb hby at_231) rfl rfl hr_) ?_
    refine own_by (T' := T4_) (g' := (mkF m 235 #[.val (.int i0), .val (.int i1), .val (.int i2), .val (.int i3), .val (.int (0 : Int32)), .val (.int (0 : Int32)), .val (.int a), .val (.int b), .val (.int x), .val (.int y), .val (.ref sp), .val (.ref sl), .val (.ref sn), .val (.ref sv), .val (.ref at'), .val (.ref r), .val (.ref a1_), .val (.int (0 : Int32))] [(.ref a1_), (.ref r)])) (fun t_ hr_ => XS.aload A4_ hx rfl (Jvm.hb hby at_233) rfl rfl hr_) ?_
    refine own_by (T' := T4_) (g' := (mkF m 237 #[.val (.int i0), .val (.int i1), .val (.int i2), .val (.int i3), .val (.int (0 : Int32)), .val (.int (0 : Int32)), .val (.int a), .val (.int b), .val (.int x), .val (.int y), .val (.ref sp), .val (.ref sl), .val (.ref sn), .val (.ref sv), .val (.ref at'), .val (.ref r), .val (.ref a1_), .val (.int (0 : Int32))] [(.int (0 : Int32)), (.ref a1_), (.ref r)])) (fun t_ hr_ => XS.iload A4_ hx rfl (Jvm.hb hby at_235) rfl hr_) ?_
    refine own_by (T' := T4_) (g' := (mkF m 238 #[.val (.int i0), .val (.int i1), .val (.int i2), .val (.int i3), .val (.int (0 : Int32)), .val (.int (0 : Int32)), .val (.int a), .val (.int b), .val (.int x), .val (.int y), .val (.ref sp), .val (.ref sl), .val (.ref sn), .val (.ref sv), .val (.ref at'), .val (.ref r), .val (.ref a1_), .val (.int (0 : Int32))] [(.int (0 : Int32)), (.int (0 : Int32)), (.ref a1_), (.ref r)])) (fun t_ hr_ => XS.iconst A4_ hx rfl (Jvm.hb hby at_237) hr_) ?_
    refine own_callS w4_ hx (y := (⟨"com/example/sigillo/sigillo/soap/AttributeNamePinLaw", "at", "(Ljava/lang/String;[CII)Z"⟩ : MethodName)) (hw _ (List.mem_of_getElem? (i := 179) rfl)) (hw _ (List.mem_of_getElem? (i := 180) rfl)) (hw _ (List.mem_of_getElem? (i := 2) rfl)) (hw _ (List.mem_of_getElem? (i := 181) rfl)) (by decide) (kc := 0) (ks := 0) (argsL := [(.ref r), (.ref a1_), (.int (0 : Int32)), (.int (0 : Int32))]) (rest := []) (own_payCt (W := 0) (ctAt l Z a0 hw SC SF n0 h3_ (own_old w4_) r a1_ k1_ ([] : List Int32) ([x, y, (0 : Int32), (0 : Int32), (0 : Int32)] : List Int32) 0 0 Sz V3_ rfl rfl (by decide) (by decide) (fun q => absurd q (by decide))) w4_ (hw _ (List.mem_of_getElem? (i := 181) rfl)) (hw _ (List.mem_of_getElem? (i := 2) rfl)) hEL (by decide) (by decide)) (g := (mkF m 238 #[.val (.int i0), .val (.int i1), .val (.int i2), .val (.int i3), .val (.int (0 : Int32)), .val (.int (0 : Int32)), .val (.int a), .val (.int b), .val (.int x), .val (.int y), .val (.ref sp), .val (.ref sl), .val (.ref sn), .val (.ref sv), .val (.ref at'), .val (.ref r), .val (.ref a1_), .val (.int (0 : Int32))] [(.int (0 : Int32)), (.int (0 : Int32)), (.ref a1_), (.ref r)])) rfl (by rw [hml]; rfl) (lenOf pd_805342835 rfl) rfl (by show 2 * 0 + _ ≤ _; exact Nat.le_of_eq rfl) (Jvm.hb hby at_238) (by decide) (by decide) (fun v5_ T5_ vm5_ h5_ q5_ C5_ w5_ => ?_)
    obtain ⟨rfl, rfl⟩ := q5_
    have A5_ := own_at w5_
    show own_WP p e _ below s Z _ n0 _ T5_ (mkF m 241 #[.val (.int i0), .val (.int i1), .val (.int i2), .val (.int i3), .val (.int (0 : Int32)), .val (.int (0 : Int32)), .val (.int a), .val (.int b), .val (.int x), .val (.int y), .val (.ref sp), .val (.ref sl), .val (.ref sn), .val (.ref sv), .val (.ref at'), .val (.ref r), .val (.ref a1_), .val (.int (0 : Int32))] [(.int (1 : Int32))])
    refine own_by (T' := T5_) (g' := (mkF m 244 #[.val (.int i0), .val (.int i1), .val (.int i2), .val (.int i3), .val (.int (0 : Int32)), .val (.int (0 : Int32)), .val (.int a), .val (.int b), .val (.int x), .val (.int y), .val (.ref sp), .val (.ref sl), .val (.ref sn), .val (.ref sv), .val (.ref at'), .val (.ref r), .val (.ref a1_), .val (.int (0 : Int32))] [])) (fun t_ hr_ => XS.ifNo A5_ hx rfl (Jvm.hb hby at_241) rfl ((if0 _ _).trans (feq (by decide : ¬ (1 : Int32) = 0)).1) hr_) ?_
    refine own_by (T' := T5_) (g' := (mkF m 246 #[.val (.int i0), .val (.int i1), .val (.int i2), .val (.int i3), .val (.int (0 : Int32)), .val (.int (0 : Int32)), .val (.int a), .val (.int b), .val (.int x), .val (.int y), .val (.ref sp), .val (.ref sl), .val (.ref sn), .val (.ref sv), .val (.ref at'), .val (.ref r), .val (.ref a1_), .val (.int (0 : Int32))] [(.ref r)])) (fun t_ hr_ => XS.aload A5_ hx rfl (Jvm.hb hby at_244) rfl rfl hr_) ?_
    refine own_by (T' := T5_) (g' := (mkF m 248 #[.val (.int i0), .val (.int i1), .val (.int i2), .val (.int i3), .val (.int (0 : Int32)), .val (.int (0 : Int32)), .val (.int a), .val (.int b), .val (.int x), .val (.int y), .val (.ref sp), .val (.ref sl), .val (.ref sn), .val (.ref sv), .val (.ref at'), .val (.ref r), .val (.ref a1_), .val (.int (0 : Int32))] [(.ref a1_), (.ref r)])) (fun t_ hr_ => XS.aload A5_ hx rfl (Jvm.hb hby at_246) rfl rfl hr_) ?_
    refine own_by (T' := T5_) (g' := (mkF m 250 #[.val (.int i0), .val (.int i1), .val (.int i2), .val (.int i3), .val (.int (0 : Int32)), .val (.int (0 : Int32)), .val (.int a), .val (.int b), .val (.int x), .val (.int y), .val (.ref sp), .val (.ref sl), .val (.ref sn), .val (.ref sv), .val (.ref at'), .val (.ref r), .val (.ref a1_), .val (.int (0 : Int32))] [(.int (0 : Int32)), (.ref a1_), (.ref r)])) (fun t_ hr_ => XS.iload A5_ hx rfl (Jvm.hb hby at_248) rfl hr_) ?_
    refine own_by (T' := T5_) (g' := (mkF m 251 #[.val (.int i0), .val (.int i1), .val (.int i2), .val (.int i3), .val (.int (0 : Int32)), .val (.int (0 : Int32)), .val (.int a), .val (.int b), .val (.int x), .val (.int y), .val (.ref sp), .val (.ref sl), .val (.ref sn), .val (.ref sv), .val (.ref at'), .val (.ref r), .val (.ref a1_), .val (.int (0 : Int32))] [(.int (1 : Int32)), (.int (0 : Int32)), (.ref a1_), (.ref r)])) (fun t_ hr_ => XS.iconst A5_ hx rfl (Jvm.hb hby at_250) hr_) ?_
    refine own_callS w5_ hx (y := (⟨"com/example/sigillo/sigillo/soap/AttributeNamePinLaw", "at", "(Ljava/lang/String;[CII)Z"⟩ : MethodName)) (hw _ (List.mem_of_getElem? (i := 179) rfl)) (hw _ (List.mem_of_getElem? (i := 180) rfl)) (hw _ (List.mem_of_getElem? (i := 2) rfl)) (hw _ (List.mem_of_getElem? (i := 181) rfl)) (by decide) (kc := 0) (ks := 0) (argsL := [(.ref r), (.ref a1_), (.int (0 : Int32)), (.int (1 : Int32))]) (rest := []) (own_payCt (W := 0) (ctAt l Z a0 hw SC SF n0 h3_ (own_old w5_) r a1_ k1_ ([] : List Int32) ([x, y, (0 : Int32), (0 : Int32), (0 : Int32)] : List Int32) 0 1 Sz V3_ rfl rfl (by decide) (by decide) (fun q => absurd q (by decide))) w5_ (hw _ (List.mem_of_getElem? (i := 181) rfl)) (hw _ (List.mem_of_getElem? (i := 2) rfl)) hEL (by decide) (by decide)) (g := (mkF m 251 #[.val (.int i0), .val (.int i1), .val (.int i2), .val (.int i3), .val (.int (0 : Int32)), .val (.int (0 : Int32)), .val (.int a), .val (.int b), .val (.int x), .val (.int y), .val (.ref sp), .val (.ref sl), .val (.ref sn), .val (.ref sv), .val (.ref at'), .val (.ref r), .val (.ref a1_), .val (.int (0 : Int32))] [(.int (1 : Int32)), (.int (0 : Int32)), (.ref a1_), (.ref r)])) rfl (by rw [hml]; rfl) (lenOf pd_805342835 rfl) rfl (by show 2 * 0 + _ ≤ _; exact Nat.le_of_eq rfl) (Jvm.hb hby at_251) (by decide) (by decide) (fun v6_ T6_ vm6_ h6_ q6_ C6_ w6_ => ?_)
    obtain ⟨rfl, rfl⟩ := q6_
    have A6_ := own_at w6_
    show own_WP p e _ below s Z _ n0 _ T6_ (mkF m 254 #[.val (.int i0), .val (.int i1), .val (.int i2), .val (.int i3), .val (.int (0 : Int32)), .val (.int (0 : Int32)), .val (.int a), .val (.int b), .val (.int x), .val (.int y), .val (.ref sp), .val (.ref sl), .val (.ref sn), .val (.ref sv), .val (.ref at'), .val (.ref r), .val (.ref a1_), .val (.int (0 : Int32))] [(.int (1 : Int32))])
    refine own_by (T' := T6_) (g' := (mkF m 257 #[.val (.int i0), .val (.int i1), .val (.int i2), .val (.int i3), .val (.int (0 : Int32)), .val (.int (0 : Int32)), .val (.int a), .val (.int b), .val (.int x), .val (.int y), .val (.ref sp), .val (.ref sl), .val (.ref sn), .val (.ref sv), .val (.ref at'), .val (.ref r), .val (.ref a1_), .val (.int (0 : Int32))] [])) (fun t_ hr_ => XS.ifNo A6_ hx rfl (Jvm.hb hby at_254) rfl ((if0 _ _).trans (feq (by decide : ¬ (1 : Int32) = 0)).1) hr_) ?_
    refine own_by (T' := T6_) (g' := (mkF m 259 #[.val (.int i0), .val (.int i1), .val (.int i2), .val (.int i3), .val (.int (0 : Int32)), .val (.int (0 : Int32)), .val (.int a), .val (.int b), .val (.int x), .val (.int y), .val (.ref sp), .val (.ref sl), .val (.ref sn), .val (.ref sv), .val (.ref at'), .val (.ref r), .val (.ref a1_), .val (.int (0 : Int32))] [(.ref r)])) (fun t_ hr_ => XS.aload A6_ hx rfl (Jvm.hb hby at_257) rfl rfl hr_) ?_
    refine own_by (T' := T6_) (g' := (mkF m 261 #[.val (.int i0), .val (.int i1), .val (.int i2), .val (.int i3), .val (.int (0 : Int32)), .val (.int (0 : Int32)), .val (.int a), .val (.int b), .val (.int x), .val (.int y), .val (.ref sp), .val (.ref sl), .val (.ref sn), .val (.ref sv), .val (.ref at'), .val (.ref r), .val (.ref a1_), .val (.int (0 : Int32))] [(.ref a1_), (.ref r)])) (fun t_ hr_ => XS.aload A6_ hx rfl (Jvm.hb hby at_259) rfl rfl hr_) ?_
    refine own_by (T' := T6_) (g' := (mkF m 263 #[.val (.int i0), .val (.int i1), .val (.int i2), .val (.int i3), .val (.int (0 : Int32)), .val (.int (0 : Int32)), .val (.int a), .val (.int b), .val (.int x), .val (.int y), .val (.ref sp), .val (.ref sl), .val (.ref sn), .val (.ref sv), .val (.ref at'), .val (.ref r), .val (.ref a1_), .val (.int (0 : Int32))] [(.int (0 : Int32)), (.ref a1_), (.ref r)])) (fun t_ hr_ => XS.iload A6_ hx rfl (Jvm.hb hby at_261) rfl hr_) ?_
    refine own_by (T' := T6_) (g' := (mkF m 264 #[.val (.int i0), .val (.int i1), .val (.int i2), .val (.int i3), .val (.int (0 : Int32)), .val (.int (0 : Int32)), .val (.int a), .val (.int b), .val (.int x), .val (.int y), .val (.ref sp), .val (.ref sl), .val (.ref sn), .val (.ref sv), .val (.ref at'), .val (.ref r), .val (.ref a1_), .val (.int (0 : Int32))] [(.int (2 : Int32)), (.int (0 : Int32)), (.ref a1_), (.ref r)])) (fun t_ hr_ => XS.iconst A6_ hx rfl (Jvm.hb hby at_263) hr_) ?_
    refine own_callS w6_ hx (y := (⟨"com/example/sigillo/sigillo/soap/AttributeNamePinLaw", "at", "(Ljava/lang/String;[CII)Z"⟩ : MethodName)) (hw _ (List.mem_of_getElem? (i := 179) rfl)) (hw _ (List.mem_of_getElem? (i := 180) rfl)) (hw _ (List.mem_of_getElem? (i := 2) rfl)) (hw _ (List.mem_of_getElem? (i := 181) rfl)) (by decide) (kc := 0) (ks := 0) (argsL := [(.ref r), (.ref a1_), (.int (0 : Int32)), (.int (2 : Int32))]) (rest := []) (own_payCt (W := 0) (ctAt l Z a0 hw SC SF n0 h3_ (own_old w6_) r a1_ k1_ ([] : List Int32) ([x, y, (0 : Int32), (0 : Int32), (0 : Int32)] : List Int32) 0 2 Sz V3_ rfl rfl (by decide) (by decide) (fun q => absurd q (by decide))) w6_ (hw _ (List.mem_of_getElem? (i := 181) rfl)) (hw _ (List.mem_of_getElem? (i := 2) rfl)) hEL (by decide) (by decide)) (g := (mkF m 264 #[.val (.int i0), .val (.int i1), .val (.int i2), .val (.int i3), .val (.int (0 : Int32)), .val (.int (0 : Int32)), .val (.int a), .val (.int b), .val (.int x), .val (.int y), .val (.ref sp), .val (.ref sl), .val (.ref sn), .val (.ref sv), .val (.ref at'), .val (.ref r), .val (.ref a1_), .val (.int (0 : Int32))] [(.int (2 : Int32)), (.int (0 : Int32)), (.ref a1_), (.ref r)])) rfl (by rw [hml]; rfl) (lenOf pd_805342835 rfl) rfl (by show 2 * 0 + _ ≤ _; exact Nat.le_of_eq rfl) (Jvm.hb hby at_264) (by decide) (by decide) (fun v7_ T7_ vm7_ h7_ q7_ C7_ w7_ => ?_)
    obtain ⟨rfl, rfl⟩ := q7_
    have A7_ := own_at w7_
    show own_WP p e _ below s Z _ n0 _ T7_ (mkF m 267 #[.val (.int i0), .val (.int i1), .val (.int i2), .val (.int i3), .val (.int (0 : Int32)), .val (.int (0 : Int32)), .val (.int a), .val (.int b), .val (.int x), .val (.int y), .val (.ref sp), .val (.ref sl), .val (.ref sn), .val (.ref sv), .val (.ref at'), .val (.ref r), .val (.ref a1_), .val (.int (0 : Int32))] [(.int (1 : Int32))])
    refine own_by (T' := T7_) (g' := (mkF m 270 #[.val (.int i0), .val (.int i1), .val (.int i2), .val (.int i3), .val (.int (0 : Int32)), .val (.int (0 : Int32)), .val (.int a), .val (.int b), .val (.int x), .val (.int y), .val (.ref sp), .val (.ref sl), .val (.ref sn), .val (.ref sv), .val (.ref at'), .val (.ref r), .val (.ref a1_), .val (.int (0 : Int32))] [])) (fun t_ hr_ => XS.ifNo A7_ hx rfl (Jvm.hb hby at_267) rfl ((if0 _ _).trans (feq (by decide : ¬ (1 : Int32) = 0)).1) hr_) ?_
    refine own_by (T' := T7_) (g' := (mkF m 272 #[.val (.int i0), .val (.int i1), .val (.int i2), .val (.int i3), .val (.int (0 : Int32)), .val (.int (0 : Int32)), .val (.int a), .val (.int b), .val (.int x), .val (.int y), .val (.ref sp), .val (.ref sl), .val (.ref sn), .val (.ref sv), .val (.ref at'), .val (.ref r), .val (.ref a1_), .val (.int (0 : Int32))] [(.ref r)])) (fun t_ hr_ => XS.aload A7_ hx rfl (Jvm.hb hby at_270) rfl rfl hr_) ?_
    refine own_by (T' := T7_) (g' := (mkF m 274 #[.val (.int i0), .val (.int i1), .val (.int i2), .val (.int i3), .val (.int (0 : Int32)), .val (.int (0 : Int32)), .val (.int a), .val (.int b), .val (.int x), .val (.int y), .val (.ref sp), .val (.ref sl), .val (.ref sn), .val (.ref sv), .val (.ref at'), .val (.ref r), .val (.ref a1_), .val (.int (0 : Int32))] [(.ref a1_), (.ref r)])) (fun t_ hr_ => XS.aload A7_ hx rfl (Jvm.hb hby at_272) rfl rfl hr_) ?_
    refine own_by (T' := T7_) (g' := (mkF m 276 #[.val (.int i0), .val (.int i1), .val (.int i2), .val (.int i3), .val (.int (0 : Int32)), .val (.int (0 : Int32)), .val (.int a), .val (.int b), .val (.int x), .val (.int y), .val (.ref sp), .val (.ref sl), .val (.ref sn), .val (.ref sv), .val (.ref at'), .val (.ref r), .val (.ref a1_), .val (.int (0 : Int32))] [(.int (0 : Int32)), (.ref a1_), (.ref r)])) (fun t_ hr_ => XS.iload A7_ hx rfl (Jvm.hb hby at_274) rfl hr_) ?_
    refine own_by (T' := T7_) (g' := (mkF m 277 #[.val (.int i0), .val (.int i1), .val (.int i2), .val (.int i3), .val (.int (0 : Int32)), .val (.int (0 : Int32)), .val (.int a), .val (.int b), .val (.int x), .val (.int y), .val (.ref sp), .val (.ref sl), .val (.ref sn), .val (.ref sv), .val (.ref at'), .val (.ref r), .val (.ref a1_), .val (.int (0 : Int32))] [(.int (3 : Int32)), (.int (0 : Int32)), (.ref a1_), (.ref r)])) (fun t_ hr_ => XS.iconst A7_ hx rfl (Jvm.hb hby at_276) hr_) ?_
    refine own_callS w7_ hx (y := (⟨"com/example/sigillo/sigillo/soap/AttributeNamePinLaw", "at", "(Ljava/lang/String;[CII)Z"⟩ : MethodName)) (hw _ (List.mem_of_getElem? (i := 179) rfl)) (hw _ (List.mem_of_getElem? (i := 180) rfl)) (hw _ (List.mem_of_getElem? (i := 2) rfl)) (hw _ (List.mem_of_getElem? (i := 181) rfl)) (by decide) (kc := 0) (ks := 0) (argsL := [(.ref r), (.ref a1_), (.int (0 : Int32)), (.int (3 : Int32))]) (rest := []) (own_payCt (W := 0) (ctAt l Z a0 hw SC SF n0 h3_ (own_old w7_) r a1_ k1_ ([] : List Int32) ([x, y, (0 : Int32), (0 : Int32), (0 : Int32)] : List Int32) 0 3 Sz V3_ rfl rfl (by decide) (by decide) (fun q => absurd q (by decide))) w7_ (hw _ (List.mem_of_getElem? (i := 181) rfl)) (hw _ (List.mem_of_getElem? (i := 2) rfl)) hEL (by decide) (by decide)) (g := (mkF m 277 #[.val (.int i0), .val (.int i1), .val (.int i2), .val (.int i3), .val (.int (0 : Int32)), .val (.int (0 : Int32)), .val (.int a), .val (.int b), .val (.int x), .val (.int y), .val (.ref sp), .val (.ref sl), .val (.ref sn), .val (.ref sv), .val (.ref at'), .val (.ref r), .val (.ref a1_), .val (.int (0 : Int32))] [(.int (3 : Int32)), (.int (0 : Int32)), (.ref a1_), (.ref r)])) rfl (by rw [hml]; rfl) (lenOf pd_805342835 rfl) rfl (by show 2 * 0 + _ ≤ _; exact Nat.le_of_eq rfl) (Jvm.hb hby at_277) (by decide) (by decide) (fun v8_ T8_ vm8_ h8_ q8_ C8_ w8_ => ?_)
    obtain ⟨rfl, rfl⟩ := q8_
    have A8_ := own_at w8_
    show own_WP p e _ below s Z _ n0 _ T8_ (mkF m 280 #[.val (.int i0), .val (.int i1), .val (.int i2), .val (.int i3), .val (.int (0 : Int32)), .val (.int (0 : Int32)), .val (.int a), .val (.int b), .val (.int x), .val (.int y), .val (.ref sp), .val (.ref sl), .val (.ref sn), .val (.ref sv), .val (.ref at'), .val (.ref r), .val (.ref a1_), .val (.int (0 : Int32))] [(.int (1 : Int32))])
    refine own_by (T' := T8_) (g' := (mkF m 283 #[.val (.int i0), .val (.int i1), .val (.int i2), .val (.int i3), .val (.int (0 : Int32)), .val (.int (0 : Int32)), .val (.int a), .val (.int b), .val (.int x), .val (.int y), .val (.ref sp), .val (.ref sl), .val (.ref sn), .val (.ref sv), .val (.ref at'), .val (.ref r), .val (.ref a1_), .val (.int (0 : Int32))] [])) (fun t_ hr_ => XS.ifNo A8_ hx rfl (Jvm.hb hby at_280) rfl ((if0 _ _).trans (feq (by decide : ¬ (1 : Int32) = 0)).1) hr_) ?_
    refine own_by (T' := T8_) (g' := (mkF m 285 #[.val (.int i0), .val (.int i1), .val (.int i2), .val (.int i3), .val (.int (0 : Int32)), .val (.int (0 : Int32)), .val (.int a), .val (.int b), .val (.int x), .val (.int y), .val (.ref sp), .val (.ref sl), .val (.ref sn), .val (.ref sv), .val (.ref at'), .val (.ref r), .val (.ref a1_), .val (.int (0 : Int32))] [(.ref r)])) (fun t_ hr_ => XS.aload A8_ hx rfl (Jvm.hb hby at_283) rfl rfl hr_) ?_
    refine own_by (T' := T8_) (g' := (mkF m 287 #[.val (.int i0), .val (.int i1), .val (.int i2), .val (.int i3), .val (.int (0 : Int32)), .val (.int (0 : Int32)), .val (.int a), .val (.int b), .val (.int x), .val (.int y), .val (.ref sp), .val (.ref sl), .val (.ref sn), .val (.ref sv), .val (.ref at'), .val (.ref r), .val (.ref a1_), .val (.int (0 : Int32))] [(.ref a1_), (.ref r)])) (fun t_ hr_ => XS.aload A8_ hx rfl (Jvm.hb hby at_285) rfl rfl hr_) ?_
    refine own_by (T' := T8_) (g' := (mkF m 289 #[.val (.int i0), .val (.int i1), .val (.int i2), .val (.int i3), .val (.int (0 : Int32)), .val (.int (0 : Int32)), .val (.int a), .val (.int b), .val (.int x), .val (.int y), .val (.ref sp), .val (.ref sl), .val (.ref sn), .val (.ref sv), .val (.ref at'), .val (.ref r), .val (.ref a1_), .val (.int (0 : Int32))] [(.int (0 : Int32)), (.ref a1_), (.ref r)])) (fun t_ hr_ => XS.iload A8_ hx rfl (Jvm.hb hby at_287) rfl hr_) ?_
    refine own_by (T' := T8_) (g' := (mkF m 290 #[.val (.int i0), .val (.int i1), .val (.int i2), .val (.int i3), .val (.int (0 : Int32)), .val (.int (0 : Int32)), .val (.int a), .val (.int b), .val (.int x), .val (.int y), .val (.ref sp), .val (.ref sl), .val (.ref sn), .val (.ref sv), .val (.ref at'), .val (.ref r), .val (.ref a1_), .val (.int (0 : Int32))] [(.int (4 : Int32)), (.int (0 : Int32)), (.ref a1_), (.ref r)])) (fun t_ hr_ => XS.iconst A8_ hx rfl (Jvm.hb hby at_289) hr_) ?_
    refine own_callS w8_ hx (y := (⟨"com/example/sigillo/sigillo/soap/AttributeNamePinLaw", "at", "(Ljava/lang/String;[CII)Z"⟩ : MethodName)) (hw _ (List.mem_of_getElem? (i := 179) rfl)) (hw _ (List.mem_of_getElem? (i := 180) rfl)) (hw _ (List.mem_of_getElem? (i := 2) rfl)) (hw _ (List.mem_of_getElem? (i := 181) rfl)) (by decide) (kc := 0) (ks := 0) (argsL := [(.ref r), (.ref a1_), (.int (0 : Int32)), (.int (4 : Int32))]) (rest := []) (own_payCt (W := 0) (ctAt l Z a0 hw SC SF n0 h3_ (own_old w8_) r a1_ k1_ ([] : List Int32) ([x, y, (0 : Int32), (0 : Int32), (0 : Int32)] : List Int32) 0 4 Sz V3_ rfl rfl (by decide) (by decide) (fun q => absurd q (by decide))) w8_ (hw _ (List.mem_of_getElem? (i := 181) rfl)) (hw _ (List.mem_of_getElem? (i := 2) rfl)) hEL (by decide) (by decide)) (g := (mkF m 290 #[.val (.int i0), .val (.int i1), .val (.int i2), .val (.int i3), .val (.int (0 : Int32)), .val (.int (0 : Int32)), .val (.int a), .val (.int b), .val (.int x), .val (.int y), .val (.ref sp), .val (.ref sl), .val (.ref sn), .val (.ref sv), .val (.ref at'), .val (.ref r), .val (.ref a1_), .val (.int (0 : Int32))] [(.int (4 : Int32)), (.int (0 : Int32)), (.ref a1_), (.ref r)])) rfl (by rw [hml]; rfl) (lenOf pd_805342835 rfl) rfl (by show 2 * 0 + _ ≤ _; exact Nat.le_of_eq rfl) (Jvm.hb hby at_290) (by decide) (by decide) (fun v9_ T9_ vm9_ h9_ q9_ C9_ w9_ => ?_)
    obtain ⟨rfl, rfl⟩ := q9_
    have A9_ := own_at w9_
    show own_WP p e _ below s Z _ n0 _ T9_ (mkF m 293 #[.val (.int i0), .val (.int i1), .val (.int i2), .val (.int i3), .val (.int (0 : Int32)), .val (.int (0 : Int32)), .val (.int a), .val (.int b), .val (.int x), .val (.int y), .val (.ref sp), .val (.ref sl), .val (.ref sn), .val (.ref sv), .val (.ref at'), .val (.ref r), .val (.ref a1_), .val (.int (0 : Int32))] [(.int (1 : Int32))])
    refine own_by (T' := T9_) (g' := (mkF m 296 #[.val (.int i0), .val (.int i1), .val (.int i2), .val (.int i3), .val (.int (0 : Int32)), .val (.int (0 : Int32)), .val (.int a), .val (.int b), .val (.int x), .val (.int y), .val (.ref sp), .val (.ref sl), .val (.ref sn), .val (.ref sv), .val (.ref at'), .val (.ref r), .val (.ref a1_), .val (.int (0 : Int32))] [])) (fun t_ hr_ => XS.ifNo A9_ hx rfl (Jvm.hb hby at_293) rfl ((if0 _ _).trans (feq (by decide : ¬ (1 : Int32) = 0)).1) hr_) ?_
    refine own_by (T' := T9_) (g' := (mkF m 297 #[.val (.int i0), .val (.int i1), .val (.int i2), .val (.int i3), .val (.int (0 : Int32)), .val (.int (0 : Int32)), .val (.int a), .val (.int b), .val (.int x), .val (.int y), .val (.ref sp), .val (.ref sl), .val (.ref sn), .val (.ref sv), .val (.ref at'), .val (.ref r), .val (.ref a1_), .val (.int (0 : Int32))] [(.int (1 : Int32))])) (fun t_ hr_ => XS.iconst A9_ hx rfl (Jvm.hb hby at_296) hr_) ?_
    refine own_by (T' := T9_) (g' := (mkF m 301 #[.val (.int i0), .val (.int i1), .val (.int i2), .val (.int i3), .val (.int (0 : Int32)), .val (.int (0 : Int32)), .val (.int a), .val (.int b), .val (.int x), .val (.int y), .val (.ref sp), .val (.ref sl), .val (.ref sn), .val (.ref sv), .val (.ref at'), .val (.ref r), .val (.ref a1_), .val (.int (0 : Int32))] [(.int (1 : Int32))])) (fun t_ hr_ => XS.goto A9_ hx rfl (pc0 := 297) (pc' := 301) rfl (Jvm.hb hby at_297) (by decide) (by decide) hr_) ?_
    exact own_retZ w9_ hx hEL hlk hret (Or.inr rfl) (Jvm.hb hby at_301) (by decide) (by decide) rfl
  · show own_WP p e _ below s Z _ n0 _ T0 (mkF m 139 #[.val (.int i0), .val (.int i1), .val (.int i2), .val (.int i3), .val (.int (0 : Int32)), .val (.int (1 : Int32)), .val (.int a), .val (.int b), .val (.int x), .val (.int y), .val (.ref sp), .val (.ref sl), .val (.ref sn), .val (.ref sv), .val (.ref at'), .val (.ref r), .unset, .unset] [])
    refine own_by (T' := T0) (g' := (mkF m 140 #[.val (.int i0), .val (.int i1), .val (.int i2), .val (.int i3), .val (.int (0 : Int32)), .val (.int (1 : Int32)), .val (.int a), .val (.int b), .val (.int x), .val (.int y), .val (.ref sp), .val (.ref sl), .val (.ref sn), .val (.ref sv), .val (.ref at'), .val (.ref r), .unset, .unset] [(.int (5 : Int32))])) (fun t_ hr_ => XS.iconst A_0 hx rfl (Jvm.hb hby at_139) hr_) ?_
    refine own_newP w0 hx (hw _ (List.mem_of_getElem? (i := 7) rfl)) (g := (mkF m 140 #[.val (.int i0), .val (.int i1), .val (.int i2), .val (.int i3), .val (.int (0 : Int32)), .val (.int (1 : Int32)), .val (.int a), .val (.int b), .val (.int x), .val (.int y), .val (.ref sp), .val (.ref sl), .val (.ref sn), .val (.ref sv), .val (.ref at'), .val (.ref r), .unset, .unset] [(.int (5 : Int32))])) rfl (Jvm.hb hby at_140) rfl (by decide) (cap := 5) (by decide) (by decide) (by decide) (by decide) (fun T10_ h10_ a10_ k10_ g10_ E10_ V10_ w10_ => ?_)
    have A10_ := own_at w10_
    show own_WP p e _ below s Z _ n0 _ T10_ (mkF m 142 #[.val (.int i0), .val (.int i1), .val (.int i2), .val (.int i3), .val (.int (0 : Int32)), .val (.int (1 : Int32)), .val (.int a), .val (.int b), .val (.int x), .val (.int y), .val (.ref sp), .val (.ref sl), .val (.ref sn), .val (.ref sv), .val (.ref at'), .val (.ref r), .unset, .unset] [(.ref a10_)])
    have ge : n0 ≤ a10_ := by rw [g10_]; exact own_n0 w0
    have U0 : Arv Z h10_ a10_ k10_ .char (5 : Int32) [(.int (0 : Int32)), (.int (0 : Int32)), (.int (0 : Int32)), (.int (0 : Int32)), (.int (0 : Int32))] (.int 0) := V10_.pad (vs' := [(.int (0 : Int32)), (.int (0 : Int32)), (.int (0 : Int32)), (.int (0 : Int32)), (.int (0 : Int32))]) (fun i => pad_rep [] (.int (0 : Int32)) 5 i)
    have gez : h0.size ≤ a10_ := by rw [g10_]; exact Nat.le_refl _
    refine own_by (T' := T10_) (g' := (mkF m 144 #[.val (.int i0), .val (.int i1), .val (.int i2), .val (.int i3), .val (.int (0 : Int32)), .val (.int (1 : Int32)), .val (.int a), .val (.int b), .val (.int x), .val (.int y), .val (.ref sp), .val (.ref sl), .val (.ref sn), .val (.ref sv), .val (.ref at'), .val (.ref r), .val (.ref a10_), .unset] [])) (fun t_ hr_ => XS.astore A10_ hx rfl (Jvm.hb hby at_142) rfl rfl (l' := #[.val (.int i0), .val (.int i1), .val (.int i2), .val (.int i3), .val (.int (0 : Int32)), .val (.int (1 : Int32)), .val (.int a), .val (.int b), .val (.int x), .val (.int y), .val (.ref sp), .val (.ref sl), .val (.ref sn), .val (.ref sv), .val (.ref at'), .val (.ref r), .val (.ref a10_), .unset]) rfl hr_) ?_
    refine own_by (T' := T10_) (g' := (mkF m 146 #[.val (.int i0), .val (.int i1), .val (.int i2), .val (.int i3), .val (.int (0 : Int32)), .val (.int (1 : Int32)), .val (.int a), .val (.int b), .val (.int x), .val (.int y), .val (.ref sp), .val (.ref sl), .val (.ref sn), .val (.ref sv), .val (.ref at'), .val (.ref r), .val (.ref a10_), .unset] [(.int (0 : Int32))])) (fun t_ hr_ => XS.iload A10_ hx rfl (Jvm.hb hby at_144) rfl hr_) ?_
    refine own_by (T' := T10_) (g' := (mkF m 149 #[.val (.int i0), .val (.int i1), .val (.int i2), .val (.int i3), .val (.int (0 : Int32)), .val (.int (1 : Int32)), .val (.int a), .val (.int b), .val (.int x), .val (.int y), .val (.ref sp), .val (.ref sl), .val (.ref sn), .val (.ref sv), .val (.ref at'), .val (.ref r), .val (.ref a10_), .unset] [])) (fun t_ hr_ => XS.ifNo A10_ hx rfl (Jvm.hb hby at_146) rfl ((if0 _ _).trans (teq (rfl : (0 : Int32) = 0)).2) hr_) ?_
    refine own_by (T' := T10_) (g' := (mkF m 151 #[.val (.int i0), .val (.int i1), .val (.int i2), .val (.int i3), .val (.int (0 : Int32)), .val (.int (1 : Int32)), .val (.int a), .val (.int b), .val (.int x), .val (.int y), .val (.ref sp), .val (.ref sl), .val (.ref sn), .val (.ref sv), .val (.ref at'), .val (.ref r), .val (.ref a10_), .unset] [(.ref a10_)])) (fun t_ hr_ => XS.aload A10_ hx rfl (Jvm.hb hby at_149) rfl rfl hr_) ?_
    refine own_by (T' := T10_) (g' := (mkF m 152 #[.val (.int i0), .val (.int i1), .val (.int i2), .val (.int i3), .val (.int (0 : Int32)), .val (.int (1 : Int32)), .val (.int a), .val (.int b), .val (.int x), .val (.int y), .val (.ref sp), .val (.ref sl), .val (.ref sn), .val (.ref sv), .val (.ref at'), .val (.ref r), .val (.ref a10_), .unset] [(.int (0 : Int32)), (.ref a10_)])) (fun t_ hr_ => XS.iconst A10_ hx rfl (Jvm.hb hby at_151) hr_) ?_
    refine own_by (T' := T10_) (g' := (mkF m 154 #[.val (.int i0), .val (.int i1), .val (.int i2), .val (.int i3), .val (.int (0 : Int32)), .val (.int (1 : Int32)), .val (.int a), .val (.int b), .val (.int x), .val (.int y), .val (.ref sp), .val (.ref sl), .val (.ref sn), .val (.ref sv), .val (.ref at'), .val (.ref r), .val (.ref a10_), .unset] [(.int x), (.int (0 : Int32)), (.ref a10_)])) (fun t_ hr_ => XS.iload A10_ hx rfl (Jvm.hb hby at_152) rfl hr_) ?_
    refine own_castore w10_ hx U0 (by decide) (own_rng255 rx) (i := 0) rfl (by simp) ge (g := (mkF m 154 #[.val (.int i0), .val (.int i1), .val (.int i2), .val (.int i3), .val (.int (0 : Int32)), .val (.int (1 : Int32)), .val (.int a), .val (.int b), .val (.int x), .val (.int y), .val (.ref sp), .val (.ref sl), .val (.ref sn), .val (.ref sv), .val (.ref at'), .val (.ref r), .val (.ref a10_), .unset] [(.int x), (.int (0 : Int32)), (.ref a10_)])) rfl rfl (Jvm.hb hby at_154) (fun T11_ h11_ W11_ V11_ w11_ => ?_)
    have A11_ := own_at w11_
    show own_WP p e _ below s Z _ n0 _ T11_ (mkF m 155 #[.val (.int i0), .val (.int i1), .val (.int i2), .val (.int i3), .val (.int (0 : Int32)), .val (.int (1 : Int32)), .val (.int a), .val (.int b), .val (.int x), .val (.int y), .val (.ref sp), .val (.ref sl), .val (.ref sn), .val (.ref sv), .val (.ref at'), .val (.ref r), .val (.ref a10_), .unset] [])
    have EeW11_ := own_extWr E10_ W11_ gez
    refine own_by (T' := T11_) (g' := (mkF m 157 #[.val (.int i0), .val (.int i1), .val (.int i2), .val (.int i3), .val (.int (0 : Int32)), .val (.int (1 : Int32)), .val (.int a), .val (.int b), .val (.int x), .val (.int y), .val (.ref sp), .val (.ref sl), .val (.ref sn), .val (.ref sv), .val (.ref at'), .val (.ref r), .val (.ref a10_), .unset] [(.ref a10_)])) (fun t_ hr_ => XS.aload A11_ hx rfl (Jvm.hb hby at_155) rfl rfl hr_) ?_
    refine own_by (T' := T11_) (g' := (mkF m 158 #[.val (.int i0), .val (.int i1), .val (.int i2), .val (.int i3), .val (.int (0 : Int32)), .val (.int (1 : Int32)), .val (.int a), .val (.int b), .val (.int x), .val (.int y), .val (.ref sp), .val (.ref sl), .val (.ref sn), .val (.ref sv), .val (.ref at'), .val (.ref r), .val (.ref a10_), .unset] [(.int (1 : Int32)), (.ref a10_)])) (fun t_ hr_ => XS.iconst A11_ hx rfl (Jvm.hb hby at_157) hr_) ?_
    refine own_by (T' := T11_) (g' := (mkF m 160 #[.val (.int i0), .val (.int i1), .val (.int i2), .val (.int i3), .val (.int (0 : Int32)), .val (.int (1 : Int32)), .val (.int a), .val (.int b), .val (.int x), .val (.int y), .val (.ref sp), .val (.ref sl), .val (.ref sn), .val (.ref sv), .val (.ref at'), .val (.ref r), .val (.ref a10_), .unset] [(.int y), (.int (1 : Int32)), (.ref a10_)])) (fun t_ hr_ => XS.iload A11_ hx rfl (Jvm.hb hby at_158) rfl hr_) ?_
    refine own_castore w11_ hx V11_ (by decide) (own_rng255 ry) (i := 1) rfl (by simp) ge (g := (mkF m 160 #[.val (.int i0), .val (.int i1), .val (.int i2), .val (.int i3), .val (.int (0 : Int32)), .val (.int (1 : Int32)), .val (.int a), .val (.int b), .val (.int x), .val (.int y), .val (.ref sp), .val (.ref sl), .val (.ref sn), .val (.ref sv), .val (.ref at'), .val (.ref r), .val (.ref a10_), .unset] [(.int y), (.int (1 : Int32)), (.ref a10_)])) rfl rfl (Jvm.hb hby at_160) (fun T12_ h12_ W12_ V12_ w12_ => ?_)
    have A12_ := own_at w12_
    show own_WP p e _ below s Z _ n0 _ T12_ (mkF m 161 #[.val (.int i0), .val (.int i1), .val (.int i2), .val (.int i3), .val (.int (0 : Int32)), .val (.int (1 : Int32)), .val (.int a), .val (.int b), .val (.int x), .val (.int y), .val (.ref sp), .val (.ref sl), .val (.ref sn), .val (.ref sv), .val (.ref at'), .val (.ref r), .val (.ref a10_), .unset] [])
    have EeW12_ := own_extWr EeW11_ W12_ gez
    refine own_by (T' := T12_) (g' := (mkF m 163 #[.val (.int i0), .val (.int i1), .val (.int i2), .val (.int i3), .val (.int (0 : Int32)), .val (.int (1 : Int32)), .val (.int a), .val (.int b), .val (.int x), .val (.int y), .val (.ref sp), .val (.ref sl), .val (.ref sn), .val (.ref sv), .val (.ref at'), .val (.ref r), .val (.ref a10_), .unset] [(.int (1 : Int32))])) (fun t_ hr_ => XS.iload A12_ hx rfl (Jvm.hb hby at_161) rfl hr_) ?_
    refine own_by (T' := T12_) (g' := (mkF m 165 #[.val (.int i0), .val (.int i1), .val (.int i2), .val (.int i3), .val (.int (0 : Int32)), .val (.int (1 : Int32)), .val (.int a), .val (.int b), .val (.int x), .val (.int y), .val (.ref sp), .val (.ref sl), .val (.ref sn), .val (.ref sv), .val (.ref at'), .val (.ref r), .val (.ref a10_), .val (.int (1 : Int32))] [])) (fun t_ hr_ => XS.istore A12_ hx rfl (Jvm.hb hby at_163) rfl (l' := #[.val (.int i0), .val (.int i1), .val (.int i2), .val (.int i3), .val (.int (0 : Int32)), .val (.int (1 : Int32)), .val (.int a), .val (.int b), .val (.int x), .val (.int y), .val (.ref sp), .val (.ref sl), .val (.ref sn), .val (.ref sv), .val (.ref at'), .val (.ref r), .val (.ref a10_), .val (.int (1 : Int32))]) rfl hr_) ?_
    refine own_by (T' := T12_) (g' := (mkF m 214 #[.val (.int i0), .val (.int i1), .val (.int i2), .val (.int i3), .val (.int (0 : Int32)), .val (.int (1 : Int32)), .val (.int a), .val (.int b), .val (.int x), .val (.int y), .val (.ref sp), .val (.ref sl), .val (.ref sn), .val (.ref sv), .val (.ref at'), .val (.ref r), .val (.ref a10_), .val (.int (1 : Int32))] [])) (fun t_ hr_ => XS.goto A12_ hx rfl (pc0 := 165) (pc' := 214) rfl (Jvm.hb hby at_165) (by decide) (by decide) hr_) ?_
    refine own_by (T' := T12_) (g' := (mkF m 216 #[.val (.int i0), .val (.int i1), .val (.int i2), .val (.int i3), .val (.int (0 : Int32)), .val (.int (1 : Int32)), .val (.int a), .val (.int b), .val (.int x), .val (.int y), .val (.ref sp), .val (.ref sl), .val (.ref sn), .val (.ref sv), .val (.ref at'), .val (.ref r), .val (.ref a10_), .val (.int (1 : Int32))] [(.ref r)])) (fun t_ hr_ => XS.aload A12_ hx rfl (Jvm.hb hby at_214) rfl rfl hr_) ?_
    refine own_by (T' := T12_) (g' := (mkF m 219 #[.val (.int i0), .val (.int i1), .val (.int i2), .val (.int i3), .val (.int (0 : Int32)), .val (.int (1 : Int32)), .val (.int a), .val (.int b), .val (.int x), .val (.int y), .val (.ref sp), .val (.ref sl), .val (.ref sn), .val (.ref sv), .val (.ref at'), .val (.ref r), .val (.ref a10_), .val (.int (1 : Int32))] [])) (fun t_ hr_ => XS.ifnullNo A12_ hx rfl (Jvm.hb hby at_216) rfl hr_) ?_
    refine own_by (T' := T12_) (g' := (mkF m 221 #[.val (.int i0), .val (.int i1), .val (.int i2), .val (.int i3), .val (.int (0 : Int32)), .val (.int (1 : Int32)), .val (.int a), .val (.int b), .val (.int x), .val (.int y), .val (.ref sp), .val (.ref sl), .val (.ref sn), .val (.ref sv), .val (.ref at'), .val (.ref r), .val (.ref a10_), .val (.int (1 : Int32))] [(.ref r)])) (fun t_ hr_ => XS.aload A12_ hx rfl (Jvm.hb hby at_219) rfl rfl hr_) ?_
    have Sz : own_Str Z h12_ r ([x] : List Int32) := by first | exact S0.ext EeW12_ | (have q := S0.ext EeW12_; simpa [own_nc] using q)
    refine own_callV w12_ hx (y := (⟨"java/lang/String", "length", "()I"⟩ : MethodName)) (z := (⟨"java/lang/String", "length", "()I"⟩ : MethodName)) (hw _ (List.mem_of_getElem? (i := 178) rfl)) (hw _ (List.mem_of_getElem? (i := 96) rfl)) (fun u hu => notFace_of_selects (args := #[]) (mvT hu (hw _ (List.mem_of_getElem? (i := 98) rfl)))) (hw _ (List.mem_of_getElem? (i := 98) rfl)) (hw _ (List.mem_of_getElem? (i := 97) rfl)) (by decide) (kc := 0) (ks := 0) (a := r) (argsL := []) (rest := []) (own_payLen (W := 0) w12_ hEL (own_wLen hw) (hw _ (List.mem_of_getElem? (i := 5) rfl)) SC Sz (by decide) (by decide)) Sz.exa (g := (mkF m 221 #[.val (.int i0), .val (.int i1), .val (.int i2), .val (.int i3), .val (.int (0 : Int32)), .val (.int (1 : Int32)), .val (.int a), .val (.int b), .val (.int x), .val (.int y), .val (.ref sp), .val (.ref sl), .val (.ref sn), .val (.ref sv), .val (.ref at'), .val (.ref r), .val (.ref a10_), .val (.int (1 : Int32))] [(.ref r)])) rfl (by rw [hml]; rfl) (lenOf pd_691884 rfl) rfl (by show 2 * 0 + _ ≤ _; exact Nat.le_of_eq rfl) (Jvm.hb hby at_221) (by decide) (by decide) (fun v13_ T13_ vm13_ h13_ q13_ C13_ w13_ => ?_)
    obtain ⟨rfl, rfl⟩ := q13_
    have A13_ := own_at w13_
    show own_WP p e _ below s Z _ n0 _ T13_ (mkF m 224 #[.val (.int i0), .val (.int i1), .val (.int i2), .val (.int i3), .val (.int (0 : Int32)), .val (.int (1 : Int32)), .val (.int a), .val (.int b), .val (.int x), .val (.int y), .val (.ref sp), .val (.ref sl), .val (.ref sn), .val (.ref sv), .val (.ref at'), .val (.ref r), .val (.ref a10_), .val (.int (1 : Int32))] [(.int (Int32.ofNat ([x] : List Int32).length))])
    refine own_by (T' := T13_) (g' := (mkF m 226 #[.val (.int i0), .val (.int i1), .val (.int i2), .val (.int i3), .val (.int (0 : Int32)), .val (.int (1 : Int32)), .val (.int a), .val (.int b), .val (.int x), .val (.int y), .val (.ref sp), .val (.ref sl), .val (.ref sn), .val (.ref sv), .val (.ref at'), .val (.ref r), .val (.ref a10_), .val (.int (1 : Int32))] [(.int (1 : Int32)), (.int (Int32.ofNat ([x] : List Int32).length))])) (fun t_ hr_ => XS.iload A13_ hx rfl (Jvm.hb hby at_224) rfl hr_) ?_
    refine own_by (T' := T13_) (g' := (mkF m 231 #[.val (.int i0), .val (.int i1), .val (.int i2), .val (.int i3), .val (.int (0 : Int32)), .val (.int (1 : Int32)), .val (.int a), .val (.int b), .val (.int x), .val (.int y), .val (.ref sp), .val (.ref sl), .val (.ref sn), .val (.ref sv), .val (.ref at'), .val (.ref r), .val (.ref a10_), .val (.int (1 : Int32))] [])) (fun t_ hr_ => XS.icmpYes A13_ hx rfl (pc0 := 226) (pc' := 231) rfl (Jvm.hb hby at_226) rfl (teq (rfl)).1 (by decide) (by decide) hr_) ?_
    refine own_by (T' := T13_) (g' := (mkF m 233 #[.val (.int i0), .val (.int i1), .val (.int i2), .val (.int i3), .val (.int (0 : Int32)), .val (.int (1 : Int32)), .val (.int a), .val (.int b), .val (.int x), .val (.int y), .val (.ref sp), .val (.ref sl), .val (.ref sn), .val (.ref sv), .val (.ref at'), .val (.ref r), .val (.ref a10_), .val (.int (1 : Int32))] [(.ref r)])) (fun t_ hr_ => XS.aload A13_ hx rfl (Jvm.hb hby at_231) rfl rfl hr_) ?_
    refine own_by (T' := T13_) (g' := (mkF m 235 #[.val (.int i0), .val (.int i1), .val (.int i2), .val (.int i3), .val (.int (0 : Int32)), .val (.int (1 : Int32)), .val (.int a), .val (.int b), .val (.int x), .val (.int y), .val (.ref sp), .val (.ref sl), .val (.ref sn), .val (.ref sv), .val (.ref at'), .val (.ref r), .val (.ref a10_), .val (.int (1 : Int32))] [(.ref a10_), (.ref r)])) (fun t_ hr_ => XS.aload A13_ hx rfl (Jvm.hb hby at_233) rfl rfl hr_) ?_
    refine own_by (T' := T13_) (g' := (mkF m 237 #[.val (.int i0), .val (.int i1), .val (.int i2), .val (.int i3), .val (.int (0 : Int32)), .val (.int (1 : Int32)), .val (.int a), .val (.int b), .val (.int x), .val (.int y), .val (.ref sp), .val (.ref sl), .val (.ref sn), .val (.ref sv), .val (.ref at'), .val (.ref r), .val (.ref a10_), .val (.int (1 : Int32))] [(.int (1 : Int32)), (.ref a10_), (.ref r)])) (fun t_ hr_ => XS.iload A13_ hx rfl (Jvm.hb hby at_235) rfl hr_) ?_
    refine own_by (T' := T13_) (g' := (mkF m 238 #[.val (.int i0), .val (.int i1), .val (.int i2), .val (.int i3), .val (.int (0 : Int32)), .val (.int (1 : Int32)), .val (.int a), .val (.int b), .val (.int x), .val (.int y), .val (.ref sp), .val (.ref sl), .val (.ref sn), .val (.ref sv), .val (.ref at'), .val (.ref r), .val (.ref a10_), .val (.int (1 : Int32))] [(.int (0 : Int32)), (.int (1 : Int32)), (.ref a10_), (.ref r)])) (fun t_ hr_ => XS.iconst A13_ hx rfl (Jvm.hb hby at_237) hr_) ?_
    refine own_callS w13_ hx (y := (⟨"com/example/sigillo/sigillo/soap/AttributeNamePinLaw", "at", "(Ljava/lang/String;[CII)Z"⟩ : MethodName)) (hw _ (List.mem_of_getElem? (i := 179) rfl)) (hw _ (List.mem_of_getElem? (i := 180) rfl)) (hw _ (List.mem_of_getElem? (i := 2) rfl)) (hw _ (List.mem_of_getElem? (i := 181) rfl)) (by decide) (kc := 0) (ks := 0) (argsL := [(.ref r), (.ref a10_), (.int (1 : Int32)), (.int (0 : Int32))]) (rest := []) (own_payCt (W := 0) (ctAt l Z a0 hw SC SF n0 h12_ (own_old w13_) r a10_ k10_ ([x] : List Int32) ([x, y, (0 : Int32), (0 : Int32), (0 : Int32)] : List Int32) 1 0 Sz V12_ rfl rfl (by decide) (by decide) (fun q => rfl)) w13_ (hw _ (List.mem_of_getElem? (i := 181) rfl)) (hw _ (List.mem_of_getElem? (i := 2) rfl)) hEL (by decide) (by decide)) (g := (mkF m 238 #[.val (.int i0), .val (.int i1), .val (.int i2), .val (.int i3), .val (.int (0 : Int32)), .val (.int (1 : Int32)), .val (.int a), .val (.int b), .val (.int x), .val (.int y), .val (.ref sp), .val (.ref sl), .val (.ref sn), .val (.ref sv), .val (.ref at'), .val (.ref r), .val (.ref a10_), .val (.int (1 : Int32))] [(.int (0 : Int32)), (.int (1 : Int32)), (.ref a10_), (.ref r)])) rfl (by rw [hml]; rfl) (lenOf pd_805342835 rfl) rfl (by show 2 * 0 + _ ≤ _; exact Nat.le_of_eq rfl) (Jvm.hb hby at_238) (by decide) (by decide) (fun v14_ T14_ vm14_ h14_ q14_ C14_ w14_ => ?_)
    obtain ⟨rfl, rfl⟩ := q14_
    have A14_ := own_at w14_
    show own_WP p e _ below s Z _ n0 _ T14_ (mkF m 241 #[.val (.int i0), .val (.int i1), .val (.int i2), .val (.int i3), .val (.int (0 : Int32)), .val (.int (1 : Int32)), .val (.int a), .val (.int b), .val (.int x), .val (.int y), .val (.ref sp), .val (.ref sl), .val (.ref sn), .val (.ref sv), .val (.ref at'), .val (.ref r), .val (.ref a10_), .val (.int (1 : Int32))] [(.int (1 : Int32))])
    refine own_by (T' := T14_) (g' := (mkF m 244 #[.val (.int i0), .val (.int i1), .val (.int i2), .val (.int i3), .val (.int (0 : Int32)), .val (.int (1 : Int32)), .val (.int a), .val (.int b), .val (.int x), .val (.int y), .val (.ref sp), .val (.ref sl), .val (.ref sn), .val (.ref sv), .val (.ref at'), .val (.ref r), .val (.ref a10_), .val (.int (1 : Int32))] [])) (fun t_ hr_ => XS.ifNo A14_ hx rfl (Jvm.hb hby at_241) rfl ((if0 _ _).trans (feq (by decide : ¬ (1 : Int32) = 0)).1) hr_) ?_
    refine own_by (T' := T14_) (g' := (mkF m 246 #[.val (.int i0), .val (.int i1), .val (.int i2), .val (.int i3), .val (.int (0 : Int32)), .val (.int (1 : Int32)), .val (.int a), .val (.int b), .val (.int x), .val (.int y), .val (.ref sp), .val (.ref sl), .val (.ref sn), .val (.ref sv), .val (.ref at'), .val (.ref r), .val (.ref a10_), .val (.int (1 : Int32))] [(.ref r)])) (fun t_ hr_ => XS.aload A14_ hx rfl (Jvm.hb hby at_244) rfl rfl hr_) ?_
    refine own_by (T' := T14_) (g' := (mkF m 248 #[.val (.int i0), .val (.int i1), .val (.int i2), .val (.int i3), .val (.int (0 : Int32)), .val (.int (1 : Int32)), .val (.int a), .val (.int b), .val (.int x), .val (.int y), .val (.ref sp), .val (.ref sl), .val (.ref sn), .val (.ref sv), .val (.ref at'), .val (.ref r), .val (.ref a10_), .val (.int (1 : Int32))] [(.ref a10_), (.ref r)])) (fun t_ hr_ => XS.aload A14_ hx rfl (Jvm.hb hby at_246) rfl rfl hr_) ?_
    refine own_by (T' := T14_) (g' := (mkF m 250 #[.val (.int i0), .val (.int i1), .val (.int i2), .val (.int i3), .val (.int (0 : Int32)), .val (.int (1 : Int32)), .val (.int a), .val (.int b), .val (.int x), .val (.int y), .val (.ref sp), .val (.ref sl), .val (.ref sn), .val (.ref sv), .val (.ref at'), .val (.ref r), .val (.ref a10_), .val (.int (1 : Int32))] [(.int (1 : Int32)), (.ref a10_), (.ref r)])) (fun t_ hr_ => XS.iload A14_ hx rfl (Jvm.hb hby at_248) rfl hr_) ?_
    refine own_by (T' := T14_) (g' := (mkF m 251 #[.val (.int i0), .val (.int i1), .val (.int i2), .val (.int i3), .val (.int (0 : Int32)), .val (.int (1 : Int32)), .val (.int a), .val (.int b), .val (.int x), .val (.int y), .val (.ref sp), .val (.ref sl), .val (.ref sn), .val (.ref sv), .val (.ref at'), .val (.ref r), .val (.ref a10_), .val (.int (1 : Int32))] [(.int (1 : Int32)), (.int (1 : Int32)), (.ref a10_), (.ref r)])) (fun t_ hr_ => XS.iconst A14_ hx rfl (Jvm.hb hby at_250) hr_) ?_
    refine own_callS w14_ hx (y := (⟨"com/example/sigillo/sigillo/soap/AttributeNamePinLaw", "at", "(Ljava/lang/String;[CII)Z"⟩ : MethodName)) (hw _ (List.mem_of_getElem? (i := 179) rfl)) (hw _ (List.mem_of_getElem? (i := 180) rfl)) (hw _ (List.mem_of_getElem? (i := 2) rfl)) (hw _ (List.mem_of_getElem? (i := 181) rfl)) (by decide) (kc := 0) (ks := 0) (argsL := [(.ref r), (.ref a10_), (.int (1 : Int32)), (.int (1 : Int32))]) (rest := []) (own_payCt (W := 0) (ctAt l Z a0 hw SC SF n0 h12_ (own_old w14_) r a10_ k10_ ([x] : List Int32) ([x, y, (0 : Int32), (0 : Int32), (0 : Int32)] : List Int32) 1 1 Sz V12_ rfl rfl (by decide) (by decide) (fun q => absurd q (by decide))) w14_ (hw _ (List.mem_of_getElem? (i := 181) rfl)) (hw _ (List.mem_of_getElem? (i := 2) rfl)) hEL (by decide) (by decide)) (g := (mkF m 251 #[.val (.int i0), .val (.int i1), .val (.int i2), .val (.int i3), .val (.int (0 : Int32)), .val (.int (1 : Int32)), .val (.int a), .val (.int b), .val (.int x), .val (.int y), .val (.ref sp), .val (.ref sl), .val (.ref sn), .val (.ref sv), .val (.ref at'), .val (.ref r), .val (.ref a10_), .val (.int (1 : Int32))] [(.int (1 : Int32)), (.int (1 : Int32)), (.ref a10_), (.ref r)])) rfl (by rw [hml]; rfl) (lenOf pd_805342835 rfl) rfl (by show 2 * 0 + _ ≤ _; exact Nat.le_of_eq rfl) (Jvm.hb hby at_251) (by decide) (by decide) (fun v15_ T15_ vm15_ h15_ q15_ C15_ w15_ => ?_)
    obtain ⟨rfl, rfl⟩ := q15_
    have A15_ := own_at w15_
    show own_WP p e _ below s Z _ n0 _ T15_ (mkF m 254 #[.val (.int i0), .val (.int i1), .val (.int i2), .val (.int i3), .val (.int (0 : Int32)), .val (.int (1 : Int32)), .val (.int a), .val (.int b), .val (.int x), .val (.int y), .val (.ref sp), .val (.ref sl), .val (.ref sn), .val (.ref sv), .val (.ref at'), .val (.ref r), .val (.ref a10_), .val (.int (1 : Int32))] [(.int (1 : Int32))])
    refine own_by (T' := T15_) (g' := (mkF m 257 #[.val (.int i0), .val (.int i1), .val (.int i2), .val (.int i3), .val (.int (0 : Int32)), .val (.int (1 : Int32)), .val (.int a), .val (.int b), .val (.int x), .val (.int y), .val (.ref sp), .val (.ref sl), .val (.ref sn), .val (.ref sv), .val (.ref at'), .val (.ref r), .val (.ref a10_), .val (.int (1 : Int32))] [])) (fun t_ hr_ => XS.ifNo A15_ hx rfl (Jvm.hb hby at_254) rfl ((if0 _ _).trans (feq (by decide : ¬ (1 : Int32) = 0)).1) hr_) ?_
    refine own_by (T' := T15_) (g' := (mkF m 259 #[.val (.int i0), .val (.int i1), .val (.int i2), .val (.int i3), .val (.int (0 : Int32)), .val (.int (1 : Int32)), .val (.int a), .val (.int b), .val (.int x), .val (.int y), .val (.ref sp), .val (.ref sl), .val (.ref sn), .val (.ref sv), .val (.ref at'), .val (.ref r), .val (.ref a10_), .val (.int (1 : Int32))] [(.ref r)])) (fun t_ hr_ => XS.aload A15_ hx rfl (Jvm.hb hby at_257) rfl rfl hr_) ?_
    refine own_by (T' := T15_) (g' := (mkF m 261 #[.val (.int i0), .val (.int i1), .val (.int i2), .val (.int i3), .val (.int (0 : Int32)), .val (.int (1 : Int32)), .val (.int a), .val (.int b), .val (.int x), .val (.int y), .val (.ref sp), .val (.ref sl), .val (.ref sn), .val (.ref sv), .val (.ref at'), .val (.ref r), .val (.ref a10_), .val (.int (1 : Int32))] [(.ref a10_), (.ref r)])) (fun t_ hr_ => XS.aload A15_ hx rfl (Jvm.hb hby at_259) rfl rfl hr_) ?_
    refine own_by (T' := T15_) (g' := (mkF m 263 #[.val (.int i0), .val (.int i1), .val (.int i2), .val (.int i3), .val (.int (0 : Int32)), .val (.int (1 : Int32)), .val (.int a), .val (.int b), .val (.int x), .val (.int y), .val (.ref sp), .val (.ref sl), .val (.ref sn), .val (.ref sv), .val (.ref at'), .val (.ref r), .val (.ref a10_), .val (.int (1 : Int32))] [(.int (1 : Int32)), (.ref a10_), (.ref r)])) (fun t_ hr_ => XS.iload A15_ hx rfl (Jvm.hb hby at_261) rfl hr_) ?_
    refine own_by (T' := T15_) (g' := (mkF m 264 #[.val (.int i0), .val (.int i1), .val (.int i2), .val (.int i3), .val (.int (0 : Int32)), .val (.int (1 : Int32)), .val (.int a), .val (.int b), .val (.int x), .val (.int y), .val (.ref sp), .val (.ref sl), .val (.ref sn), .val (.ref sv), .val (.ref at'), .val (.ref r), .val (.ref a10_), .val (.int (1 : Int32))] [(.int (2 : Int32)), (.int (1 : Int32)), (.ref a10_), (.ref r)])) (fun t_ hr_ => XS.iconst A15_ hx rfl (Jvm.hb hby at_263) hr_) ?_
    refine own_callS w15_ hx (y := (⟨"com/example/sigillo/sigillo/soap/AttributeNamePinLaw", "at", "(Ljava/lang/String;[CII)Z"⟩ : MethodName)) (hw _ (List.mem_of_getElem? (i := 179) rfl)) (hw _ (List.mem_of_getElem? (i := 180) rfl)) (hw _ (List.mem_of_getElem? (i := 2) rfl)) (hw _ (List.mem_of_getElem? (i := 181) rfl)) (by decide) (kc := 0) (ks := 0) (argsL := [(.ref r), (.ref a10_), (.int (1 : Int32)), (.int (2 : Int32))]) (rest := []) (own_payCt (W := 0) (ctAt l Z a0 hw SC SF n0 h12_ (own_old w15_) r a10_ k10_ ([x] : List Int32) ([x, y, (0 : Int32), (0 : Int32), (0 : Int32)] : List Int32) 1 2 Sz V12_ rfl rfl (by decide) (by decide) (fun q => absurd q (by decide))) w15_ (hw _ (List.mem_of_getElem? (i := 181) rfl)) (hw _ (List.mem_of_getElem? (i := 2) rfl)) hEL (by decide) (by decide)) (g := (mkF m 264 #[.val (.int i0), .val (.int i1), .val (.int i2), .val (.int i3), .val (.int (0 : Int32)), .val (.int (1 : Int32)), .val (.int a), .val (.int b), .val (.int x), .val (.int y), .val (.ref sp), .val (.ref sl), .val (.ref sn), .val (.ref sv), .val (.ref at'), .val (.ref r), .val (.ref a10_), .val (.int (1 : Int32))] [(.int (2 : Int32)), (.int (1 : Int32)), (.ref a10_), (.ref r)])) rfl (by rw [hml]; rfl) (lenOf pd_805342835 rfl) rfl (by show 2 * 0 + _ ≤ _; exact Nat.le_of_eq rfl) (Jvm.hb hby at_264) (by decide) (by decide) (fun v16_ T16_ vm16_ h16_ q16_ C16_ w16_ => ?_)
    obtain ⟨rfl, rfl⟩ := q16_
    have A16_ := own_at w16_
    show own_WP p e _ below s Z _ n0 _ T16_ (mkF m 267 #[.val (.int i0), .val (.int i1), .val (.int i2), .val (.int i3), .val (.int (0 : Int32)), .val (.int (1 : Int32)), .val (.int a), .val (.int b), .val (.int x), .val (.int y), .val (.ref sp), .val (.ref sl), .val (.ref sn), .val (.ref sv), .val (.ref at'), .val (.ref r), .val (.ref a10_), .val (.int (1 : Int32))] [(.int (1 : Int32))])
    refine own_by (T' := T16_) (g' := (mkF m 270 #[.val (.int i0), .val (.int i1), .val (.int i2), .val (.int i3), .val (.int (0 : Int32)), .val (.int (1 : Int32)), .val (.int a), .val (.int b), .val (.int x), .val (.int y), .val (.ref sp), .val (.ref sl), .val (.ref sn), .val (.ref sv), .val (.ref at'), .val (.ref r), .val (.ref a10_), .val (.int (1 : Int32))] [])) (fun t_ hr_ => XS.ifNo A16_ hx rfl (Jvm.hb hby at_267) rfl ((if0 _ _).trans (feq (by decide : ¬ (1 : Int32) = 0)).1) hr_) ?_
    refine own_by (T' := T16_) (g' := (mkF m 272 #[.val (.int i0), .val (.int i1), .val (.int i2), .val (.int i3), .val (.int (0 : Int32)), .val (.int (1 : Int32)), .val (.int a), .val (.int b), .val (.int x), .val (.int y), .val (.ref sp), .val (.ref sl), .val (.ref sn), .val (.ref sv), .val (.ref at'), .val (.ref r), .val (.ref a10_), .val (.int (1 : Int32))] [(.ref r)])) (fun t_ hr_ => XS.aload A16_ hx rfl (Jvm.hb hby at_270) rfl rfl hr_) ?_
    refine own_by (T' := T16_) (g' := (mkF m 274 #[.val (.int i0), .val (.int i1), .val (.int i2), .val (.int i3), .val (.int (0 : Int32)), .val (.int (1 : Int32)), .val (.int a), .val (.int b), .val (.int x), .val (.int y), .val (.ref sp), .val (.ref sl), .val (.ref sn), .val (.ref sv), .val (.ref at'), .val (.ref r), .val (.ref a10_), .val (.int (1 : Int32))] [(.ref a10_), (.ref r)])) (fun t_ hr_ => XS.aload A16_ hx rfl (Jvm.hb hby at_272) rfl rfl hr_) ?_
    refine own_by (T' := T16_) (g' := (mkF m 276 #[.val (.int i0), .val (.int i1), .val (.int i2), .val (.int i3), .val (.int (0 : Int32)), .val (.int (1 : Int32)), .val (.int a), .val (.int b), .val (.int x), .val (.int y), .val (.ref sp), .val (.ref sl), .val (.ref sn), .val (.ref sv), .val (.ref at'), .val (.ref r), .val (.ref a10_), .val (.int (1 : Int32))] [(.int (1 : Int32)), (.ref a10_), (.ref r)])) (fun t_ hr_ => XS.iload A16_ hx rfl (Jvm.hb hby at_274) rfl hr_) ?_
    refine own_by (T' := T16_) (g' := (mkF m 277 #[.val (.int i0), .val (.int i1), .val (.int i2), .val (.int i3), .val (.int (0 : Int32)), .val (.int (1 : Int32)), .val (.int a), .val (.int b), .val (.int x), .val (.int y), .val (.ref sp), .val (.ref sl), .val (.ref sn), .val (.ref sv), .val (.ref at'), .val (.ref r), .val (.ref a10_), .val (.int (1 : Int32))] [(.int (3 : Int32)), (.int (1 : Int32)), (.ref a10_), (.ref r)])) (fun t_ hr_ => XS.iconst A16_ hx rfl (Jvm.hb hby at_276) hr_) ?_
    refine own_callS w16_ hx (y := (⟨"com/example/sigillo/sigillo/soap/AttributeNamePinLaw", "at", "(Ljava/lang/String;[CII)Z"⟩ : MethodName)) (hw _ (List.mem_of_getElem? (i := 179) rfl)) (hw _ (List.mem_of_getElem? (i := 180) rfl)) (hw _ (List.mem_of_getElem? (i := 2) rfl)) (hw _ (List.mem_of_getElem? (i := 181) rfl)) (by decide) (kc := 0) (ks := 0) (argsL := [(.ref r), (.ref a10_), (.int (1 : Int32)), (.int (3 : Int32))]) (rest := []) (own_payCt (W := 0) (ctAt l Z a0 hw SC SF n0 h12_ (own_old w16_) r a10_ k10_ ([x] : List Int32) ([x, y, (0 : Int32), (0 : Int32), (0 : Int32)] : List Int32) 1 3 Sz V12_ rfl rfl (by decide) (by decide) (fun q => absurd q (by decide))) w16_ (hw _ (List.mem_of_getElem? (i := 181) rfl)) (hw _ (List.mem_of_getElem? (i := 2) rfl)) hEL (by decide) (by decide)) (g := (mkF m 277 #[.val (.int i0), .val (.int i1), .val (.int i2), .val (.int i3), .val (.int (0 : Int32)), .val (.int (1 : Int32)), .val (.int a), .val (.int b), .val (.int x), .val (.int y), .val (.ref sp), .val (.ref sl), .val (.ref sn), .val (.ref sv), .val (.ref at'), .val (.ref r), .val (.ref a10_), .val (.int (1 : Int32))] [(.int (3 : Int32)), (.int (1 : Int32)), (.ref a10_), (.ref r)])) rfl (by rw [hml]; rfl) (lenOf pd_805342835 rfl) rfl (by show 2 * 0 + _ ≤ _; exact Nat.le_of_eq rfl) (Jvm.hb hby at_277) (by decide) (by decide) (fun v17_ T17_ vm17_ h17_ q17_ C17_ w17_ => ?_)
    obtain ⟨rfl, rfl⟩ := q17_
    have A17_ := own_at w17_
    show own_WP p e _ below s Z _ n0 _ T17_ (mkF m 280 #[.val (.int i0), .val (.int i1), .val (.int i2), .val (.int i3), .val (.int (0 : Int32)), .val (.int (1 : Int32)), .val (.int a), .val (.int b), .val (.int x), .val (.int y), .val (.ref sp), .val (.ref sl), .val (.ref sn), .val (.ref sv), .val (.ref at'), .val (.ref r), .val (.ref a10_), .val (.int (1 : Int32))] [(.int (1 : Int32))])
    refine own_by (T' := T17_) (g' := (mkF m 283 #[.val (.int i0), .val (.int i1), .val (.int i2), .val (.int i3), .val (.int (0 : Int32)), .val (.int (1 : Int32)), .val (.int a), .val (.int b), .val (.int x), .val (.int y), .val (.ref sp), .val (.ref sl), .val (.ref sn), .val (.ref sv), .val (.ref at'), .val (.ref r), .val (.ref a10_), .val (.int (1 : Int32))] [])) (fun t_ hr_ => XS.ifNo A17_ hx rfl (Jvm.hb hby at_280) rfl ((if0 _ _).trans (feq (by decide : ¬ (1 : Int32) = 0)).1) hr_) ?_
    refine own_by (T' := T17_) (g' := (mkF m 285 #[.val (.int i0), .val (.int i1), .val (.int i2), .val (.int i3), .val (.int (0 : Int32)), .val (.int (1 : Int32)), .val (.int a), .val (.int b), .val (.int x), .val (.int y), .val (.ref sp), .val (.ref sl), .val (.ref sn), .val (.ref sv), .val (.ref at'), .val (.ref r), .val (.ref a10_), .val (.int (1 : Int32))] [(.ref r)])) (fun t_ hr_ => XS.aload A17_ hx rfl (Jvm.hb hby at_283) rfl rfl hr_) ?_
    refine own_by (T' := T17_) (g' := (mkF m 287 #[.val (.int i0), .val (.int i1), .val (.int i2), .val (.int i3), .val (.int (0 : Int32)), .val (.int (1 : Int32)), .val (.int a), .val (.int b), .val (.int x), .val (.int y), .val (.ref sp), .val (.ref sl), .val (.ref sn), .val (.ref sv), .val (.ref at'), .val (.ref r), .val (.ref a10_), .val (.int (1 : Int32))] [(.ref a10_), (.ref r)])) (fun t_ hr_ => XS.aload A17_ hx rfl (Jvm.hb hby at_285) rfl rfl hr_) ?_
    refine own_by (T' := T17_) (g' := (mkF m 289 #[.val (.int i0), .val (.int i1), .val (.int i2), .val (.int i3), .val (.int (0 : Int32)), .val (.int (1 : Int32)), .val (.int a), .val (.int b), .val (.int x), .val (.int y), .val (.ref sp), .val (.ref sl), .val (.ref sn), .val (.ref sv), .val (.ref at'), .val (.ref r), .val (.ref a10_), .val (.int (1 : Int32))] [(.int (1 : Int32)), (.ref a10_), (.ref r)])) (fun t_ hr_ => XS.iload A17_ hx rfl (Jvm.hb hby at_287) rfl hr_) ?_
    refine own_by (T' := T17_) (g' := (mkF m 290 #[.val (.int i0), .val (.int i1), .val (.int i2), .val (.int i3), .val (.int (0 : Int32)), .val (.int (1 : Int32)), .val (.int a), .val (.int b), .val (.int x), .val (.int y), .val (.ref sp), .val (.ref sl), .val (.ref sn), .val (.ref sv), .val (.ref at'), .val (.ref r), .val (.ref a10_), .val (.int (1 : Int32))] [(.int (4 : Int32)), (.int (1 : Int32)), (.ref a10_), (.ref r)])) (fun t_ hr_ => XS.iconst A17_ hx rfl (Jvm.hb hby at_289) hr_) ?_
    refine own_callS w17_ hx (y := (⟨"com/example/sigillo/sigillo/soap/AttributeNamePinLaw", "at", "(Ljava/lang/String;[CII)Z"⟩ : MethodName)) (hw _ (List.mem_of_getElem? (i := 179) rfl)) (hw _ (List.mem_of_getElem? (i := 180) rfl)) (hw _ (List.mem_of_getElem? (i := 2) rfl)) (hw _ (List.mem_of_getElem? (i := 181) rfl)) (by decide) (kc := 0) (ks := 0) (argsL := [(.ref r), (.ref a10_), (.int (1 : Int32)), (.int (4 : Int32))]) (rest := []) (own_payCt (W := 0) (ctAt l Z a0 hw SC SF n0 h12_ (own_old w17_) r a10_ k10_ ([x] : List Int32) ([x, y, (0 : Int32), (0 : Int32), (0 : Int32)] : List Int32) 1 4 Sz V12_ rfl rfl (by decide) (by decide) (fun q => absurd q (by decide))) w17_ (hw _ (List.mem_of_getElem? (i := 181) rfl)) (hw _ (List.mem_of_getElem? (i := 2) rfl)) hEL (by decide) (by decide)) (g := (mkF m 290 #[.val (.int i0), .val (.int i1), .val (.int i2), .val (.int i3), .val (.int (0 : Int32)), .val (.int (1 : Int32)), .val (.int a), .val (.int b), .val (.int x), .val (.int y), .val (.ref sp), .val (.ref sl), .val (.ref sn), .val (.ref sv), .val (.ref at'), .val (.ref r), .val (.ref a10_), .val (.int (1 : Int32))] [(.int (4 : Int32)), (.int (1 : Int32)), (.ref a10_), (.ref r)])) rfl (by rw [hml]; rfl) (lenOf pd_805342835 rfl) rfl (by show 2 * 0 + _ ≤ _; exact Nat.le_of_eq rfl) (Jvm.hb hby at_290) (by decide) (by decide) (fun v18_ T18_ vm18_ h18_ q18_ C18_ w18_ => ?_)
    obtain ⟨rfl, rfl⟩ := q18_
    have A18_ := own_at w18_
    show own_WP p e _ below s Z _ n0 _ T18_ (mkF m 293 #[.val (.int i0), .val (.int i1), .val (.int i2), .val (.int i3), .val (.int (0 : Int32)), .val (.int (1 : Int32)), .val (.int a), .val (.int b), .val (.int x), .val (.int y), .val (.ref sp), .val (.ref sl), .val (.ref sn), .val (.ref sv), .val (.ref at'), .val (.ref r), .val (.ref a10_), .val (.int (1 : Int32))] [(.int (1 : Int32))])
    refine own_by (T' := T18_) (g' := (mkF m 296 #[.val (.int i0), .val (.int i1), .val (.int i2), .val (.int i3), .val (.int (0 : Int32)), .val (.int (1 : Int32)), .val (.int a), .val (.int b), .val (.int x), .val (.int y), .val (.ref sp), .val (.ref sl), .val (.ref sn), .val (.ref sv), .val (.ref at'), .val (.ref r), .val (.ref a10_), .val (.int (1 : Int32))] [])) (fun t_ hr_ => XS.ifNo A18_ hx rfl (Jvm.hb hby at_293) rfl ((if0 _ _).trans (feq (by decide : ¬ (1 : Int32) = 0)).1) hr_) ?_
    refine own_by (T' := T18_) (g' := (mkF m 297 #[.val (.int i0), .val (.int i1), .val (.int i2), .val (.int i3), .val (.int (0 : Int32)), .val (.int (1 : Int32)), .val (.int a), .val (.int b), .val (.int x), .val (.int y), .val (.ref sp), .val (.ref sl), .val (.ref sn), .val (.ref sv), .val (.ref at'), .val (.ref r), .val (.ref a10_), .val (.int (1 : Int32))] [(.int (1 : Int32))])) (fun t_ hr_ => XS.iconst A18_ hx rfl (Jvm.hb hby at_296) hr_) ?_
    refine own_by (T' := T18_) (g' := (mkF m 301 #[.val (.int i0), .val (.int i1), .val (.int i2), .val (.int i3), .val (.int (0 : Int32)), .val (.int (1 : Int32)), .val (.int a), .val (.int b), .val (.int x), .val (.int y), .val (.ref sp), .val (.ref sl), .val (.ref sn), .val (.ref sv), .val (.ref at'), .val (.ref r), .val (.ref a10_), .val (.int (1 : Int32))] [(.int (1 : Int32))])) (fun t_ hr_ => XS.goto A18_ hx rfl (pc0 := 297) (pc' := 301) rfl (Jvm.hb hby at_297) (by decide) (by decide) hr_) ?_
    exact own_retZ w18_ hx hEL hlk hret (Or.inr rfl) (Jvm.hb hby at_301) (by decide) (by decide) rfl
  · show own_WP p e _ below s Z _ n0 _ T0 (mkF m 139 #[.val (.int i0), .val (.int i1), .val (.int i2), .val (.int i3), .val (.int (0 : Int32)), .val (.int (2 : Int32)), .val (.int a), .val (.int b), .val (.int x), .val (.int y), .val (.ref sp), .val (.ref sl), .val (.ref sn), .val (.ref sv), .val (.ref at'), .val (.ref r), .unset, .unset] [])
    refine own_by (T' := T0) (g' := (mkF m 140 #[.val (.int i0), .val (.int i1), .val (.int i2), .val (.int i3), .val (.int (0 : Int32)), .val (.int (2 : Int32)), .val (.int a), .val (.int b), .val (.int x), .val (.int y), .val (.ref sp), .val (.ref sl), .val (.ref sn), .val (.ref sv), .val (.ref at'), .val (.ref r), .unset, .unset] [(.int (5 : Int32))])) (fun t_ hr_ => XS.iconst A_0 hx rfl (Jvm.hb hby at_139) hr_) ?_
    refine own_newP w0 hx (hw _ (List.mem_of_getElem? (i := 7) rfl)) (g := (mkF m 140 #[.val (.int i0), .val (.int i1), .val (.int i2), .val (.int i3), .val (.int (0 : Int32)), .val (.int (2 : Int32)), .val (.int a), .val (.int b), .val (.int x), .val (.int y), .val (.ref sp), .val (.ref sl), .val (.ref sn), .val (.ref sv), .val (.ref at'), .val (.ref r), .unset, .unset] [(.int (5 : Int32))])) rfl (Jvm.hb hby at_140) rfl (by decide) (cap := 5) (by decide) (by decide) (by decide) (by decide) (fun T19_ h19_ a19_ k19_ g19_ E19_ V19_ w19_ => ?_)
    have A19_ := own_at w19_
    show own_WP p e _ below s Z _ n0 _ T19_ (mkF m 142 #[.val (.int i0), .val (.int i1), .val (.int i2), .val (.int i3), .val (.int (0 : Int32)), .val (.int (2 : Int32)), .val (.int a), .val (.int b), .val (.int x), .val (.int y), .val (.ref sp), .val (.ref sl), .val (.ref sn), .val (.ref sv), .val (.ref at'), .val (.ref r), .unset, .unset] [(.ref a19_)])
    have ge : n0 ≤ a19_ := by rw [g19_]; exact own_n0 w0
    have U0 : Arv Z h19_ a19_ k19_ .char (5 : Int32) [(.int (0 : Int32)), (.int (0 : Int32)), (.int (0 : Int32)), (.int (0 : Int32)), (.int (0 : Int32))] (.int 0) := V19_.pad (vs' := [(.int (0 : Int32)), (.int (0 : Int32)), (.int (0 : Int32)), (.int (0 : Int32)), (.int (0 : Int32))]) (fun i => pad_rep [] (.int (0 : Int32)) 5 i)
    have gez : h0.size ≤ a19_ := by rw [g19_]; exact Nat.le_refl _
    refine own_by (T' := T19_) (g' := (mkF m 144 #[.val (.int i0), .val (.int i1), .val (.int i2), .val (.int i3), .val (.int (0 : Int32)), .val (.int (2 : Int32)), .val (.int a), .val (.int b), .val (.int x), .val (.int y), .val (.ref sp), .val (.ref sl), .val (.ref sn), .val (.ref sv), .val (.ref at'), .val (.ref r), .val (.ref a19_), .unset] [])) (fun t_ hr_ => XS.astore A19_ hx rfl (Jvm.hb hby at_142) rfl rfl (l' := #[.val (.int i0), .val (.int i1), .val (.int i2), .val (.int i3), .val (.int (0 : Int32)), .val (.int (2 : Int32)), .val (.int a), .val (.int b), .val (.int x), .val (.int y), .val (.ref sp), .val (.ref sl), .val (.ref sn), .val (.ref sv), .val (.ref at'), .val (.ref r), .val (.ref a19_), .unset]) rfl hr_) ?_
    refine own_by (T' := T19_) (g' := (mkF m 146 #[.val (.int i0), .val (.int i1), .val (.int i2), .val (.int i3), .val (.int (0 : Int32)), .val (.int (2 : Int32)), .val (.int a), .val (.int b), .val (.int x), .val (.int y), .val (.ref sp), .val (.ref sl), .val (.ref sn), .val (.ref sv), .val (.ref at'), .val (.ref r), .val (.ref a19_), .unset] [(.int (0 : Int32))])) (fun t_ hr_ => XS.iload A19_ hx rfl (Jvm.hb hby at_144) rfl hr_) ?_
    refine own_by (T' := T19_) (g' := (mkF m 149 #[.val (.int i0), .val (.int i1), .val (.int i2), .val (.int i3), .val (.int (0 : Int32)), .val (.int (2 : Int32)), .val (.int a), .val (.int b), .val (.int x), .val (.int y), .val (.ref sp), .val (.ref sl), .val (.ref sn), .val (.ref sv), .val (.ref at'), .val (.ref r), .val (.ref a19_), .unset] [])) (fun t_ hr_ => XS.ifNo A19_ hx rfl (Jvm.hb hby at_146) rfl ((if0 _ _).trans (teq (rfl : (0 : Int32) = 0)).2) hr_) ?_
    refine own_by (T' := T19_) (g' := (mkF m 151 #[.val (.int i0), .val (.int i1), .val (.int i2), .val (.int i3), .val (.int (0 : Int32)), .val (.int (2 : Int32)), .val (.int a), .val (.int b), .val (.int x), .val (.int y), .val (.ref sp), .val (.ref sl), .val (.ref sn), .val (.ref sv), .val (.ref at'), .val (.ref r), .val (.ref a19_), .unset] [(.ref a19_)])) (fun t_ hr_ => XS.aload A19_ hx rfl (Jvm.hb hby at_149) rfl rfl hr_) ?_
    refine own_by (T' := T19_) (g' := (mkF m 152 #[.val (.int i0), .val (.int i1), .val (.int i2), .val (.int i3), .val (.int (0 : Int32)), .val (.int (2 : Int32)), .val (.int a), .val (.int b), .val (.int x), .val (.int y), .val (.ref sp), .val (.ref sl), .val (.ref sn), .val (.ref sv), .val (.ref at'), .val (.ref r), .val (.ref a19_), .unset] [(.int (0 : Int32)), (.ref a19_)])) (fun t_ hr_ => XS.iconst A19_ hx rfl (Jvm.hb hby at_151) hr_) ?_
    refine own_by (T' := T19_) (g' := (mkF m 154 #[.val (.int i0), .val (.int i1), .val (.int i2), .val (.int i3), .val (.int (0 : Int32)), .val (.int (2 : Int32)), .val (.int a), .val (.int b), .val (.int x), .val (.int y), .val (.ref sp), .val (.ref sl), .val (.ref sn), .val (.ref sv), .val (.ref at'), .val (.ref r), .val (.ref a19_), .unset] [(.int x), (.int (0 : Int32)), (.ref a19_)])) (fun t_ hr_ => XS.iload A19_ hx rfl (Jvm.hb hby at_152) rfl hr_) ?_
    refine own_castore w19_ hx U0 (by decide) (own_rng255 rx) (i := 0) rfl (by simp) ge (g := (mkF m 154 #[.val (.int i0), .val (.int i1), .val (.int i2), .val (.int i3), .val (.int (0 : Int32)), .val (.int (2 : Int32)), .val (.int a), .val (.int b), .val (.int x), .val (.int y), .val (.ref sp), .val (.ref sl), .val (.ref sn), .val (.ref sv), .val (.ref at'), .val (.ref r), .val (.ref a19_), .unset] [(.int x), (.int (0 : Int32)), (.ref a19_)])) rfl rfl (Jvm.hb hby at_154) (fun T20_ h20_ W20_ V20_ w20_ => ?_)
    have A20_ := own_at w20_
    show own_WP p e _ below s Z _ n0 _ T20_ (mkF m 155 #[.val (.int i0), .val (.int i1), .val (.int i2), .val (.int i3), .val (.int (0 : Int32)), .val (.int (2 : Int32)), .val (.int a), .val (.int b), .val (.int x), .val (.int y), .val (.ref sp), .val (.ref sl), .val (.ref sn), .val (.ref sv), .val (.ref at'), .val (.ref r), .val (.ref a19_), .unset] [])
    have EeW20_ := own_extWr E19_ W20_ gez
    refine own_by (T' := T20_) (g' := (mkF m 157 #[.val (.int i0), .val (.int i1), .val (.int i2), .val (.int i3), .val (.int (0 : Int32)), .val (.int (2 : Int32)), .val (.int a), .val (.int b), .val (.int x), .val (.int y), .val (.ref sp), .val (.ref sl), .val (.ref sn), .val (.ref sv), .val (.ref at'), .val (.ref r), .val (.ref a19_), .unset] [(.ref a19_)])) (fun t_ hr_ => XS.aload A20_ hx rfl (Jvm.hb hby at_155) rfl rfl hr_) ?_
    refine own_by (T' := T20_) (g' := (mkF m 158 #[.val (.int i0), .val (.int i1), .val (.int i2), .val (.int i3), .val (.int (0 : Int32)), .val (.int (2 : Int32)), .val (.int a), .val (.int b), .val (.int x), .val (.int y), .val (.ref sp), .val (.ref sl), .val (.ref sn), .val (.ref sv), .val (.ref at'), .val (.ref r), .val (.ref a19_), .unset] [(.int (1 : Int32)), (.ref a19_)])) (fun t_ hr_ => XS.iconst A20_ hx rfl (Jvm.hb hby at_157) hr_) ?_
    refine own_by (T' := T20_) (g' := (mkF m 160 #[.val (.int i0), .val (.int i1), .val (.int i2), .val (.int i3), .val (.int (0 : Int32)), .val (.int (2 : Int32)), .val (.int a), .val (.int b), .val (.int x), .val (.int y), .val (.ref sp), .val (.ref sl), .val (.ref sn), .val (.ref sv), .val (.ref at'), .val (.ref r), .val (.ref a19_), .unset] [(.int y), (.int (1 : Int32)), (.ref a19_)])) (fun t_ hr_ => XS.iload A20_ hx rfl (Jvm.hb hby at_158) rfl hr_) ?_
    refine own_castore w20_ hx V20_ (by decide) (own_rng255 ry) (i := 1) rfl (by simp) ge (g := (mkF m 160 #[.val (.int i0), .val (.int i1), .val (.int i2), .val (.int i3), .val (.int (0 : Int32)), .val (.int (2 : Int32)), .val (.int a), .val (.int b), .val (.int x), .val (.int y), .val (.ref sp), .val (.ref sl), .val (.ref sn), .val (.ref sv), .val (.ref at'), .val (.ref r), .val (.ref a19_), .unset] [(.int y), (.int (1 : Int32)), (.ref a19_)])) rfl rfl (Jvm.hb hby at_160) (fun T21_ h21_ W21_ V21_ w21_ => ?_)
    have A21_ := own_at w21_
    show own_WP p e _ below s Z _ n0 _ T21_ (mkF m 161 #[.val (.int i0), .val (.int i1), .val (.int i2), .val (.int i3), .val (.int (0 : Int32)), .val (.int (2 : Int32)), .val (.int a), .val (.int b), .val (.int x), .val (.int y), .val (.ref sp), .val (.ref sl), .val (.ref sn), .val (.ref sv), .val (.ref at'), .val (.ref r), .val (.ref a19_), .unset] [])
    have EeW21_ := own_extWr EeW20_ W21_ gez
    refine own_by (T' := T21_) (g' := (mkF m 163 #[.val (.int i0), .val (.int i1), .val (.int i2), .val (.int i3), .val (.int (0 : Int32)), .val (.int (2 : Int32)), .val (.int a), .val (.int b), .val (.int x), .val (.int y), .val (.ref sp), .val (.ref sl), .val (.ref sn), .val (.ref sv), .val (.ref at'), .val (.ref r), .val (.ref a19_), .unset] [(.int (2 : Int32))])) (fun t_ hr_ => XS.iload A21_ hx rfl (Jvm.hb hby at_161) rfl hr_) ?_
    refine own_by (T' := T21_) (g' := (mkF m 165 #[.val (.int i0), .val (.int i1), .val (.int i2), .val (.int i3), .val (.int (0 : Int32)), .val (.int (2 : Int32)), .val (.int a), .val (.int b), .val (.int x), .val (.int y), .val (.ref sp), .val (.ref sl), .val (.ref sn), .val (.ref sv), .val (.ref at'), .val (.ref r), .val (.ref a19_), .val (.int (2 : Int32))] [])) (fun t_ hr_ => XS.istore A21_ hx rfl (Jvm.hb hby at_163) rfl (l' := #[.val (.int i0), .val (.int i1), .val (.int i2), .val (.int i3), .val (.int (0 : Int32)), .val (.int (2 : Int32)), .val (.int a), .val (.int b), .val (.int x), .val (.int y), .val (.ref sp), .val (.ref sl), .val (.ref sn), .val (.ref sv), .val (.ref at'), .val (.ref r), .val (.ref a19_), .val (.int (2 : Int32))]) rfl hr_) ?_
    refine own_by (T' := T21_) (g' := (mkF m 214 #[.val (.int i0), .val (.int i1), .val (.int i2), .val (.int i3), .val (.int (0 : Int32)), .val (.int (2 : Int32)), .val (.int a), .val (.int b), .val (.int x), .val (.int y), .val (.ref sp), .val (.ref sl), .val (.ref sn), .val (.ref sv), .val (.ref at'), .val (.ref r), .val (.ref a19_), .val (.int (2 : Int32))] [])) (fun t_ hr_ => XS.goto A21_ hx rfl (pc0 := 165) (pc' := 214) rfl (Jvm.hb hby at_165) (by decide) (by decide) hr_) ?_
    refine own_by (T' := T21_) (g' := (mkF m 216 #[.val (.int i0), .val (.int i1), .val (.int i2), .val (.int i3), .val (.int (0 : Int32)), .val (.int (2 : Int32)), .val (.int a), .val (.int b), .val (.int x), .val (.int y), .val (.ref sp), .val (.ref sl), .val (.ref sn), .val (.ref sv), .val (.ref at'), .val (.ref r), .val (.ref a19_), .val (.int (2 : Int32))] [(.ref r)])) (fun t_ hr_ => XS.aload A21_ hx rfl (Jvm.hb hby at_214) rfl rfl hr_) ?_
    refine own_by (T' := T21_) (g' := (mkF m 219 #[.val (.int i0), .val (.int i1), .val (.int i2), .val (.int i3), .val (.int (0 : Int32)), .val (.int (2 : Int32)), .val (.int a), .val (.int b), .val (.int x), .val (.int y), .val (.ref sp), .val (.ref sl), .val (.ref sn), .val (.ref sv), .val (.ref at'), .val (.ref r), .val (.ref a19_), .val (.int (2 : Int32))] [])) (fun t_ hr_ => XS.ifnullNo A21_ hx rfl (Jvm.hb hby at_216) rfl hr_) ?_
    refine own_by (T' := T21_) (g' := (mkF m 221 #[.val (.int i0), .val (.int i1), .val (.int i2), .val (.int i3), .val (.int (0 : Int32)), .val (.int (2 : Int32)), .val (.int a), .val (.int b), .val (.int x), .val (.int y), .val (.ref sp), .val (.ref sl), .val (.ref sn), .val (.ref sv), .val (.ref at'), .val (.ref r), .val (.ref a19_), .val (.int (2 : Int32))] [(.ref r)])) (fun t_ hr_ => XS.aload A21_ hx rfl (Jvm.hb hby at_219) rfl rfl hr_) ?_
    have Sz : own_Str Z h21_ r ([x, y] : List Int32) := by first | exact S0.ext EeW21_ | (have q := S0.ext EeW21_; simpa [own_nc] using q)
    refine own_callV w21_ hx (y := (⟨"java/lang/String", "length", "()I"⟩ : MethodName)) (z := (⟨"java/lang/String", "length", "()I"⟩ : MethodName)) (hw _ (List.mem_of_getElem? (i := 178) rfl)) (hw _ (List.mem_of_getElem? (i := 96) rfl)) (fun u hu => notFace_of_selects (args := #[]) (mvT hu (hw _ (List.mem_of_getElem? (i := 98) rfl)))) (hw _ (List.mem_of_getElem? (i := 98) rfl)) (hw _ (List.mem_of_getElem? (i := 97) rfl)) (by decide) (kc := 0) (ks := 0) (a := r) (argsL := []) (rest := []) (own_payLen (W := 0) w21_ hEL (own_wLen hw) (hw _ (List.mem_of_getElem? (i := 5) rfl)) SC Sz (by decide) (by decide)) Sz.exa (g := (mkF m 221 #[.val (.int i0), .val (.int i1), .val (.int i2), .val (.int i3), .val (.int (0 : Int32)), .val (.int (2 : Int32)), .val (.int a), .val (.int b), .val (.int x), .val (.int y), .val (.ref sp), .val (.ref sl), .val (.ref sn), .val (.ref sv), .val (.ref at'), .val (.ref r), .val (.ref a19_), .val (.int (2 : Int32))] [(.ref r)])) rfl (by rw [hml]; rfl) (lenOf pd_691884 rfl) rfl (by show 2 * 0 + _ ≤ _; exact Nat.le_of_eq rfl) (Jvm.hb hby at_221) (by decide) (by decide) (fun v22_ T22_ vm22_ h22_ q22_ C22_ w22_ => ?_)
    obtain ⟨rfl, rfl⟩ := q22_
    have A22_ := own_at w22_
    show own_WP p e _ below s Z _ n0 _ T22_ (mkF m 224 #[.val (.int i0), .val (.int i1), .val (.int i2), .val (.int i3), .val (.int (0 : Int32)), .val (.int (2 : Int32)), .val (.int a), .val (.int b), .val (.int x), .val (.int y), .val (.ref sp), .val (.ref sl), .val (.ref sn), .val (.ref sv), .val (.ref at'), .val (.ref r), .val (.ref a19_), .val (.int (2 : Int32))] [(.int (Int32.ofNat ([x, y] : List Int32).length))])
    refine own_by (T' := T22_) (g' := (mkF m 226 #[.val (.int i0), .val (.int i1), .val (.int i2), .val (.int i3), .val (.int (0 : Int32)), .val (.int (2 : Int32)), .val (.int a), .val (.int b), .val (.int x), .val (.int y), .val (.ref sp), .val (.ref sl), .val (.ref sn), .val (.ref sv), .val (.ref at'), .val (.ref r), .val (.ref a19_), .val (.int (2 : Int32))] [(.int (2 : Int32)), (.int (Int32.ofNat ([x, y] : List Int32).length))])) (fun t_ hr_ => XS.iload A22_ hx rfl (Jvm.hb hby at_224) rfl hr_) ?_
    refine own_by (T' := T22_) (g' := (mkF m 231 #[.val (.int i0), .val (.int i1), .val (.int i2), .val (.int i3), .val (.int (0 : Int32)), .val (.int (2 : Int32)), .val (.int a), .val (.int b), .val (.int x), .val (.int y), .val (.ref sp), .val (.ref sl), .val (.ref sn), .val (.ref sv), .val (.ref at'), .val (.ref r), .val (.ref a19_), .val (.int (2 : Int32))] [])) (fun t_ hr_ => XS.icmpYes A22_ hx rfl (pc0 := 226) (pc' := 231) rfl (Jvm.hb hby at_226) rfl (teq (rfl)).1 (by decide) (by decide) hr_) ?_
    refine own_by (T' := T22_) (g' := (mkF m 233 #[.val (.int i0), .val (.int i1), .val (.int i2), .val (.int i3), .val (.int (0 : Int32)), .val (.int (2 : Int32)), .val (.int a), .val (.int b), .val (.int x), .val (.int y), .val (.ref sp), .val (.ref sl), .val (.ref sn), .val (.ref sv), .val (.ref at'), .val (.ref r), .val (.ref a19_), .val (.int (2 : Int32))] [(.ref r)])) (fun t_ hr_ => XS.aload A22_ hx rfl (Jvm.hb hby at_231) rfl rfl hr_) ?_
    refine own_by (T' := T22_) (g' := (mkF m 235 #[.val (.int i0), .val (.int i1), .val (.int i2), .val (.int i3), .val (.int (0 : Int32)), .val (.int (2 : Int32)), .val (.int a), .val (.int b), .val (.int x), .val (.int y), .val (.ref sp), .val (.ref sl), .val (.ref sn), .val (.ref sv), .val (.ref at'), .val (.ref r), .val (.ref a19_), .val (.int (2 : Int32))] [(.ref a19_), (.ref r)])) (fun t_ hr_ => XS.aload A22_ hx rfl (Jvm.hb hby at_233) rfl rfl hr_) ?_
    refine own_by (T' := T22_) (g' := (mkF m 237 #[.val (.int i0), .val (.int i1), .val (.int i2), .val (.int i3), .val (.int (0 : Int32)), .val (.int (2 : Int32)), .val (.int a), .val (.int b), .val (.int x), .val (.int y), .val (.ref sp), .val (.ref sl), .val (.ref sn), .val (.ref sv), .val (.ref at'), .val (.ref r), .val (.ref a19_), .val (.int (2 : Int32))] [(.int (2 : Int32)), (.ref a19_), (.ref r)])) (fun t_ hr_ => XS.iload A22_ hx rfl (Jvm.hb hby at_235) rfl hr_) ?_
    refine own_by (T' := T22_) (g' := (mkF m 238 #[.val (.int i0), .val (.int i1), .val (.int i2), .val (.int i3), .val (.int (0 : Int32)), .val (.int (2 : Int32)), .val (.int a), .val (.int b), .val (.int x), .val (.int y), .val (.ref sp), .val (.ref sl), .val (.ref sn), .val (.ref sv), .val (.ref at'), .val (.ref r), .val (.ref a19_), .val (.int (2 : Int32))] [(.int (0 : Int32)), (.int (2 : Int32)), (.ref a19_), (.ref r)])) (fun t_ hr_ => XS.iconst A22_ hx rfl (Jvm.hb hby at_237) hr_) ?_
    refine own_callS w22_ hx (y := (⟨"com/example/sigillo/sigillo/soap/AttributeNamePinLaw", "at", "(Ljava/lang/String;[CII)Z"⟩ : MethodName)) (hw _ (List.mem_of_getElem? (i := 179) rfl)) (hw _ (List.mem_of_getElem? (i := 180) rfl)) (hw _ (List.mem_of_getElem? (i := 2) rfl)) (hw _ (List.mem_of_getElem? (i := 181) rfl)) (by decide) (kc := 0) (ks := 0) (argsL := [(.ref r), (.ref a19_), (.int (2 : Int32)), (.int (0 : Int32))]) (rest := []) (own_payCt (W := 0) (ctAt l Z a0 hw SC SF n0 h21_ (own_old w22_) r a19_ k19_ ([x, y] : List Int32) ([x, y, (0 : Int32), (0 : Int32), (0 : Int32)] : List Int32) 2 0 Sz V21_ rfl rfl (by decide) (by decide) (fun q => rfl)) w22_ (hw _ (List.mem_of_getElem? (i := 181) rfl)) (hw _ (List.mem_of_getElem? (i := 2) rfl)) hEL (by decide) (by decide)) (g := (mkF m 238 #[.val (.int i0), .val (.int i1), .val (.int i2), .val (.int i3), .val (.int (0 : Int32)), .val (.int (2 : Int32)), .val (.int a), .val (.int b), .val (.int x), .val (.int y), .val (.ref sp), .val (.ref sl), .val (.ref sn), .val (.ref sv), .val (.ref at'), .val (.ref r), .val (.ref a19_), .val (.int (2 : Int32))] [(.int (0 : Int32)), (.int (2 : Int32)), (.ref a19_), (.ref r)])) rfl (by rw [hml]; rfl) (lenOf pd_805342835 rfl) rfl (by show 2 * 0 + _ ≤ _; exact Nat.le_of_eq rfl) (Jvm.hb hby at_238) (by decide) (by decide) (fun v23_ T23_ vm23_ h23_ q23_ C23_ w23_ => ?_)
    obtain ⟨rfl, rfl⟩ := q23_
    have A23_ := own_at w23_
    show own_WP p e _ below s Z _ n0 _ T23_ (mkF m 241 #[.val (.int i0), .val (.int i1), .val (.int i2), .val (.int i3), .val (.int (0 : Int32)), .val (.int (2 : Int32)), .val (.int a), .val (.int b), .val (.int x), .val (.int y), .val (.ref sp), .val (.ref sl), .val (.ref sn), .val (.ref sv), .val (.ref at'), .val (.ref r), .val (.ref a19_), .val (.int (2 : Int32))] [(.int (1 : Int32))])
    refine own_by (T' := T23_) (g' := (mkF m 244 #[.val (.int i0), .val (.int i1), .val (.int i2), .val (.int i3), .val (.int (0 : Int32)), .val (.int (2 : Int32)), .val (.int a), .val (.int b), .val (.int x), .val (.int y), .val (.ref sp), .val (.ref sl), .val (.ref sn), .val (.ref sv), .val (.ref at'), .val (.ref r), .val (.ref a19_), .val (.int (2 : Int32))] [])) (fun t_ hr_ => XS.ifNo A23_ hx rfl (Jvm.hb hby at_241) rfl ((if0 _ _).trans (feq (by decide : ¬ (1 : Int32) = 0)).1) hr_) ?_
    refine own_by (T' := T23_) (g' := (mkF m 246 #[.val (.int i0), .val (.int i1), .val (.int i2), .val (.int i3), .val (.int (0 : Int32)), .val (.int (2 : Int32)), .val (.int a), .val (.int b), .val (.int x), .val (.int y), .val (.ref sp), .val (.ref sl), .val (.ref sn), .val (.ref sv), .val (.ref at'), .val (.ref r), .val (.ref a19_), .val (.int (2 : Int32))] [(.ref r)])) (fun t_ hr_ => XS.aload A23_ hx rfl (Jvm.hb hby at_244) rfl rfl hr_) ?_
    refine own_by (T' := T23_) (g' := (mkF m 248 #[.val (.int i0), .val (.int i1), .val (.int i2), .val (.int i3), .val (.int (0 : Int32)), .val (.int (2 : Int32)), .val (.int a), .val (.int b), .val (.int x), .val (.int y), .val (.ref sp), .val (.ref sl), .val (.ref sn), .val (.ref sv), .val (.ref at'), .val (.ref r), .val (.ref a19_), .val (.int (2 : Int32))] [(.ref a19_), (.ref r)])) (fun t_ hr_ => XS.aload A23_ hx rfl (Jvm.hb hby at_246) rfl rfl hr_) ?_
    refine own_by (T' := T23_) (g' := (mkF m 250 #[.val (.int i0), .val (.int i1), .val (.int i2), .val (.int i3), .val (.int (0 : Int32)), .val (.int (2 : Int32)), .val (.int a), .val (.int b), .val (.int x), .val (.int y), .val (.ref sp), .val (.ref sl), .val (.ref sn), .val (.ref sv), .val (.ref at'), .val (.ref r), .val (.ref a19_), .val (.int (2 : Int32))] [(.int (2 : Int32)), (.ref a19_), (.ref r)])) (fun t_ hr_ => XS.iload A23_ hx rfl (Jvm.hb hby at_248) rfl hr_) ?_
    refine own_by (T' := T23_) (g' := (mkF m 251 #[.val (.int i0), .val (.int i1), .val (.int i2), .val (.int i3), .val (.int (0 : Int32)), .val (.int (2 : Int32)), .val (.int a), .val (.int b), .val (.int x), .val (.int y), .val (.ref sp), .val (.ref sl), .val (.ref sn), .val (.ref sv), .val (.ref at'), .val (.ref r), .val (.ref a19_), .val (.int (2 : Int32))] [(.int (1 : Int32)), (.int (2 : Int32)), (.ref a19_), (.ref r)])) (fun t_ hr_ => XS.iconst A23_ hx rfl (Jvm.hb hby at_250) hr_) ?_
    refine own_callS w23_ hx (y := (⟨"com/example/sigillo/sigillo/soap/AttributeNamePinLaw", "at", "(Ljava/lang/String;[CII)Z"⟩ : MethodName)) (hw _ (List.mem_of_getElem? (i := 179) rfl)) (hw _ (List.mem_of_getElem? (i := 180) rfl)) (hw _ (List.mem_of_getElem? (i := 2) rfl)) (hw _ (List.mem_of_getElem? (i := 181) rfl)) (by decide) (kc := 0) (ks := 0) (argsL := [(.ref r), (.ref a19_), (.int (2 : Int32)), (.int (1 : Int32))]) (rest := []) (own_payCt (W := 0) (ctAt l Z a0 hw SC SF n0 h21_ (own_old w23_) r a19_ k19_ ([x, y] : List Int32) ([x, y, (0 : Int32), (0 : Int32), (0 : Int32)] : List Int32) 2 1 Sz V21_ rfl rfl (by decide) (by decide) (fun q => rfl)) w23_ (hw _ (List.mem_of_getElem? (i := 181) rfl)) (hw _ (List.mem_of_getElem? (i := 2) rfl)) hEL (by decide) (by decide)) (g := (mkF m 251 #[.val (.int i0), .val (.int i1), .val (.int i2), .val (.int i3), .val (.int (0 : Int32)), .val (.int (2 : Int32)), .val (.int a), .val (.int b), .val (.int x), .val (.int y), .val (.ref sp), .val (.ref sl), .val (.ref sn), .val (.ref sv), .val (.ref at'), .val (.ref r), .val (.ref a19_), .val (.int (2 : Int32))] [(.int (1 : Int32)), (.int (2 : Int32)), (.ref a19_), (.ref r)])) rfl (by rw [hml]; rfl) (lenOf pd_805342835 rfl) rfl (by show 2 * 0 + _ ≤ _; exact Nat.le_of_eq rfl) (Jvm.hb hby at_251) (by decide) (by decide) (fun v24_ T24_ vm24_ h24_ q24_ C24_ w24_ => ?_)
    obtain ⟨rfl, rfl⟩ := q24_
    have A24_ := own_at w24_
    show own_WP p e _ below s Z _ n0 _ T24_ (mkF m 254 #[.val (.int i0), .val (.int i1), .val (.int i2), .val (.int i3), .val (.int (0 : Int32)), .val (.int (2 : Int32)), .val (.int a), .val (.int b), .val (.int x), .val (.int y), .val (.ref sp), .val (.ref sl), .val (.ref sn), .val (.ref sv), .val (.ref at'), .val (.ref r), .val (.ref a19_), .val (.int (2 : Int32))] [(.int (1 : Int32))])
    refine own_by (T' := T24_) (g' := (mkF m 257 #[.val (.int i0), .val (.int i1), .val (.int i2), .val (.int i3), .val (.int (0 : Int32)), .val (.int (2 : Int32)), .val (.int a), .val (.int b), .val (.int x), .val (.int y), .val (.ref sp), .val (.ref sl), .val (.ref sn), .val (.ref sv), .val (.ref at'), .val (.ref r), .val (.ref a19_), .val (.int (2 : Int32))] [])) (fun t_ hr_ => XS.ifNo A24_ hx rfl (Jvm.hb hby at_254) rfl ((if0 _ _).trans (feq (by decide : ¬ (1 : Int32) = 0)).1) hr_) ?_
    refine own_by (T' := T24_) (g' := (mkF m 259 #[.val (.int i0), .val (.int i1), .val (.int i2), .val (.int i3), .val (.int (0 : Int32)), .val (.int (2 : Int32)), .val (.int a), .val (.int b), .val (.int x), .val (.int y), .val (.ref sp), .val (.ref sl), .val (.ref sn), .val (.ref sv), .val (.ref at'), .val (.ref r), .val (.ref a19_), .val (.int (2 : Int32))] [(.ref r)])) (fun t_ hr_ => XS.aload A24_ hx rfl (Jvm.hb hby at_257) rfl rfl hr_) ?_
    refine own_by (T' := T24_) (g' := (mkF m 261 #[.val (.int i0), .val (.int i1), .val (.int i2), .val (.int i3), .val (.int (0 : Int32)), .val (.int (2 : Int32)), .val (.int a), .val (.int b), .val (.int x), .val (.int y), .val (.ref sp), .val (.ref sl), .val (.ref sn), .val (.ref sv), .val (.ref at'), .val (.ref r), .val (.ref a19_), .val (.int (2 : Int32))] [(.ref a19_), (.ref r)])) (fun t_ hr_ => XS.aload A24_ hx rfl (Jvm.hb hby at_259) rfl rfl hr_) ?_
    refine own_by (T' := T24_) (g' := (mkF m 263 #[.val (.int i0), .val (.int i1), .val (.int i2), .val (.int i3), .val (.int (0 : Int32)), .val (.int (2 : Int32)), .val (.int a), .val (.int b), .val (.int x), .val (.int y), .val (.ref sp), .val (.ref sl), .val (.ref sn), .val (.ref sv), .val (.ref at'), .val (.ref r), .val (.ref a19_), .val (.int (2 : Int32))] [(.int (2 : Int32)), (.ref a19_), (.ref r)])) (fun t_ hr_ => XS.iload A24_ hx rfl (Jvm.hb hby at_261) rfl hr_) ?_
    refine own_by (T' := T24_) (g' := (mkF m 264 #[.val (.int i0), .val (.int i1), .val (.int i2), .val (.int i3), .val (.int (0 : Int32)), .val (.int (2 : Int32)), .val (.int a), .val (.int b), .val (.int x), .val (.int y), .val (.ref sp), .val (.ref sl), .val (.ref sn), .val (.ref sv), .val (.ref at'), .val (.ref r), .val (.ref a19_), .val (.int (2 : Int32))] [(.int (2 : Int32)), (.int (2 : Int32)), (.ref a19_), (.ref r)])) (fun t_ hr_ => XS.iconst A24_ hx rfl (Jvm.hb hby at_263) hr_) ?_
    refine own_callS w24_ hx (y := (⟨"com/example/sigillo/sigillo/soap/AttributeNamePinLaw", "at", "(Ljava/lang/String;[CII)Z"⟩ : MethodName)) (hw _ (List.mem_of_getElem? (i := 179) rfl)) (hw _ (List.mem_of_getElem? (i := 180) rfl)) (hw _ (List.mem_of_getElem? (i := 2) rfl)) (hw _ (List.mem_of_getElem? (i := 181) rfl)) (by decide) (kc := 0) (ks := 0) (argsL := [(.ref r), (.ref a19_), (.int (2 : Int32)), (.int (2 : Int32))]) (rest := []) (own_payCt (W := 0) (ctAt l Z a0 hw SC SF n0 h21_ (own_old w24_) r a19_ k19_ ([x, y] : List Int32) ([x, y, (0 : Int32), (0 : Int32), (0 : Int32)] : List Int32) 2 2 Sz V21_ rfl rfl (by decide) (by decide) (fun q => absurd q (by decide))) w24_ (hw _ (List.mem_of_getElem? (i := 181) rfl)) (hw _ (List.mem_of_getElem? (i := 2) rfl)) hEL (by decide) (by decide)) (g := (mkF m 264 #[.val (.int i0), .val (.int i1), .val (.int i2), .val (.int i3), .val (.int (0 : Int32)), .val (.int (2 : Int32)), .val (.int a), .val (.int b), .val (.int x), .val (.int y), .val (.ref sp), .val (.ref sl), .val (.ref sn), .val (.ref sv), .val (.ref at'), .val (.ref r), .val (.ref a19_), .val (.int (2 : Int32))] [(.int (2 : Int32)), (.int (2 : Int32)), (.ref a19_), (.ref r)])) rfl (by rw [hml]; rfl) (lenOf pd_805342835 rfl) rfl (by show 2 * 0 + _ ≤ _; exact Nat.le_of_eq rfl) (Jvm.hb hby at_264) (by decide) (by decide) (fun v25_ T25_ vm25_ h25_ q25_ C25_ w25_ => ?_)
    obtain ⟨rfl, rfl⟩ := q25_
    have A25_ := own_at w25_
    show own_WP p e _ below s Z _ n0 _ T25_ (mkF m 267 #[.val (.int i0), .val (.int i1), .val (.int i2), .val (.int i3), .val (.int (0 : Int32)), .val (.int (2 : Int32)), .val (.int a), .val (.int b), .val (.int x), .val (.int y), .val (.ref sp), .val (.ref sl), .val (.ref sn), .val (.ref sv), .val (.ref at'), .val (.ref r), .val (.ref a19_), .val (.int (2 : Int32))] [(.int (1 : Int32))])
    refine own_by (T' := T25_) (g' := (mkF m 270 #[.val (.int i0), .val (.int i1), .val (.int i2), .val (.int i3), .val (.int (0 : Int32)), .val (.int (2 : Int32)), .val (.int a), .val (.int b), .val (.int x), .val (.int y), .val (.ref sp), .val (.ref sl), .val (.ref sn), .val (.ref sv), .val (.ref at'), .val (.ref r), .val (.ref a19_), .val (.int (2 : Int32))] [])) (fun t_ hr_ => XS.ifNo A25_ hx rfl (Jvm.hb hby at_267) rfl ((if0 _ _).trans (feq (by decide : ¬ (1 : Int32) = 0)).1) hr_) ?_
    refine own_by (T' := T25_) (g' := (mkF m 272 #[.val (.int i0), .val (.int i1), .val (.int i2), .val (.int i3), .val (.int (0 : Int32)), .val (.int (2 : Int32)), .val (.int a), .val (.int b), .val (.int x), .val (.int y), .val (.ref sp), .val (.ref sl), .val (.ref sn), .val (.ref sv), .val (.ref at'), .val (.ref r), .val (.ref a19_), .val (.int (2 : Int32))] [(.ref r)])) (fun t_ hr_ => XS.aload A25_ hx rfl (Jvm.hb hby at_270) rfl rfl hr_) ?_
    refine own_by (T' := T25_) (g' := (mkF m 274 #[.val (.int i0), .val (.int i1), .val (.int i2), .val (.int i3), .val (.int (0 : Int32)), .val (.int (2 : Int32)), .val (.int a), .val (.int b), .val (.int x), .val (.int y), .val (.ref sp), .val (.ref sl), .val (.ref sn), .val (.ref sv), .val (.ref at'), .val (.ref r), .val (.ref a19_), .val (.int (2 : Int32))] [(.ref a19_), (.ref r)])) (fun t_ hr_ => XS.aload A25_ hx rfl (Jvm.hb hby at_272) rfl rfl hr_) ?_
    refine own_by (T' := T25_) (g' := (mkF m 276 #[.val (.int i0), .val (.int i1), .val (.int i2), .val (.int i3), .val (.int (0 : Int32)), .val (.int (2 : Int32)), .val (.int a), .val (.int b), .val (.int x), .val (.int y), .val (.ref sp), .val (.ref sl), .val (.ref sn), .val (.ref sv), .val (.ref at'), .val (.ref r), .val (.ref a19_), .val (.int (2 : Int32))] [(.int (2 : Int32)), (.ref a19_), (.ref r)])) (fun t_ hr_ => XS.iload A25_ hx rfl (Jvm.hb hby at_274) rfl hr_) ?_
    refine own_by (T' := T25_) (g' := (mkF m 277 #[.val (.int i0), .val (.int i1), .val (.int i2), .val (.int i3), .val (.int (0 : Int32)), .val (.int (2 : Int32)), .val (.int a), .val (.int b), .val (.int x), .val (.int y), .val (.ref sp), .val (.ref sl), .val (.ref sn), .val (.ref sv), .val (.ref at'), .val (.ref r), .val (.ref a19_), .val (.int (2 : Int32))] [(.int (3 : Int32)), (.int (2 : Int32)), (.ref a19_), (.ref r)])) (fun t_ hr_ => XS.iconst A25_ hx rfl (Jvm.hb hby at_276) hr_) ?_
    refine own_callS w25_ hx (y := (⟨"com/example/sigillo/sigillo/soap/AttributeNamePinLaw", "at", "(Ljava/lang/String;[CII)Z"⟩ : MethodName)) (hw _ (List.mem_of_getElem? (i := 179) rfl)) (hw _ (List.mem_of_getElem? (i := 180) rfl)) (hw _ (List.mem_of_getElem? (i := 2) rfl)) (hw _ (List.mem_of_getElem? (i := 181) rfl)) (by decide) (kc := 0) (ks := 0) (argsL := [(.ref r), (.ref a19_), (.int (2 : Int32)), (.int (3 : Int32))]) (rest := []) (own_payCt (W := 0) (ctAt l Z a0 hw SC SF n0 h21_ (own_old w25_) r a19_ k19_ ([x, y] : List Int32) ([x, y, (0 : Int32), (0 : Int32), (0 : Int32)] : List Int32) 2 3 Sz V21_ rfl rfl (by decide) (by decide) (fun q => absurd q (by decide))) w25_ (hw _ (List.mem_of_getElem? (i := 181) rfl)) (hw _ (List.mem_of_getElem? (i := 2) rfl)) hEL (by decide) (by decide)) (g := (mkF m 277 #[.val (.int i0), .val (.int i1), .val (.int i2), .val (.int i3), .val (.int (0 : Int32)), .val (.int (2 : Int32)), .val (.int a), .val (.int b), .val (.int x), .val (.int y), .val (.ref sp), .val (.ref sl), .val (.ref sn), .val (.ref sv), .val (.ref at'), .val (.ref r), .val (.ref a19_), .val (.int (2 : Int32))] [(.int (3 : Int32)), (.int (2 : Int32)), (.ref a19_), (.ref r)])) rfl (by rw [hml]; rfl) (lenOf pd_805342835 rfl) rfl (by show 2 * 0 + _ ≤ _; exact Nat.le_of_eq rfl) (Jvm.hb hby at_277) (by decide) (by decide) (fun v26_ T26_ vm26_ h26_ q26_ C26_ w26_ => ?_)
    obtain ⟨rfl, rfl⟩ := q26_
    have A26_ := own_at w26_
    show own_WP p e _ below s Z _ n0 _ T26_ (mkF m 280 #[.val (.int i0), .val (.int i1), .val (.int i2), .val (.int i3), .val (.int (0 : Int32)), .val (.int (2 : Int32)), .val (.int a), .val (.int b), .val (.int x), .val (.int y), .val (.ref sp), .val (.ref sl), .val (.ref sn), .val (.ref sv), .val (.ref at'), .val (.ref r), .val (.ref a19_), .val (.int (2 : Int32))] [(.int (1 : Int32))])
    refine own_by (T' := T26_) (g' := (mkF m 283 #[.val (.int i0), .val (.int i1), .val (.int i2), .val (.int i3), .val (.int (0 : Int32)), .val (.int (2 : Int32)), .val (.int a), .val (.int b), .val (.int x), .val (.int y), .val (.ref sp), .val (.ref sl), .val (.ref sn), .val (.ref sv), .val (.ref at'), .val (.ref r), .val (.ref a19_), .val (.int (2 : Int32))] [])) (fun t_ hr_ => XS.ifNo A26_ hx rfl (Jvm.hb hby at_280) rfl ((if0 _ _).trans (feq (by decide : ¬ (1 : Int32) = 0)).1) hr_) ?_
    refine own_by (T' := T26_) (g' := (mkF m 285 #[.val (.int i0), .val (.int i1), .val (.int i2), .val (.int i3), .val (.int (0 : Int32)), .val (.int (2 : Int32)), .val (.int a), .val (.int b), .val (.int x), .val (.int y), .val (.ref sp), .val (.ref sl), .val (.ref sn), .val (.ref sv), .val (.ref at'), .val (.ref r), .val (.ref a19_), .val (.int (2 : Int32))] [(.ref r)])) (fun t_ hr_ => XS.aload A26_ hx rfl (Jvm.hb hby at_283) rfl rfl hr_) ?_
    refine own_by (T' := T26_) (g' := (mkF m 287 #[.val (.int i0), .val (.int i1), .val (.int i2), .val (.int i3), .val (.int (0 : Int32)), .val (.int (2 : Int32)), .val (.int a), .val (.int b), .val (.int x), .val (.int y), .val (.ref sp), .val (.ref sl), .val (.ref sn), .val (.ref sv), .val (.ref at'), .val (.ref r), .val (.ref a19_), .val (.int (2 : Int32))] [(.ref a19_), (.ref r)])) (fun t_ hr_ => XS.aload A26_ hx rfl (Jvm.hb hby at_285) rfl rfl hr_) ?_
    refine own_by (T' := T26_) (g' := (mkF m 289 #[.val (.int i0), .val (.int i1), .val (.int i2), .val (.int i3), .val (.int (0 : Int32)), .val (.int (2 : Int32)), .val (.int a), .val (.int b), .val (.int x), .val (.int y), .val (.ref sp), .val (.ref sl), .val (.ref sn), .val (.ref sv), .val (.ref at'), .val (.ref r), .val (.ref a19_), .val (.int (2 : Int32))] [(.int (2 : Int32)), (.ref a19_), (.ref r)])) (fun t_ hr_ => XS.iload A26_ hx rfl (Jvm.hb hby at_287) rfl hr_) ?_
    refine own_by (T' := T26_) (g' := (mkF m 290 #[.val (.int i0), .val (.int i1), .val (.int i2), .val (.int i3), .val (.int (0 : Int32)), .val (.int (2 : Int32)), .val (.int a), .val (.int b), .val (.int x), .val (.int y), .val (.ref sp), .val (.ref sl), .val (.ref sn), .val (.ref sv), .val (.ref at'), .val (.ref r), .val (.ref a19_), .val (.int (2 : Int32))] [(.int (4 : Int32)), (.int (2 : Int32)), (.ref a19_), (.ref r)])) (fun t_ hr_ => XS.iconst A26_ hx rfl (Jvm.hb hby at_289) hr_) ?_
    refine own_callS w26_ hx (y := (⟨"com/example/sigillo/sigillo/soap/AttributeNamePinLaw", "at", "(Ljava/lang/String;[CII)Z"⟩ : MethodName)) (hw _ (List.mem_of_getElem? (i := 179) rfl)) (hw _ (List.mem_of_getElem? (i := 180) rfl)) (hw _ (List.mem_of_getElem? (i := 2) rfl)) (hw _ (List.mem_of_getElem? (i := 181) rfl)) (by decide) (kc := 0) (ks := 0) (argsL := [(.ref r), (.ref a19_), (.int (2 : Int32)), (.int (4 : Int32))]) (rest := []) (own_payCt (W := 0) (ctAt l Z a0 hw SC SF n0 h21_ (own_old w26_) r a19_ k19_ ([x, y] : List Int32) ([x, y, (0 : Int32), (0 : Int32), (0 : Int32)] : List Int32) 2 4 Sz V21_ rfl rfl (by decide) (by decide) (fun q => absurd q (by decide))) w26_ (hw _ (List.mem_of_getElem? (i := 181) rfl)) (hw _ (List.mem_of_getElem? (i := 2) rfl)) hEL (by decide) (by decide)) (g := (mkF m 290 #[.val (.int i0), .val (.int i1), .val (.int i2), .val (.int i3), .val (.int (0 : Int32)), .val (.int (2 : Int32)), .val (.int a), .val (.int b), .val (.int x), .val (.int y), .val (.ref sp), .val (.ref sl), .val (.ref sn), .val (.ref sv), .val (.ref at'), .val (.ref r), .val (.ref a19_), .val (.int (2 : Int32))] [(.int (4 : Int32)), (.int (2 : Int32)), (.ref a19_), (.ref r)])) rfl (by rw [hml]; rfl) (lenOf pd_805342835 rfl) rfl (by show 2 * 0 + _ ≤ _; exact Nat.le_of_eq rfl) (Jvm.hb hby at_290) (by decide) (by decide) (fun v27_ T27_ vm27_ h27_ q27_ C27_ w27_ => ?_)
    obtain ⟨rfl, rfl⟩ := q27_
    have A27_ := own_at w27_
    show own_WP p e _ below s Z _ n0 _ T27_ (mkF m 293 #[.val (.int i0), .val (.int i1), .val (.int i2), .val (.int i3), .val (.int (0 : Int32)), .val (.int (2 : Int32)), .val (.int a), .val (.int b), .val (.int x), .val (.int y), .val (.ref sp), .val (.ref sl), .val (.ref sn), .val (.ref sv), .val (.ref at'), .val (.ref r), .val (.ref a19_), .val (.int (2 : Int32))] [(.int (1 : Int32))])
    refine own_by (T' := T27_) (g' := (mkF m 296 #[.val (.int i0), .val (.int i1), .val (.int i2), .val (.int i3), .val (.int (0 : Int32)), .val (.int (2 : Int32)), .val (.int a), .val (.int b), .val (.int x), .val (.int y), .val (.ref sp), .val (.ref sl), .val (.ref sn), .val (.ref sv), .val (.ref at'), .val (.ref r), .val (.ref a19_), .val (.int (2 : Int32))] [])) (fun t_ hr_ => XS.ifNo A27_ hx rfl (Jvm.hb hby at_293) rfl ((if0 _ _).trans (feq (by decide : ¬ (1 : Int32) = 0)).1) hr_) ?_
    refine own_by (T' := T27_) (g' := (mkF m 297 #[.val (.int i0), .val (.int i1), .val (.int i2), .val (.int i3), .val (.int (0 : Int32)), .val (.int (2 : Int32)), .val (.int a), .val (.int b), .val (.int x), .val (.int y), .val (.ref sp), .val (.ref sl), .val (.ref sn), .val (.ref sv), .val (.ref at'), .val (.ref r), .val (.ref a19_), .val (.int (2 : Int32))] [(.int (1 : Int32))])) (fun t_ hr_ => XS.iconst A27_ hx rfl (Jvm.hb hby at_296) hr_) ?_
    refine own_by (T' := T27_) (g' := (mkF m 301 #[.val (.int i0), .val (.int i1), .val (.int i2), .val (.int i3), .val (.int (0 : Int32)), .val (.int (2 : Int32)), .val (.int a), .val (.int b), .val (.int x), .val (.int y), .val (.ref sp), .val (.ref sl), .val (.ref sn), .val (.ref sv), .val (.ref at'), .val (.ref r), .val (.ref a19_), .val (.int (2 : Int32))] [(.int (1 : Int32))])) (fun t_ hr_ => XS.goto A27_ hx rfl (pc0 := 297) (pc' := 301) rfl (Jvm.hb hby at_297) (by decide) (by decide) hr_) ?_
    exact own_retZ w27_ hx hEL hlk hret (Or.inr rfl) (Jvm.hb hby at_301) (by decide) (by decide) rfl
  · show own_WP p e _ below s Z _ n0 _ T0 (mkF m 139 #[.val (.int i0), .val (.int i1), .val (.int i2), .val (.int i3), .val (.int (1 : Int32)), .val (.int (0 : Int32)), .val (.int a), .val (.int b), .val (.int x), .val (.int y), .val (.ref sp), .val (.ref sl), .val (.ref sn), .val (.ref sv), .val (.ref at'), .val (.ref r), .unset, .unset] [])
    refine own_by (T' := T0) (g' := (mkF m 140 #[.val (.int i0), .val (.int i1), .val (.int i2), .val (.int i3), .val (.int (1 : Int32)), .val (.int (0 : Int32)), .val (.int a), .val (.int b), .val (.int x), .val (.int y), .val (.ref sp), .val (.ref sl), .val (.ref sn), .val (.ref sv), .val (.ref at'), .val (.ref r), .unset, .unset] [(.int (5 : Int32))])) (fun t_ hr_ => XS.iconst A_0 hx rfl (Jvm.hb hby at_139) hr_) ?_
    refine own_newP w0 hx (hw _ (List.mem_of_getElem? (i := 7) rfl)) (g := (mkF m 140 #[.val (.int i0), .val (.int i1), .val (.int i2), .val (.int i3), .val (.int (1 : Int32)), .val (.int (0 : Int32)), .val (.int a), .val (.int b), .val (.int x), .val (.int y), .val (.ref sp), .val (.ref sl), .val (.ref sn), .val (.ref sv), .val (.ref at'), .val (.ref r), .unset, .unset] [(.int (5 : Int32))])) rfl (Jvm.hb hby at_140) rfl (by decide) (cap := 5) (by decide) (by decide) (by decide) (by decide) (fun T28_ h28_ a28_ k28_ g28_ E28_ V28_ w28_ => ?_)
    have A28_ := own_at w28_
    show own_WP p e _ below s Z _ n0 _ T28_ (mkF m 142 #[.val (.int i0), .val (.int i1), .val (.int i2), .val (.int i3), .val (.int (1 : Int32)), .val (.int (0 : Int32)), .val (.int a), .val (.int b), .val (.int x), .val (.int y), .val (.ref sp), .val (.ref sl), .val (.ref sn), .val (.ref sv), .val (.ref at'), .val (.ref r), .unset, .unset] [(.ref a28_)])
    have ge : n0 ≤ a28_ := by rw [g28_]; exact own_n0 w0
    have U0 : Arv Z h28_ a28_ k28_ .char (5 : Int32) [(.int (0 : Int32)), (.int (0 : Int32)), (.int (0 : Int32)), (.int (0 : Int32)), (.int (0 : Int32))] (.int 0) := V28_.pad (vs' := [(.int (0 : Int32)), (.int (0 : Int32)), (.int (0 : Int32)), (.int (0 : Int32)), (.int (0 : Int32))]) (fun i => pad_rep [] (.int (0 : Int32)) 5 i)
    have gez : h0.size ≤ a28_ := by rw [g28_]; exact Nat.le_refl _
    refine own_by (T' := T28_) (g' := (mkF m 144 #[.val (.int i0), .val (.int i1), .val (.int i2), .val (.int i3), .val (.int (1 : Int32)), .val (.int (0 : Int32)), .val (.int a), .val (.int b), .val (.int x), .val (.int y), .val (.ref sp), .val (.ref sl), .val (.ref sn), .val (.ref sv), .val (.ref at'), .val (.ref r), .val (.ref a28_), .unset] [])) (fun t_ hr_ => XS.astore A28_ hx rfl (Jvm.hb hby at_142) rfl rfl (l' := #[.val (.int i0), .val (.int i1), .val (.int i2), .val (.int i3), .val (.int (1 : Int32)), .val (.int (0 : Int32)), .val (.int a), .val (.int b), .val (.int x), .val (.int y), .val (.ref sp), .val (.ref sl), .val (.ref sn), .val (.ref sv), .val (.ref at'), .val (.ref r), .val (.ref a28_), .unset]) rfl hr_) ?_
    refine own_by (T' := T28_) (g' := (mkF m 146 #[.val (.int i0), .val (.int i1), .val (.int i2), .val (.int i3), .val (.int (1 : Int32)), .val (.int (0 : Int32)), .val (.int a), .val (.int b), .val (.int x), .val (.int y), .val (.ref sp), .val (.ref sl), .val (.ref sn), .val (.ref sv), .val (.ref at'), .val (.ref r), .val (.ref a28_), .unset] [(.int (1 : Int32))])) (fun t_ hr_ => XS.iload A28_ hx rfl (Jvm.hb hby at_144) rfl hr_) ?_
    refine own_by (T' := T28_) (g' := (mkF m 168 #[.val (.int i0), .val (.int i1), .val (.int i2), .val (.int i3), .val (.int (1 : Int32)), .val (.int (0 : Int32)), .val (.int a), .val (.int b), .val (.int x), .val (.int y), .val (.ref sp), .val (.ref sl), .val (.ref sn), .val (.ref sv), .val (.ref at'), .val (.ref r), .val (.ref a28_), .unset] [])) (fun t_ hr_ => XS.ifYes A28_ hx rfl (pc0 := 146) (pc' := 168) rfl (Jvm.hb hby at_146) rfl ((if0 _ _).trans (feq (by decide)).2) (by decide) (by decide) hr_) ?_
    refine own_by (T' := T28_) (g' := (mkF m 170 #[.val (.int i0), .val (.int i1), .val (.int i2), .val (.int i3), .val (.int (1 : Int32)), .val (.int (0 : Int32)), .val (.int a), .val (.int b), .val (.int x), .val (.int y), .val (.ref sp), .val (.ref sl), .val (.ref sn), .val (.ref sv), .val (.ref at'), .val (.ref r), .val (.ref a28_), .unset] [(.ref a28_)])) (fun t_ hr_ => XS.aload A28_ hx rfl (Jvm.hb hby at_168) rfl rfl hr_) ?_
    refine own_by (T' := T28_) (g' := (mkF m 171 #[.val (.int i0), .val (.int i1), .val (.int i2), .val (.int i3), .val (.int (1 : Int32)), .val (.int (0 : Int32)), .val (.int a), .val (.int b), .val (.int x), .val (.int y), .val (.ref sp), .val (.ref sl), .val (.ref sn), .val (.ref sv), .val (.ref at'), .val (.ref r), .val (.ref a28_), .unset] [(.int (0 : Int32)), (.ref a28_)])) (fun t_ hr_ => XS.iconst A28_ hx rfl (Jvm.hb hby at_170) hr_) ?_
    refine own_by (T' := T28_) (g' := (mkF m 173 #[.val (.int i0), .val (.int i1), .val (.int i2), .val (.int i3), .val (.int (1 : Int32)), .val (.int (0 : Int32)), .val (.int a), .val (.int b), .val (.int x), .val (.int y), .val (.ref sp), .val (.ref sl), .val (.ref sn), .val (.ref sv), .val (.ref at'), .val (.ref r), .val (.ref a28_), .unset] [(.int a), (.int (0 : Int32)), (.ref a28_)])) (fun t_ hr_ => XS.iload A28_ hx rfl (Jvm.hb hby at_171) rfl hr_) ?_
    refine own_castore w28_ hx U0 (by decide) (own_rng255 ra) (i := 0) rfl (by simp) ge (g := (mkF m 173 #[.val (.int i0), .val (.int i1), .val (.int i2), .val (.int i3), .val (.int (1 : Int32)), .val (.int (0 : Int32)), .val (.int a), .val (.int b), .val (.int x), .val (.int y), .val (.ref sp), .val (.ref sl), .val (.ref sn), .val (.ref sv), .val (.ref at'), .val (.ref r), .val (.ref a28_), .unset] [(.int a), (.int (0 : Int32)), (.ref a28_)])) rfl rfl (Jvm.hb hby at_173) (fun T29_ h29_ W29_ V29_ w29_ => ?_)
    have A29_ := own_at w29_
    show own_WP p e _ below s Z _ n0 _ T29_ (mkF m 174 #[.val (.int i0), .val (.int i1), .val (.int i2), .val (.int i3), .val (.int (1 : Int32)), .val (.int (0 : Int32)), .val (.int a), .val (.int b), .val (.int x), .val (.int y), .val (.ref sp), .val (.ref sl), .val (.ref sn), .val (.ref sv), .val (.ref at'), .val (.ref r), .val (.ref a28_), .unset] [])
    have EeW29_ := own_extWr E28_ W29_ gez
    refine own_by (T' := T29_) (g' := (mkF m 176 #[.val (.int i0), .val (.int i1), .val (.int i2), .val (.int i3), .val (.int (1 : Int32)), .val (.int (0 : Int32)), .val (.int a), .val (.int b), .val (.int x), .val (.int y), .val (.ref sp), .val (.ref sl), .val (.ref sn), .val (.ref sv), .val (.ref at'), .val (.ref r), .val (.ref a28_), .unset] [(.ref a28_)])) (fun t_ hr_ => XS.aload A29_ hx rfl (Jvm.hb hby at_174) rfl rfl hr_) ?_
    refine own_by (T' := T29_) (g' := (mkF m 177 #[.val (.int i0), .val (.int i1), .val (.int i2), .val (.int i3), .val (.int (1 : Int32)), .val (.int (0 : Int32)), .val (.int a), .val (.int b), .val (.int x), .val (.int y), .val (.ref sp), .val (.ref sl), .val (.ref sn), .val (.ref sv), .val (.ref at'), .val (.ref r), .val (.ref a28_), .unset] [(.int (1 : Int32)), (.ref a28_)])) (fun t_ hr_ => XS.iconst A29_ hx rfl (Jvm.hb hby at_176) hr_) ?_
    refine own_by (T' := T29_) (g' := (mkF m 179 #[.val (.int i0), .val (.int i1), .val (.int i2), .val (.int i3), .val (.int (1 : Int32)), .val (.int (0 : Int32)), .val (.int a), .val (.int b), .val (.int x), .val (.int y), .val (.ref sp), .val (.ref sl), .val (.ref sn), .val (.ref sv), .val (.ref at'), .val (.ref r), .val (.ref a28_), .unset] [(.int b), (.int (1 : Int32)), (.ref a28_)])) (fun t_ hr_ => XS.iload A29_ hx rfl (Jvm.hb hby at_177) rfl hr_) ?_
    refine own_castore w29_ hx V29_ (by decide) (own_rng255 rb) (i := 1) rfl (by simp) ge (g := (mkF m 179 #[.val (.int i0), .val (.int i1), .val (.int i2), .val (.int i3), .val (.int (1 : Int32)), .val (.int (0 : Int32)), .val (.int a), .val (.int b), .val (.int x), .val (.int y), .val (.ref sp), .val (.ref sl), .val (.ref sn), .val (.ref sv), .val (.ref at'), .val (.ref r), .val (.ref a28_), .unset] [(.int b), (.int (1 : Int32)), (.ref a28_)])) rfl rfl (Jvm.hb hby at_179) (fun T30_ h30_ W30_ V30_ w30_ => ?_)
    have A30_ := own_at w30_
    show own_WP p e _ below s Z _ n0 _ T30_ (mkF m 180 #[.val (.int i0), .val (.int i1), .val (.int i2), .val (.int i3), .val (.int (1 : Int32)), .val (.int (0 : Int32)), .val (.int a), .val (.int b), .val (.int x), .val (.int y), .val (.ref sp), .val (.ref sl), .val (.ref sn), .val (.ref sv), .val (.ref at'), .val (.ref r), .val (.ref a28_), .unset] [])
    have EeW30_ := own_extWr EeW29_ W30_ gez
    refine own_by (T' := T30_) (g' := (mkF m 182 #[.val (.int i0), .val (.int i1), .val (.int i2), .val (.int i3), .val (.int (1 : Int32)), .val (.int (0 : Int32)), .val (.int a), .val (.int b), .val (.int x), .val (.int y), .val (.ref sp), .val (.ref sl), .val (.ref sn), .val (.ref sv), .val (.ref at'), .val (.ref r), .val (.ref a28_), .unset] [(.ref a28_)])) (fun t_ hr_ => XS.aload A30_ hx rfl (Jvm.hb hby at_180) rfl rfl hr_) ?_
    refine own_by (T' := T30_) (g' := (mkF m 184 #[.val (.int i0), .val (.int i1), .val (.int i2), .val (.int i3), .val (.int (1 : Int32)), .val (.int (0 : Int32)), .val (.int a), .val (.int b), .val (.int x), .val (.int y), .val (.ref sp), .val (.ref sl), .val (.ref sn), .val (.ref sv), .val (.ref at'), .val (.ref r), .val (.ref a28_), .unset] [(.int (1 : Int32)), (.ref a28_)])) (fun t_ hr_ => XS.iload A30_ hx rfl (Jvm.hb hby at_182) rfl hr_) ?_
    refine own_by (T' := T30_) (g' := (mkF m 186 #[.val (.int i0), .val (.int i1), .val (.int i2), .val (.int i3), .val (.int (1 : Int32)), .val (.int (0 : Int32)), .val (.int a), .val (.int b), .val (.int x), .val (.int y), .val (.ref sp), .val (.ref sl), .val (.ref sn), .val (.ref sv), .val (.ref at'), .val (.ref r), .val (.ref a28_), .unset] [(.int (58 : Int32)), (.int (1 : Int32)), (.ref a28_)])) (fun t_ hr_ => XS.bipush A30_ hx rfl (Jvm.hb hby at_184) hr_) ?_
    refine own_castore w30_ hx V30_ (by decide) (own_rng255 (by decide)) (i := 1) rfl (by simp) ge (g := (mkF m 186 #[.val (.int i0), .val (.int i1), .val (.int i2), .val (.int i3), .val (.int (1 : Int32)), .val (.int (0 : Int32)), .val (.int a), .val (.int b), .val (.int x), .val (.int y), .val (.ref sp), .val (.ref sl), .val (.ref sn), .val (.ref sv), .val (.ref at'), .val (.ref r), .val (.ref a28_), .unset] [(.int (58 : Int32)), (.int (1 : Int32)), (.ref a28_)])) rfl rfl (Jvm.hb hby at_186) (fun T31_ h31_ W31_ V31_ w31_ => ?_)
    have A31_ := own_at w31_
    show own_WP p e _ below s Z _ n0 _ T31_ (mkF m 187 #[.val (.int i0), .val (.int i1), .val (.int i2), .val (.int i3), .val (.int (1 : Int32)), .val (.int (0 : Int32)), .val (.int a), .val (.int b), .val (.int x), .val (.int y), .val (.ref sp), .val (.ref sl), .val (.ref sn), .val (.ref sv), .val (.ref at'), .val (.ref r), .val (.ref a28_), .unset] [])
    have EeW31_ := own_extWr EeW30_ W31_ gez
    refine own_by (T' := T31_) (g' := (mkF m 189 #[.val (.int i0), .val (.int i1), .val (.int i2), .val (.int i3), .val (.int (1 : Int32)), .val (.int (0 : Int32)), .val (.int a), .val (.int b), .val (.int x), .val (.int y), .val (.ref sp), .val (.ref sl), .val (.ref sn), .val (.ref sv), .val (.ref at'), .val (.ref r), .val (.ref a28_), .unset] [(.ref a28_)])) (fun t_ hr_ => XS.aload A31_ hx rfl (Jvm.hb hby at_187) rfl rfl hr_) ?_
    refine own_by (T' := T31_) (g' := (mkF m 191 #[.val (.int i0), .val (.int i1), .val (.int i2), .val (.int i3), .val (.int (1 : Int32)), .val (.int (0 : Int32)), .val (.int a), .val (.int b), .val (.int x), .val (.int y), .val (.ref sp), .val (.ref sl), .val (.ref sn), .val (.ref sv), .val (.ref at'), .val (.ref r), .val (.ref a28_), .unset] [(.int (1 : Int32)), (.ref a28_)])) (fun t_ hr_ => XS.iload A31_ hx rfl (Jvm.hb hby at_189) rfl hr_) ?_
    refine own_by (T' := T31_) (g' := (mkF m 192 #[.val (.int i0), .val (.int i1), .val (.int i2), .val (.int i3), .val (.int (1 : Int32)), .val (.int (0 : Int32)), .val (.int a), .val (.int b), .val (.int x), .val (.int y), .val (.ref sp), .val (.ref sl), .val (.ref sn), .val (.ref sv), .val (.ref at'), .val (.ref r), .val (.ref a28_), .unset] [(.int (1 : Int32)), (.int (1 : Int32)), (.ref a28_)])) (fun t_ hr_ => XS.iconst A31_ hx rfl (Jvm.hb hby at_191) hr_) ?_
    refine own_by (T' := T31_) (g' := (mkF m 193 #[.val (.int i0), .val (.int i1), .val (.int i2), .val (.int i3), .val (.int (1 : Int32)), .val (.int (0 : Int32)), .val (.int a), .val (.int b), .val (.int x), .val (.int y), .val (.ref sp), .val (.ref sl), .val (.ref sn), .val (.ref sv), .val (.ref at'), .val (.ref r), .val (.ref a28_), .unset] [(.int ((1 : Int32) + (1 : Int32))), (.ref a28_)])) (fun t_ hr_ => XS.iadd A31_ hx rfl (Jvm.hb hby at_192) rfl hr_) ?_
    refine own_by (T' := T31_) (g' := (mkF m 195 #[.val (.int i0), .val (.int i1), .val (.int i2), .val (.int i3), .val (.int (1 : Int32)), .val (.int (0 : Int32)), .val (.int a), .val (.int b), .val (.int x), .val (.int y), .val (.ref sp), .val (.ref sl), .val (.ref sn), .val (.ref sv), .val (.ref at'), .val (.ref r), .val (.ref a28_), .unset] [(.int x), (.int ((1 : Int32) + (1 : Int32))), (.ref a28_)])) (fun t_ hr_ => XS.iload A31_ hx rfl (Jvm.hb hby at_193) rfl hr_) ?_
    rw [show ((1 : Int32) + (1 : Int32)) = (2 : Int32) from (by decide)]
    show own_WP p e _ below s Z _ n0 _ T31_ (mkF m 195 #[.val (.int i0), .val (.int i1), .val (.int i2), .val (.int i3), .val (.int (1 : Int32)), .val (.int (0 : Int32)), .val (.int a), .val (.int b), .val (.int x), .val (.int y), .val (.ref sp), .val (.ref sl), .val (.ref sn), .val (.ref sv), .val (.ref at'), .val (.ref r), .val (.ref a28_), .unset] [(.int x), (.int (2 : Int32)), (.ref a28_)])
    refine own_castore w31_ hx V31_ (by decide) (own_rng255 rx) (i := 2) rfl (by simp) ge (g := (mkF m 195 #[.val (.int i0), .val (.int i1), .val (.int i2), .val (.int i3), .val (.int (1 : Int32)), .val (.int (0 : Int32)), .val (.int a), .val (.int b), .val (.int x), .val (.int y), .val (.ref sp), .val (.ref sl), .val (.ref sn), .val (.ref sv), .val (.ref at'), .val (.ref r), .val (.ref a28_), .unset] [(.int x), (.int (2 : Int32)), (.ref a28_)])) rfl rfl (Jvm.hb hby at_195) (fun T32_ h32_ W32_ V32_ w32_ => ?_)
    have A32_ := own_at w32_
    show own_WP p e _ below s Z _ n0 _ T32_ (mkF m 196 #[.val (.int i0), .val (.int i1), .val (.int i2), .val (.int i3), .val (.int (1 : Int32)), .val (.int (0 : Int32)), .val (.int a), .val (.int b), .val (.int x), .val (.int y), .val (.ref sp), .val (.ref sl), .val (.ref sn), .val (.ref sv), .val (.ref at'), .val (.ref r), .val (.ref a28_), .unset] [])
    have EeW32_ := own_extWr EeW31_ W32_ gez
    refine own_by (T' := T32_) (g' := (mkF m 198 #[.val (.int i0), .val (.int i1), .val (.int i2), .val (.int i3), .val (.int (1 : Int32)), .val (.int (0 : Int32)), .val (.int a), .val (.int b), .val (.int x), .val (.int y), .val (.ref sp), .val (.ref sl), .val (.ref sn), .val (.ref sv), .val (.ref at'), .val (.ref r), .val (.ref a28_), .unset] [(.ref a28_)])) (fun t_ hr_ => XS.aload A32_ hx rfl (Jvm.hb hby at_196) rfl rfl hr_) ?_
    refine own_by (T' := T32_) (g' := (mkF m 200 #[.val (.int i0), .val (.int i1), .val (.int i2), .val (.int i3), .val (.int (1 : Int32)), .val (.int (0 : Int32)), .val (.int a), .val (.int b), .val (.int x), .val (.int y), .val (.ref sp), .val (.ref sl), .val (.ref sn), .val (.ref sv), .val (.ref at'), .val (.ref r), .val (.ref a28_), .unset] [(.int (1 : Int32)), (.ref a28_)])) (fun t_ hr_ => XS.iload A32_ hx rfl (Jvm.hb hby at_198) rfl hr_) ?_
    refine own_by (T' := T32_) (g' := (mkF m 201 #[.val (.int i0), .val (.int i1), .val (.int i2), .val (.int i3), .val (.int (1 : Int32)), .val (.int (0 : Int32)), .val (.int a), .val (.int b), .val (.int x), .val (.int y), .val (.ref sp), .val (.ref sl), .val (.ref sn), .val (.ref sv), .val (.ref at'), .val (.ref r), .val (.ref a28_), .unset] [(.int (2 : Int32)), (.int (1 : Int32)), (.ref a28_)])) (fun t_ hr_ => XS.iconst A32_ hx rfl (Jvm.hb hby at_200) hr_) ?_
    refine own_by (T' := T32_) (g' := (mkF m 202 #[.val (.int i0), .val (.int i1), .val (.int i2), .val (.int i3), .val (.int (1 : Int32)), .val (.int (0 : Int32)), .val (.int a), .val (.int b), .val (.int x), .val (.int y), .val (.ref sp), .val (.ref sl), .val (.ref sn), .val (.ref sv), .val (.ref at'), .val (.ref r), .val (.ref a28_), .unset] [(.int ((1 : Int32) + (2 : Int32))), (.ref a28_)])) (fun t_ hr_ => XS.iadd A32_ hx rfl (Jvm.hb hby at_201) rfl hr_) ?_
    refine own_by (T' := T32_) (g' := (mkF m 204 #[.val (.int i0), .val (.int i1), .val (.int i2), .val (.int i3), .val (.int (1 : Int32)), .val (.int (0 : Int32)), .val (.int a), .val (.int b), .val (.int x), .val (.int y), .val (.ref sp), .val (.ref sl), .val (.ref sn), .val (.ref sv), .val (.ref at'), .val (.ref r), .val (.ref a28_), .unset] [(.int y), (.int ((1 : Int32) + (2 : Int32))), (.ref a28_)])) (fun t_ hr_ => XS.iload A32_ hx rfl (Jvm.hb hby at_202) rfl hr_) ?_
    rw [show ((1 : Int32) + (2 : Int32)) = (3 : Int32) from (by decide)]
    show own_WP p e _ below s Z _ n0 _ T32_ (mkF m 204 #[.val (.int i0), .val (.int i1), .val (.int i2), .val (.int i3), .val (.int (1 : Int32)), .val (.int (0 : Int32)), .val (.int a), .val (.int b), .val (.int x), .val (.int y), .val (.ref sp), .val (.ref sl), .val (.ref sn), .val (.ref sv), .val (.ref at'), .val (.ref r), .val (.ref a28_), .unset] [(.int y), (.int (3 : Int32)), (.ref a28_)])
    refine own_castore w32_ hx V32_ (by decide) (own_rng255 ry) (i := 3) rfl (by simp) ge (g := (mkF m 204 #[.val (.int i0), .val (.int i1), .val (.int i2), .val (.int i3), .val (.int (1 : Int32)), .val (.int (0 : Int32)), .val (.int a), .val (.int b), .val (.int x), .val (.int y), .val (.ref sp), .val (.ref sl), .val (.ref sn), .val (.ref sv), .val (.ref at'), .val (.ref r), .val (.ref a28_), .unset] [(.int y), (.int (3 : Int32)), (.ref a28_)])) rfl rfl (Jvm.hb hby at_204) (fun T33_ h33_ W33_ V33_ w33_ => ?_)
    have A33_ := own_at w33_
    show own_WP p e _ below s Z _ n0 _ T33_ (mkF m 205 #[.val (.int i0), .val (.int i1), .val (.int i2), .val (.int i3), .val (.int (1 : Int32)), .val (.int (0 : Int32)), .val (.int a), .val (.int b), .val (.int x), .val (.int y), .val (.ref sp), .val (.ref sl), .val (.ref sn), .val (.ref sv), .val (.ref at'), .val (.ref r), .val (.ref a28_), .unset] [])
    have EeW33_ := own_extWr EeW32_ W33_ gez
    refine own_by (T' := T33_) (g' := (mkF m 207 #[.val (.int i0), .val (.int i1), .val (.int i2), .val (.int i3), .val (.int (1 : Int32)), .val (.int (0 : Int32)), .val (.int a), .val (.int b), .val (.int x), .val (.int y), .val (.ref sp), .val (.ref sl), .val (.ref sn), .val (.ref sv), .val (.ref at'), .val (.ref r), .val (.ref a28_), .unset] [(.int (1 : Int32))])) (fun t_ hr_ => XS.iload A33_ hx rfl (Jvm.hb hby at_205) rfl hr_) ?_
    refine own_by (T' := T33_) (g' := (mkF m 208 #[.val (.int i0), .val (.int i1), .val (.int i2), .val (.int i3), .val (.int (1 : Int32)), .val (.int (0 : Int32)), .val (.int a), .val (.int b), .val (.int x), .val (.int y), .val (.ref sp), .val (.ref sl), .val (.ref sn), .val (.ref sv), .val (.ref at'), .val (.ref r), .val (.ref a28_), .unset] [(.int (1 : Int32)), (.int (1 : Int32))])) (fun t_ hr_ => XS.iconst A33_ hx rfl (Jvm.hb hby at_207) hr_) ?_
    refine own_by (T' := T33_) (g' := (mkF m 209 #[.val (.int i0), .val (.int i1), .val (.int i2), .val (.int i3), .val (.int (1 : Int32)), .val (.int (0 : Int32)), .val (.int a), .val (.int b), .val (.int x), .val (.int y), .val (.ref sp), .val (.ref sl), .val (.ref sn), .val (.ref sv), .val (.ref at'), .val (.ref r), .val (.ref a28_), .unset] [(.int ((1 : Int32) + (1 : Int32)))])) (fun t_ hr_ => XS.iadd A33_ hx rfl (Jvm.hb hby at_208) rfl hr_) ?_
    refine own_by (T' := T33_) (g' := (mkF m 211 #[.val (.int i0), .val (.int i1), .val (.int i2), .val (.int i3), .val (.int (1 : Int32)), .val (.int (0 : Int32)), .val (.int a), .val (.int b), .val (.int x), .val (.int y), .val (.ref sp), .val (.ref sl), .val (.ref sn), .val (.ref sv), .val (.ref at'), .val (.ref r), .val (.ref a28_), .unset] [(.int (0 : Int32)), (.int ((1 : Int32) + (1 : Int32)))])) (fun t_ hr_ => XS.iload A33_ hx rfl (Jvm.hb hby at_209) rfl hr_) ?_
    refine own_by (T' := T33_) (g' := (mkF m 212 #[.val (.int i0), .val (.int i1), .val (.int i2), .val (.int i3), .val (.int (1 : Int32)), .val (.int (0 : Int32)), .val (.int a), .val (.int b), .val (.int x), .val (.int y), .val (.ref sp), .val (.ref sl), .val (.ref sn), .val (.ref sv), .val (.ref at'), .val (.ref r), .val (.ref a28_), .unset] [(.int (((1 : Int32) + (1 : Int32)) + (0 : Int32)))])) (fun t_ hr_ => XS.iadd A33_ hx rfl (Jvm.hb hby at_211) rfl hr_) ?_
    refine own_by (T' := T33_) (g' := (mkF m 214 #[.val (.int i0), .val (.int i1), .val (.int i2), .val (.int i3), .val (.int (1 : Int32)), .val (.int (0 : Int32)), .val (.int a), .val (.int b), .val (.int x), .val (.int y), .val (.ref sp), .val (.ref sl), .val (.ref sn), .val (.ref sv), .val (.ref at'), .val (.ref r), .val (.ref a28_), .val (.int (((1 : Int32) + (1 : Int32)) + (0 : Int32)))] [])) (fun t_ hr_ => XS.istore A33_ hx rfl (Jvm.hb hby at_212) rfl (l' := #[.val (.int i0), .val (.int i1), .val (.int i2), .val (.int i3), .val (.int (1 : Int32)), .val (.int (0 : Int32)), .val (.int a), .val (.int b), .val (.int x), .val (.int y), .val (.ref sp), .val (.ref sl), .val (.ref sn), .val (.ref sv), .val (.ref at'), .val (.ref r), .val (.ref a28_), .val (.int (((1 : Int32) + (1 : Int32)) + (0 : Int32)))]) rfl hr_) ?_
    rw [show (((1 : Int32) + (1 : Int32)) + (0 : Int32)) = (2 : Int32) from (by decide)]
    show own_WP p e _ below s Z _ n0 _ T33_ (mkF m 214 #[.val (.int i0), .val (.int i1), .val (.int i2), .val (.int i3), .val (.int (1 : Int32)), .val (.int (0 : Int32)), .val (.int a), .val (.int b), .val (.int x), .val (.int y), .val (.ref sp), .val (.ref sl), .val (.ref sn), .val (.ref sv), .val (.ref at'), .val (.ref r), .val (.ref a28_), .val (.int (2 : Int32))] [])
    refine own_by (T' := T33_) (g' := (mkF m 216 #[.val (.int i0), .val (.int i1), .val (.int i2), .val (.int i3), .val (.int (1 : Int32)), .val (.int (0 : Int32)), .val (.int a), .val (.int b), .val (.int x), .val (.int y), .val (.ref sp), .val (.ref sl), .val (.ref sn), .val (.ref sv), .val (.ref at'), .val (.ref r), .val (.ref a28_), .val (.int (2 : Int32))] [(.ref r)])) (fun t_ hr_ => XS.aload A33_ hx rfl (Jvm.hb hby at_214) rfl rfl hr_) ?_
    refine own_by (T' := T33_) (g' := (mkF m 219 #[.val (.int i0), .val (.int i1), .val (.int i2), .val (.int i3), .val (.int (1 : Int32)), .val (.int (0 : Int32)), .val (.int a), .val (.int b), .val (.int x), .val (.int y), .val (.ref sp), .val (.ref sl), .val (.ref sn), .val (.ref sv), .val (.ref at'), .val (.ref r), .val (.ref a28_), .val (.int (2 : Int32))] [])) (fun t_ hr_ => XS.ifnullNo A33_ hx rfl (Jvm.hb hby at_216) rfl hr_) ?_
    refine own_by (T' := T33_) (g' := (mkF m 221 #[.val (.int i0), .val (.int i1), .val (.int i2), .val (.int i3), .val (.int (1 : Int32)), .val (.int (0 : Int32)), .val (.int a), .val (.int b), .val (.int x), .val (.int y), .val (.ref sp), .val (.ref sl), .val (.ref sn), .val (.ref sv), .val (.ref at'), .val (.ref r), .val (.ref a28_), .val (.int (2 : Int32))] [(.ref r)])) (fun t_ hr_ => XS.aload A33_ hx rfl (Jvm.hb hby at_219) rfl rfl hr_) ?_
    have Sz : own_Str Z h33_ r ([a, 58] : List Int32) := by first | exact S0.ext EeW33_ | (have q := S0.ext EeW33_; simpa [own_nc] using q)
    refine own_callV w33_ hx (y := (⟨"java/lang/String", "length", "()I"⟩ : MethodName)) (z := (⟨"java/lang/String", "length", "()I"⟩ : MethodName)) (hw _ (List.mem_of_getElem? (i := 178) rfl)) (hw _ (List.mem_of_getElem? (i := 96) rfl)) (fun u hu => notFace_of_selects (args := #[]) (mvT hu (hw _ (List.mem_of_getElem? (i := 98) rfl)))) (hw _ (List.mem_of_getElem? (i := 98) rfl)) (hw _ (List.mem_of_getElem? (i := 97) rfl)) (by decide) (kc := 0) (ks := 0) (a := r) (argsL := []) (rest := []) (own_payLen (W := 0) w33_ hEL (own_wLen hw) (hw _ (List.mem_of_getElem? (i := 5) rfl)) SC Sz (by decide) (by decide)) Sz.exa (g := (mkF m 221 #[.val (.int i0), .val (.int i1), .val (.int i2), .val (.int i3), .val (.int (1 : Int32)), .val (.int (0 : Int32)), .val (.int a), .val (.int b), .val (.int x), .val (.int y), .val (.ref sp), .val (.ref sl), .val (.ref sn), .val (.ref sv), .val (.ref at'), .val (.ref r), .val (.ref a28_), .val (.int (2 : Int32))] [(.ref r)])) rfl (by rw [hml]; rfl) (lenOf pd_691884 rfl) rfl (by show 2 * 0 + _ ≤ _; exact Nat.le_of_eq rfl) (Jvm.hb hby at_221) (by decide) (by decide) (fun v34_ T34_ vm34_ h34_ q34_ C34_ w34_ => ?_)
    obtain ⟨rfl, rfl⟩ := q34_
    have A34_ := own_at w34_
    show own_WP p e _ below s Z _ n0 _ T34_ (mkF m 224 #[.val (.int i0), .val (.int i1), .val (.int i2), .val (.int i3), .val (.int (1 : Int32)), .val (.int (0 : Int32)), .val (.int a), .val (.int b), .val (.int x), .val (.int y), .val (.ref sp), .val (.ref sl), .val (.ref sn), .val (.ref sv), .val (.ref at'), .val (.ref r), .val (.ref a28_), .val (.int (2 : Int32))] [(.int (Int32.ofNat ([a, 58] : List Int32).length))])
    refine own_by (T' := T34_) (g' := (mkF m 226 #[.val (.int i0), .val (.int i1), .val (.int i2), .val (.int i3), .val (.int (1 : Int32)), .val (.int (0 : Int32)), .val (.int a), .val (.int b), .val (.int x), .val (.int y), .val (.ref sp), .val (.ref sl), .val (.ref sn), .val (.ref sv), .val (.ref at'), .val (.ref r), .val (.ref a28_), .val (.int (2 : Int32))] [(.int (2 : Int32)), (.int (Int32.ofNat ([a, 58] : List Int32).length))])) (fun t_ hr_ => XS.iload A34_ hx rfl (Jvm.hb hby at_224) rfl hr_) ?_
    refine own_by (T' := T34_) (g' := (mkF m 231 #[.val (.int i0), .val (.int i1), .val (.int i2), .val (.int i3), .val (.int (1 : Int32)), .val (.int (0 : Int32)), .val (.int a), .val (.int b), .val (.int x), .val (.int y), .val (.ref sp), .val (.ref sl), .val (.ref sn), .val (.ref sv), .val (.ref at'), .val (.ref r), .val (.ref a28_), .val (.int (2 : Int32))] [])) (fun t_ hr_ => XS.icmpYes A34_ hx rfl (pc0 := 226) (pc' := 231) rfl (Jvm.hb hby at_226) rfl (teq (rfl)).1 (by decide) (by decide) hr_) ?_
    refine own_by (T' := T34_) (g' := (mkF m 233 #[.val (.int i0), .val (.int i1), .val (.int i2), .val (.int i3), .val (.int (1 : Int32)), .val (.int (0 : Int32)), .val (.int a), .val (.int b), .val (.int x), .val (.int y), .val (.ref sp), .val (.ref sl), .val (.ref sn), .val (.ref sv), .val (.ref at'), .val (.ref r), .val (.ref a28_), .val (.int (2 : Int32))] [(.ref r)])) (fun t_ hr_ => XS.aload A34_ hx rfl (Jvm.hb hby at_231) rfl rfl hr_) ?_
    refine own_by (T' := T34_) (g' := (mkF m 235 #[.val (.int i0), .val (.int i1), .val (.int i2), .val (.int i3), .val (.int (1 : Int32)), .val (.int (0 : Int32)), .val (.int a), .val (.int b), .val (.int x), .val (.int y), .val (.ref sp), .val (.ref sl), .val (.ref sn), .val (.ref sv), .val (.ref at'), .val (.ref r), .val (.ref a28_), .val (.int (2 : Int32))] [(.ref a28_), (.ref r)])) (fun t_ hr_ => XS.aload A34_ hx rfl (Jvm.hb hby at_233) rfl rfl hr_) ?_
    refine own_by (T' := T34_) (g' := (mkF m 237 #[.val (.int i0), .val (.int i1), .val (.int i2), .val (.int i3), .val (.int (1 : Int32)), .val (.int (0 : Int32)), .val (.int a), .val (.int b), .val (.int x), .val (.int y), .val (.ref sp), .val (.ref sl), .val (.ref sn), .val (.ref sv), .val (.ref at'), .val (.ref r), .val (.ref a28_), .val (.int (2 : Int32))] [(.int (2 : Int32)), (.ref a28_), (.ref r)])) (fun t_ hr_ => XS.iload A34_ hx rfl (Jvm.hb hby at_235) rfl hr_) ?_
    refine own_by (T' := T34_) (g' := (mkF m 238 #[.val (.int i0), .val (.int i1), .val (.int i2), .val (.int i3), .val (.int (1 : Int32)), .val (.int (0 : Int32)), .val (.int a), .val (.int b), .val (.int x), .val (.int y), .val (.ref sp), .val (.ref sl), .val (.ref sn), .val (.ref sv), .val (.ref at'), .val (.ref r), .val (.ref a28_), .val (.int (2 : Int32))] [(.int (0 : Int32)), (.int (2 : Int32)), (.ref a28_), (.ref r)])) (fun t_ hr_ => XS.iconst A34_ hx rfl (Jvm.hb hby at_237) hr_) ?_
    refine own_callS w34_ hx (y := (⟨"com/example/sigillo/sigillo/soap/AttributeNamePinLaw", "at", "(Ljava/lang/String;[CII)Z"⟩ : MethodName)) (hw _ (List.mem_of_getElem? (i := 179) rfl)) (hw _ (List.mem_of_getElem? (i := 180) rfl)) (hw _ (List.mem_of_getElem? (i := 2) rfl)) (hw _ (List.mem_of_getElem? (i := 181) rfl)) (by decide) (kc := 0) (ks := 0) (argsL := [(.ref r), (.ref a28_), (.int (2 : Int32)), (.int (0 : Int32))]) (rest := []) (own_payCt (W := 0) (ctAt l Z a0 hw SC SF n0 h33_ (own_old w34_) r a28_ k28_ ([a, 58] : List Int32) ([a, (58 : Int32), x, y, (0 : Int32)] : List Int32) 2 0 Sz V33_ rfl rfl (by decide) (by decide) (fun q => rfl)) w34_ (hw _ (List.mem_of_getElem? (i := 181) rfl)) (hw _ (List.mem_of_getElem? (i := 2) rfl)) hEL (by decide) (by decide)) (g := (mkF m 238 #[.val (.int i0), .val (.int i1), .val (.int i2), .val (.int i3), .val (.int (1 : Int32)), .val (.int (0 : Int32)), .val (.int a), .val (.int b), .val (.int x), .val (.int y), .val (.ref sp), .val (.ref sl), .val (.ref sn), .val (.ref sv), .val (.ref at'), .val (.ref r), .val (.ref a28_), .val (.int (2 : Int32))] [(.int (0 : Int32)), (.int (2 : Int32)), (.ref a28_), (.ref r)])) rfl (by rw [hml]; rfl) (lenOf pd_805342835 rfl) rfl (by show 2 * 0 + _ ≤ _; exact Nat.le_of_eq rfl) (Jvm.hb hby at_238) (by decide) (by decide) (fun v35_ T35_ vm35_ h35_ q35_ C35_ w35_ => ?_)
    obtain ⟨rfl, rfl⟩ := q35_
    have A35_ := own_at w35_
    show own_WP p e _ below s Z _ n0 _ T35_ (mkF m 241 #[.val (.int i0), .val (.int i1), .val (.int i2), .val (.int i3), .val (.int (1 : Int32)), .val (.int (0 : Int32)), .val (.int a), .val (.int b), .val (.int x), .val (.int y), .val (.ref sp), .val (.ref sl), .val (.ref sn), .val (.ref sv), .val (.ref at'), .val (.ref r), .val (.ref a28_), .val (.int (2 : Int32))] [(.int (1 : Int32))])
    refine own_by (T' := T35_) (g' := (mkF m 244 #[.val (.int i0), .val (.int i1), .val (.int i2), .val (.int i3), .val (.int (1 : Int32)), .val (.int (0 : Int32)), .val (.int a), .val (.int b), .val (.int x), .val (.int y), .val (.ref sp), .val (.ref sl), .val (.ref sn), .val (.ref sv), .val (.ref at'), .val (.ref r), .val (.ref a28_), .val (.int (2 : Int32))] [])) (fun t_ hr_ => XS.ifNo A35_ hx rfl (Jvm.hb hby at_241) rfl ((if0 _ _).trans (feq (by decide : ¬ (1 : Int32) = 0)).1) hr_) ?_
    refine own_by (T' := T35_) (g' := (mkF m 246 #[.val (.int i0), .val (.int i1), .val (.int i2), .val (.int i3), .val (.int (1 : Int32)), .val (.int (0 : Int32)), .val (.int a), .val (.int b), .val (.int x), .val (.int y), .val (.ref sp), .val (.ref sl), .val (.ref sn), .val (.ref sv), .val (.ref at'), .val (.ref r), .val (.ref a28_), .val (.int (2 : Int32))] [(.ref r)])) (fun t_ hr_ => XS.aload A35_ hx rfl (Jvm.hb hby at_244) rfl rfl hr_) ?_
    refine own_by (T' := T35_) (g' := (mkF m 248 #[.val (.int i0), .val (.int i1), .val (.int i2), .val (.int i3), .val (.int (1 : Int32)), .val (.int (0 : Int32)), .val (.int a), .val (.int b), .val (.int x), .val (.int y), .val (.ref sp), .val (.ref sl), .val (.ref sn), .val (.ref sv), .val (.ref at'), .val (.ref r), .val (.ref a28_), .val (.int (2 : Int32))] [(.ref a28_), (.ref r)])) (fun t_ hr_ => XS.aload A35_ hx rfl (Jvm.hb hby at_246) rfl rfl hr_) ?_
    refine own_by (T' := T35_) (g' := (mkF m 250 #[.val (.int i0), .val (.int i1), .val (.int i2), .val (.int i3), .val (.int (1 : Int32)), .val (.int (0 : Int32)), .val (.int a), .val (.int b), .val (.int x), .val (.int y), .val (.ref sp), .val (.ref sl), .val (.ref sn), .val (.ref sv), .val (.ref at'), .val (.ref r), .val (.ref a28_), .val (.int (2 : Int32))] [(.int (2 : Int32)), (.ref a28_), (.ref r)])) (fun t_ hr_ => XS.iload A35_ hx rfl (Jvm.hb hby at_248) rfl hr_) ?_
    refine own_by (T' := T35_) (g' := (mkF m 251 #[.val (.int i0), .val (.int i1), .val (.int i2), .val (.int i3), .val (.int (1 : Int32)), .val (.int (0 : Int32)), .val (.int a), .val (.int b), .val (.int x), .val (.int y), .val (.ref sp), .val (.ref sl), .val (.ref sn), .val (.ref sv), .val (.ref at'), .val (.ref r), .val (.ref a28_), .val (.int (2 : Int32))] [(.int (1 : Int32)), (.int (2 : Int32)), (.ref a28_), (.ref r)])) (fun t_ hr_ => XS.iconst A35_ hx rfl (Jvm.hb hby at_250) hr_) ?_
    refine own_callS w35_ hx (y := (⟨"com/example/sigillo/sigillo/soap/AttributeNamePinLaw", "at", "(Ljava/lang/String;[CII)Z"⟩ : MethodName)) (hw _ (List.mem_of_getElem? (i := 179) rfl)) (hw _ (List.mem_of_getElem? (i := 180) rfl)) (hw _ (List.mem_of_getElem? (i := 2) rfl)) (hw _ (List.mem_of_getElem? (i := 181) rfl)) (by decide) (kc := 0) (ks := 0) (argsL := [(.ref r), (.ref a28_), (.int (2 : Int32)), (.int (1 : Int32))]) (rest := []) (own_payCt (W := 0) (ctAt l Z a0 hw SC SF n0 h33_ (own_old w35_) r a28_ k28_ ([a, 58] : List Int32) ([a, (58 : Int32), x, y, (0 : Int32)] : List Int32) 2 1 Sz V33_ rfl rfl (by decide) (by decide) (fun q => rfl)) w35_ (hw _ (List.mem_of_getElem? (i := 181) rfl)) (hw _ (List.mem_of_getElem? (i := 2) rfl)) hEL (by decide) (by decide)) (g := (mkF m 251 #[.val (.int i0), .val (.int i1), .val (.int i2), .val (.int i3), .val (.int (1 : Int32)), .val (.int (0 : Int32)), .val (.int a), .val (.int b), .val (.int x), .val (.int y), .val (.ref sp), .val (.ref sl), .val (.ref sn), .val (.ref sv), .val (.ref at'), .val (.ref r), .val (.ref a28_), .val (.int (2 : Int32))] [(.int (1 : Int32)), (.int (2 : Int32)), (.ref a28_), (.ref r)])) rfl (by rw [hml]; rfl) (lenOf pd_805342835 rfl) rfl (by show 2 * 0 + _ ≤ _; exact Nat.le_of_eq rfl) (Jvm.hb hby at_251) (by decide) (by decide) (fun v36_ T36_ vm36_ h36_ q36_ C36_ w36_ => ?_)
    obtain ⟨rfl, rfl⟩ := q36_
    have A36_ := own_at w36_
    show own_WP p e _ below s Z _ n0 _ T36_ (mkF m 254 #[.val (.int i0), .val (.int i1), .val (.int i2), .val (.int i3), .val (.int (1 : Int32)), .val (.int (0 : Int32)), .val (.int a), .val (.int b), .val (.int x), .val (.int y), .val (.ref sp), .val (.ref sl), .val (.ref sn), .val (.ref sv), .val (.ref at'), .val (.ref r), .val (.ref a28_), .val (.int (2 : Int32))] [(.int (1 : Int32))])
    refine own_by (T' := T36_) (g' := (mkF m 257 #[.val (.int i0), .val (.int i1), .val (.int i2), .val (.int i3), .val (.int (1 : Int32)), .val (.int (0 : Int32)), .val (.int a), .val (.int b), .val (.int x), .val (.int y), .val (.ref sp), .val (.ref sl), .val (.ref sn), .val (.ref sv), .val (.ref at'), .val (.ref r), .val (.ref a28_), .val (.int (2 : Int32))] [])) (fun t_ hr_ => XS.ifNo A36_ hx rfl (Jvm.hb hby at_254) rfl ((if0 _ _).trans (feq (by decide : ¬ (1 : Int32) = 0)).1) hr_) ?_
    refine own_by (T' := T36_) (g' := (mkF m 259 #[.val (.int i0), .val (.int i1), .val (.int i2), .val (.int i3), .val (.int (1 : Int32)), .val (.int (0 : Int32)), .val (.int a), .val (.int b), .val (.int x), .val (.int y), .val (.ref sp), .val (.ref sl), .val (.ref sn), .val (.ref sv), .val (.ref at'), .val (.ref r), .val (.ref a28_), .val (.int (2 : Int32))] [(.ref r)])) (fun t_ hr_ => XS.aload A36_ hx rfl (Jvm.hb hby at_257) rfl rfl hr_) ?_
    refine own_by (T' := T36_) (g' := (mkF m 261 #[.val (.int i0), .val (.int i1), .val (.int i2), .val (.int i3), .val (.int (1 : Int32)), .val (.int (0 : Int32)), .val (.int a), .val (.int b), .val (.int x), .val (.int y), .val (.ref sp), .val (.ref sl), .val (.ref sn), .val (.ref sv), .val (.ref at'), .val (.ref r), .val (.ref a28_), .val (.int (2 : Int32))] [(.ref a28_), (.ref r)])) (fun t_ hr_ => XS.aload A36_ hx rfl (Jvm.hb hby at_259) rfl rfl hr_) ?_
    refine own_by (T' := T36_) (g' := (mkF m 263 #[.val (.int i0), .val (.int i1), .val (.int i2), .val (.int i3), .val (.int (1 : Int32)), .val (.int (0 : Int32)), .val (.int a), .val (.int b), .val (.int x), .val (.int y), .val (.ref sp), .val (.ref sl), .val (.ref sn), .val (.ref sv), .val (.ref at'), .val (.ref r), .val (.ref a28_), .val (.int (2 : Int32))] [(.int (2 : Int32)), (.ref a28_), (.ref r)])) (fun t_ hr_ => XS.iload A36_ hx rfl (Jvm.hb hby at_261) rfl hr_) ?_
    refine own_by (T' := T36_) (g' := (mkF m 264 #[.val (.int i0), .val (.int i1), .val (.int i2), .val (.int i3), .val (.int (1 : Int32)), .val (.int (0 : Int32)), .val (.int a), .val (.int b), .val (.int x), .val (.int y), .val (.ref sp), .val (.ref sl), .val (.ref sn), .val (.ref sv), .val (.ref at'), .val (.ref r), .val (.ref a28_), .val (.int (2 : Int32))] [(.int (2 : Int32)), (.int (2 : Int32)), (.ref a28_), (.ref r)])) (fun t_ hr_ => XS.iconst A36_ hx rfl (Jvm.hb hby at_263) hr_) ?_
    refine own_callS w36_ hx (y := (⟨"com/example/sigillo/sigillo/soap/AttributeNamePinLaw", "at", "(Ljava/lang/String;[CII)Z"⟩ : MethodName)) (hw _ (List.mem_of_getElem? (i := 179) rfl)) (hw _ (List.mem_of_getElem? (i := 180) rfl)) (hw _ (List.mem_of_getElem? (i := 2) rfl)) (hw _ (List.mem_of_getElem? (i := 181) rfl)) (by decide) (kc := 0) (ks := 0) (argsL := [(.ref r), (.ref a28_), (.int (2 : Int32)), (.int (2 : Int32))]) (rest := []) (own_payCt (W := 0) (ctAt l Z a0 hw SC SF n0 h33_ (own_old w36_) r a28_ k28_ ([a, 58] : List Int32) ([a, (58 : Int32), x, y, (0 : Int32)] : List Int32) 2 2 Sz V33_ rfl rfl (by decide) (by decide) (fun q => absurd q (by decide))) w36_ (hw _ (List.mem_of_getElem? (i := 181) rfl)) (hw _ (List.mem_of_getElem? (i := 2) rfl)) hEL (by decide) (by decide)) (g := (mkF m 264 #[.val (.int i0), .val (.int i1), .val (.int i2), .val (.int i3), .val (.int (1 : Int32)), .val (.int (0 : Int32)), .val (.int a), .val (.int b), .val (.int x), .val (.int y), .val (.ref sp), .val (.ref sl), .val (.ref sn), .val (.ref sv), .val (.ref at'), .val (.ref r), .val (.ref a28_), .val (.int (2 : Int32))] [(.int (2 : Int32)), (.int (2 : Int32)), (.ref a28_), (.ref r)])) rfl (by rw [hml]; rfl) (lenOf pd_805342835 rfl) rfl (by show 2 * 0 + _ ≤ _; exact Nat.le_of_eq rfl) (Jvm.hb hby at_264) (by decide) (by decide) (fun v37_ T37_ vm37_ h37_ q37_ C37_ w37_ => ?_)
    obtain ⟨rfl, rfl⟩ := q37_
    have A37_ := own_at w37_
    show own_WP p e _ below s Z _ n0 _ T37_ (mkF m 267 #[.val (.int i0), .val (.int i1), .val (.int i2), .val (.int i3), .val (.int (1 : Int32)), .val (.int (0 : Int32)), .val (.int a), .val (.int b), .val (.int x), .val (.int y), .val (.ref sp), .val (.ref sl), .val (.ref sn), .val (.ref sv), .val (.ref at'), .val (.ref r), .val (.ref a28_), .val (.int (2 : Int32))] [(.int (1 : Int32))])
    refine own_by (T' := T37_) (g' := (mkF m 270 #[.val (.int i0), .val (.int i1), .val (.int i2), .val (.int i3), .val (.int (1 : Int32)), .val (.int (0 : Int32)), .val (.int a), .val (.int b), .val (.int x), .val (.int y), .val (.ref sp), .val (.ref sl), .val (.ref sn), .val (.ref sv), .val (.ref at'), .val (.ref r), .val (.ref a28_), .val (.int (2 : Int32))] [])) (fun t_ hr_ => XS.ifNo A37_ hx rfl (Jvm.hb hby at_267) rfl ((if0 _ _).trans (feq (by decide : ¬ (1 : Int32) = 0)).1) hr_) ?_
    refine own_by (T' := T37_) (g' := (mkF m 272 #[.val (.int i0), .val (.int i1), .val (.int i2), .val (.int i3), .val (.int (1 : Int32)), .val (.int (0 : Int32)), .val (.int a), .val (.int b), .val (.int x), .val (.int y), .val (.ref sp), .val (.ref sl), .val (.ref sn), .val (.ref sv), .val (.ref at'), .val (.ref r), .val (.ref a28_), .val (.int (2 : Int32))] [(.ref r)])) (fun t_ hr_ => XS.aload A37_ hx rfl (Jvm.hb hby at_270) rfl rfl hr_) ?_
    refine own_by (T' := T37_) (g' := (mkF m 274 #[.val (.int i0), .val (.int i1), .val (.int i2), .val (.int i3), .val (.int (1 : Int32)), .val (.int (0 : Int32)), .val (.int a), .val (.int b), .val (.int x), .val (.int y), .val (.ref sp), .val (.ref sl), .val (.ref sn), .val (.ref sv), .val (.ref at'), .val (.ref r), .val (.ref a28_), .val (.int (2 : Int32))] [(.ref a28_), (.ref r)])) (fun t_ hr_ => XS.aload A37_ hx rfl (Jvm.hb hby at_272) rfl rfl hr_) ?_
    refine own_by (T' := T37_) (g' := (mkF m 276 #[.val (.int i0), .val (.int i1), .val (.int i2), .val (.int i3), .val (.int (1 : Int32)), .val (.int (0 : Int32)), .val (.int a), .val (.int b), .val (.int x), .val (.int y), .val (.ref sp), .val (.ref sl), .val (.ref sn), .val (.ref sv), .val (.ref at'), .val (.ref r), .val (.ref a28_), .val (.int (2 : Int32))] [(.int (2 : Int32)), (.ref a28_), (.ref r)])) (fun t_ hr_ => XS.iload A37_ hx rfl (Jvm.hb hby at_274) rfl hr_) ?_
    refine own_by (T' := T37_) (g' := (mkF m 277 #[.val (.int i0), .val (.int i1), .val (.int i2), .val (.int i3), .val (.int (1 : Int32)), .val (.int (0 : Int32)), .val (.int a), .val (.int b), .val (.int x), .val (.int y), .val (.ref sp), .val (.ref sl), .val (.ref sn), .val (.ref sv), .val (.ref at'), .val (.ref r), .val (.ref a28_), .val (.int (2 : Int32))] [(.int (3 : Int32)), (.int (2 : Int32)), (.ref a28_), (.ref r)])) (fun t_ hr_ => XS.iconst A37_ hx rfl (Jvm.hb hby at_276) hr_) ?_
    refine own_callS w37_ hx (y := (⟨"com/example/sigillo/sigillo/soap/AttributeNamePinLaw", "at", "(Ljava/lang/String;[CII)Z"⟩ : MethodName)) (hw _ (List.mem_of_getElem? (i := 179) rfl)) (hw _ (List.mem_of_getElem? (i := 180) rfl)) (hw _ (List.mem_of_getElem? (i := 2) rfl)) (hw _ (List.mem_of_getElem? (i := 181) rfl)) (by decide) (kc := 0) (ks := 0) (argsL := [(.ref r), (.ref a28_), (.int (2 : Int32)), (.int (3 : Int32))]) (rest := []) (own_payCt (W := 0) (ctAt l Z a0 hw SC SF n0 h33_ (own_old w37_) r a28_ k28_ ([a, 58] : List Int32) ([a, (58 : Int32), x, y, (0 : Int32)] : List Int32) 2 3 Sz V33_ rfl rfl (by decide) (by decide) (fun q => absurd q (by decide))) w37_ (hw _ (List.mem_of_getElem? (i := 181) rfl)) (hw _ (List.mem_of_getElem? (i := 2) rfl)) hEL (by decide) (by decide)) (g := (mkF m 277 #[.val (.int i0), .val (.int i1), .val (.int i2), .val (.int i3), .val (.int (1 : Int32)), .val (.int (0 : Int32)), .val (.int a), .val (.int b), .val (.int x), .val (.int y), .val (.ref sp), .val (.ref sl), .val (.ref sn), .val (.ref sv), .val (.ref at'), .val (.ref r), .val (.ref a28_), .val (.int (2 : Int32))] [(.int (3 : Int32)), (.int (2 : Int32)), (.ref a28_), (.ref r)])) rfl (by rw [hml]; rfl) (lenOf pd_805342835 rfl) rfl (by show 2 * 0 + _ ≤ _; exact Nat.le_of_eq rfl) (Jvm.hb hby at_277) (by decide) (by decide) (fun v38_ T38_ vm38_ h38_ q38_ C38_ w38_ => ?_)
    obtain ⟨rfl, rfl⟩ := q38_
    have A38_ := own_at w38_
    show own_WP p e _ below s Z _ n0 _ T38_ (mkF m 280 #[.val (.int i0), .val (.int i1), .val (.int i2), .val (.int i3), .val (.int (1 : Int32)), .val (.int (0 : Int32)), .val (.int a), .val (.int b), .val (.int x), .val (.int y), .val (.ref sp), .val (.ref sl), .val (.ref sn), .val (.ref sv), .val (.ref at'), .val (.ref r), .val (.ref a28_), .val (.int (2 : Int32))] [(.int (1 : Int32))])
    refine own_by (T' := T38_) (g' := (mkF m 283 #[.val (.int i0), .val (.int i1), .val (.int i2), .val (.int i3), .val (.int (1 : Int32)), .val (.int (0 : Int32)), .val (.int a), .val (.int b), .val (.int x), .val (.int y), .val (.ref sp), .val (.ref sl), .val (.ref sn), .val (.ref sv), .val (.ref at'), .val (.ref r), .val (.ref a28_), .val (.int (2 : Int32))] [])) (fun t_ hr_ => XS.ifNo A38_ hx rfl (Jvm.hb hby at_280) rfl ((if0 _ _).trans (feq (by decide : ¬ (1 : Int32) = 0)).1) hr_) ?_
    refine own_by (T' := T38_) (g' := (mkF m 285 #[.val (.int i0), .val (.int i1), .val (.int i2), .val (.int i3), .val (.int (1 : Int32)), .val (.int (0 : Int32)), .val (.int a), .val (.int b), .val (.int x), .val (.int y), .val (.ref sp), .val (.ref sl), .val (.ref sn), .val (.ref sv), .val (.ref at'), .val (.ref r), .val (.ref a28_), .val (.int (2 : Int32))] [(.ref r)])) (fun t_ hr_ => XS.aload A38_ hx rfl (Jvm.hb hby at_283) rfl rfl hr_) ?_
    refine own_by (T' := T38_) (g' := (mkF m 287 #[.val (.int i0), .val (.int i1), .val (.int i2), .val (.int i3), .val (.int (1 : Int32)), .val (.int (0 : Int32)), .val (.int a), .val (.int b), .val (.int x), .val (.int y), .val (.ref sp), .val (.ref sl), .val (.ref sn), .val (.ref sv), .val (.ref at'), .val (.ref r), .val (.ref a28_), .val (.int (2 : Int32))] [(.ref a28_), (.ref r)])) (fun t_ hr_ => XS.aload A38_ hx rfl (Jvm.hb hby at_285) rfl rfl hr_) ?_
    refine own_by (T' := T38_) (g' := (mkF m 289 #[.val (.int i0), .val (.int i1), .val (.int i2), .val (.int i3), .val (.int (1 : Int32)), .val (.int (0 : Int32)), .val (.int a), .val (.int b), .val (.int x), .val (.int y), .val (.ref sp), .val (.ref sl), .val (.ref sn), .val (.ref sv), .val (.ref at'), .val (.ref r), .val (.ref a28_), .val (.int (2 : Int32))] [(.int (2 : Int32)), (.ref a28_), (.ref r)])) (fun t_ hr_ => XS.iload A38_ hx rfl (Jvm.hb hby at_287) rfl hr_) ?_
    refine own_by (T' := T38_) (g' := (mkF m 290 #[.val (.int i0), .val (.int i1), .val (.int i2), .val (.int i3), .val (.int (1 : Int32)), .val (.int (0 : Int32)), .val (.int a), .val (.int b), .val (.int x), .val (.int y), .val (.ref sp), .val (.ref sl), .val (.ref sn), .val (.ref sv), .val (.ref at'), .val (.ref r), .val (.ref a28_), .val (.int (2 : Int32))] [(.int (4 : Int32)), (.int (2 : Int32)), (.ref a28_), (.ref r)])) (fun t_ hr_ => XS.iconst A38_ hx rfl (Jvm.hb hby at_289) hr_) ?_
    refine own_callS w38_ hx (y := (⟨"com/example/sigillo/sigillo/soap/AttributeNamePinLaw", "at", "(Ljava/lang/String;[CII)Z"⟩ : MethodName)) (hw _ (List.mem_of_getElem? (i := 179) rfl)) (hw _ (List.mem_of_getElem? (i := 180) rfl)) (hw _ (List.mem_of_getElem? (i := 2) rfl)) (hw _ (List.mem_of_getElem? (i := 181) rfl)) (by decide) (kc := 0) (ks := 0) (argsL := [(.ref r), (.ref a28_), (.int (2 : Int32)), (.int (4 : Int32))]) (rest := []) (own_payCt (W := 0) (ctAt l Z a0 hw SC SF n0 h33_ (own_old w38_) r a28_ k28_ ([a, 58] : List Int32) ([a, (58 : Int32), x, y, (0 : Int32)] : List Int32) 2 4 Sz V33_ rfl rfl (by decide) (by decide) (fun q => absurd q (by decide))) w38_ (hw _ (List.mem_of_getElem? (i := 181) rfl)) (hw _ (List.mem_of_getElem? (i := 2) rfl)) hEL (by decide) (by decide)) (g := (mkF m 290 #[.val (.int i0), .val (.int i1), .val (.int i2), .val (.int i3), .val (.int (1 : Int32)), .val (.int (0 : Int32)), .val (.int a), .val (.int b), .val (.int x), .val (.int y), .val (.ref sp), .val (.ref sl), .val (.ref sn), .val (.ref sv), .val (.ref at'), .val (.ref r), .val (.ref a28_), .val (.int (2 : Int32))] [(.int (4 : Int32)), (.int (2 : Int32)), (.ref a28_), (.ref r)])) rfl (by rw [hml]; rfl) (lenOf pd_805342835 rfl) rfl (by show 2 * 0 + _ ≤ _; exact Nat.le_of_eq rfl) (Jvm.hb hby at_290) (by decide) (by decide) (fun v39_ T39_ vm39_ h39_ q39_ C39_ w39_ => ?_)
    obtain ⟨rfl, rfl⟩ := q39_
    have A39_ := own_at w39_
    show own_WP p e _ below s Z _ n0 _ T39_ (mkF m 293 #[.val (.int i0), .val (.int i1), .val (.int i2), .val (.int i3), .val (.int (1 : Int32)), .val (.int (0 : Int32)), .val (.int a), .val (.int b), .val (.int x), .val (.int y), .val (.ref sp), .val (.ref sl), .val (.ref sn), .val (.ref sv), .val (.ref at'), .val (.ref r), .val (.ref a28_), .val (.int (2 : Int32))] [(.int (1 : Int32))])
    refine own_by (T' := T39_) (g' := (mkF m 296 #[.val (.int i0), .val (.int i1), .val (.int i2), .val (.int i3), .val (.int (1 : Int32)), .val (.int (0 : Int32)), .val (.int a), .val (.int b), .val (.int x), .val (.int y), .val (.ref sp), .val (.ref sl), .val (.ref sn), .val (.ref sv), .val (.ref at'), .val (.ref r), .val (.ref a28_), .val (.int (2 : Int32))] [])) (fun t_ hr_ => XS.ifNo A39_ hx rfl (Jvm.hb hby at_293) rfl ((if0 _ _).trans (feq (by decide : ¬ (1 : Int32) = 0)).1) hr_) ?_
    refine own_by (T' := T39_) (g' := (mkF m 297 #[.val (.int i0), .val (.int i1), .val (.int i2), .val (.int i3), .val (.int (1 : Int32)), .val (.int (0 : Int32)), .val (.int a), .val (.int b), .val (.int x), .val (.int y), .val (.ref sp), .val (.ref sl), .val (.ref sn), .val (.ref sv), .val (.ref at'), .val (.ref r), .val (.ref a28_), .val (.int (2 : Int32))] [(.int (1 : Int32))])) (fun t_ hr_ => XS.iconst A39_ hx rfl (Jvm.hb hby at_296) hr_) ?_
    refine own_by (T' := T39_) (g' := (mkF m 301 #[.val (.int i0), .val (.int i1), .val (.int i2), .val (.int i3), .val (.int (1 : Int32)), .val (.int (0 : Int32)), .val (.int a), .val (.int b), .val (.int x), .val (.int y), .val (.ref sp), .val (.ref sl), .val (.ref sn), .val (.ref sv), .val (.ref at'), .val (.ref r), .val (.ref a28_), .val (.int (2 : Int32))] [(.int (1 : Int32))])) (fun t_ hr_ => XS.goto A39_ hx rfl (pc0 := 297) (pc' := 301) rfl (Jvm.hb hby at_297) (by decide) (by decide) hr_) ?_
    exact own_retZ w39_ hx hEL hlk hret (Or.inr rfl) (Jvm.hb hby at_301) (by decide) (by decide) rfl
  · show own_WP p e _ below s Z _ n0 _ T0 (mkF m 139 #[.val (.int i0), .val (.int i1), .val (.int i2), .val (.int i3), .val (.int (1 : Int32)), .val (.int (1 : Int32)), .val (.int a), .val (.int b), .val (.int x), .val (.int y), .val (.ref sp), .val (.ref sl), .val (.ref sn), .val (.ref sv), .val (.ref at'), .val (.ref r), .unset, .unset] [])
    refine own_by (T' := T0) (g' := (mkF m 140 #[.val (.int i0), .val (.int i1), .val (.int i2), .val (.int i3), .val (.int (1 : Int32)), .val (.int (1 : Int32)), .val (.int a), .val (.int b), .val (.int x), .val (.int y), .val (.ref sp), .val (.ref sl), .val (.ref sn), .val (.ref sv), .val (.ref at'), .val (.ref r), .unset, .unset] [(.int (5 : Int32))])) (fun t_ hr_ => XS.iconst A_0 hx rfl (Jvm.hb hby at_139) hr_) ?_
    refine own_newP w0 hx (hw _ (List.mem_of_getElem? (i := 7) rfl)) (g := (mkF m 140 #[.val (.int i0), .val (.int i1), .val (.int i2), .val (.int i3), .val (.int (1 : Int32)), .val (.int (1 : Int32)), .val (.int a), .val (.int b), .val (.int x), .val (.int y), .val (.ref sp), .val (.ref sl), .val (.ref sn), .val (.ref sv), .val (.ref at'), .val (.ref r), .unset, .unset] [(.int (5 : Int32))])) rfl (Jvm.hb hby at_140) rfl (by decide) (cap := 5) (by decide) (by decide) (by decide) (by decide) (fun T40_ h40_ a40_ k40_ g40_ E40_ V40_ w40_ => ?_)
    have A40_ := own_at w40_
    show own_WP p e _ below s Z _ n0 _ T40_ (mkF m 142 #[.val (.int i0), .val (.int i1), .val (.int i2), .val (.int i3), .val (.int (1 : Int32)), .val (.int (1 : Int32)), .val (.int a), .val (.int b), .val (.int x), .val (.int y), .val (.ref sp), .val (.ref sl), .val (.ref sn), .val (.ref sv), .val (.ref at'), .val (.ref r), .unset, .unset] [(.ref a40_)])
    have ge : n0 ≤ a40_ := by rw [g40_]; exact own_n0 w0
    have U0 : Arv Z h40_ a40_ k40_ .char (5 : Int32) [(.int (0 : Int32)), (.int (0 : Int32)), (.int (0 : Int32)), (.int (0 : Int32)), (.int (0 : Int32))] (.int 0) := V40_.pad (vs' := [(.int (0 : Int32)), (.int (0 : Int32)), (.int (0 : Int32)), (.int (0 : Int32)), (.int (0 : Int32))]) (fun i => pad_rep [] (.int (0 : Int32)) 5 i)
    have gez : h0.size ≤ a40_ := by rw [g40_]; exact Nat.le_refl _
    refine own_by (T' := T40_) (g' := (mkF m 144 #[.val (.int i0), .val (.int i1), .val (.int i2), .val (.int i3), .val (.int (1 : Int32)), .val (.int (1 : Int32)), .val (.int a), .val (.int b), .val (.int x), .val (.int y), .val (.ref sp), .val (.ref sl), .val (.ref sn), .val (.ref sv), .val (.ref at'), .val (.ref r), .val (.ref a40_), .unset] [])) (fun t_ hr_ => XS.astore A40_ hx rfl (Jvm.hb hby at_142) rfl rfl (l' := #[.val (.int i0), .val (.int i1), .val (.int i2), .val (.int i3), .val (.int (1 : Int32)), .val (.int (1 : Int32)), .val (.int a), .val (.int b), .val (.int x), .val (.int y), .val (.ref sp), .val (.ref sl), .val (.ref sn), .val (.ref sv), .val (.ref at'), .val (.ref r), .val (.ref a40_), .unset]) rfl hr_) ?_
    refine own_by (T' := T40_) (g' := (mkF m 146 #[.val (.int i0), .val (.int i1), .val (.int i2), .val (.int i3), .val (.int (1 : Int32)), .val (.int (1 : Int32)), .val (.int a), .val (.int b), .val (.int x), .val (.int y), .val (.ref sp), .val (.ref sl), .val (.ref sn), .val (.ref sv), .val (.ref at'), .val (.ref r), .val (.ref a40_), .unset] [(.int (1 : Int32))])) (fun t_ hr_ => XS.iload A40_ hx rfl (Jvm.hb hby at_144) rfl hr_) ?_
    refine own_by (T' := T40_) (g' := (mkF m 168 #[.val (.int i0), .val (.int i1), .val (.int i2), .val (.int i3), .val (.int (1 : Int32)), .val (.int (1 : Int32)), .val (.int a), .val (.int b), .val (.int x), .val (.int y), .val (.ref sp), .val (.ref sl), .val (.ref sn), .val (.ref sv), .val (.ref at'), .val (.ref r), .val (.ref a40_), .unset] [])) (fun t_ hr_ => XS.ifYes A40_ hx rfl (pc0 := 146) (pc' := 168) rfl (Jvm.hb hby at_146) rfl ((if0 _ _).trans (feq (by decide)).2) (by decide) (by decide) hr_) ?_
    refine own_by (T' := T40_) (g' := (mkF m 170 #[.val (.int i0), .val (.int i1), .val (.int i2), .val (.int i3), .val (.int (1 : Int32)), .val (.int (1 : Int32)), .val (.int a), .val (.int b), .val (.int x), .val (.int y), .val (.ref sp), .val (.ref sl), .val (.ref sn), .val (.ref sv), .val (.ref at'), .val (.ref r), .val (.ref a40_), .unset] [(.ref a40_)])) (fun t_ hr_ => XS.aload A40_ hx rfl (Jvm.hb hby at_168) rfl rfl hr_) ?_
    refine own_by (T' := T40_) (g' := (mkF m 171 #[.val (.int i0), .val (.int i1), .val (.int i2), .val (.int i3), .val (.int (1 : Int32)), .val (.int (1 : Int32)), .val (.int a), .val (.int b), .val (.int x), .val (.int y), .val (.ref sp), .val (.ref sl), .val (.ref sn), .val (.ref sv), .val (.ref at'), .val (.ref r), .val (.ref a40_), .unset] [(.int (0 : Int32)), (.ref a40_)])) (fun t_ hr_ => XS.iconst A40_ hx rfl (Jvm.hb hby at_170) hr_) ?_
    refine own_by (T' := T40_) (g' := (mkF m 173 #[.val (.int i0), .val (.int i1), .val (.int i2), .val (.int i3), .val (.int (1 : Int32)), .val (.int (1 : Int32)), .val (.int a), .val (.int b), .val (.int x), .val (.int y), .val (.ref sp), .val (.ref sl), .val (.ref sn), .val (.ref sv), .val (.ref at'), .val (.ref r), .val (.ref a40_), .unset] [(.int a), (.int (0 : Int32)), (.ref a40_)])) (fun t_ hr_ => XS.iload A40_ hx rfl (Jvm.hb hby at_171) rfl hr_) ?_
    refine own_castore w40_ hx U0 (by decide) (own_rng255 ra) (i := 0) rfl (by simp) ge (g := (mkF m 173 #[.val (.int i0), .val (.int i1), .val (.int i2), .val (.int i3), .val (.int (1 : Int32)), .val (.int (1 : Int32)), .val (.int a), .val (.int b), .val (.int x), .val (.int y), .val (.ref sp), .val (.ref sl), .val (.ref sn), .val (.ref sv), .val (.ref at'), .val (.ref r), .val (.ref a40_), .unset] [(.int a), (.int (0 : Int32)), (.ref a40_)])) rfl rfl (Jvm.hb hby at_173) (fun T41_ h41_ W41_ V41_ w41_ => ?_)
    have A41_ := own_at w41_
    show own_WP p e _ below s Z _ n0 _ T41_ (mkF m 174 #[.val (.int i0), .val (.int i1), .val (.int i2), .val (.int i3), .val (.int (1 : Int32)), .val (.int (1 : Int32)), .val (.int a), .val (.int b), .val (.int x), .val (.int y), .val (.ref sp), .val (.ref sl), .val (.ref sn), .val (.ref sv), .val (.ref at'), .val (.ref r), .val (.ref a40_), .unset] [])
    have EeW41_ := own_extWr E40_ W41_ gez
    refine own_by (T' := T41_) (g' := (mkF m 176 #[.val (.int i0), .val (.int i1), .val (.int i2), .val (.int i3), .val (.int (1 : Int32)), .val (.int (1 : Int32)), .val (.int a), .val (.int b), .val (.int x), .val (.int y), .val (.ref sp), .val (.ref sl), .val (.ref sn), .val (.ref sv), .val (.ref at'), .val (.ref r), .val (.ref a40_), .unset] [(.ref a40_)])) (fun t_ hr_ => XS.aload A41_ hx rfl (Jvm.hb hby at_174) rfl rfl hr_) ?_
    refine own_by (T' := T41_) (g' := (mkF m 177 #[.val (.int i0), .val (.int i1), .val (.int i2), .val (.int i3), .val (.int (1 : Int32)), .val (.int (1 : Int32)), .val (.int a), .val (.int b), .val (.int x), .val (.int y), .val (.ref sp), .val (.ref sl), .val (.ref sn), .val (.ref sv), .val (.ref at'), .val (.ref r), .val (.ref a40_), .unset] [(.int (1 : Int32)), (.ref a40_)])) (fun t_ hr_ => XS.iconst A41_ hx rfl (Jvm.hb hby at_176) hr_) ?_
    refine own_by (T' := T41_) (g' := (mkF m 179 #[.val (.int i0), .val (.int i1), .val (.int i2), .val (.int i3), .val (.int (1 : Int32)), .val (.int (1 : Int32)), .val (.int a), .val (.int b), .val (.int x), .val (.int y), .val (.ref sp), .val (.ref sl), .val (.ref sn), .val (.ref sv), .val (.ref at'), .val (.ref r), .val (.ref a40_), .unset] [(.int b), (.int (1 : Int32)), (.ref a40_)])) (fun t_ hr_ => XS.iload A41_ hx rfl (Jvm.hb hby at_177) rfl hr_) ?_
    refine own_castore w41_ hx V41_ (by decide) (own_rng255 rb) (i := 1) rfl (by simp) ge (g := (mkF m 179 #[.val (.int i0), .val (.int i1), .val (.int i2), .val (.int i3), .val (.int (1 : Int32)), .val (.int (1 : Int32)), .val (.int a), .val (.int b), .val (.int x), .val (.int y), .val (.ref sp), .val (.ref sl), .val (.ref sn), .val (.ref sv), .val (.ref at'), .val (.ref r), .val (.ref a40_), .unset] [(.int b), (.int (1 : Int32)), (.ref a40_)])) rfl rfl (Jvm.hb hby at_179) (fun T42_ h42_ W42_ V42_ w42_ => ?_)
    have A42_ := own_at w42_
    show own_WP p e _ below s Z _ n0 _ T42_ (mkF m 180 #[.val (.int i0), .val (.int i1), .val (.int i2), .val (.int i3), .val (.int (1 : Int32)), .val (.int (1 : Int32)), .val (.int a), .val (.int b), .val (.int x), .val (.int y), .val (.ref sp), .val (.ref sl), .val (.ref sn), .val (.ref sv), .val (.ref at'), .val (.ref r), .val (.ref a40_), .unset] [])
    have EeW42_ := own_extWr EeW41_ W42_ gez
    refine own_by (T' := T42_) (g' := (mkF m 182 #[.val (.int i0), .val (.int i1), .val (.int i2), .val (.int i3), .val (.int (1 : Int32)), .val (.int (1 : Int32)), .val (.int a), .val (.int b), .val (.int x), .val (.int y), .val (.ref sp), .val (.ref sl), .val (.ref sn), .val (.ref sv), .val (.ref at'), .val (.ref r), .val (.ref a40_), .unset] [(.ref a40_)])) (fun t_ hr_ => XS.aload A42_ hx rfl (Jvm.hb hby at_180) rfl rfl hr_) ?_
    refine own_by (T' := T42_) (g' := (mkF m 184 #[.val (.int i0), .val (.int i1), .val (.int i2), .val (.int i3), .val (.int (1 : Int32)), .val (.int (1 : Int32)), .val (.int a), .val (.int b), .val (.int x), .val (.int y), .val (.ref sp), .val (.ref sl), .val (.ref sn), .val (.ref sv), .val (.ref at'), .val (.ref r), .val (.ref a40_), .unset] [(.int (1 : Int32)), (.ref a40_)])) (fun t_ hr_ => XS.iload A42_ hx rfl (Jvm.hb hby at_182) rfl hr_) ?_
    refine own_by (T' := T42_) (g' := (mkF m 186 #[.val (.int i0), .val (.int i1), .val (.int i2), .val (.int i3), .val (.int (1 : Int32)), .val (.int (1 : Int32)), .val (.int a), .val (.int b), .val (.int x), .val (.int y), .val (.ref sp), .val (.ref sl), .val (.ref sn), .val (.ref sv), .val (.ref at'), .val (.ref r), .val (.ref a40_), .unset] [(.int (58 : Int32)), (.int (1 : Int32)), (.ref a40_)])) (fun t_ hr_ => XS.bipush A42_ hx rfl (Jvm.hb hby at_184) hr_) ?_
    refine own_castore w42_ hx V42_ (by decide) (own_rng255 (by decide)) (i := 1) rfl (by simp) ge (g := (mkF m 186 #[.val (.int i0), .val (.int i1), .val (.int i2), .val (.int i3), .val (.int (1 : Int32)), .val (.int (1 : Int32)), .val (.int a), .val (.int b), .val (.int x), .val (.int y), .val (.ref sp), .val (.ref sl), .val (.ref sn), .val (.ref sv), .val (.ref at'), .val (.ref r), .val (.ref a40_), .unset] [(.int (58 : Int32)), (.int (1 : Int32)), (.ref a40_)])) rfl rfl (Jvm.hb hby at_186) (fun T43_ h43_ W43_ V43_ w43_ => ?_)
    have A43_ := own_at w43_
    show own_WP p e _ below s Z _ n0 _ T43_ (mkF m 187 #[.val (.int i0), .val (.int i1), .val (.int i2), .val (.int i3), .val (.int (1 : Int32)), .val (.int (1 : Int32)), .val (.int a), .val (.int b), .val (.int x), .val (.int y), .val (.ref sp), .val (.ref sl), .val (.ref sn), .val (.ref sv), .val (.ref at'), .val (.ref r), .val (.ref a40_), .unset] [])
    have EeW43_ := own_extWr EeW42_ W43_ gez
    refine own_by (T' := T43_) (g' := (mkF m 189 #[.val (.int i0), .val (.int i1), .val (.int i2), .val (.int i3), .val (.int (1 : Int32)), .val (.int (1 : Int32)), .val (.int a), .val (.int b), .val (.int x), .val (.int y), .val (.ref sp), .val (.ref sl), .val (.ref sn), .val (.ref sv), .val (.ref at'), .val (.ref r), .val (.ref a40_), .unset] [(.ref a40_)])) (fun t_ hr_ => XS.aload A43_ hx rfl (Jvm.hb hby at_187) rfl rfl hr_) ?_
    refine own_by (T' := T43_) (g' := (mkF m 191 #[.val (.int i0), .val (.int i1), .val (.int i2), .val (.int i3), .val (.int (1 : Int32)), .val (.int (1 : Int32)), .val (.int a), .val (.int b), .val (.int x), .val (.int y), .val (.ref sp), .val (.ref sl), .val (.ref sn), .val (.ref sv), .val (.ref at'), .val (.ref r), .val (.ref a40_), .unset] [(.int (1 : Int32)), (.ref a40_)])) (fun t_ hr_ => XS.iload A43_ hx rfl (Jvm.hb hby at_189) rfl hr_) ?_
    refine own_by (T' := T43_) (g' := (mkF m 192 #[.val (.int i0), .val (.int i1), .val (.int i2), .val (.int i3), .val (.int (1 : Int32)), .val (.int (1 : Int32)), .val (.int a), .val (.int b), .val (.int x), .val (.int y), .val (.ref sp), .val (.ref sl), .val (.ref sn), .val (.ref sv), .val (.ref at'), .val (.ref r), .val (.ref a40_), .unset] [(.int (1 : Int32)), (.int (1 : Int32)), (.ref a40_)])) (fun t_ hr_ => XS.iconst A43_ hx rfl (Jvm.hb hby at_191) hr_) ?_
    refine own_by (T' := T43_) (g' := (mkF m 193 #[.val (.int i0), .val (.int i1), .val (.int i2), .val (.int i3), .val (.int (1 : Int32)), .val (.int (1 : Int32)), .val (.int a), .val (.int b), .val (.int x), .val (.int y), .val (.ref sp), .val (.ref sl), .val (.ref sn), .val (.ref sv), .val (.ref at'), .val (.ref r), .val (.ref a40_), .unset] [(.int ((1 : Int32) + (1 : Int32))), (.ref a40_)])) (fun t_ hr_ => XS.iadd A43_ hx rfl (Jvm.hb hby at_192) rfl hr_) ?_
    refine own_by (T' := T43_) (g' := (mkF m 195 #[.val (.int i0), .val (.int i1), .val (.int i2), .val (.int i3), .val (.int (1 : Int32)), .val (.int (1 : Int32)), .val (.int a), .val (.int b), .val (.int x), .val (.int y), .val (.ref sp), .val (.ref sl), .val (.ref sn), .val (.ref sv), .val (.ref at'), .val (.ref r), .val (.ref a40_), .unset] [(.int x), (.int ((1 : Int32) + (1 : Int32))), (.ref a40_)])) (fun t_ hr_ => XS.iload A43_ hx rfl (Jvm.hb hby at_193) rfl hr_) ?_
    rw [show ((1 : Int32) + (1 : Int32)) = (2 : Int32) from (by decide)]
    show own_WP p e _ below s Z _ n0 _ T43_ (mkF m 195 #[.val (.int i0), .val (.int i1), .val (.int i2), .val (.int i3), .val (.int (1 : Int32)), .val (.int (1 : Int32)), .val (.int a), .val (.int b), .val (.int x), .val (.int y), .val (.ref sp), .val (.ref sl), .val (.ref sn), .val (.ref sv), .val (.ref at'), .val (.ref r), .val (.ref a40_), .unset] [(.int x), (.int (2 : Int32)), (.ref a40_)])
    refine own_castore w43_ hx V43_ (by decide) (own_rng255 rx) (i := 2) rfl (by simp) ge (g := (mkF m 195 #[.val (.int i0), .val (.int i1), .val (.int i2), .val (.int i3), .val (.int (1 : Int32)), .val (.int (1 : Int32)), .val (.int a), .val (.int b), .val (.int x), .val (.int y), .val (.ref sp), .val (.ref sl), .val (.ref sn), .val (.ref sv), .val (.ref at'), .val (.ref r), .val (.ref a40_), .unset] [(.int x), (.int (2 : Int32)), (.ref a40_)])) rfl rfl (Jvm.hb hby at_195) (fun T44_ h44_ W44_ V44_ w44_ => ?_)
    have A44_ := own_at w44_
    show own_WP p e _ below s Z _ n0 _ T44_ (mkF m 196 #[.val (.int i0), .val (.int i1), .val (.int i2), .val (.int i3), .val (.int (1 : Int32)), .val (.int (1 : Int32)), .val (.int a), .val (.int b), .val (.int x), .val (.int y), .val (.ref sp), .val (.ref sl), .val (.ref sn), .val (.ref sv), .val (.ref at'), .val (.ref r), .val (.ref a40_), .unset] [])
    have EeW44_ := own_extWr EeW43_ W44_ gez
    refine own_by (T' := T44_) (g' := (mkF m 198 #[.val (.int i0), .val (.int i1), .val (.int i2), .val (.int i3), .val (.int (1 : Int32)), .val (.int (1 : Int32)), .val (.int a), .val (.int b), .val (.int x), .val (.int y), .val (.ref sp), .val (.ref sl), .val (.ref sn), .val (.ref sv), .val (.ref at'), .val (.ref r), .val (.ref a40_), .unset] [(.ref a40_)])) (fun t_ hr_ => XS.aload A44_ hx rfl (Jvm.hb hby at_196) rfl rfl hr_) ?_
    refine own_by (T' := T44_) (g' := (mkF m 200 #[.val (.int i0), .val (.int i1), .val (.int i2), .val (.int i3), .val (.int (1 : Int32)), .val (.int (1 : Int32)), .val (.int a), .val (.int b), .val (.int x), .val (.int y), .val (.ref sp), .val (.ref sl), .val (.ref sn), .val (.ref sv), .val (.ref at'), .val (.ref r), .val (.ref a40_), .unset] [(.int (1 : Int32)), (.ref a40_)])) (fun t_ hr_ => XS.iload A44_ hx rfl (Jvm.hb hby at_198) rfl hr_) ?_
    refine own_by (T' := T44_) (g' := (mkF m 201 #[.val (.int i0), .val (.int i1), .val (.int i2), .val (.int i3), .val (.int (1 : Int32)), .val (.int (1 : Int32)), .val (.int a), .val (.int b), .val (.int x), .val (.int y), .val (.ref sp), .val (.ref sl), .val (.ref sn), .val (.ref sv), .val (.ref at'), .val (.ref r), .val (.ref a40_), .unset] [(.int (2 : Int32)), (.int (1 : Int32)), (.ref a40_)])) (fun t_ hr_ => XS.iconst A44_ hx rfl (Jvm.hb hby at_200) hr_) ?_
    refine own_by (T' := T44_) (g' := (mkF m 202 #[.val (.int i0), .val (.int i1), .val (.int i2), .val (.int i3), .val (.int (1 : Int32)), .val (.int (1 : Int32)), .val (.int a), .val (.int b), .val (.int x), .val (.int y), .val (.ref sp), .val (.ref sl), .val (.ref sn), .val (.ref sv), .val (.ref at'), .val (.ref r), .val (.ref a40_), .unset] [(.int ((1 : Int32) + (2 : Int32))), (.ref a40_)])) (fun t_ hr_ => XS.iadd A44_ hx rfl (Jvm.hb hby at_201) rfl hr_) ?_
    refine own_by (T' := T44_) (g' := (mkF m 204 #[.val (.int i0), .val (.int i1), .val (.int i2), .val (.int i3), .val (.int (1 : Int32)), .val (.int (1 : Int32)), .val (.int a), .val (.int b), .val (.int x), .val (.int y), .val (.ref sp), .val (.ref sl), .val (.ref sn), .val (.ref sv), .val (.ref at'), .val (.ref r), .val (.ref a40_), .unset] [(.int y), (.int ((1 : Int32) + (2 : Int32))), (.ref a40_)])) (fun t_ hr_ => XS.iload A44_ hx rfl (Jvm.hb hby at_202) rfl hr_) ?_
    rw [show ((1 : Int32) + (2 : Int32)) = (3 : Int32) from (by decide)]
    show own_WP p e _ below s Z _ n0 _ T44_ (mkF m 204 #[.val (.int i0), .val (.int i1), .val (.int i2), .val (.int i3), .val (.int (1 : Int32)), .val (.int (1 : Int32)), .val (.int a), .val (.int b), .val (.int x), .val (.int y), .val (.ref sp), .val (.ref sl), .val (.ref sn), .val (.ref sv), .val (.ref at'), .val (.ref r), .val (.ref a40_), .unset] [(.int y), (.int (3 : Int32)), (.ref a40_)])
    refine own_castore w44_ hx V44_ (by decide) (own_rng255 ry) (i := 3) rfl (by simp) ge (g := (mkF m 204 #[.val (.int i0), .val (.int i1), .val (.int i2), .val (.int i3), .val (.int (1 : Int32)), .val (.int (1 : Int32)), .val (.int a), .val (.int b), .val (.int x), .val (.int y), .val (.ref sp), .val (.ref sl), .val (.ref sn), .val (.ref sv), .val (.ref at'), .val (.ref r), .val (.ref a40_), .unset] [(.int y), (.int (3 : Int32)), (.ref a40_)])) rfl rfl (Jvm.hb hby at_204) (fun T45_ h45_ W45_ V45_ w45_ => ?_)
    have A45_ := own_at w45_
    show own_WP p e _ below s Z _ n0 _ T45_ (mkF m 205 #[.val (.int i0), .val (.int i1), .val (.int i2), .val (.int i3), .val (.int (1 : Int32)), .val (.int (1 : Int32)), .val (.int a), .val (.int b), .val (.int x), .val (.int y), .val (.ref sp), .val (.ref sl), .val (.ref sn), .val (.ref sv), .val (.ref at'), .val (.ref r), .val (.ref a40_), .unset] [])
    have EeW45_ := own_extWr EeW44_ W45_ gez
    refine own_by (T' := T45_) (g' := (mkF m 207 #[.val (.int i0), .val (.int i1), .val (.int i2), .val (.int i3), .val (.int (1 : Int32)), .val (.int (1 : Int32)), .val (.int a), .val (.int b), .val (.int x), .val (.int y), .val (.ref sp), .val (.ref sl), .val (.ref sn), .val (.ref sv), .val (.ref at'), .val (.ref r), .val (.ref a40_), .unset] [(.int (1 : Int32))])) (fun t_ hr_ => XS.iload A45_ hx rfl (Jvm.hb hby at_205) rfl hr_) ?_
    refine own_by (T' := T45_) (g' := (mkF m 208 #[.val (.int i0), .val (.int i1), .val (.int i2), .val (.int i3), .val (.int (1 : Int32)), .val (.int (1 : Int32)), .val (.int a), .val (.int b), .val (.int x), .val (.int y), .val (.ref sp), .val (.ref sl), .val (.ref sn), .val (.ref sv), .val (.ref at'), .val (.ref r), .val (.ref a40_), .unset] [(.int (1 : Int32)), (.int (1 : Int32))])) (fun t_ hr_ => XS.iconst A45_ hx rfl (Jvm.hb hby at_207) hr_) ?_
    refine own_by (T' := T45_) (g' := (mkF m 209 #[.val (.int i0), .val (.int i1), .val (.int i2), .val (.int i3), .val (.int (1 : Int32)), .val (.int (1 : Int32)), .val (.int a), .val (.int b), .val (.int x), .val (.int y), .val (.ref sp), .val (.ref sl), .val (.ref sn), .val (.ref sv), .val (.ref at'), .val (.ref r), .val (.ref a40_), .unset] [(.int ((1 : Int32) + (1 : Int32)))])) (fun t_ hr_ => XS.iadd A45_ hx rfl (Jvm.hb hby at_208) rfl hr_) ?_
    refine own_by (T' := T45_) (g' := (mkF m 211 #[.val (.int i0), .val (.int i1), .val (.int i2), .val (.int i3), .val (.int (1 : Int32)), .val (.int (1 : Int32)), .val (.int a), .val (.int b), .val (.int x), .val (.int y), .val (.ref sp), .val (.ref sl), .val (.ref sn), .val (.ref sv), .val (.ref at'), .val (.ref r), .val (.ref a40_), .unset] [(.int (1 : Int32)), (.int ((1 : Int32) + (1 : Int32)))])) (fun t_ hr_ => XS.iload A45_ hx rfl (Jvm.hb hby at_209) rfl hr_) ?_
    refine own_by (T' := T45_) (g' := (mkF m 212 #[.val (.int i0), .val (.int i1), .val (.int i2), .val (.int i3), .val (.int (1 : Int32)), .val (.int (1 : Int32)), .val (.int a), .val (.int b), .val (.int x), .val (.int y), .val (.ref sp), .val (.ref sl), .val (.ref sn), .val (.ref sv), .val (.ref at'), .val (.ref r), .val (.ref a40_), .unset] [(.int (((1 : Int32) + (1 : Int32)) + (1 : Int32)))])) (fun t_ hr_ => XS.iadd A45_ hx rfl (Jvm.hb hby at_211) rfl hr_) ?_
    refine own_by (T' := T45_) (g' := (mkF m 214 #[.val (.int i0), .val (.int i1), .val (.int i2), .val (.int i3), .val (.int (1 : Int32)), .val (.int (1 : Int32)), .val (.int a), .val (.int b), .val (.int x), .val (.int y), .val (.ref sp), .val (.ref sl), .val (.ref sn), .val (.ref sv), .val (.ref at'), .val (.ref r), .val (.ref a40_), .val (.int (((1 : Int32) + (1 : Int32)) + (1 : Int32)))] [])) (fun t_ hr_ => XS.istore A45_ hx rfl (Jvm.hb hby at_212) rfl (l' := #[.val (.int i0), .val (.int i1), .val (.int i2), .val (.int i3), .val (.int (1 : Int32)), .val (.int (1 : Int32)), .val (.int a), .val (.int b), .val (.int x), .val (.int y), .val (.ref sp), .val (.ref sl), .val (.ref sn), .val (.ref sv), .val (.ref at'), .val (.ref r), .val (.ref a40_), .val (.int (((1 : Int32) + (1 : Int32)) + (1 : Int32)))]) rfl hr_) ?_
    rw [show (((1 : Int32) + (1 : Int32)) + (1 : Int32)) = (3 : Int32) from (by decide)]
    show own_WP p e _ below s Z _ n0 _ T45_ (mkF m 214 #[.val (.int i0), .val (.int i1), .val (.int i2), .val (.int i3), .val (.int (1 : Int32)), .val (.int (1 : Int32)), .val (.int a), .val (.int b), .val (.int x), .val (.int y), .val (.ref sp), .val (.ref sl), .val (.ref sn), .val (.ref sv), .val (.ref at'), .val (.ref r), .val (.ref a40_), .val (.int (3 : Int32))] [])
    refine own_by (T' := T45_) (g' := (mkF m 216 #[.val (.int i0), .val (.int i1), .val (.int i2), .val (.int i3), .val (.int (1 : Int32)), .val (.int (1 : Int32)), .val (.int a), .val (.int b), .val (.int x), .val (.int y), .val (.ref sp), .val (.ref sl), .val (.ref sn), .val (.ref sv), .val (.ref at'), .val (.ref r), .val (.ref a40_), .val (.int (3 : Int32))] [(.ref r)])) (fun t_ hr_ => XS.aload A45_ hx rfl (Jvm.hb hby at_214) rfl rfl hr_) ?_
    refine own_by (T' := T45_) (g' := (mkF m 219 #[.val (.int i0), .val (.int i1), .val (.int i2), .val (.int i3), .val (.int (1 : Int32)), .val (.int (1 : Int32)), .val (.int a), .val (.int b), .val (.int x), .val (.int y), .val (.ref sp), .val (.ref sl), .val (.ref sn), .val (.ref sv), .val (.ref at'), .val (.ref r), .val (.ref a40_), .val (.int (3 : Int32))] [])) (fun t_ hr_ => XS.ifnullNo A45_ hx rfl (Jvm.hb hby at_216) rfl hr_) ?_
    refine own_by (T' := T45_) (g' := (mkF m 221 #[.val (.int i0), .val (.int i1), .val (.int i2), .val (.int i3), .val (.int (1 : Int32)), .val (.int (1 : Int32)), .val (.int a), .val (.int b), .val (.int x), .val (.int y), .val (.ref sp), .val (.ref sl), .val (.ref sn), .val (.ref sv), .val (.ref at'), .val (.ref r), .val (.ref a40_), .val (.int (3 : Int32))] [(.ref r)])) (fun t_ hr_ => XS.aload A45_ hx rfl (Jvm.hb hby at_219) rfl rfl hr_) ?_
    have Sz : own_Str Z h45_ r ([a, 58, x] : List Int32) := by first | exact S0.ext EeW45_ | (have q := S0.ext EeW45_; simpa [own_nc] using q)
    refine own_callV w45_ hx (y := (⟨"java/lang/String", "length", "()I"⟩ : MethodName)) (z := (⟨"java/lang/String", "length", "()I"⟩ : MethodName)) (hw _ (List.mem_of_getElem? (i := 178) rfl)) (hw _ (List.mem_of_getElem? (i := 96) rfl)) (fun u hu => notFace_of_selects (args := #[]) (mvT hu (hw _ (List.mem_of_getElem? (i := 98) rfl)))) (hw _ (List.mem_of_getElem? (i := 98) rfl)) (hw _ (List.mem_of_getElem? (i := 97) rfl)) (by decide) (kc := 0) (ks := 0) (a := r) (argsL := []) (rest := []) (own_payLen (W := 0) w45_ hEL (own_wLen hw) (hw _ (List.mem_of_getElem? (i := 5) rfl)) SC Sz (by decide) (by decide)) Sz.exa (g := (mkF m 221 #[.val (.int i0), .val (.int i1), .val (.int i2), .val (.int i3), .val (.int (1 : Int32)), .val (.int (1 : Int32)), .val (.int a), .val (.int b), .val (.int x), .val (.int y), .val (.ref sp), .val (.ref sl), .val (.ref sn), .val (.ref sv), .val (.ref at'), .val (.ref r), .val (.ref a40_), .val (.int (3 : Int32))] [(.ref r)])) rfl (by rw [hml]; rfl) (lenOf pd_691884 rfl) rfl (by show 2 * 0 + _ ≤ _; exact Nat.le_of_eq rfl) (Jvm.hb hby at_221) (by decide) (by decide) (fun v46_ T46_ vm46_ h46_ q46_ C46_ w46_ => ?_)
    obtain ⟨rfl, rfl⟩ := q46_
    have A46_ := own_at w46_
    show own_WP p e _ below s Z _ n0 _ T46_ (mkF m 224 #[.val (.int i0), .val (.int i1), .val (.int i2), .val (.int i3), .val (.int (1 : Int32)), .val (.int (1 : Int32)), .val (.int a), .val (.int b), .val (.int x), .val (.int y), .val (.ref sp), .val (.ref sl), .val (.ref sn), .val (.ref sv), .val (.ref at'), .val (.ref r), .val (.ref a40_), .val (.int (3 : Int32))] [(.int (Int32.ofNat ([a, 58, x] : List Int32).length))])
    refine own_by (T' := T46_) (g' := (mkF m 226 #[.val (.int i0), .val (.int i1), .val (.int i2), .val (.int i3), .val (.int (1 : Int32)), .val (.int (1 : Int32)), .val (.int a), .val (.int b), .val (.int x), .val (.int y), .val (.ref sp), .val (.ref sl), .val (.ref sn), .val (.ref sv), .val (.ref at'), .val (.ref r), .val (.ref a40_), .val (.int (3 : Int32))] [(.int (3 : Int32)), (.int (Int32.ofNat ([a, 58, x] : List Int32).length))])) (fun t_ hr_ => XS.iload A46_ hx rfl (Jvm.hb hby at_224) rfl hr_) ?_
    refine own_by (T' := T46_) (g' := (mkF m 231 #[.val (.int i0), .val (.int i1), .val (.int i2), .val (.int i3), .val (.int (1 : Int32)), .val (.int (1 : Int32)), .val (.int a), .val (.int b), .val (.int x), .val (.int y), .val (.ref sp), .val (.ref sl), .val (.ref sn), .val (.ref sv), .val (.ref at'), .val (.ref r), .val (.ref a40_), .val (.int (3 : Int32))] [])) (fun t_ hr_ => XS.icmpYes A46_ hx rfl (pc0 := 226) (pc' := 231) rfl (Jvm.hb hby at_226) rfl (teq (rfl)).1 (by decide) (by decide) hr_) ?_
    refine own_by (T' := T46_) (g' := (mkF m 233 #[.val (.int i0), .val (.int i1), .val (.int i2), .val (.int i3), .val (.int (1 : Int32)), .val (.int (1 : Int32)), .val (.int a), .val (.int b), .val (.int x), .val (.int y), .val (.ref sp), .val (.ref sl), .val (.ref sn), .val (.ref sv), .val (.ref at'), .val (.ref r), .val (.ref a40_), .val (.int (3 : Int32))] [(.ref r)])) (fun t_ hr_ => XS.aload A46_ hx rfl (Jvm.hb hby at_231) rfl rfl hr_) ?_
    refine own_by (T' := T46_) (g' := (mkF m 235 #[.val (.int i0), .val (.int i1), .val (.int i2), .val (.int i3), .val (.int (1 : Int32)), .val (.int (1 : Int32)), .val (.int a), .val (.int b), .val (.int x), .val (.int y), .val (.ref sp), .val (.ref sl), .val (.ref sn), .val (.ref sv), .val (.ref at'), .val (.ref r), .val (.ref a40_), .val (.int (3 : Int32))] [(.ref a40_), (.ref r)])) (fun t_ hr_ => XS.aload A46_ hx rfl (Jvm.hb hby at_233) rfl rfl hr_) ?_
    refine own_by (T' := T46_) (g' := (mkF m 237 #[.val (.int i0), .val (.int i1), .val (.int i2), .val (.int i3), .val (.int (1 : Int32)), .val (.int (1 : Int32)), .val (.int a), .val (.int b), .val (.int x), .val (.int y), .val (.ref sp), .val (.ref sl), .val (.ref sn), .val (.ref sv), .val (.ref at'), .val (.ref r), .val (.ref a40_), .val (.int (3 : Int32))] [(.int (3 : Int32)), (.ref a40_), (.ref r)])) (fun t_ hr_ => XS.iload A46_ hx rfl (Jvm.hb hby at_235) rfl hr_) ?_
    refine own_by (T' := T46_) (g' := (mkF m 238 #[.val (.int i0), .val (.int i1), .val (.int i2), .val (.int i3), .val (.int (1 : Int32)), .val (.int (1 : Int32)), .val (.int a), .val (.int b), .val (.int x), .val (.int y), .val (.ref sp), .val (.ref sl), .val (.ref sn), .val (.ref sv), .val (.ref at'), .val (.ref r), .val (.ref a40_), .val (.int (3 : Int32))] [(.int (0 : Int32)), (.int (3 : Int32)), (.ref a40_), (.ref r)])) (fun t_ hr_ => XS.iconst A46_ hx rfl (Jvm.hb hby at_237) hr_) ?_
    refine own_callS w46_ hx (y := (⟨"com/example/sigillo/sigillo/soap/AttributeNamePinLaw", "at", "(Ljava/lang/String;[CII)Z"⟩ : MethodName)) (hw _ (List.mem_of_getElem? (i := 179) rfl)) (hw _ (List.mem_of_getElem? (i := 180) rfl)) (hw _ (List.mem_of_getElem? (i := 2) rfl)) (hw _ (List.mem_of_getElem? (i := 181) rfl)) (by decide) (kc := 0) (ks := 0) (argsL := [(.ref r), (.ref a40_), (.int (3 : Int32)), (.int (0 : Int32))]) (rest := []) (own_payCt (W := 0) (ctAt l Z a0 hw SC SF n0 h45_ (own_old w46_) r a40_ k40_ ([a, 58, x] : List Int32) ([a, (58 : Int32), x, y, (0 : Int32)] : List Int32) 3 0 Sz V45_ rfl rfl (by decide) (by decide) (fun q => rfl)) w46_ (hw _ (List.mem_of_getElem? (i := 181) rfl)) (hw _ (List.mem_of_getElem? (i := 2) rfl)) hEL (by decide) (by decide)) (g := (mkF m 238 #[.val (.int i0), .val (.int i1), .val (.int i2), .val (.int i3), .val (.int (1 : Int32)), .val (.int (1 : Int32)), .val (.int a), .val (.int b), .val (.int x), .val (.int y), .val (.ref sp), .val (.ref sl), .val (.ref sn), .val (.ref sv), .val (.ref at'), .val (.ref r), .val (.ref a40_), .val (.int (3 : Int32))] [(.int (0 : Int32)), (.int (3 : Int32)), (.ref a40_), (.ref r)])) rfl (by rw [hml]; rfl) (lenOf pd_805342835 rfl) rfl (by show 2 * 0 + _ ≤ _; exact Nat.le_of_eq rfl) (Jvm.hb hby at_238) (by decide) (by decide) (fun v47_ T47_ vm47_ h47_ q47_ C47_ w47_ => ?_)
    obtain ⟨rfl, rfl⟩ := q47_
    have A47_ := own_at w47_
    show own_WP p e _ below s Z _ n0 _ T47_ (mkF m 241 #[.val (.int i0), .val (.int i1), .val (.int i2), .val (.int i3), .val (.int (1 : Int32)), .val (.int (1 : Int32)), .val (.int a), .val (.int b), .val (.int x), .val (.int y), .val (.ref sp), .val (.ref sl), .val (.ref sn), .val (.ref sv), .val (.ref at'), .val (.ref r), .val (.ref a40_), .val (.int (3 : Int32))] [(.int (1 : Int32))])
    refine own_by (T' := T47_) (g' := (mkF m 244 #[.val (.int i0), .val (.int i1), .val (.int i2), .val (.int i3), .val (.int (1 : Int32)), .val (.int (1 : Int32)), .val (.int a), .val (.int b), .val (.int x), .val (.int y), .val (.ref sp), .val (.ref sl), .val (.ref sn), .val (.ref sv), .val (.ref at'), .val (.ref r), .val (.ref a40_), .val (.int (3 : Int32))] [])) (fun t_ hr_ => XS.ifNo A47_ hx rfl (Jvm.hb hby at_241) rfl ((if0 _ _).trans (feq (by decide : ¬ (1 : Int32) = 0)).1) hr_) ?_
    refine own_by (T' := T47_) (g' := (mkF m 246 #[.val (.int i0), .val (.int i1), .val (.int i2), .val (.int i3), .val (.int (1 : Int32)), .val (.int (1 : Int32)), .val (.int a), .val (.int b), .val (.int x), .val (.int y), .val (.ref sp), .val (.ref sl), .val (.ref sn), .val (.ref sv), .val (.ref at'), .val (.ref r), .val (.ref a40_), .val (.int (3 : Int32))] [(.ref r)])) (fun t_ hr_ => XS.aload A47_ hx rfl (Jvm.hb hby at_244) rfl rfl hr_) ?_
    refine own_by (T' := T47_) (g' := (mkF m 248 #[.val (.int i0), .val (.int i1), .val (.int i2), .val (.int i3), .val (.int (1 : Int32)), .val (.int (1 : Int32)), .val (.int a), .val (.int b), .val (.int x), .val (.int y), .val (.ref sp), .val (.ref sl), .val (.ref sn), .val (.ref sv), .val (.ref at'), .val (.ref r), .val (.ref a40_), .val (.int (3 : Int32))] [(.ref a40_), (.ref r)])) (fun t_ hr_ => XS.aload A47_ hx rfl (Jvm.hb hby at_246) rfl rfl hr_) ?_
    refine own_by (T' := T47_) (g' := (mkF m 250 #[.val (.int i0), .val (.int i1), .val (.int i2), .val (.int i3), .val (.int (1 : Int32)), .val (.int (1 : Int32)), .val (.int a), .val (.int b), .val (.int x), .val (.int y), .val (.ref sp), .val (.ref sl), .val (.ref sn), .val (.ref sv), .val (.ref at'), .val (.ref r), .val (.ref a40_), .val (.int (3 : Int32))] [(.int (3 : Int32)), (.ref a40_), (.ref r)])) (fun t_ hr_ => XS.iload A47_ hx rfl (Jvm.hb hby at_248) rfl hr_) ?_
    refine own_by (T' := T47_) (g' := (mkF m 251 #[.val (.int i0), .val (.int i1), .val (.int i2), .val (.int i3), .val (.int (1 : Int32)), .val (.int (1 : Int32)), .val (.int a), .val (.int b), .val (.int x), .val (.int y), .val (.ref sp), .val (.ref sl), .val (.ref sn), .val (.ref sv), .val (.ref at'), .val (.ref r), .val (.ref a40_), .val (.int (3 : Int32))] [(.int (1 : Int32)), (.int (3 : Int32)), (.ref a40_), (.ref r)])) (fun t_ hr_ => XS.iconst A47_ hx rfl (Jvm.hb hby at_250) hr_) ?_
    refine own_callS w47_ hx (y := (⟨"com/example/sigillo/sigillo/soap/AttributeNamePinLaw", "at", "(Ljava/lang/String;[CII)Z"⟩ : MethodName)) (hw _ (List.mem_of_getElem? (i := 179) rfl)) (hw _ (List.mem_of_getElem? (i := 180) rfl)) (hw _ (List.mem_of_getElem? (i := 2) rfl)) (hw _ (List.mem_of_getElem? (i := 181) rfl)) (by decide) (kc := 0) (ks := 0) (argsL := [(.ref r), (.ref a40_), (.int (3 : Int32)), (.int (1 : Int32))]) (rest := []) (own_payCt (W := 0) (ctAt l Z a0 hw SC SF n0 h45_ (own_old w47_) r a40_ k40_ ([a, 58, x] : List Int32) ([a, (58 : Int32), x, y, (0 : Int32)] : List Int32) 3 1 Sz V45_ rfl rfl (by decide) (by decide) (fun q => rfl)) w47_ (hw _ (List.mem_of_getElem? (i := 181) rfl)) (hw _ (List.mem_of_getElem? (i := 2) rfl)) hEL (by decide) (by decide)) (g := (mkF m 251 #[.val (.int i0), .val (.int i1), .val (.int i2), .val (.int i3), .val (.int (1 : Int32)), .val (.int (1 : Int32)), .val (.int a), .val (.int b), .val (.int x), .val (.int y), .val (.ref sp), .val (.ref sl), .val (.ref sn), .val (.ref sv), .val (.ref at'), .val (.ref r), .val (.ref a40_), .val (.int (3 : Int32))] [(.int (1 : Int32)), (.int (3 : Int32)), (.ref a40_), (.ref r)])) rfl (by rw [hml]; rfl) (lenOf pd_805342835 rfl) rfl (by show 2 * 0 + _ ≤ _; exact Nat.le_of_eq rfl) (Jvm.hb hby at_251) (by decide) (by decide) (fun v48_ T48_ vm48_ h48_ q48_ C48_ w48_ => ?_)
    obtain ⟨rfl, rfl⟩ := q48_
    have A48_ := own_at w48_
    show own_WP p e _ below s Z _ n0 _ T48_ (mkF m 254 #[.val (.int i0), .val (.int i1), .val (.int i2), .val (.int i3), .val (.int (1 : Int32)), .val (.int (1 : Int32)), .val (.int a), .val (.int b), .val (.int x), .val (.int y), .val (.ref sp), .val (.ref sl), .val (.ref sn), .val (.ref sv), .val (.ref at'), .val (.ref r), .val (.ref a40_), .val (.int (3 : Int32))] [(.int (1 : Int32))])
    refine own_by (T' := T48_) (g' := (mkF m 257 #[.val (.int i0), .val (.int i1), .val (.int i2), .val (.int i3), .val (.int (1 : Int32)), .val (.int (1 : Int32)), .val (.int a), .val (.int b), .val (.int x), .val (.int y), .val (.ref sp), .val (.ref sl), .val (.ref sn), .val (.ref sv), .val (.ref at'), .val (.ref r), .val (.ref a40_), .val (.int (3 : Int32))] [])) (fun t_ hr_ => XS.ifNo A48_ hx rfl (Jvm.hb hby at_254) rfl ((if0 _ _).trans (feq (by decide : ¬ (1 : Int32) = 0)).1) hr_) ?_
    refine own_by (T' := T48_) (g' := (mkF m 259 #[.val (.int i0), .val (.int i1), .val (.int i2), .val (.int i3), .val (.int (1 : Int32)), .val (.int (1 : Int32)), .val (.int a), .val (.int b), .val (.int x), .val (.int y), .val (.ref sp), .val (.ref sl), .val (.ref sn), .val (.ref sv), .val (.ref at'), .val (.ref r), .val (.ref a40_), .val (.int (3 : Int32))] [(.ref r)])) (fun t_ hr_ => XS.aload A48_ hx rfl (Jvm.hb hby at_257) rfl rfl hr_) ?_
    refine own_by (T' := T48_) (g' := (mkF m 261 #[.val (.int i0), .val (.int i1), .val (.int i2), .val (.int i3), .val (.int (1 : Int32)), .val (.int (1 : Int32)), .val (.int a), .val (.int b), .val (.int x), .val (.int y), .val (.ref sp), .val (.ref sl), .val (.ref sn), .val (.ref sv), .val (.ref at'), .val (.ref r), .val (.ref a40_), .val (.int (3 : Int32))] [(.ref a40_), (.ref r)])) (fun t_ hr_ => XS.aload A48_ hx rfl (Jvm.hb hby at_259) rfl rfl hr_) ?_
    refine own_by (T' := T48_) (g' := (mkF m 263 #[.val (.int i0), .val (.int i1), .val (.int i2), .val (.int i3), .val (.int (1 : Int32)), .val (.int (1 : Int32)), .val (.int a), .val (.int b), .val (.int x), .val (.int y), .val (.ref sp), .val (.ref sl), .val (.ref sn), .val (.ref sv), .val (.ref at'), .val (.ref r), .val (.ref a40_), .val (.int (3 : Int32))] [(.int (3 : Int32)), (.ref a40_), (.ref r)])) (fun t_ hr_ => XS.iload A48_ hx rfl (Jvm.hb hby at_261) rfl hr_) ?_
    refine own_by (T' := T48_) (g' := (mkF m 264 #[.val (.int i0), .val (.int i1), .val (.int i2), .val (.int i3), .val (.int (1 : Int32)), .val (.int (1 : Int32)), .val (.int a), .val (.int b), .val (.int x), .val (.int y), .val (.ref sp), .val (.ref sl), .val (.ref sn), .val (.ref sv), .val (.ref at'), .val (.ref r), .val (.ref a40_), .val (.int (3 : Int32))] [(.int (2 : Int32)), (.int (3 : Int32)), (.ref a40_), (.ref r)])) (fun t_ hr_ => XS.iconst A48_ hx rfl (Jvm.hb hby at_263) hr_) ?_
    refine own_callS w48_ hx (y := (⟨"com/example/sigillo/sigillo/soap/AttributeNamePinLaw", "at", "(Ljava/lang/String;[CII)Z"⟩ : MethodName)) (hw _ (List.mem_of_getElem? (i := 179) rfl)) (hw _ (List.mem_of_getElem? (i := 180) rfl)) (hw _ (List.mem_of_getElem? (i := 2) rfl)) (hw _ (List.mem_of_getElem? (i := 181) rfl)) (by decide) (kc := 0) (ks := 0) (argsL := [(.ref r), (.ref a40_), (.int (3 : Int32)), (.int (2 : Int32))]) (rest := []) (own_payCt (W := 0) (ctAt l Z a0 hw SC SF n0 h45_ (own_old w48_) r a40_ k40_ ([a, 58, x] : List Int32) ([a, (58 : Int32), x, y, (0 : Int32)] : List Int32) 3 2 Sz V45_ rfl rfl (by decide) (by decide) (fun q => rfl)) w48_ (hw _ (List.mem_of_getElem? (i := 181) rfl)) (hw _ (List.mem_of_getElem? (i := 2) rfl)) hEL (by decide) (by decide)) (g := (mkF m 264 #[.val (.int i0), .val (.int i1), .val (.int i2), .val (.int i3), .val (.int (1 : Int32)), .val (.int (1 : Int32)), .val (.int a), .val (.int b), .val (.int x), .val (.int y), .val (.ref sp), .val (.ref sl), .val (.ref sn), .val (.ref sv), .val (.ref at'), .val (.ref r), .val (.ref a40_), .val (.int (3 : Int32))] [(.int (2 : Int32)), (.int (3 : Int32)), (.ref a40_), (.ref r)])) rfl (by rw [hml]; rfl) (lenOf pd_805342835 rfl) rfl (by show 2 * 0 + _ ≤ _; exact Nat.le_of_eq rfl) (Jvm.hb hby at_264) (by decide) (by decide) (fun v49_ T49_ vm49_ h49_ q49_ C49_ w49_ => ?_)
    obtain ⟨rfl, rfl⟩ := q49_
    have A49_ := own_at w49_
    show own_WP p e _ below s Z _ n0 _ T49_ (mkF m 267 #[.val (.int i0), .val (.int i1), .val (.int i2), .val (.int i3), .val (.int (1 : Int32)), .val (.int (1 : Int32)), .val (.int a), .val (.int b), .val (.int x), .val (.int y), .val (.ref sp), .val (.ref sl), .val (.ref sn), .val (.ref sv), .val (.ref at'), .val (.ref r), .val (.ref a40_), .val (.int (3 : Int32))] [(.int (1 : Int32))])
    refine own_by (T' := T49_) (g' := (mkF m 270 #[.val (.int i0), .val (.int i1), .val (.int i2), .val (.int i3), .val (.int (1 : Int32)), .val (.int (1 : Int32)), .val (.int a), .val (.int b), .val (.int x), .val (.int y), .val (.ref sp), .val (.ref sl), .val (.ref sn), .val (.ref sv), .val (.ref at'), .val (.ref r), .val (.ref a40_), .val (.int (3 : Int32))] [])) (fun t_ hr_ => XS.ifNo A49_ hx rfl (Jvm.hb hby at_267) rfl ((if0 _ _).trans (feq (by decide : ¬ (1 : Int32) = 0)).1) hr_) ?_
    refine own_by (T' := T49_) (g' := (mkF m 272 #[.val (.int i0), .val (.int i1), .val (.int i2), .val (.int i3), .val (.int (1 : Int32)), .val (.int (1 : Int32)), .val (.int a), .val (.int b), .val (.int x), .val (.int y), .val (.ref sp), .val (.ref sl), .val (.ref sn), .val (.ref sv), .val (.ref at'), .val (.ref r), .val (.ref a40_), .val (.int (3 : Int32))] [(.ref r)])) (fun t_ hr_ => XS.aload A49_ hx rfl (Jvm.hb hby at_270) rfl rfl hr_) ?_
    refine own_by (T' := T49_) (g' := (mkF m 274 #[.val (.int i0), .val (.int i1), .val (.int i2), .val (.int i3), .val (.int (1 : Int32)), .val (.int (1 : Int32)), .val (.int a), .val (.int b), .val (.int x), .val (.int y), .val (.ref sp), .val (.ref sl), .val (.ref sn), .val (.ref sv), .val (.ref at'), .val (.ref r), .val (.ref a40_), .val (.int (3 : Int32))] [(.ref a40_), (.ref r)])) (fun t_ hr_ => XS.aload A49_ hx rfl (Jvm.hb hby at_272) rfl rfl hr_) ?_
    refine own_by (T' := T49_) (g' := (mkF m 276 #[.val (.int i0), .val (.int i1), .val (.int i2), .val (.int i3), .val (.int (1 : Int32)), .val (.int (1 : Int32)), .val (.int a), .val (.int b), .val (.int x), .val (.int y), .val (.ref sp), .val (.ref sl), .val (.ref sn), .val (.ref sv), .val (.ref at'), .val (.ref r), .val (.ref a40_), .val (.int (3 : Int32))] [(.int (3 : Int32)), (.ref a40_), (.ref r)])) (fun t_ hr_ => XS.iload A49_ hx rfl (Jvm.hb hby at_274) rfl hr_) ?_
    refine own_by (T' := T49_) (g' := (mkF m 277 #[.val (.int i0), .val (.int i1), .val (.int i2), .val (.int i3), .val (.int (1 : Int32)), .val (.int (1 : Int32)), .val (.int a), .val (.int b), .val (.int x), .val (.int y), .val (.ref sp), .val (.ref sl), .val (.ref sn), .val (.ref sv), .val (.ref at'), .val (.ref r), .val (.ref a40_), .val (.int (3 : Int32))] [(.int (3 : Int32)), (.int (3 : Int32)), (.ref a40_), (.ref r)])) (fun t_ hr_ => XS.iconst A49_ hx rfl (Jvm.hb hby at_276) hr_) ?_
    refine own_callS w49_ hx (y := (⟨"com/example/sigillo/sigillo/soap/AttributeNamePinLaw", "at", "(Ljava/lang/String;[CII)Z"⟩ : MethodName)) (hw _ (List.mem_of_getElem? (i := 179) rfl)) (hw _ (List.mem_of_getElem? (i := 180) rfl)) (hw _ (List.mem_of_getElem? (i := 2) rfl)) (hw _ (List.mem_of_getElem? (i := 181) rfl)) (by decide) (kc := 0) (ks := 0) (argsL := [(.ref r), (.ref a40_), (.int (3 : Int32)), (.int (3 : Int32))]) (rest := []) (own_payCt (W := 0) (ctAt l Z a0 hw SC SF n0 h45_ (own_old w49_) r a40_ k40_ ([a, 58, x] : List Int32) ([a, (58 : Int32), x, y, (0 : Int32)] : List Int32) 3 3 Sz V45_ rfl rfl (by decide) (by decide) (fun q => absurd q (by decide))) w49_ (hw _ (List.mem_of_getElem? (i := 181) rfl)) (hw _ (List.mem_of_getElem? (i := 2) rfl)) hEL (by decide) (by decide)) (g := (mkF m 277 #[.val (.int i0), .val (.int i1), .val (.int i2), .val (.int i3), .val (.int (1 : Int32)), .val (.int (1 : Int32)), .val (.int a), .val (.int b), .val (.int x), .val (.int y), .val (.ref sp), .val (.ref sl), .val (.ref sn), .val (.ref sv), .val (.ref at'), .val (.ref r), .val (.ref a40_), .val (.int (3 : Int32))] [(.int (3 : Int32)), (.int (3 : Int32)), (.ref a40_), (.ref r)])) rfl (by rw [hml]; rfl) (lenOf pd_805342835 rfl) rfl (by show 2 * 0 + _ ≤ _; exact Nat.le_of_eq rfl) (Jvm.hb hby at_277) (by decide) (by decide) (fun v50_ T50_ vm50_ h50_ q50_ C50_ w50_ => ?_)
    obtain ⟨rfl, rfl⟩ := q50_
    have A50_ := own_at w50_
    show own_WP p e _ below s Z _ n0 _ T50_ (mkF m 280 #[.val (.int i0), .val (.int i1), .val (.int i2), .val (.int i3), .val (.int (1 : Int32)), .val (.int (1 : Int32)), .val (.int a), .val (.int b), .val (.int x), .val (.int y), .val (.ref sp), .val (.ref sl), .val (.ref sn), .val (.ref sv), .val (.ref at'), .val (.ref r), .val (.ref a40_), .val (.int (3 : Int32))] [(.int (1 : Int32))])
    refine own_by (T' := T50_) (g' := (mkF m 283 #[.val (.int i0), .val (.int i1), .val (.int i2), .val (.int i3), .val (.int (1 : Int32)), .val (.int (1 : Int32)), .val (.int a), .val (.int b), .val (.int x), .val (.int y), .val (.ref sp), .val (.ref sl), .val (.ref sn), .val (.ref sv), .val (.ref at'), .val (.ref r), .val (.ref a40_), .val (.int (3 : Int32))] [])) (fun t_ hr_ => XS.ifNo A50_ hx rfl (Jvm.hb hby at_280) rfl ((if0 _ _).trans (feq (by decide : ¬ (1 : Int32) = 0)).1) hr_) ?_
    refine own_by (T' := T50_) (g' := (mkF m 285 #[.val (.int i0), .val (.int i1), .val (.int i2), .val (.int i3), .val (.int (1 : Int32)), .val (.int (1 : Int32)), .val (.int a), .val (.int b), .val (.int x), .val (.int y), .val (.ref sp), .val (.ref sl), .val (.ref sn), .val (.ref sv), .val (.ref at'), .val (.ref r), .val (.ref a40_), .val (.int (3 : Int32))] [(.ref r)])) (fun t_ hr_ => XS.aload A50_ hx rfl (Jvm.hb hby at_283) rfl rfl hr_) ?_
    refine own_by (T' := T50_) (g' := (mkF m 287 #[.val (.int i0), .val (.int i1), .val (.int i2), .val (.int i3), .val (.int (1 : Int32)), .val (.int (1 : Int32)), .val (.int a), .val (.int b), .val (.int x), .val (.int y), .val (.ref sp), .val (.ref sl), .val (.ref sn), .val (.ref sv), .val (.ref at'), .val (.ref r), .val (.ref a40_), .val (.int (3 : Int32))] [(.ref a40_), (.ref r)])) (fun t_ hr_ => XS.aload A50_ hx rfl (Jvm.hb hby at_285) rfl rfl hr_) ?_
    refine own_by (T' := T50_) (g' := (mkF m 289 #[.val (.int i0), .val (.int i1), .val (.int i2), .val (.int i3), .val (.int (1 : Int32)), .val (.int (1 : Int32)), .val (.int a), .val (.int b), .val (.int x), .val (.int y), .val (.ref sp), .val (.ref sl), .val (.ref sn), .val (.ref sv), .val (.ref at'), .val (.ref r), .val (.ref a40_), .val (.int (3 : Int32))] [(.int (3 : Int32)), (.ref a40_), (.ref r)])) (fun t_ hr_ => XS.iload A50_ hx rfl (Jvm.hb hby at_287) rfl hr_) ?_
    refine own_by (T' := T50_) (g' := (mkF m 290 #[.val (.int i0), .val (.int i1), .val (.int i2), .val (.int i3), .val (.int (1 : Int32)), .val (.int (1 : Int32)), .val (.int a), .val (.int b), .val (.int x), .val (.int y), .val (.ref sp), .val (.ref sl), .val (.ref sn), .val (.ref sv), .val (.ref at'), .val (.ref r), .val (.ref a40_), .val (.int (3 : Int32))] [(.int (4 : Int32)), (.int (3 : Int32)), (.ref a40_), (.ref r)])) (fun t_ hr_ => XS.iconst A50_ hx rfl (Jvm.hb hby at_289) hr_) ?_
    refine own_callS w50_ hx (y := (⟨"com/example/sigillo/sigillo/soap/AttributeNamePinLaw", "at", "(Ljava/lang/String;[CII)Z"⟩ : MethodName)) (hw _ (List.mem_of_getElem? (i := 179) rfl)) (hw _ (List.mem_of_getElem? (i := 180) rfl)) (hw _ (List.mem_of_getElem? (i := 2) rfl)) (hw _ (List.mem_of_getElem? (i := 181) rfl)) (by decide) (kc := 0) (ks := 0) (argsL := [(.ref r), (.ref a40_), (.int (3 : Int32)), (.int (4 : Int32))]) (rest := []) (own_payCt (W := 0) (ctAt l Z a0 hw SC SF n0 h45_ (own_old w50_) r a40_ k40_ ([a, 58, x] : List Int32) ([a, (58 : Int32), x, y, (0 : Int32)] : List Int32) 3 4 Sz V45_ rfl rfl (by decide) (by decide) (fun q => absurd q (by decide))) w50_ (hw _ (List.mem_of_getElem? (i := 181) rfl)) (hw _ (List.mem_of_getElem? (i := 2) rfl)) hEL (by decide) (by decide)) (g := (mkF m 290 #[.val (.int i0), .val (.int i1), .val (.int i2), .val (.int i3), .val (.int (1 : Int32)), .val (.int (1 : Int32)), .val (.int a), .val (.int b), .val (.int x), .val (.int y), .val (.ref sp), .val (.ref sl), .val (.ref sn), .val (.ref sv), .val (.ref at'), .val (.ref r), .val (.ref a40_), .val (.int (3 : Int32))] [(.int (4 : Int32)), (.int (3 : Int32)), (.ref a40_), (.ref r)])) rfl (by rw [hml]; rfl) (lenOf pd_805342835 rfl) rfl (by show 2 * 0 + _ ≤ _; exact Nat.le_of_eq rfl) (Jvm.hb hby at_290) (by decide) (by decide) (fun v51_ T51_ vm51_ h51_ q51_ C51_ w51_ => ?_)
    obtain ⟨rfl, rfl⟩ := q51_
    have A51_ := own_at w51_
    show own_WP p e _ below s Z _ n0 _ T51_ (mkF m 293 #[.val (.int i0), .val (.int i1), .val (.int i2), .val (.int i3), .val (.int (1 : Int32)), .val (.int (1 : Int32)), .val (.int a), .val (.int b), .val (.int x), .val (.int y), .val (.ref sp), .val (.ref sl), .val (.ref sn), .val (.ref sv), .val (.ref at'), .val (.ref r), .val (.ref a40_), .val (.int (3 : Int32))] [(.int (1 : Int32))])
    refine own_by (T' := T51_) (g' := (mkF m 296 #[.val (.int i0), .val (.int i1), .val (.int i2), .val (.int i3), .val (.int (1 : Int32)), .val (.int (1 : Int32)), .val (.int a), .val (.int b), .val (.int x), .val (.int y), .val (.ref sp), .val (.ref sl), .val (.ref sn), .val (.ref sv), .val (.ref at'), .val (.ref r), .val (.ref a40_), .val (.int (3 : Int32))] [])) (fun t_ hr_ => XS.ifNo A51_ hx rfl (Jvm.hb hby at_293) rfl ((if0 _ _).trans (feq (by decide : ¬ (1 : Int32) = 0)).1) hr_) ?_
    refine own_by (T' := T51_) (g' := (mkF m 297 #[.val (.int i0), .val (.int i1), .val (.int i2), .val (.int i3), .val (.int (1 : Int32)), .val (.int (1 : Int32)), .val (.int a), .val (.int b), .val (.int x), .val (.int y), .val (.ref sp), .val (.ref sl), .val (.ref sn), .val (.ref sv), .val (.ref at'), .val (.ref r), .val (.ref a40_), .val (.int (3 : Int32))] [(.int (1 : Int32))])) (fun t_ hr_ => XS.iconst A51_ hx rfl (Jvm.hb hby at_296) hr_) ?_
    refine own_by (T' := T51_) (g' := (mkF m 301 #[.val (.int i0), .val (.int i1), .val (.int i2), .val (.int i3), .val (.int (1 : Int32)), .val (.int (1 : Int32)), .val (.int a), .val (.int b), .val (.int x), .val (.int y), .val (.ref sp), .val (.ref sl), .val (.ref sn), .val (.ref sv), .val (.ref at'), .val (.ref r), .val (.ref a40_), .val (.int (3 : Int32))] [(.int (1 : Int32))])) (fun t_ hr_ => XS.goto A51_ hx rfl (pc0 := 297) (pc' := 301) rfl (Jvm.hb hby at_297) (by decide) (by decide) hr_) ?_
    exact own_retZ w51_ hx hEL hlk hret (Or.inr rfl) (Jvm.hb hby at_301) (by decide) (by decide) rfl
  · show own_WP p e _ below s Z _ n0 _ T0 (mkF m 139 #[.val (.int i0), .val (.int i1), .val (.int i2), .val (.int i3), .val (.int (1 : Int32)), .val (.int (2 : Int32)), .val (.int a), .val (.int b), .val (.int x), .val (.int y), .val (.ref sp), .val (.ref sl), .val (.ref sn), .val (.ref sv), .val (.ref at'), .val (.ref r), .unset, .unset] [])
    refine own_by (T' := T0) (g' := (mkF m 140 #[.val (.int i0), .val (.int i1), .val (.int i2), .val (.int i3), .val (.int (1 : Int32)), .val (.int (2 : Int32)), .val (.int a), .val (.int b), .val (.int x), .val (.int y), .val (.ref sp), .val (.ref sl), .val (.ref sn), .val (.ref sv), .val (.ref at'), .val (.ref r), .unset, .unset] [(.int (5 : Int32))])) (fun t_ hr_ => XS.iconst A_0 hx rfl (Jvm.hb hby at_139) hr_) ?_
    refine own_newP w0 hx (hw _ (List.mem_of_getElem? (i := 7) rfl)) (g := (mkF m 140 #[.val (.int i0), .val (.int i1), .val (.int i2), .val (.int i3), .val (.int (1 : Int32)), .val (.int (2 : Int32)), .val (.int a), .val (.int b), .val (.int x), .val (.int y), .val (.ref sp), .val (.ref sl), .val (.ref sn), .val (.ref sv), .val (.ref at'), .val (.ref r), .unset, .unset] [(.int (5 : Int32))])) rfl (Jvm.hb hby at_140) rfl (by decide) (cap := 5) (by decide) (by decide) (by decide) (by decide) (fun T52_ h52_ a52_ k52_ g52_ E52_ V52_ w52_ => ?_)
    have A52_ := own_at w52_
    show own_WP p e _ below s Z _ n0 _ T52_ (mkF m 142 #[.val (.int i0), .val (.int i1), .val (.int i2), .val (.int i3), .val (.int (1 : Int32)), .val (.int (2 : Int32)), .val (.int a), .val (.int b), .val (.int x), .val (.int y), .val (.ref sp), .val (.ref sl), .val (.ref sn), .val (.ref sv), .val (.ref at'), .val (.ref r), .unset, .unset] [(.ref a52_)])
    have ge : n0 ≤ a52_ := by rw [g52_]; exact own_n0 w0
    have U0 : Arv Z h52_ a52_ k52_ .char (5 : Int32) [(.int (0 : Int32)), (.int (0 : Int32)), (.int (0 : Int32)), (.int (0 : Int32)), (.int (0 : Int32))] (.int 0) := V52_.pad (vs' := [(.int (0 : Int32)), (.int (0 : Int32)), (.int (0 : Int32)), (.int (0 : Int32)), (.int (0 : Int32))]) (fun i => pad_rep [] (.int (0 : Int32)) 5 i)
    have gez : h0.size ≤ a52_ := by rw [g52_]; exact Nat.le_refl _
    refine own_by (T' := T52_) (g' := (mkF m 144 #[.val (.int i0), .val (.int i1), .val (.int i2), .val (.int i3), .val (.int (1 : Int32)), .val (.int (2 : Int32)), .val (.int a), .val (.int b), .val (.int x), .val (.int y), .val (.ref sp), .val (.ref sl), .val (.ref sn), .val (.ref sv), .val (.ref at'), .val (.ref r), .val (.ref a52_), .unset] [])) (fun t_ hr_ => XS.astore A52_ hx rfl (Jvm.hb hby at_142) rfl rfl (l' := #[.val (.int i0), .val (.int i1), .val (.int i2), .val (.int i3), .val (.int (1 : Int32)), .val (.int (2 : Int32)), .val (.int a), .val (.int b), .val (.int x), .val (.int y), .val (.ref sp), .val (.ref sl), .val (.ref sn), .val (.ref sv), .val (.ref at'), .val (.ref r), .val (.ref a52_), .unset]) rfl hr_) ?_
    refine own_by (T' := T52_) (g' := (mkF m 146 #[.val (.int i0), .val (.int i1), .val (.int i2), .val (.int i3), .val (.int (1 : Int32)), .val (.int (2 : Int32)), .val (.int a), .val (.int b), .val (.int x), .val (.int y), .val (.ref sp), .val (.ref sl), .val (.ref sn), .val (.ref sv), .val (.ref at'), .val (.ref r), .val (.ref a52_), .unset] [(.int (1 : Int32))])) (fun t_ hr_ => XS.iload A52_ hx rfl (Jvm.hb hby at_144) rfl hr_) ?_
    refine own_by (T' := T52_) (g' := (mkF m 168 #[.val (.int i0), .val (.int i1), .val (.int i2), .val (.int i3), .val (.int (1 : Int32)), .val (.int (2 : Int32)), .val (.int a), .val (.int b), .val (.int x), .val (.int y), .val (.ref sp), .val (.ref sl), .val (.ref sn), .val (.ref sv), .val (.ref at'), .val (.ref r), .val (.ref a52_), .unset] [])) (fun t_ hr_ => XS.ifYes A52_ hx rfl (pc0 := 146) (pc' := 168) rfl (Jvm.hb hby at_146) rfl ((if0 _ _).trans (feq (by decide)).2) (by decide) (by decide) hr_) ?_
    refine own_by (T' := T52_) (g' := (mkF m 170 #[.val (.int i0), .val (.int i1), .val (.int i2), .val (.int i3), .val (.int (1 : Int32)), .val (.int (2 : Int32)), .val (.int a), .val (.int b), .val (.int x), .val (.int y), .val (.ref sp), .val (.ref sl), .val (.ref sn), .val (.ref sv), .val (.ref at'), .val (.ref r), .val (.ref a52_), .unset] [(.ref a52_)])) (fun t_ hr_ => XS.aload A52_ hx rfl (Jvm.hb hby at_168) rfl rfl hr_) ?_
    refine own_by (T' := T52_) (g' := (mkF m 171 #[.val (.int i0), .val (.int i1), .val (.int i2), .val (.int i3), .val (.int (1 : Int32)), .val (.int (2 : Int32)), .val (.int a), .val (.int b), .val (.int x), .val (.int y), .val (.ref sp), .val (.ref sl), .val (.ref sn), .val (.ref sv), .val (.ref at'), .val (.ref r), .val (.ref a52_), .unset] [(.int (0 : Int32)), (.ref a52_)])) (fun t_ hr_ => XS.iconst A52_ hx rfl (Jvm.hb hby at_170) hr_) ?_
    refine own_by (T' := T52_) (g' := (mkF m 173 #[.val (.int i0), .val (.int i1), .val (.int i2), .val (.int i3), .val (.int (1 : Int32)), .val (.int (2 : Int32)), .val (.int a), .val (.int b), .val (.int x), .val (.int y), .val (.ref sp), .val (.ref sl), .val (.ref sn), .val (.ref sv), .val (.ref at'), .val (.ref r), .val (.ref a52_), .unset] [(.int a), (.int (0 : Int32)), (.ref a52_)])) (fun t_ hr_ => XS.iload A52_ hx rfl (Jvm.hb hby at_171) rfl hr_) ?_
    refine own_castore w52_ hx U0 (by decide) (own_rng255 ra) (i := 0) rfl (by simp) ge (g := (mkF m 173 #[.val (.int i0), .val (.int i1), .val (.int i2), .val (.int i3), .val (.int (1 : Int32)), .val (.int (2 : Int32)), .val (.int a), .val (.int b), .val (.int x), .val (.int y), .val (.ref sp), .val (.ref sl), .val (.ref sn), .val (.ref sv), .val (.ref at'), .val (.ref r), .val (.ref a52_), .unset] [(.int a), (.int (0 : Int32)), (.ref a52_)])) rfl rfl (Jvm.hb hby at_173) (fun T53_ h53_ W53_ V53_ w53_ => ?_)
    have A53_ := own_at w53_
    show own_WP p e _ below s Z _ n0 _ T53_ (mkF m 174 #[.val (.int i0), .val (.int i1), .val (.int i2), .val (.int i3), .val (.int (1 : Int32)), .val (.int (2 : Int32)), .val (.int a), .val (.int b), .val (.int x), .val (.int y), .val (.ref sp), .val (.ref sl), .val (.ref sn), .val (.ref sv), .val (.ref at'), .val (.ref r), .val (.ref a52_), .unset] [])
    have EeW53_ := own_extWr E52_ W53_ gez
    refine own_by (T' := T53_) (g' := (mkF m 176 #[.val (.int i0), .val (.int i1), .val (.int i2), .val (.int i3), .val (.int (1 : Int32)), .val (.int (2 : Int32)), .val (.int a), .val (.int b), .val (.int x), .val (.int y), .val (.ref sp), .val (.ref sl), .val (.ref sn), .val (.ref sv), .val (.ref at'), .val (.ref r), .val (.ref a52_), .unset] [(.ref a52_)])) (fun t_ hr_ => XS.aload A53_ hx rfl (Jvm.hb hby at_174) rfl rfl hr_) ?_
    refine own_by (T' := T53_) (g' := (mkF m 177 #[.val (.int i0), .val (.int i1), .val (.int i2), .val (.int i3), .val (.int (1 : Int32)), .val (.int (2 : Int32)), .val (.int a), .val (.int b), .val (.int x), .val (.int y), .val (.ref sp), .val (.ref sl), .val (.ref sn), .val (.ref sv), .val (.ref at'), .val (.ref r), .val (.ref a52_), .unset] [(.int (1 : Int32)), (.ref a52_)])) (fun t_ hr_ => XS.iconst A53_ hx rfl (Jvm.hb hby at_176) hr_) ?_
    refine own_by (T' := T53_) (g' := (mkF m 179 #[.val (.int i0), .val (.int i1), .val (.int i2), .val (.int i3), .val (.int (1 : Int32)), .val (.int (2 : Int32)), .val (.int a), .val (.int b), .val (.int x), .val (.int y), .val (.ref sp), .val (.ref sl), .val (.ref sn), .val (.ref sv), .val (.ref at'), .val (.ref r), .val (.ref a52_), .unset] [(.int b), (.int (1 : Int32)), (.ref a52_)])) (fun t_ hr_ => XS.iload A53_ hx rfl (Jvm.hb hby at_177) rfl hr_) ?_
    refine own_castore w53_ hx V53_ (by decide) (own_rng255 rb) (i := 1) rfl (by simp) ge (g := (mkF m 179 #[.val (.int i0), .val (.int i1), .val (.int i2), .val (.int i3), .val (.int (1 : Int32)), .val (.int (2 : Int32)), .val (.int a), .val (.int b), .val (.int x), .val (.int y), .val (.ref sp), .val (.ref sl), .val (.ref sn), .val (.ref sv), .val (.ref at'), .val (.ref r), .val (.ref a52_), .unset] [(.int b), (.int (1 : Int32)), (.ref a52_)])) rfl rfl (Jvm.hb hby at_179) (fun T54_ h54_ W54_ V54_ w54_ => ?_)
    have A54_ := own_at w54_
    show own_WP p e _ below s Z _ n0 _ T54_ (mkF m 180 #[.val (.int i0), .val (.int i1), .val (.int i2), .val (.int i3), .val (.int (1 : Int32)), .val (.int (2 : Int32)), .val (.int a), .val (.int b), .val (.int x), .val (.int y), .val (.ref sp), .val (.ref sl), .val (.ref sn), .val (.ref sv), .val (.ref at'), .val (.ref r), .val (.ref a52_), .unset] [])
    have EeW54_ := own_extWr EeW53_ W54_ gez
    refine own_by (T' := T54_) (g' := (mkF m 182 #[.val (.int i0), .val (.int i1), .val (.int i2), .val (.int i3), .val (.int (1 : Int32)), .val (.int (2 : Int32)), .val (.int a), .val (.int b), .val (.int x), .val (.int y), .val (.ref sp), .val (.ref sl), .val (.ref sn), .val (.ref sv), .val (.ref at'), .val (.ref r), .val (.ref a52_), .unset] [(.ref a52_)])) (fun t_ hr_ => XS.aload A54_ hx rfl (Jvm.hb hby at_180) rfl rfl hr_) ?_
    refine own_by (T' := T54_) (g' := (mkF m 184 #[.val (.int i0), .val (.int i1), .val (.int i2), .val (.int i3), .val (.int (1 : Int32)), .val (.int (2 : Int32)), .val (.int a), .val (.int b), .val (.int x), .val (.int y), .val (.ref sp), .val (.ref sl), .val (.ref sn), .val (.ref sv), .val (.ref at'), .val (.ref r), .val (.ref a52_), .unset] [(.int (1 : Int32)), (.ref a52_)])) (fun t_ hr_ => XS.iload A54_ hx rfl (Jvm.hb hby at_182) rfl hr_) ?_
    refine own_by (T' := T54_) (g' := (mkF m 186 #[.val (.int i0), .val (.int i1), .val (.int i2), .val (.int i3), .val (.int (1 : Int32)), .val (.int (2 : Int32)), .val (.int a), .val (.int b), .val (.int x), .val (.int y), .val (.ref sp), .val (.ref sl), .val (.ref sn), .val (.ref sv), .val (.ref at'), .val (.ref r), .val (.ref a52_), .unset] [(.int (58 : Int32)), (.int (1 : Int32)), (.ref a52_)])) (fun t_ hr_ => XS.bipush A54_ hx rfl (Jvm.hb hby at_184) hr_) ?_
    refine own_castore w54_ hx V54_ (by decide) (own_rng255 (by decide)) (i := 1) rfl (by simp) ge (g := (mkF m 186 #[.val (.int i0), .val (.int i1), .val (.int i2), .val (.int i3), .val (.int (1 : Int32)), .val (.int (2 : Int32)), .val (.int a), .val (.int b), .val (.int x), .val (.int y), .val (.ref sp), .val (.ref sl), .val (.ref sn), .val (.ref sv), .val (.ref at'), .val (.ref r), .val (.ref a52_), .unset] [(.int (58 : Int32)), (.int (1 : Int32)), (.ref a52_)])) rfl rfl (Jvm.hb hby at_186) (fun T55_ h55_ W55_ V55_ w55_ => ?_)
    have A55_ := own_at w55_
    show own_WP p e _ below s Z _ n0 _ T55_ (mkF m 187 #[.val (.int i0), .val (.int i1), .val (.int i2), .val (.int i3), .val (.int (1 : Int32)), .val (.int (2 : Int32)), .val (.int a), .val (.int b), .val (.int x), .val (.int y), .val (.ref sp), .val (.ref sl), .val (.ref sn), .val (.ref sv), .val (.ref at'), .val (.ref r), .val (.ref a52_), .unset] [])
    have EeW55_ := own_extWr EeW54_ W55_ gez
    refine own_by (T' := T55_) (g' := (mkF m 189 #[.val (.int i0), .val (.int i1), .val (.int i2), .val (.int i3), .val (.int (1 : Int32)), .val (.int (2 : Int32)), .val (.int a), .val (.int b), .val (.int x), .val (.int y), .val (.ref sp), .val (.ref sl), .val (.ref sn), .val (.ref sv), .val (.ref at'), .val (.ref r), .val (.ref a52_), .unset] [(.ref a52_)])) (fun t_ hr_ => XS.aload A55_ hx rfl (Jvm.hb hby at_187) rfl rfl hr_) ?_
    refine own_by (T' := T55_) (g' := (mkF m 191 #[.val (.int i0), .val (.int i1), .val (.int i2), .val (.int i3), .val (.int (1 : Int32)), .val (.int (2 : Int32)), .val (.int a), .val (.int b), .val (.int x), .val (.int y), .val (.ref sp), .val (.ref sl), .val (.ref sn), .val (.ref sv), .val (.ref at'), .val (.ref r), .val (.ref a52_), .unset] [(.int (1 : Int32)), (.ref a52_)])) (fun t_ hr_ => XS.iload A55_ hx rfl (Jvm.hb hby at_189) rfl hr_) ?_
    refine own_by (T' := T55_) (g' := (mkF m 192 #[.val (.int i0), .val (.int i1), .val (.int i2), .val (.int i3), .val (.int (1 : Int32)), .val (.int (2 : Int32)), .val (.int a), .val (.int b), .val (.int x), .val (.int y), .val (.ref sp), .val (.ref sl), .val (.ref sn), .val (.ref sv), .val (.ref at'), .val (.ref r), .val (.ref a52_), .unset] [(.int (1 : Int32)), (.int (1 : Int32)), (.ref a52_)])) (fun t_ hr_ => XS.iconst A55_ hx rfl (Jvm.hb hby at_191) hr_) ?_
    refine own_by (T' := T55_) (g' := (mkF m 193 #[.val (.int i0), .val (.int i1), .val (.int i2), .val (.int i3), .val (.int (1 : Int32)), .val (.int (2 : Int32)), .val (.int a), .val (.int b), .val (.int x), .val (.int y), .val (.ref sp), .val (.ref sl), .val (.ref sn), .val (.ref sv), .val (.ref at'), .val (.ref r), .val (.ref a52_), .unset] [(.int ((1 : Int32) + (1 : Int32))), (.ref a52_)])) (fun t_ hr_ => XS.iadd A55_ hx rfl (Jvm.hb hby at_192) rfl hr_) ?_
    refine own_by (T' := T55_) (g' := (mkF m 195 #[.val (.int i0), .val (.int i1), .val (.int i2), .val (.int i3), .val (.int (1 : Int32)), .val (.int (2 : Int32)), .val (.int a), .val (.int b), .val (.int x), .val (.int y), .val (.ref sp), .val (.ref sl), .val (.ref sn), .val (.ref sv), .val (.ref at'), .val (.ref r), .val (.ref a52_), .unset] [(.int x), (.int ((1 : Int32) + (1 : Int32))), (.ref a52_)])) (fun t_ hr_ => XS.iload A55_ hx rfl (Jvm.hb hby at_193) rfl hr_) ?_
    rw [show ((1 : Int32) + (1 : Int32)) = (2 : Int32) from (by decide)]
    show own_WP p e _ below s Z _ n0 _ T55_ (mkF m 195 #[.val (.int i0), .val (.int i1), .val (.int i2), .val (.int i3), .val (.int (1 : Int32)), .val (.int (2 : Int32)), .val (.int a), .val (.int b), .val (.int x), .val (.int y), .val (.ref sp), .val (.ref sl), .val (.ref sn), .val (.ref sv), .val (.ref at'), .val (.ref r), .val (.ref a52_), .unset] [(.int x), (.int (2 : Int32)), (.ref a52_)])
    refine own_castore w55_ hx V55_ (by decide) (own_rng255 rx) (i := 2) rfl (by simp) ge (g := (mkF m 195 #[.val (.int i0), .val (.int i1), .val (.int i2), .val (.int i3), .val (.int (1 : Int32)), .val (.int (2 : Int32)), .val (.int a), .val (.int b), .val (.int x), .val (.int y), .val (.ref sp), .val (.ref sl), .val (.ref sn), .val (.ref sv), .val (.ref at'), .val (.ref r), .val (.ref a52_), .unset] [(.int x), (.int (2 : Int32)), (.ref a52_)])) rfl rfl (Jvm.hb hby at_195) (fun T56_ h56_ W56_ V56_ w56_ => ?_)
    have A56_ := own_at w56_
    show own_WP p e _ below s Z _ n0 _ T56_ (mkF m 196 #[.val (.int i0), .val (.int i1), .val (.int i2), .val (.int i3), .val (.int (1 : Int32)), .val (.int (2 : Int32)), .val (.int a), .val (.int b), .val (.int x), .val (.int y), .val (.ref sp), .val (.ref sl), .val (.ref sn), .val (.ref sv), .val (.ref at'), .val (.ref r), .val (.ref a52_), .unset] [])
    have EeW56_ := own_extWr EeW55_ W56_ gez
    refine own_by (T' := T56_) (g' := (mkF m 198 #[.val (.int i0), .val (.int i1), .val (.int i2), .val (.int i3), .val (.int (1 : Int32)), .val (.int (2 : Int32)), .val (.int a), .val (.int b), .val (.int x), .val (.int y), .val (.ref sp), .val (.ref sl), .val (.ref sn), .val (.ref sv), .val (.ref at'), .val (.ref r), .val (.ref a52_), .unset] [(.ref a52_)])) (fun t_ hr_ => XS.aload A56_ hx rfl (Jvm.hb hby at_196) rfl rfl hr_) ?_
    refine own_by (T' := T56_) (g' := (mkF m 200 #[.val (.int i0), .val (.int i1), .val (.int i2), .val (.int i3), .val (.int (1 : Int32)), .val (.int (2 : Int32)), .val (.int a), .val (.int b), .val (.int x), .val (.int y), .val (.ref sp), .val (.ref sl), .val (.ref sn), .val (.ref sv), .val (.ref at'), .val (.ref r), .val (.ref a52_), .unset] [(.int (1 : Int32)), (.ref a52_)])) (fun t_ hr_ => XS.iload A56_ hx rfl (Jvm.hb hby at_198) rfl hr_) ?_
    refine own_by (T' := T56_) (g' := (mkF m 201 #[.val (.int i0), .val (.int i1), .val (.int i2), .val (.int i3), .val (.int (1 : Int32)), .val (.int (2 : Int32)), .val (.int a), .val (.int b), .val (.int x), .val (.int y), .val (.ref sp), .val (.ref sl), .val (.ref sn), .val (.ref sv), .val (.ref at'), .val (.ref r), .val (.ref a52_), .unset] [(.int (2 : Int32)), (.int (1 : Int32)), (.ref a52_)])) (fun t_ hr_ => XS.iconst A56_ hx rfl (Jvm.hb hby at_200) hr_) ?_
    refine own_by (T' := T56_) (g' := (mkF m 202 #[.val (.int i0), .val (.int i1), .val (.int i2), .val (.int i3), .val (.int (1 : Int32)), .val (.int (2 : Int32)), .val (.int a), .val (.int b), .val (.int x), .val (.int y), .val (.ref sp), .val (.ref sl), .val (.ref sn), .val (.ref sv), .val (.ref at'), .val (.ref r), .val (.ref a52_), .unset] [(.int ((1 : Int32) + (2 : Int32))), (.ref a52_)])) (fun t_ hr_ => XS.iadd A56_ hx rfl (Jvm.hb hby at_201) rfl hr_) ?_
    refine own_by (T' := T56_) (g' := (mkF m 204 #[.val (.int i0), .val (.int i1), .val (.int i2), .val (.int i3), .val (.int (1 : Int32)), .val (.int (2 : Int32)), .val (.int a), .val (.int b), .val (.int x), .val (.int y), .val (.ref sp), .val (.ref sl), .val (.ref sn), .val (.ref sv), .val (.ref at'), .val (.ref r), .val (.ref a52_), .unset] [(.int y), (.int ((1 : Int32) + (2 : Int32))), (.ref a52_)])) (fun t_ hr_ => XS.iload A56_ hx rfl (Jvm.hb hby at_202) rfl hr_) ?_
    rw [show ((1 : Int32) + (2 : Int32)) = (3 : Int32) from (by decide)]
    show own_WP p e _ below s Z _ n0 _ T56_ (mkF m 204 #[.val (.int i0), .val (.int i1), .val (.int i2), .val (.int i3), .val (.int (1 : Int32)), .val (.int (2 : Int32)), .val (.int a), .val (.int b), .val (.int x), .val (.int y), .val (.ref sp), .val (.ref sl), .val (.ref sn), .val (.ref sv), .val (.ref at'), .val (.ref r), .val (.ref a52_), .unset] [(.int y), (.int (3 : Int32)), (.ref a52_)])
    refine own_castore w56_ hx V56_ (by decide) (own_rng255 ry) (i := 3) rfl (by simp) ge (g := (mkF m 204 #[.val (.int i0), .val (.int i1), .val (.int i2), .val (.int i3), .val (.int (1 : Int32)), .val (.int (2 : Int32)), .val (.int a), .val (.int b), .val (.int x), .val (.int y), .val (.ref sp), .val (.ref sl), .val (.ref sn), .val (.ref sv), .val (.ref at'), .val (.ref r), .val (.ref a52_), .unset] [(.int y), (.int (3 : Int32)), (.ref a52_)])) rfl rfl (Jvm.hb hby at_204) (fun T57_ h57_ W57_ V57_ w57_ => ?_)
    have A57_ := own_at w57_
    show own_WP p e _ below s Z _ n0 _ T57_ (mkF m 205 #[.val (.int i0), .val (.int i1), .val (.int i2), .val (.int i3), .val (.int (1 : Int32)), .val (.int (2 : Int32)), .val (.int a), .val (.int b), .val (.int x), .val (.int y), .val (.ref sp), .val (.ref sl), .val (.ref sn), .val (.ref sv), .val (.ref at'), .val (.ref r), .val (.ref a52_), .unset] [])
    have EeW57_ := own_extWr EeW56_ W57_ gez
    refine own_by (T' := T57_) (g' := (mkF m 207 #[.val (.int i0), .val (.int i1), .val (.int i2), .val (.int i3), .val (.int (1 : Int32)), .val (.int (2 : Int32)), .val (.int a), .val (.int b), .val (.int x), .val (.int y), .val (.ref sp), .val (.ref sl), .val (.ref sn), .val (.ref sv), .val (.ref at'), .val (.ref r), .val (.ref a52_), .unset] [(.int (1 : Int32))])) (fun t_ hr_ => XS.iload A57_ hx rfl (Jvm.hb hby at_205) rfl hr_) ?_
    refine own_by (T' := T57_) (g' := (mkF m 208 #[.val (.int i0), .val (.int i1), .val (.int i2), .val (.int i3), .val (.int (1 : Int32)), .val (.int (2 : Int32)), .val (.int a), .val (.int b), .val (.int x), .val (.int y), .val (.ref sp), .val (.ref sl), .val (.ref sn), .val (.ref sv), .val (.ref at'), .val (.ref r), .val (.ref a52_), .unset] [(.int (1 : Int32)), (.int (1 : Int32))])) (fun t_ hr_ => XS.iconst A57_ hx rfl (Jvm.hb hby at_207) hr_) ?_
    refine own_by (T' := T57_) (g' := (mkF m 209 #[.val (.int i0), .val (.int i1), .val (.int i2), .val (.int i3), .val (.int (1 : Int32)), .val (.int (2 : Int32)), .val (.int a), .val (.int b), .val (.int x), .val (.int y), .val (.ref sp), .val (.ref sl), .val (.ref sn), .val (.ref sv), .val (.ref at'), .val (.ref r), .val (.ref a52_), .unset] [(.int ((1 : Int32) + (1 : Int32)))])) (fun t_ hr_ => XS.iadd A57_ hx rfl (Jvm.hb hby at_208) rfl hr_) ?_
    refine own_by (T' := T57_) (g' := (mkF m 211 #[.val (.int i0), .val (.int i1), .val (.int i2), .val (.int i3), .val (.int (1 : Int32)), .val (.int (2 : Int32)), .val (.int a), .val (.int b), .val (.int x), .val (.int y), .val (.ref sp), .val (.ref sl), .val (.ref sn), .val (.ref sv), .val (.ref at'), .val (.ref r), .val (.ref a52_), .unset] [(.int (2 : Int32)), (.int ((1 : Int32) + (1 : Int32)))])) (fun t_ hr_ => XS.iload A57_ hx rfl (Jvm.hb hby at_209) rfl hr_) ?_
    refine own_by (T' := T57_) (g' := (mkF m 212 #[.val (.int i0), .val (.int i1), .val (.int i2), .val (.int i3), .val (.int (1 : Int32)), .val (.int (2 : Int32)), .val (.int a), .val (.int b), .val (.int x), .val (.int y), .val (.ref sp), .val (.ref sl), .val (.ref sn), .val (.ref sv), .val (.ref at'), .val (.ref r), .val (.ref a52_), .unset] [(.int (((1 : Int32) + (1 : Int32)) + (2 : Int32)))])) (fun t_ hr_ => XS.iadd A57_ hx rfl (Jvm.hb hby at_211) rfl hr_) ?_
    refine own_by (T' := T57_) (g' := (mkF m 214 #[.val (.int i0), .val (.int i1), .val (.int i2), .val (.int i3), .val (.int (1 : Int32)), .val (.int (2 : Int32)), .val (.int a), .val (.int b), .val (.int x), .val (.int y), .val (.ref sp), .val (.ref sl), .val (.ref sn), .val (.ref sv), .val (.ref at'), .val (.ref r), .val (.ref a52_), .val (.int (((1 : Int32) + (1 : Int32)) + (2 : Int32)))] [])) (fun t_ hr_ => XS.istore A57_ hx rfl (Jvm.hb hby at_212) rfl (l' := #[.val (.int i0), .val (.int i1), .val (.int i2), .val (.int i3), .val (.int (1 : Int32)), .val (.int (2 : Int32)), .val (.int a), .val (.int b), .val (.int x), .val (.int y), .val (.ref sp), .val (.ref sl), .val (.ref sn), .val (.ref sv), .val (.ref at'), .val (.ref r), .val (.ref a52_), .val (.int (((1 : Int32) + (1 : Int32)) + (2 : Int32)))]) rfl hr_) ?_
    rw [show (((1 : Int32) + (1 : Int32)) + (2 : Int32)) = (4 : Int32) from (by decide)]
    show own_WP p e _ below s Z _ n0 _ T57_ (mkF m 214 #[.val (.int i0), .val (.int i1), .val (.int i2), .val (.int i3), .val (.int (1 : Int32)), .val (.int (2 : Int32)), .val (.int a), .val (.int b), .val (.int x), .val (.int y), .val (.ref sp), .val (.ref sl), .val (.ref sn), .val (.ref sv), .val (.ref at'), .val (.ref r), .val (.ref a52_), .val (.int (4 : Int32))] [])
    refine own_by (T' := T57_) (g' := (mkF m 216 #[.val (.int i0), .val (.int i1), .val (.int i2), .val (.int i3), .val (.int (1 : Int32)), .val (.int (2 : Int32)), .val (.int a), .val (.int b), .val (.int x), .val (.int y), .val (.ref sp), .val (.ref sl), .val (.ref sn), .val (.ref sv), .val (.ref at'), .val (.ref r), .val (.ref a52_), .val (.int (4 : Int32))] [(.ref r)])) (fun t_ hr_ => XS.aload A57_ hx rfl (Jvm.hb hby at_214) rfl rfl hr_) ?_
    refine own_by (T' := T57_) (g' := (mkF m 219 #[.val (.int i0), .val (.int i1), .val (.int i2), .val (.int i3), .val (.int (1 : Int32)), .val (.int (2 : Int32)), .val (.int a), .val (.int b), .val (.int x), .val (.int y), .val (.ref sp), .val (.ref sl), .val (.ref sn), .val (.ref sv), .val (.ref at'), .val (.ref r), .val (.ref a52_), .val (.int (4 : Int32))] [])) (fun t_ hr_ => XS.ifnullNo A57_ hx rfl (Jvm.hb hby at_216) rfl hr_) ?_
    refine own_by (T' := T57_) (g' := (mkF m 221 #[.val (.int i0), .val (.int i1), .val (.int i2), .val (.int i3), .val (.int (1 : Int32)), .val (.int (2 : Int32)), .val (.int a), .val (.int b), .val (.int x), .val (.int y), .val (.ref sp), .val (.ref sl), .val (.ref sn), .val (.ref sv), .val (.ref at'), .val (.ref r), .val (.ref a52_), .val (.int (4 : Int32))] [(.ref r)])) (fun t_ hr_ => XS.aload A57_ hx rfl (Jvm.hb hby at_219) rfl rfl hr_) ?_
    have Sz : own_Str Z h57_ r ([a, 58, x, y] : List Int32) := by first | exact S0.ext EeW57_ | (have q := S0.ext EeW57_; simpa [own_nc] using q)
    refine own_callV w57_ hx (y := (⟨"java/lang/String", "length", "()I"⟩ : MethodName)) (z := (⟨"java/lang/String", "length", "()I"⟩ : MethodName)) (hw _ (List.mem_of_getElem? (i := 178) rfl)) (hw _ (List.mem_of_getElem? (i := 96) rfl)) (fun u hu => notFace_of_selects (args := #[]) (mvT hu (hw _ (List.mem_of_getElem? (i := 98) rfl)))) (hw _ (List.mem_of_getElem? (i := 98) rfl)) (hw _ (List.mem_of_getElem? (i := 97) rfl)) (by decide) (kc := 0) (ks := 0) (a := r) (argsL := []) (rest := []) (own_payLen (W := 0) w57_ hEL (own_wLen hw) (hw _ (List.mem_of_getElem? (i := 5) rfl)) SC Sz (by decide) (by decide)) Sz.exa (g := (mkF m 221 #[.val (.int i0), .val (.int i1), .val (.int i2), .val (.int i3), .val (.int (1 : Int32)), .val (.int (2 : Int32)), .val (.int a), .val (.int b), .val (.int x), .val (.int y), .val (.ref sp), .val (.ref sl), .val (.ref sn), .val (.ref sv), .val (.ref at'), .val (.ref r), .val (.ref a52_), .val (.int (4 : Int32))] [(.ref r)])) rfl (by rw [hml]; rfl) (lenOf pd_691884 rfl) rfl (by show 2 * 0 + _ ≤ _; exact Nat.le_of_eq rfl) (Jvm.hb hby at_221) (by decide) (by decide) (fun v58_ T58_ vm58_ h58_ q58_ C58_ w58_ => ?_)
    obtain ⟨rfl, rfl⟩ := q58_
    have A58_ := own_at w58_
    show own_WP p e _ below s Z _ n0 _ T58_ (mkF m 224 #[.val (.int i0), .val (.int i1), .val (.int i2), .val (.int i3), .val (.int (1 : Int32)), .val (.int (2 : Int32)), .val (.int a), .val (.int b), .val (.int x), .val (.int y), .val (.ref sp), .val (.ref sl), .val (.ref sn), .val (.ref sv), .val (.ref at'), .val (.ref r), .val (.ref a52_), .val (.int (4 : Int32))] [(.int (Int32.ofNat ([a, 58, x, y] : List Int32).length))])
    refine own_by (T' := T58_) (g' := (mkF m 226 #[.val (.int i0), .val (.int i1), .val (.int i2), .val (.int i3), .val (.int (1 : Int32)), .val (.int (2 : Int32)), .val (.int a), .val (.int b), .val (.int x), .val (.int y), .val (.ref sp), .val (.ref sl), .val (.ref sn), .val (.ref sv), .val (.ref at'), .val (.ref r), .val (.ref a52_), .val (.int (4 : Int32))] [(.int (4 : Int32)), (.int (Int32.ofNat ([a, 58, x, y] : List Int32).length))])) (fun t_ hr_ => XS.iload A58_ hx rfl (Jvm.hb hby at_224) rfl hr_) ?_
    refine own_by (T' := T58_) (g' := (mkF m 231 #[.val (.int i0), .val (.int i1), .val (.int i2), .val (.int i3), .val (.int (1 : Int32)), .val (.int (2 : Int32)), .val (.int a), .val (.int b), .val (.int x), .val (.int y), .val (.ref sp), .val (.ref sl), .val (.ref sn), .val (.ref sv), .val (.ref at'), .val (.ref r), .val (.ref a52_), .val (.int (4 : Int32))] [])) (fun t_ hr_ => XS.icmpYes A58_ hx rfl (pc0 := 226) (pc' := 231) rfl (Jvm.hb hby at_226) rfl (teq (rfl)).1 (by decide) (by decide) hr_) ?_
    refine own_by (T' := T58_) (g' := (mkF m 233 #[.val (.int i0), .val (.int i1), .val (.int i2), .val (.int i3), .val (.int (1 : Int32)), .val (.int (2 : Int32)), .val (.int a), .val (.int b), .val (.int x), .val (.int y), .val (.ref sp), .val (.ref sl), .val (.ref sn), .val (.ref sv), .val (.ref at'), .val (.ref r), .val (.ref a52_), .val (.int (4 : Int32))] [(.ref r)])) (fun t_ hr_ => XS.aload A58_ hx rfl (Jvm.hb hby at_231) rfl rfl hr_) ?_
    refine own_by (T' := T58_) (g' := (mkF m 235 #[.val (.int i0), .val (.int i1), .val (.int i2), .val (.int i3), .val (.int (1 : Int32)), .val (.int (2 : Int32)), .val (.int a), .val (.int b), .val (.int x), .val (.int y), .val (.ref sp), .val (.ref sl), .val (.ref sn), .val (.ref sv), .val (.ref at'), .val (.ref r), .val (.ref a52_), .val (.int (4 : Int32))] [(.ref a52_), (.ref r)])) (fun t_ hr_ => XS.aload A58_ hx rfl (Jvm.hb hby at_233) rfl rfl hr_) ?_
    refine own_by (T' := T58_) (g' := (mkF m 237 #[.val (.int i0), .val (.int i1), .val (.int i2), .val (.int i3), .val (.int (1 : Int32)), .val (.int (2 : Int32)), .val (.int a), .val (.int b), .val (.int x), .val (.int y), .val (.ref sp), .val (.ref sl), .val (.ref sn), .val (.ref sv), .val (.ref at'), .val (.ref r), .val (.ref a52_), .val (.int (4 : Int32))] [(.int (4 : Int32)), (.ref a52_), (.ref r)])) (fun t_ hr_ => XS.iload A58_ hx rfl (Jvm.hb hby at_235) rfl hr_) ?_
    refine own_by (T' := T58_) (g' := (mkF m 238 #[.val (.int i0), .val (.int i1), .val (.int i2), .val (.int i3), .val (.int (1 : Int32)), .val (.int (2 : Int32)), .val (.int a), .val (.int b), .val (.int x), .val (.int y), .val (.ref sp), .val (.ref sl), .val (.ref sn), .val (.ref sv), .val (.ref at'), .val (.ref r), .val (.ref a52_), .val (.int (4 : Int32))] [(.int (0 : Int32)), (.int (4 : Int32)), (.ref a52_), (.ref r)])) (fun t_ hr_ => XS.iconst A58_ hx rfl (Jvm.hb hby at_237) hr_) ?_
    refine own_callS w58_ hx (y := (⟨"com/example/sigillo/sigillo/soap/AttributeNamePinLaw", "at", "(Ljava/lang/String;[CII)Z"⟩ : MethodName)) (hw _ (List.mem_of_getElem? (i := 179) rfl)) (hw _ (List.mem_of_getElem? (i := 180) rfl)) (hw _ (List.mem_of_getElem? (i := 2) rfl)) (hw _ (List.mem_of_getElem? (i := 181) rfl)) (by decide) (kc := 0) (ks := 0) (argsL := [(.ref r), (.ref a52_), (.int (4 : Int32)), (.int (0 : Int32))]) (rest := []) (own_payCt (W := 0) (ctAt l Z a0 hw SC SF n0 h57_ (own_old w58_) r a52_ k52_ ([a, 58, x, y] : List Int32) ([a, (58 : Int32), x, y, (0 : Int32)] : List Int32) 4 0 Sz V57_ rfl rfl (by decide) (by decide) (fun q => rfl)) w58_ (hw _ (List.mem_of_getElem? (i := 181) rfl)) (hw _ (List.mem_of_getElem? (i := 2) rfl)) hEL (by decide) (by decide)) (g := (mkF m 238 #[.val (.int i0), .val (.int i1), .val (.int i2), .val (.int i3), .val (.int (1 : Int32)), .val (.int (2 : Int32)), .val (.int a), .val (.int b), .val (.int x), .val (.int y), .val (.ref sp), .val (.ref sl), .val (.ref sn), .val (.ref sv), .val (.ref at'), .val (.ref r), .val (.ref a52_), .val (.int (4 : Int32))] [(.int (0 : Int32)), (.int (4 : Int32)), (.ref a52_), (.ref r)])) rfl (by rw [hml]; rfl) (lenOf pd_805342835 rfl) rfl (by show 2 * 0 + _ ≤ _; exact Nat.le_of_eq rfl) (Jvm.hb hby at_238) (by decide) (by decide) (fun v59_ T59_ vm59_ h59_ q59_ C59_ w59_ => ?_)
    obtain ⟨rfl, rfl⟩ := q59_
    have A59_ := own_at w59_
    show own_WP p e _ below s Z _ n0 _ T59_ (mkF m 241 #[.val (.int i0), .val (.int i1), .val (.int i2), .val (.int i3), .val (.int (1 : Int32)), .val (.int (2 : Int32)), .val (.int a), .val (.int b), .val (.int x), .val (.int y), .val (.ref sp), .val (.ref sl), .val (.ref sn), .val (.ref sv), .val (.ref at'), .val (.ref r), .val (.ref a52_), .val (.int (4 : Int32))] [(.int (1 : Int32))])
    refine own_by (T' := T59_) (g' := (mkF m 244 #[.val (.int i0), .val (.int i1), .val (.int i2), .val (.int i3), .val (.int (1 : Int32)), .val (.int (2 : Int32)), .val (.int a), .val (.int b), .val (.int x), .val (.int y), .val (.ref sp), .val (.ref sl), .val (.ref sn), .val (.ref sv), .val (.ref at'), .val (.ref r), .val (.ref a52_), .val (.int (4 : Int32))] [])) (fun t_ hr_ => XS.ifNo A59_ hx rfl (Jvm.hb hby at_241) rfl ((if0 _ _).trans (feq (by decide : ¬ (1 : Int32) = 0)).1) hr_) ?_
    refine own_by (T' := T59_) (g' := (mkF m 246 #[.val (.int i0), .val (.int i1), .val (.int i2), .val (.int i3), .val (.int (1 : Int32)), .val (.int (2 : Int32)), .val (.int a), .val (.int b), .val (.int x), .val (.int y), .val (.ref sp), .val (.ref sl), .val (.ref sn), .val (.ref sv), .val (.ref at'), .val (.ref r), .val (.ref a52_), .val (.int (4 : Int32))] [(.ref r)])) (fun t_ hr_ => XS.aload A59_ hx rfl (Jvm.hb hby at_244) rfl rfl hr_) ?_
    refine own_by (T' := T59_) (g' := (mkF m 248 #[.val (.int i0), .val (.int i1), .val (.int i2), .val (.int i3), .val (.int (1 : Int32)), .val (.int (2 : Int32)), .val (.int a), .val (.int b), .val (.int x), .val (.int y), .val (.ref sp), .val (.ref sl), .val (.ref sn), .val (.ref sv), .val (.ref at'), .val (.ref r), .val (.ref a52_), .val (.int (4 : Int32))] [(.ref a52_), (.ref r)])) (fun t_ hr_ => XS.aload A59_ hx rfl (Jvm.hb hby at_246) rfl rfl hr_) ?_
    refine own_by (T' := T59_) (g' := (mkF m 250 #[.val (.int i0), .val (.int i1), .val (.int i2), .val (.int i3), .val (.int (1 : Int32)), .val (.int (2 : Int32)), .val (.int a), .val (.int b), .val (.int x), .val (.int y), .val (.ref sp), .val (.ref sl), .val (.ref sn), .val (.ref sv), .val (.ref at'), .val (.ref r), .val (.ref a52_), .val (.int (4 : Int32))] [(.int (4 : Int32)), (.ref a52_), (.ref r)])) (fun t_ hr_ => XS.iload A59_ hx rfl (Jvm.hb hby at_248) rfl hr_) ?_
    refine own_by (T' := T59_) (g' := (mkF m 251 #[.val (.int i0), .val (.int i1), .val (.int i2), .val (.int i3), .val (.int (1 : Int32)), .val (.int (2 : Int32)), .val (.int a), .val (.int b), .val (.int x), .val (.int y), .val (.ref sp), .val (.ref sl), .val (.ref sn), .val (.ref sv), .val (.ref at'), .val (.ref r), .val (.ref a52_), .val (.int (4 : Int32))] [(.int (1 : Int32)), (.int (4 : Int32)), (.ref a52_), (.ref r)])) (fun t_ hr_ => XS.iconst A59_ hx rfl (Jvm.hb hby at_250) hr_) ?_
    refine own_callS w59_ hx (y := (⟨"com/example/sigillo/sigillo/soap/AttributeNamePinLaw", "at", "(Ljava/lang/String;[CII)Z"⟩ : MethodName)) (hw _ (List.mem_of_getElem? (i := 179) rfl)) (hw _ (List.mem_of_getElem? (i := 180) rfl)) (hw _ (List.mem_of_getElem? (i := 2) rfl)) (hw _ (List.mem_of_getElem? (i := 181) rfl)) (by decide) (kc := 0) (ks := 0) (argsL := [(.ref r), (.ref a52_), (.int (4 : Int32)), (.int (1 : Int32))]) (rest := []) (own_payCt (W := 0) (ctAt l Z a0 hw SC SF n0 h57_ (own_old w59_) r a52_ k52_ ([a, 58, x, y] : List Int32) ([a, (58 : Int32), x, y, (0 : Int32)] : List Int32) 4 1 Sz V57_ rfl rfl (by decide) (by decide) (fun q => rfl)) w59_ (hw _ (List.mem_of_getElem? (i := 181) rfl)) (hw _ (List.mem_of_getElem? (i := 2) rfl)) hEL (by decide) (by decide)) (g := (mkF m 251 #[.val (.int i0), .val (.int i1), .val (.int i2), .val (.int i3), .val (.int (1 : Int32)), .val (.int (2 : Int32)), .val (.int a), .val (.int b), .val (.int x), .val (.int y), .val (.ref sp), .val (.ref sl), .val (.ref sn), .val (.ref sv), .val (.ref at'), .val (.ref r), .val (.ref a52_), .val (.int (4 : Int32))] [(.int (1 : Int32)), (.int (4 : Int32)), (.ref a52_), (.ref r)])) rfl (by rw [hml]; rfl) (lenOf pd_805342835 rfl) rfl (by show 2 * 0 + _ ≤ _; exact Nat.le_of_eq rfl) (Jvm.hb hby at_251) (by decide) (by decide) (fun v60_ T60_ vm60_ h60_ q60_ C60_ w60_ => ?_)
    obtain ⟨rfl, rfl⟩ := q60_
    have A60_ := own_at w60_
    show own_WP p e _ below s Z _ n0 _ T60_ (mkF m 254 #[.val (.int i0), .val (.int i1), .val (.int i2), .val (.int i3), .val (.int (1 : Int32)), .val (.int (2 : Int32)), .val (.int a), .val (.int b), .val (.int x), .val (.int y), .val (.ref sp), .val (.ref sl), .val (.ref sn), .val (.ref sv), .val (.ref at'), .val (.ref r), .val (.ref a52_), .val (.int (4 : Int32))] [(.int (1 : Int32))])
    refine own_by (T' := T60_) (g' := (mkF m 257 #[.val (.int i0), .val (.int i1), .val (.int i2), .val (.int i3), .val (.int (1 : Int32)), .val (.int (2 : Int32)), .val (.int a), .val (.int b), .val (.int x), .val (.int y), .val (.ref sp), .val (.ref sl), .val (.ref sn), .val (.ref sv), .val (.ref at'), .val (.ref r), .val (.ref a52_), .val (.int (4 : Int32))] [])) (fun t_ hr_ => XS.ifNo A60_ hx rfl (Jvm.hb hby at_254) rfl ((if0 _ _).trans (feq (by decide : ¬ (1 : Int32) = 0)).1) hr_) ?_
    refine own_by (T' := T60_) (g' := (mkF m 259 #[.val (.int i0), .val (.int i1), .val (.int i2), .val (.int i3), .val (.int (1 : Int32)), .val (.int (2 : Int32)), .val (.int a), .val (.int b), .val (.int x), .val (.int y), .val (.ref sp), .val (.ref sl), .val (.ref sn), .val (.ref sv), .val (.ref at'), .val (.ref r), .val (.ref a52_), .val (.int (4 : Int32))] [(.ref r)])) (fun t_ hr_ => XS.aload A60_ hx rfl (Jvm.hb hby at_257) rfl rfl hr_) ?_
    refine own_by (T' := T60_) (g' := (mkF m 261 #[.val (.int i0), .val (.int i1), .val (.int i2), .val (.int i3), .val (.int (1 : Int32)), .val (.int (2 : Int32)), .val (.int a), .val (.int b), .val (.int x), .val (.int y), .val (.ref sp), .val (.ref sl), .val (.ref sn), .val (.ref sv), .val (.ref at'), .val (.ref r), .val (.ref a52_), .val (.int (4 : Int32))] [(.ref a52_), (.ref r)])) (fun t_ hr_ => XS.aload A60_ hx rfl (Jvm.hb hby at_259) rfl rfl hr_) ?_
    refine own_by (T' := T60_) (g' := (mkF m 263 #[.val (.int i0), .val (.int i1), .val (.int i2), .val (.int i3), .val (.int (1 : Int32)), .val (.int (2 : Int32)), .val (.int a), .val (.int b), .val (.int x), .val (.int y), .val (.ref sp), .val (.ref sl), .val (.ref sn), .val (.ref sv), .val (.ref at'), .val (.ref r), .val (.ref a52_), .val (.int (4 : Int32))] [(.int (4 : Int32)), (.ref a52_), (.ref r)])) (fun t_ hr_ => XS.iload A60_ hx rfl (Jvm.hb hby at_261) rfl hr_) ?_
    refine own_by (T' := T60_) (g' := (mkF m 264 #[.val (.int i0), .val (.int i1), .val (.int i2), .val (.int i3), .val (.int (1 : Int32)), .val (.int (2 : Int32)), .val (.int a), .val (.int b), .val (.int x), .val (.int y), .val (.ref sp), .val (.ref sl), .val (.ref sn), .val (.ref sv), .val (.ref at'), .val (.ref r), .val (.ref a52_), .val (.int (4 : Int32))] [(.int (2 : Int32)), (.int (4 : Int32)), (.ref a52_), (.ref r)])) (fun t_ hr_ => XS.iconst A60_ hx rfl (Jvm.hb hby at_263) hr_) ?_
    refine own_callS w60_ hx (y := (⟨"com/example/sigillo/sigillo/soap/AttributeNamePinLaw", "at", "(Ljava/lang/String;[CII)Z"⟩ : MethodName)) (hw _ (List.mem_of_getElem? (i := 179) rfl)) (hw _ (List.mem_of_getElem? (i := 180) rfl)) (hw _ (List.mem_of_getElem? (i := 2) rfl)) (hw _ (List.mem_of_getElem? (i := 181) rfl)) (by decide) (kc := 0) (ks := 0) (argsL := [(.ref r), (.ref a52_), (.int (4 : Int32)), (.int (2 : Int32))]) (rest := []) (own_payCt (W := 0) (ctAt l Z a0 hw SC SF n0 h57_ (own_old w60_) r a52_ k52_ ([a, 58, x, y] : List Int32) ([a, (58 : Int32), x, y, (0 : Int32)] : List Int32) 4 2 Sz V57_ rfl rfl (by decide) (by decide) (fun q => rfl)) w60_ (hw _ (List.mem_of_getElem? (i := 181) rfl)) (hw _ (List.mem_of_getElem? (i := 2) rfl)) hEL (by decide) (by decide)) (g := (mkF m 264 #[.val (.int i0), .val (.int i1), .val (.int i2), .val (.int i3), .val (.int (1 : Int32)), .val (.int (2 : Int32)), .val (.int a), .val (.int b), .val (.int x), .val (.int y), .val (.ref sp), .val (.ref sl), .val (.ref sn), .val (.ref sv), .val (.ref at'), .val (.ref r), .val (.ref a52_), .val (.int (4 : Int32))] [(.int (2 : Int32)), (.int (4 : Int32)), (.ref a52_), (.ref r)])) rfl (by rw [hml]; rfl) (lenOf pd_805342835 rfl) rfl (by show 2 * 0 + _ ≤ _; exact Nat.le_of_eq rfl) (Jvm.hb hby at_264) (by decide) (by decide) (fun v61_ T61_ vm61_ h61_ q61_ C61_ w61_ => ?_)
    obtain ⟨rfl, rfl⟩ := q61_
    have A61_ := own_at w61_
    show own_WP p e _ below s Z _ n0 _ T61_ (mkF m 267 #[.val (.int i0), .val (.int i1), .val (.int i2), .val (.int i3), .val (.int (1 : Int32)), .val (.int (2 : Int32)), .val (.int a), .val (.int b), .val (.int x), .val (.int y), .val (.ref sp), .val (.ref sl), .val (.ref sn), .val (.ref sv), .val (.ref at'), .val (.ref r), .val (.ref a52_), .val (.int (4 : Int32))] [(.int (1 : Int32))])
    refine own_by (T' := T61_) (g' := (mkF m 270 #[.val (.int i0), .val (.int i1), .val (.int i2), .val (.int i3), .val (.int (1 : Int32)), .val (.int (2 : Int32)), .val (.int a), .val (.int b), .val (.int x), .val (.int y), .val (.ref sp), .val (.ref sl), .val (.ref sn), .val (.ref sv), .val (.ref at'), .val (.ref r), .val (.ref a52_), .val (.int (4 : Int32))] [])) (fun t_ hr_ => XS.ifNo A61_ hx rfl (Jvm.hb hby at_267) rfl ((if0 _ _).trans (feq (by decide : ¬ (1 : Int32) = 0)).1) hr_) ?_
    refine own_by (T' := T61_) (g' := (mkF m 272 #[.val (.int i0), .val (.int i1), .val (.int i2), .val (.int i3), .val (.int (1 : Int32)), .val (.int (2 : Int32)), .val (.int a), .val (.int b), .val (.int x), .val (.int y), .val (.ref sp), .val (.ref sl), .val (.ref sn), .val (.ref sv), .val (.ref at'), .val (.ref r), .val (.ref a52_), .val (.int (4 : Int32))] [(.ref r)])) (fun t_ hr_ => XS.aload A61_ hx rfl (Jvm.hb hby at_270) rfl rfl hr_) ?_
    refine own_by (T' := T61_) (g' := (mkF m 274 #[.val (.int i0), .val (.int i1), .val (.int i2), .val (.int i3), .val (.int (1 : Int32)), .val (.int (2 : Int32)), .val (.int a), .val (.int b), .val (.int x), .val (.int y), .val (.ref sp), .val (.ref sl), .val (.ref sn), .val (.ref sv), .val (.ref at'), .val (.ref r), .val (.ref a52_), .val (.int (4 : Int32))] [(.ref a52_), (.ref r)])) (fun t_ hr_ => XS.aload A61_ hx rfl (Jvm.hb hby at_272) rfl rfl hr_) ?_
    refine own_by (T' := T61_) (g' := (mkF m 276 #[.val (.int i0), .val (.int i1), .val (.int i2), .val (.int i3), .val (.int (1 : Int32)), .val (.int (2 : Int32)), .val (.int a), .val (.int b), .val (.int x), .val (.int y), .val (.ref sp), .val (.ref sl), .val (.ref sn), .val (.ref sv), .val (.ref at'), .val (.ref r), .val (.ref a52_), .val (.int (4 : Int32))] [(.int (4 : Int32)), (.ref a52_), (.ref r)])) (fun t_ hr_ => XS.iload A61_ hx rfl (Jvm.hb hby at_274) rfl hr_) ?_
    refine own_by (T' := T61_) (g' := (mkF m 277 #[.val (.int i0), .val (.int i1), .val (.int i2), .val (.int i3), .val (.int (1 : Int32)), .val (.int (2 : Int32)), .val (.int a), .val (.int b), .val (.int x), .val (.int y), .val (.ref sp), .val (.ref sl), .val (.ref sn), .val (.ref sv), .val (.ref at'), .val (.ref r), .val (.ref a52_), .val (.int (4 : Int32))] [(.int (3 : Int32)), (.int (4 : Int32)), (.ref a52_), (.ref r)])) (fun t_ hr_ => XS.iconst A61_ hx rfl (Jvm.hb hby at_276) hr_) ?_
    refine own_callS w61_ hx (y := (⟨"com/example/sigillo/sigillo/soap/AttributeNamePinLaw", "at", "(Ljava/lang/String;[CII)Z"⟩ : MethodName)) (hw _ (List.mem_of_getElem? (i := 179) rfl)) (hw _ (List.mem_of_getElem? (i := 180) rfl)) (hw _ (List.mem_of_getElem? (i := 2) rfl)) (hw _ (List.mem_of_getElem? (i := 181) rfl)) (by decide) (kc := 0) (ks := 0) (argsL := [(.ref r), (.ref a52_), (.int (4 : Int32)), (.int (3 : Int32))]) (rest := []) (own_payCt (W := 0) (ctAt l Z a0 hw SC SF n0 h57_ (own_old w61_) r a52_ k52_ ([a, 58, x, y] : List Int32) ([a, (58 : Int32), x, y, (0 : Int32)] : List Int32) 4 3 Sz V57_ rfl rfl (by decide) (by decide) (fun q => rfl)) w61_ (hw _ (List.mem_of_getElem? (i := 181) rfl)) (hw _ (List.mem_of_getElem? (i := 2) rfl)) hEL (by decide) (by decide)) (g := (mkF m 277 #[.val (.int i0), .val (.int i1), .val (.int i2), .val (.int i3), .val (.int (1 : Int32)), .val (.int (2 : Int32)), .val (.int a), .val (.int b), .val (.int x), .val (.int y), .val (.ref sp), .val (.ref sl), .val (.ref sn), .val (.ref sv), .val (.ref at'), .val (.ref r), .val (.ref a52_), .val (.int (4 : Int32))] [(.int (3 : Int32)), (.int (4 : Int32)), (.ref a52_), (.ref r)])) rfl (by rw [hml]; rfl) (lenOf pd_805342835 rfl) rfl (by show 2 * 0 + _ ≤ _; exact Nat.le_of_eq rfl) (Jvm.hb hby at_277) (by decide) (by decide) (fun v62_ T62_ vm62_ h62_ q62_ C62_ w62_ => ?_)
    obtain ⟨rfl, rfl⟩ := q62_
    have A62_ := own_at w62_
    show own_WP p e _ below s Z _ n0 _ T62_ (mkF m 280 #[.val (.int i0), .val (.int i1), .val (.int i2), .val (.int i3), .val (.int (1 : Int32)), .val (.int (2 : Int32)), .val (.int a), .val (.int b), .val (.int x), .val (.int y), .val (.ref sp), .val (.ref sl), .val (.ref sn), .val (.ref sv), .val (.ref at'), .val (.ref r), .val (.ref a52_), .val (.int (4 : Int32))] [(.int (1 : Int32))])
    refine own_by (T' := T62_) (g' := (mkF m 283 #[.val (.int i0), .val (.int i1), .val (.int i2), .val (.int i3), .val (.int (1 : Int32)), .val (.int (2 : Int32)), .val (.int a), .val (.int b), .val (.int x), .val (.int y), .val (.ref sp), .val (.ref sl), .val (.ref sn), .val (.ref sv), .val (.ref at'), .val (.ref r), .val (.ref a52_), .val (.int (4 : Int32))] [])) (fun t_ hr_ => XS.ifNo A62_ hx rfl (Jvm.hb hby at_280) rfl ((if0 _ _).trans (feq (by decide : ¬ (1 : Int32) = 0)).1) hr_) ?_
    refine own_by (T' := T62_) (g' := (mkF m 285 #[.val (.int i0), .val (.int i1), .val (.int i2), .val (.int i3), .val (.int (1 : Int32)), .val (.int (2 : Int32)), .val (.int a), .val (.int b), .val (.int x), .val (.int y), .val (.ref sp), .val (.ref sl), .val (.ref sn), .val (.ref sv), .val (.ref at'), .val (.ref r), .val (.ref a52_), .val (.int (4 : Int32))] [(.ref r)])) (fun t_ hr_ => XS.aload A62_ hx rfl (Jvm.hb hby at_283) rfl rfl hr_) ?_
    refine own_by (T' := T62_) (g' := (mkF m 287 #[.val (.int i0), .val (.int i1), .val (.int i2), .val (.int i3), .val (.int (1 : Int32)), .val (.int (2 : Int32)), .val (.int a), .val (.int b), .val (.int x), .val (.int y), .val (.ref sp), .val (.ref sl), .val (.ref sn), .val (.ref sv), .val (.ref at'), .val (.ref r), .val (.ref a52_), .val (.int (4 : Int32))] [(.ref a52_), (.ref r)])) (fun t_ hr_ => XS.aload A62_ hx rfl (Jvm.hb hby at_285) rfl rfl hr_) ?_
    refine own_by (T' := T62_) (g' := (mkF m 289 #[.val (.int i0), .val (.int i1), .val (.int i2), .val (.int i3), .val (.int (1 : Int32)), .val (.int (2 : Int32)), .val (.int a), .val (.int b), .val (.int x), .val (.int y), .val (.ref sp), .val (.ref sl), .val (.ref sn), .val (.ref sv), .val (.ref at'), .val (.ref r), .val (.ref a52_), .val (.int (4 : Int32))] [(.int (4 : Int32)), (.ref a52_), (.ref r)])) (fun t_ hr_ => XS.iload A62_ hx rfl (Jvm.hb hby at_287) rfl hr_) ?_
    refine own_by (T' := T62_) (g' := (mkF m 290 #[.val (.int i0), .val (.int i1), .val (.int i2), .val (.int i3), .val (.int (1 : Int32)), .val (.int (2 : Int32)), .val (.int a), .val (.int b), .val (.int x), .val (.int y), .val (.ref sp), .val (.ref sl), .val (.ref sn), .val (.ref sv), .val (.ref at'), .val (.ref r), .val (.ref a52_), .val (.int (4 : Int32))] [(.int (4 : Int32)), (.int (4 : Int32)), (.ref a52_), (.ref r)])) (fun t_ hr_ => XS.iconst A62_ hx rfl (Jvm.hb hby at_289) hr_) ?_
    refine own_callS w62_ hx (y := (⟨"com/example/sigillo/sigillo/soap/AttributeNamePinLaw", "at", "(Ljava/lang/String;[CII)Z"⟩ : MethodName)) (hw _ (List.mem_of_getElem? (i := 179) rfl)) (hw _ (List.mem_of_getElem? (i := 180) rfl)) (hw _ (List.mem_of_getElem? (i := 2) rfl)) (hw _ (List.mem_of_getElem? (i := 181) rfl)) (by decide) (kc := 0) (ks := 0) (argsL := [(.ref r), (.ref a52_), (.int (4 : Int32)), (.int (4 : Int32))]) (rest := []) (own_payCt (W := 0) (ctAt l Z a0 hw SC SF n0 h57_ (own_old w62_) r a52_ k52_ ([a, 58, x, y] : List Int32) ([a, (58 : Int32), x, y, (0 : Int32)] : List Int32) 4 4 Sz V57_ rfl rfl (by decide) (by decide) (fun q => absurd q (by decide))) w62_ (hw _ (List.mem_of_getElem? (i := 181) rfl)) (hw _ (List.mem_of_getElem? (i := 2) rfl)) hEL (by decide) (by decide)) (g := (mkF m 290 #[.val (.int i0), .val (.int i1), .val (.int i2), .val (.int i3), .val (.int (1 : Int32)), .val (.int (2 : Int32)), .val (.int a), .val (.int b), .val (.int x), .val (.int y), .val (.ref sp), .val (.ref sl), .val (.ref sn), .val (.ref sv), .val (.ref at'), .val (.ref r), .val (.ref a52_), .val (.int (4 : Int32))] [(.int (4 : Int32)), (.int (4 : Int32)), (.ref a52_), (.ref r)])) rfl (by rw [hml]; rfl) (lenOf pd_805342835 rfl) rfl (by show 2 * 0 + _ ≤ _; exact Nat.le_of_eq rfl) (Jvm.hb hby at_290) (by decide) (by decide) (fun v63_ T63_ vm63_ h63_ q63_ C63_ w63_ => ?_)
    obtain ⟨rfl, rfl⟩ := q63_
    have A63_ := own_at w63_
    show own_WP p e _ below s Z _ n0 _ T63_ (mkF m 293 #[.val (.int i0), .val (.int i1), .val (.int i2), .val (.int i3), .val (.int (1 : Int32)), .val (.int (2 : Int32)), .val (.int a), .val (.int b), .val (.int x), .val (.int y), .val (.ref sp), .val (.ref sl), .val (.ref sn), .val (.ref sv), .val (.ref at'), .val (.ref r), .val (.ref a52_), .val (.int (4 : Int32))] [(.int (1 : Int32))])
    refine own_by (T' := T63_) (g' := (mkF m 296 #[.val (.int i0), .val (.int i1), .val (.int i2), .val (.int i3), .val (.int (1 : Int32)), .val (.int (2 : Int32)), .val (.int a), .val (.int b), .val (.int x), .val (.int y), .val (.ref sp), .val (.ref sl), .val (.ref sn), .val (.ref sv), .val (.ref at'), .val (.ref r), .val (.ref a52_), .val (.int (4 : Int32))] [])) (fun t_ hr_ => XS.ifNo A63_ hx rfl (Jvm.hb hby at_293) rfl ((if0 _ _).trans (feq (by decide : ¬ (1 : Int32) = 0)).1) hr_) ?_
    refine own_by (T' := T63_) (g' := (mkF m 297 #[.val (.int i0), .val (.int i1), .val (.int i2), .val (.int i3), .val (.int (1 : Int32)), .val (.int (2 : Int32)), .val (.int a), .val (.int b), .val (.int x), .val (.int y), .val (.ref sp), .val (.ref sl), .val (.ref sn), .val (.ref sv), .val (.ref at'), .val (.ref r), .val (.ref a52_), .val (.int (4 : Int32))] [(.int (1 : Int32))])) (fun t_ hr_ => XS.iconst A63_ hx rfl (Jvm.hb hby at_296) hr_) ?_
    refine own_by (T' := T63_) (g' := (mkF m 301 #[.val (.int i0), .val (.int i1), .val (.int i2), .val (.int i3), .val (.int (1 : Int32)), .val (.int (2 : Int32)), .val (.int a), .val (.int b), .val (.int x), .val (.int y), .val (.ref sp), .val (.ref sl), .val (.ref sn), .val (.ref sv), .val (.ref at'), .val (.ref r), .val (.ref a52_), .val (.int (4 : Int32))] [(.int (1 : Int32))])) (fun t_ hr_ => XS.goto A63_ hx rfl (pc0 := 297) (pc' := 301) rfl (Jvm.hb hby at_297) (by decide) (by decide) hr_) ?_
    exact own_retZ w63_ hx hEL hlk hret (Or.inr rfl) (Jvm.hb hby at_301) (by decide) (by decide) rfl
  · show own_WP p e _ below s Z _ n0 _ T0 (mkF m 139 #[.val (.int i0), .val (.int i1), .val (.int i2), .val (.int i3), .val (.int (2 : Int32)), .val (.int (0 : Int32)), .val (.int a), .val (.int b), .val (.int x), .val (.int y), .val (.ref sp), .val (.ref sl), .val (.ref sn), .val (.ref sv), .val (.ref at'), .val (.ref r), .unset, .unset] [])
    refine own_by (T' := T0) (g' := (mkF m 140 #[.val (.int i0), .val (.int i1), .val (.int i2), .val (.int i3), .val (.int (2 : Int32)), .val (.int (0 : Int32)), .val (.int a), .val (.int b), .val (.int x), .val (.int y), .val (.ref sp), .val (.ref sl), .val (.ref sn), .val (.ref sv), .val (.ref at'), .val (.ref r), .unset, .unset] [(.int (5 : Int32))])) (fun t_ hr_ => XS.iconst A_0 hx rfl (Jvm.hb hby at_139) hr_) ?_
    refine own_newP w0 hx (hw _ (List.mem_of_getElem? (i := 7) rfl)) (g := (mkF m 140 #[.val (.int i0), .val (.int i1), .val (.int i2), .val (.int i3), .val (.int (2 : Int32)), .val (.int (0 : Int32)), .val (.int a), .val (.int b), .val (.int x), .val (.int y), .val (.ref sp), .val (.ref sl), .val (.ref sn), .val (.ref sv), .val (.ref at'), .val (.ref r), .unset, .unset] [(.int (5 : Int32))])) rfl (Jvm.hb hby at_140) rfl (by decide) (cap := 5) (by decide) (by decide) (by decide) (by decide) (fun T64_ h64_ a64_ k64_ g64_ E64_ V64_ w64_ => ?_)
    have A64_ := own_at w64_
    show own_WP p e _ below s Z _ n0 _ T64_ (mkF m 142 #[.val (.int i0), .val (.int i1), .val (.int i2), .val (.int i3), .val (.int (2 : Int32)), .val (.int (0 : Int32)), .val (.int a), .val (.int b), .val (.int x), .val (.int y), .val (.ref sp), .val (.ref sl), .val (.ref sn), .val (.ref sv), .val (.ref at'), .val (.ref r), .unset, .unset] [(.ref a64_)])
    have ge : n0 ≤ a64_ := by rw [g64_]; exact own_n0 w0
    have U0 : Arv Z h64_ a64_ k64_ .char (5 : Int32) [(.int (0 : Int32)), (.int (0 : Int32)), (.int (0 : Int32)), (.int (0 : Int32)), (.int (0 : Int32))] (.int 0) := V64_.pad (vs' := [(.int (0 : Int32)), (.int (0 : Int32)), (.int (0 : Int32)), (.int (0 : Int32)), (.int (0 : Int32))]) (fun i => pad_rep [] (.int (0 : Int32)) 5 i)
    have gez : h0.size ≤ a64_ := by rw [g64_]; exact Nat.le_refl _
    refine own_by (T' := T64_) (g' := (mkF m 144 #[.val (.int i0), .val (.int i1), .val (.int i2), .val (.int i3), .val (.int (2 : Int32)), .val (.int (0 : Int32)), .val (.int a), .val (.int b), .val (.int x), .val (.int y), .val (.ref sp), .val (.ref sl), .val (.ref sn), .val (.ref sv), .val (.ref at'), .val (.ref r), .val (.ref a64_), .unset] [])) (fun t_ hr_ => XS.astore A64_ hx rfl (Jvm.hb hby at_142) rfl rfl (l' := #[.val (.int i0), .val (.int i1), .val (.int i2), .val (.int i3), .val (.int (2 : Int32)), .val (.int (0 : Int32)), .val (.int a), .val (.int b), .val (.int x), .val (.int y), .val (.ref sp), .val (.ref sl), .val (.ref sn), .val (.ref sv), .val (.ref at'), .val (.ref r), .val (.ref a64_), .unset]) rfl hr_) ?_
    refine own_by (T' := T64_) (g' := (mkF m 146 #[.val (.int i0), .val (.int i1), .val (.int i2), .val (.int i3), .val (.int (2 : Int32)), .val (.int (0 : Int32)), .val (.int a), .val (.int b), .val (.int x), .val (.int y), .val (.ref sp), .val (.ref sl), .val (.ref sn), .val (.ref sv), .val (.ref at'), .val (.ref r), .val (.ref a64_), .unset] [(.int (2 : Int32))])) (fun t_ hr_ => XS.iload A64_ hx rfl (Jvm.hb hby at_144) rfl hr_) ?_
    refine own_by (T' := T64_) (g' := (mkF m 168 #[.val (.int i0), .val (.int i1), .val (.int i2), .val (.int i3), .val (.int (2 : Int32)), .val (.int (0 : Int32)), .val (.int a), .val (.int b), .val (.int x), .val (.int y), .val (.ref sp), .val (.ref sl), .val (.ref sn), .val (.ref sv), .val (.ref at'), .val (.ref r), .val (.ref a64_), .unset] [])) (fun t_ hr_ => XS.ifYes A64_ hx rfl (pc0 := 146) (pc' := 168) rfl (Jvm.hb hby at_146) rfl ((if0 _ _).trans (feq (by decide)).2) (by decide) (by decide) hr_) ?_
    refine own_by (T' := T64_) (g' := (mkF m 170 #[.val (.int i0), .val (.int i1), .val (.int i2), .val (.int i3), .val (.int (2 : Int32)), .val (.int (0 : Int32)), .val (.int a), .val (.int b), .val (.int x), .val (.int y), .val (.ref sp), .val (.ref sl), .val (.ref sn), .val (.ref sv), .val (.ref at'), .val (.ref r), .val (.ref a64_), .unset] [(.ref a64_)])) (fun t_ hr_ => XS.aload A64_ hx rfl (Jvm.hb hby at_168) rfl rfl hr_) ?_
    refine own_by (T' := T64_) (g' := (mkF m 171 #[.val (.int i0), .val (.int i1), .val (.int i2), .val (.int i3), .val (.int (2 : Int32)), .val (.int (0 : Int32)), .val (.int a), .val (.int b), .val (.int x), .val (.int y), .val (.ref sp), .val (.ref sl), .val (.ref sn), .val (.ref sv), .val (.ref at'), .val (.ref r), .val (.ref a64_), .unset] [(.int (0 : Int32)), (.ref a64_)])) (fun t_ hr_ => XS.iconst A64_ hx rfl (Jvm.hb hby at_170) hr_) ?_
    refine own_by (T' := T64_) (g' := (mkF m 173 #[.val (.int i0), .val (.int i1), .val (.int i2), .val (.int i3), .val (.int (2 : Int32)), .val (.int (0 : Int32)), .val (.int a), .val (.int b), .val (.int x), .val (.int y), .val (.ref sp), .val (.ref sl), .val (.ref sn), .val (.ref sv), .val (.ref at'), .val (.ref r), .val (.ref a64_), .unset] [(.int a), (.int (0 : Int32)), (.ref a64_)])) (fun t_ hr_ => XS.iload A64_ hx rfl (Jvm.hb hby at_171) rfl hr_) ?_
    refine own_castore w64_ hx U0 (by decide) (own_rng255 ra) (i := 0) rfl (by simp) ge (g := (mkF m 173 #[.val (.int i0), .val (.int i1), .val (.int i2), .val (.int i3), .val (.int (2 : Int32)), .val (.int (0 : Int32)), .val (.int a), .val (.int b), .val (.int x), .val (.int y), .val (.ref sp), .val (.ref sl), .val (.ref sn), .val (.ref sv), .val (.ref at'), .val (.ref r), .val (.ref a64_), .unset] [(.int a), (.int (0 : Int32)), (.ref a64_)])) rfl rfl (Jvm.hb hby at_173) (fun T65_ h65_ W65_ V65_ w65_ => ?_)
    have A65_ := own_at w65_
    show own_WP p e _ below s Z _ n0 _ T65_ (mkF m 174 #[.val (.int i0), .val (.int i1), .val (.int i2), .val (.int i3), .val (.int (2 : Int32)), .val (.int (0 : Int32)), .val (.int a), .val (.int b), .val (.int x), .val (.int y), .val (.ref sp), .val (.ref sl), .val (.ref sn), .val (.ref sv), .val (.ref at'), .val (.ref r), .val (.ref a64_), .unset] [])
    have EeW65_ := own_extWr E64_ W65_ gez
    refine own_by (T' := T65_) (g' := (mkF m 176 #[.val (.int i0), .val (.int i1), .val (.int i2), .val (.int i3), .val (.int (2 : Int32)), .val (.int (0 : Int32)), .val (.int a), .val (.int b), .val (.int x), .val (.int y), .val (.ref sp), .val (.ref sl), .val (.ref sn), .val (.ref sv), .val (.ref at'), .val (.ref r), .val (.ref a64_), .unset] [(.ref a64_)])) (fun t_ hr_ => XS.aload A65_ hx rfl (Jvm.hb hby at_174) rfl rfl hr_) ?_
    refine own_by (T' := T65_) (g' := (mkF m 177 #[.val (.int i0), .val (.int i1), .val (.int i2), .val (.int i3), .val (.int (2 : Int32)), .val (.int (0 : Int32)), .val (.int a), .val (.int b), .val (.int x), .val (.int y), .val (.ref sp), .val (.ref sl), .val (.ref sn), .val (.ref sv), .val (.ref at'), .val (.ref r), .val (.ref a64_), .unset] [(.int (1 : Int32)), (.ref a64_)])) (fun t_ hr_ => XS.iconst A65_ hx rfl (Jvm.hb hby at_176) hr_) ?_
    refine own_by (T' := T65_) (g' := (mkF m 179 #[.val (.int i0), .val (.int i1), .val (.int i2), .val (.int i3), .val (.int (2 : Int32)), .val (.int (0 : Int32)), .val (.int a), .val (.int b), .val (.int x), .val (.int y), .val (.ref sp), .val (.ref sl), .val (.ref sn), .val (.ref sv), .val (.ref at'), .val (.ref r), .val (.ref a64_), .unset] [(.int b), (.int (1 : Int32)), (.ref a64_)])) (fun t_ hr_ => XS.iload A65_ hx rfl (Jvm.hb hby at_177) rfl hr_) ?_
    refine own_castore w65_ hx V65_ (by decide) (own_rng255 rb) (i := 1) rfl (by simp) ge (g := (mkF m 179 #[.val (.int i0), .val (.int i1), .val (.int i2), .val (.int i3), .val (.int (2 : Int32)), .val (.int (0 : Int32)), .val (.int a), .val (.int b), .val (.int x), .val (.int y), .val (.ref sp), .val (.ref sl), .val (.ref sn), .val (.ref sv), .val (.ref at'), .val (.ref r), .val (.ref a64_), .unset] [(.int b), (.int (1 : Int32)), (.ref a64_)])) rfl rfl (Jvm.hb hby at_179) (fun T66_ h66_ W66_ V66_ w66_ => ?_)
    have A66_ := own_at w66_
    show own_WP p e _ below s Z _ n0 _ T66_ (mkF m 180 #[.val (.int i0), .val (.int i1), .val (.int i2), .val (.int i3), .val (.int (2 : Int32)), .val (.int (0 : Int32)), .val (.int a), .val (.int b), .val (.int x), .val (.int y), .val (.ref sp), .val (.ref sl), .val (.ref sn), .val (.ref sv), .val (.ref at'), .val (.ref r), .val (.ref a64_), .unset] [])
    have EeW66_ := own_extWr EeW65_ W66_ gez
    refine own_by (T' := T66_) (g' := (mkF m 182 #[.val (.int i0), .val (.int i1), .val (.int i2), .val (.int i3), .val (.int (2 : Int32)), .val (.int (0 : Int32)), .val (.int a), .val (.int b), .val (.int x), .val (.int y), .val (.ref sp), .val (.ref sl), .val (.ref sn), .val (.ref sv), .val (.ref at'), .val (.ref r), .val (.ref a64_), .unset] [(.ref a64_)])) (fun t_ hr_ => XS.aload A66_ hx rfl (Jvm.hb hby at_180) rfl rfl hr_) ?_
    refine own_by (T' := T66_) (g' := (mkF m 184 #[.val (.int i0), .val (.int i1), .val (.int i2), .val (.int i3), .val (.int (2 : Int32)), .val (.int (0 : Int32)), .val (.int a), .val (.int b), .val (.int x), .val (.int y), .val (.ref sp), .val (.ref sl), .val (.ref sn), .val (.ref sv), .val (.ref at'), .val (.ref r), .val (.ref a64_), .unset] [(.int (2 : Int32)), (.ref a64_)])) (fun t_ hr_ => XS.iload A66_ hx rfl (Jvm.hb hby at_182) rfl hr_) ?_
    refine own_by (T' := T66_) (g' := (mkF m 186 #[.val (.int i0), .val (.int i1), .val (.int i2), .val (.int i3), .val (.int (2 : Int32)), .val (.int (0 : Int32)), .val (.int a), .val (.int b), .val (.int x), .val (.int y), .val (.ref sp), .val (.ref sl), .val (.ref sn), .val (.ref sv), .val (.ref at'), .val (.ref r), .val (.ref a64_), .unset] [(.int (58 : Int32)), (.int (2 : Int32)), (.ref a64_)])) (fun t_ hr_ => XS.bipush A66_ hx rfl (Jvm.hb hby at_184) hr_) ?_
    refine own_castore w66_ hx V66_ (by decide) (own_rng255 (by decide)) (i := 2) rfl (by simp) ge (g := (mkF m 186 #[.val (.int i0), .val (.int i1), .val (.int i2), .val (.int i3), .val (.int (2 : Int32)), .val (.int (0 : Int32)), .val (.int a), .val (.int b), .val (.int x), .val (.int y), .val (.ref sp), .val (.ref sl), .val (.ref sn), .val (.ref sv), .val (.ref at'), .val (.ref r), .val (.ref a64_), .unset] [(.int (58 : Int32)), (.int (2 : Int32)), (.ref a64_)])) rfl rfl (Jvm.hb hby at_186) (fun T67_ h67_ W67_ V67_ w67_ => ?_)
    have A67_ := own_at w67_
    show own_WP p e _ below s Z _ n0 _ T67_ (mkF m 187 #[.val (.int i0), .val (.int i1), .val (.int i2), .val (.int i3), .val (.int (2 : Int32)), .val (.int (0 : Int32)), .val (.int a), .val (.int b), .val (.int x), .val (.int y), .val (.ref sp), .val (.ref sl), .val (.ref sn), .val (.ref sv), .val (.ref at'), .val (.ref r), .val (.ref a64_), .unset] [])
    have EeW67_ := own_extWr EeW66_ W67_ gez
    refine own_by (T' := T67_) (g' := (mkF m 189 #[.val (.int i0), .val (.int i1), .val (.int i2), .val (.int i3), .val (.int (2 : Int32)), .val (.int (0 : Int32)), .val (.int a), .val (.int b), .val (.int x), .val (.int y), .val (.ref sp), .val (.ref sl), .val (.ref sn), .val (.ref sv), .val (.ref at'), .val (.ref r), .val (.ref a64_), .unset] [(.ref a64_)])) (fun t_ hr_ => XS.aload A67_ hx rfl (Jvm.hb hby at_187) rfl rfl hr_) ?_
    refine own_by (T' := T67_) (g' := (mkF m 191 #[.val (.int i0), .val (.int i1), .val (.int i2), .val (.int i3), .val (.int (2 : Int32)), .val (.int (0 : Int32)), .val (.int a), .val (.int b), .val (.int x), .val (.int y), .val (.ref sp), .val (.ref sl), .val (.ref sn), .val (.ref sv), .val (.ref at'), .val (.ref r), .val (.ref a64_), .unset] [(.int (2 : Int32)), (.ref a64_)])) (fun t_ hr_ => XS.iload A67_ hx rfl (Jvm.hb hby at_189) rfl hr_) ?_
    refine own_by (T' := T67_) (g' := (mkF m 192 #[.val (.int i0), .val (.int i1), .val (.int i2), .val (.int i3), .val (.int (2 : Int32)), .val (.int (0 : Int32)), .val (.int a), .val (.int b), .val (.int x), .val (.int y), .val (.ref sp), .val (.ref sl), .val (.ref sn), .val (.ref sv), .val (.ref at'), .val (.ref r), .val (.ref a64_), .unset] [(.int (1 : Int32)), (.int (2 : Int32)), (.ref a64_)])) (fun t_ hr_ => XS.iconst A67_ hx rfl (Jvm.hb hby at_191) hr_) ?_
    refine own_by (T' := T67_) (g' := (mkF m 193 #[.val (.int i0), .val (.int i1), .val (.int i2), .val (.int i3), .val (.int (2 : Int32)), .val (.int (0 : Int32)), .val (.int a), .val (.int b), .val (.int x), .val (.int y), .val (.ref sp), .val (.ref sl), .val (.ref sn), .val (.ref sv), .val (.ref at'), .val (.ref r), .val (.ref a64_), .unset] [(.int ((2 : Int32) + (1 : Int32))), (.ref a64_)])) (fun t_ hr_ => XS.iadd A67_ hx rfl (Jvm.hb hby at_192) rfl hr_) ?_
    refine own_by (T' := T67_) (g' := (mkF m 195 #[.val (.int i0), .val (.int i1), .val (.int i2), .val (.int i3), .val (.int (2 : Int32)), .val (.int (0 : Int32)), .val (.int a), .val (.int b), .val (.int x), .val (.int y), .val (.ref sp), .val (.ref sl), .val (.ref sn), .val (.ref sv), .val (.ref at'), .val (.ref r), .val (.ref a64_), .unset] [(.int x), (.int ((2 : Int32) + (1 : Int32))), (.ref a64_)])) (fun t_ hr_ => XS.iload A67_ hx rfl (Jvm.hb hby at_193) rfl hr_) ?_
    rw [show ((2 : Int32) + (1 : Int32)) = (3 : Int32) from (by decide)]
    show own_WP p e _ below s Z _ n0 _ T67_ (mkF m 195 #[.val (.int i0), .val (.int i1), .val (.int i2), .val (.int i3), .val (.int (2 : Int32)), .val (.int (0 : Int32)), .val (.int a), .val (.int b), .val (.int x), .val (.int y), .val (.ref sp), .val (.ref sl), .val (.ref sn), .val (.ref sv), .val (.ref at'), .val (.ref r), .val (.ref a64_), .unset] [(.int x), (.int (3 : Int32)), (.ref a64_)])
    refine own_castore w67_ hx V67_ (by decide) (own_rng255 rx) (i := 3) rfl (by simp) ge (g := (mkF m 195 #[.val (.int i0), .val (.int i1), .val (.int i2), .val (.int i3), .val (.int (2 : Int32)), .val (.int (0 : Int32)), .val (.int a), .val (.int b), .val (.int x), .val (.int y), .val (.ref sp), .val (.ref sl), .val (.ref sn), .val (.ref sv), .val (.ref at'), .val (.ref r), .val (.ref a64_), .unset] [(.int x), (.int (3 : Int32)), (.ref a64_)])) rfl rfl (Jvm.hb hby at_195) (fun T68_ h68_ W68_ V68_ w68_ => ?_)
    have A68_ := own_at w68_
    show own_WP p e _ below s Z _ n0 _ T68_ (mkF m 196 #[.val (.int i0), .val (.int i1), .val (.int i2), .val (.int i3), .val (.int (2 : Int32)), .val (.int (0 : Int32)), .val (.int a), .val (.int b), .val (.int x), .val (.int y), .val (.ref sp), .val (.ref sl), .val (.ref sn), .val (.ref sv), .val (.ref at'), .val (.ref r), .val (.ref a64_), .unset] [])
    have EeW68_ := own_extWr EeW67_ W68_ gez
    refine own_by (T' := T68_) (g' := (mkF m 198 #[.val (.int i0), .val (.int i1), .val (.int i2), .val (.int i3), .val (.int (2 : Int32)), .val (.int (0 : Int32)), .val (.int a), .val (.int b), .val (.int x), .val (.int y), .val (.ref sp), .val (.ref sl), .val (.ref sn), .val (.ref sv), .val (.ref at'), .val (.ref r), .val (.ref a64_), .unset] [(.ref a64_)])) (fun t_ hr_ => XS.aload A68_ hx rfl (Jvm.hb hby at_196) rfl rfl hr_) ?_
    refine own_by (T' := T68_) (g' := (mkF m 200 #[.val (.int i0), .val (.int i1), .val (.int i2), .val (.int i3), .val (.int (2 : Int32)), .val (.int (0 : Int32)), .val (.int a), .val (.int b), .val (.int x), .val (.int y), .val (.ref sp), .val (.ref sl), .val (.ref sn), .val (.ref sv), .val (.ref at'), .val (.ref r), .val (.ref a64_), .unset] [(.int (2 : Int32)), (.ref a64_)])) (fun t_ hr_ => XS.iload A68_ hx rfl (Jvm.hb hby at_198) rfl hr_) ?_
    refine own_by (T' := T68_) (g' := (mkF m 201 #[.val (.int i0), .val (.int i1), .val (.int i2), .val (.int i3), .val (.int (2 : Int32)), .val (.int (0 : Int32)), .val (.int a), .val (.int b), .val (.int x), .val (.int y), .val (.ref sp), .val (.ref sl), .val (.ref sn), .val (.ref sv), .val (.ref at'), .val (.ref r), .val (.ref a64_), .unset] [(.int (2 : Int32)), (.int (2 : Int32)), (.ref a64_)])) (fun t_ hr_ => XS.iconst A68_ hx rfl (Jvm.hb hby at_200) hr_) ?_
    refine own_by (T' := T68_) (g' := (mkF m 202 #[.val (.int i0), .val (.int i1), .val (.int i2), .val (.int i3), .val (.int (2 : Int32)), .val (.int (0 : Int32)), .val (.int a), .val (.int b), .val (.int x), .val (.int y), .val (.ref sp), .val (.ref sl), .val (.ref sn), .val (.ref sv), .val (.ref at'), .val (.ref r), .val (.ref a64_), .unset] [(.int ((2 : Int32) + (2 : Int32))), (.ref a64_)])) (fun t_ hr_ => XS.iadd A68_ hx rfl (Jvm.hb hby at_201) rfl hr_) ?_
    refine own_by (T' := T68_) (g' := (mkF m 204 #[.val (.int i0), .val (.int i1), .val (.int i2), .val (.int i3), .val (.int (2 : Int32)), .val (.int (0 : Int32)), .val (.int a), .val (.int b), .val (.int x), .val (.int y), .val (.ref sp), .val (.ref sl), .val (.ref sn), .val (.ref sv), .val (.ref at'), .val (.ref r), .val (.ref a64_), .unset] [(.int y), (.int ((2 : Int32) + (2 : Int32))), (.ref a64_)])) (fun t_ hr_ => XS.iload A68_ hx rfl (Jvm.hb hby at_202) rfl hr_) ?_
    rw [show ((2 : Int32) + (2 : Int32)) = (4 : Int32) from (by decide)]
    show own_WP p e _ below s Z _ n0 _ T68_ (mkF m 204 #[.val (.int i0), .val (.int i1), .val (.int i2), .val (.int i3), .val (.int (2 : Int32)), .val (.int (0 : Int32)), .val (.int a), .val (.int b), .val (.int x), .val (.int y), .val (.ref sp), .val (.ref sl), .val (.ref sn), .val (.ref sv), .val (.ref at'), .val (.ref r), .val (.ref a64_), .unset] [(.int y), (.int (4 : Int32)), (.ref a64_)])
    refine own_castore w68_ hx V68_ (by decide) (own_rng255 ry) (i := 4) rfl (by simp) ge (g := (mkF m 204 #[.val (.int i0), .val (.int i1), .val (.int i2), .val (.int i3), .val (.int (2 : Int32)), .val (.int (0 : Int32)), .val (.int a), .val (.int b), .val (.int x), .val (.int y), .val (.ref sp), .val (.ref sl), .val (.ref sn), .val (.ref sv), .val (.ref at'), .val (.ref r), .val (.ref a64_), .unset] [(.int y), (.int (4 : Int32)), (.ref a64_)])) rfl rfl (Jvm.hb hby at_204) (fun T69_ h69_ W69_ V69_ w69_ => ?_)
    have A69_ := own_at w69_
    show own_WP p e _ below s Z _ n0 _ T69_ (mkF m 205 #[.val (.int i0), .val (.int i1), .val (.int i2), .val (.int i3), .val (.int (2 : Int32)), .val (.int (0 : Int32)), .val (.int a), .val (.int b), .val (.int x), .val (.int y), .val (.ref sp), .val (.ref sl), .val (.ref sn), .val (.ref sv), .val (.ref at'), .val (.ref r), .val (.ref a64_), .unset] [])
    have EeW69_ := own_extWr EeW68_ W69_ gez
    refine own_by (T' := T69_) (g' := (mkF m 207 #[.val (.int i0), .val (.int i1), .val (.int i2), .val (.int i3), .val (.int (2 : Int32)), .val (.int (0 : Int32)), .val (.int a), .val (.int b), .val (.int x), .val (.int y), .val (.ref sp), .val (.ref sl), .val (.ref sn), .val (.ref sv), .val (.ref at'), .val (.ref r), .val (.ref a64_), .unset] [(.int (2 : Int32))])) (fun t_ hr_ => XS.iload A69_ hx rfl (Jvm.hb hby at_205) rfl hr_) ?_
    refine own_by (T' := T69_) (g' := (mkF m 208 #[.val (.int i0), .val (.int i1), .val (.int i2), .val (.int i3), .val (.int (2 : Int32)), .val (.int (0 : Int32)), .val (.int a), .val (.int b), .val (.int x), .val (.int y), .val (.ref sp), .val (.ref sl), .val (.ref sn), .val (.ref sv), .val (.ref at'), .val (.ref r), .val (.ref a64_), .unset] [(.int (1 : Int32)), (.int (2 : Int32))])) (fun t_ hr_ => XS.iconst A69_ hx rfl (Jvm.hb hby at_207) hr_) ?_
    refine own_by (T' := T69_) (g' := (mkF m 209 #[.val (.int i0), .val (.int i1), .val (.int i2), .val (.int i3), .val (.int (2 : Int32)), .val (.int (0 : Int32)), .val (.int a), .val (.int b), .val (.int x), .val (.int y), .val (.ref sp), .val (.ref sl), .val (.ref sn), .val (.ref sv), .val (.ref at'), .val (.ref r), .val (.ref a64_), .unset] [(.int ((2 : Int32) + (1 : Int32)))])) (fun t_ hr_ => XS.iadd A69_ hx rfl (Jvm.hb hby at_208) rfl hr_) ?_
    refine own_by (T' := T69_) (g' := (mkF m 211 #[.val (.int i0), .val (.int i1), .val (.int i2), .val (.int i3), .val (.int (2 : Int32)), .val (.int (0 : Int32)), .val (.int a), .val (.int b), .val (.int x), .val (.int y), .val (.ref sp), .val (.ref sl), .val (.ref sn), .val (.ref sv), .val (.ref at'), .val (.ref r), .val (.ref a64_), .unset] [(.int (0 : Int32)), (.int ((2 : Int32) + (1 : Int32)))])) (fun t_ hr_ => XS.iload A69_ hx rfl (Jvm.hb hby at_209) rfl hr_) ?_
    refine own_by (T' := T69_) (g' := (mkF m 212 #[.val (.int i0), .val (.int i1), .val (.int i2), .val (.int i3), .val (.int (2 : Int32)), .val (.int (0 : Int32)), .val (.int a), .val (.int b), .val (.int x), .val (.int y), .val (.ref sp), .val (.ref sl), .val (.ref sn), .val (.ref sv), .val (.ref at'), .val (.ref r), .val (.ref a64_), .unset] [(.int (((2 : Int32) + (1 : Int32)) + (0 : Int32)))])) (fun t_ hr_ => XS.iadd A69_ hx rfl (Jvm.hb hby at_211) rfl hr_) ?_
    refine own_by (T' := T69_) (g' := (mkF m 214 #[.val (.int i0), .val (.int i1), .val (.int i2), .val (.int i3), .val (.int (2 : Int32)), .val (.int (0 : Int32)), .val (.int a), .val (.int b), .val (.int x), .val (.int y), .val (.ref sp), .val (.ref sl), .val (.ref sn), .val (.ref sv), .val (.ref at'), .val (.ref r), .val (.ref a64_), .val (.int (((2 : Int32) + (1 : Int32)) + (0 : Int32)))] [])) (fun t_ hr_ => XS.istore A69_ hx rfl (Jvm.hb hby at_212) rfl (l' := #[.val (.int i0), .val (.int i1), .val (.int i2), .val (.int i3), .val (.int (2 : Int32)), .val (.int (0 : Int32)), .val (.int a), .val (.int b), .val (.int x), .val (.int y), .val (.ref sp), .val (.ref sl), .val (.ref sn), .val (.ref sv), .val (.ref at'), .val (.ref r), .val (.ref a64_), .val (.int (((2 : Int32) + (1 : Int32)) + (0 : Int32)))]) rfl hr_) ?_
    rw [show (((2 : Int32) + (1 : Int32)) + (0 : Int32)) = (3 : Int32) from (by decide)]
    show own_WP p e _ below s Z _ n0 _ T69_ (mkF m 214 #[.val (.int i0), .val (.int i1), .val (.int i2), .val (.int i3), .val (.int (2 : Int32)), .val (.int (0 : Int32)), .val (.int a), .val (.int b), .val (.int x), .val (.int y), .val (.ref sp), .val (.ref sl), .val (.ref sn), .val (.ref sv), .val (.ref at'), .val (.ref r), .val (.ref a64_), .val (.int (3 : Int32))] [])
    refine own_by (T' := T69_) (g' := (mkF m 216 #[.val (.int i0), .val (.int i1), .val (.int i2), .val (.int i3), .val (.int (2 : Int32)), .val (.int (0 : Int32)), .val (.int a), .val (.int b), .val (.int x), .val (.int y), .val (.ref sp), .val (.ref sl), .val (.ref sn), .val (.ref sv), .val (.ref at'), .val (.ref r), .val (.ref a64_), .val (.int (3 : Int32))] [(.ref r)])) (fun t_ hr_ => XS.aload A69_ hx rfl (Jvm.hb hby at_214) rfl rfl hr_) ?_
    refine own_by (T' := T69_) (g' := (mkF m 219 #[.val (.int i0), .val (.int i1), .val (.int i2), .val (.int i3), .val (.int (2 : Int32)), .val (.int (0 : Int32)), .val (.int a), .val (.int b), .val (.int x), .val (.int y), .val (.ref sp), .val (.ref sl), .val (.ref sn), .val (.ref sv), .val (.ref at'), .val (.ref r), .val (.ref a64_), .val (.int (3 : Int32))] [])) (fun t_ hr_ => XS.ifnullNo A69_ hx rfl (Jvm.hb hby at_216) rfl hr_) ?_
    refine own_by (T' := T69_) (g' := (mkF m 221 #[.val (.int i0), .val (.int i1), .val (.int i2), .val (.int i3), .val (.int (2 : Int32)), .val (.int (0 : Int32)), .val (.int a), .val (.int b), .val (.int x), .val (.int y), .val (.ref sp), .val (.ref sl), .val (.ref sn), .val (.ref sv), .val (.ref at'), .val (.ref r), .val (.ref a64_), .val (.int (3 : Int32))] [(.ref r)])) (fun t_ hr_ => XS.aload A69_ hx rfl (Jvm.hb hby at_219) rfl rfl hr_) ?_
    have Sz : own_Str Z h69_ r ([a, b, 58] : List Int32) := by first | exact S0.ext EeW69_ | (have q := S0.ext EeW69_; simpa [own_nc] using q)
    refine own_callV w69_ hx (y := (⟨"java/lang/String", "length", "()I"⟩ : MethodName)) (z := (⟨"java/lang/String", "length", "()I"⟩ : MethodName)) (hw _ (List.mem_of_getElem? (i := 178) rfl)) (hw _ (List.mem_of_getElem? (i := 96) rfl)) (fun u hu => notFace_of_selects (args := #[]) (mvT hu (hw _ (List.mem_of_getElem? (i := 98) rfl)))) (hw _ (List.mem_of_getElem? (i := 98) rfl)) (hw _ (List.mem_of_getElem? (i := 97) rfl)) (by decide) (kc := 0) (ks := 0) (a := r) (argsL := []) (rest := []) (own_payLen (W := 0) w69_ hEL (own_wLen hw) (hw _ (List.mem_of_getElem? (i := 5) rfl)) SC Sz (by decide) (by decide)) Sz.exa (g := (mkF m 221 #[.val (.int i0), .val (.int i1), .val (.int i2), .val (.int i3), .val (.int (2 : Int32)), .val (.int (0 : Int32)), .val (.int a), .val (.int b), .val (.int x), .val (.int y), .val (.ref sp), .val (.ref sl), .val (.ref sn), .val (.ref sv), .val (.ref at'), .val (.ref r), .val (.ref a64_), .val (.int (3 : Int32))] [(.ref r)])) rfl (by rw [hml]; rfl) (lenOf pd_691884 rfl) rfl (by show 2 * 0 + _ ≤ _; exact Nat.le_of_eq rfl) (Jvm.hb hby at_221) (by decide) (by decide) (fun v70_ T70_ vm70_ h70_ q70_ C70_ w70_ => ?_)
    obtain ⟨rfl, rfl⟩ := q70_
    have A70_ := own_at w70_
    show own_WP p e _ below s Z _ n0 _ T70_ (mkF m 224 #[.val (.int i0), .val (.int i1), .val (.int i2), .val (.int i3), .val (.int (2 : Int32)), .val (.int (0 : Int32)), .val (.int a), .val (.int b), .val (.int x), .val (.int y), .val (.ref sp), .val (.ref sl), .val (.ref sn), .val (.ref sv), .val (.ref at'), .val (.ref r), .val (.ref a64_), .val (.int (3 : Int32))] [(.int (Int32.ofNat ([a, b, 58] : List Int32).length))])
    refine own_by (T' := T70_) (g' := (mkF m 226 #[.val (.int i0), .val (.int i1), .val (.int i2), .val (.int i3), .val (.int (2 : Int32)), .val (.int (0 : Int32)), .val (.int a), .val (.int b), .val (.int x), .val (.int y), .val (.ref sp), .val (.ref sl), .val (.ref sn), .val (.ref sv), .val (.ref at'), .val (.ref r), .val (.ref a64_), .val (.int (3 : Int32))] [(.int (3 : Int32)), (.int (Int32.ofNat ([a, b, 58] : List Int32).length))])) (fun t_ hr_ => XS.iload A70_ hx rfl (Jvm.hb hby at_224) rfl hr_) ?_
    refine own_by (T' := T70_) (g' := (mkF m 231 #[.val (.int i0), .val (.int i1), .val (.int i2), .val (.int i3), .val (.int (2 : Int32)), .val (.int (0 : Int32)), .val (.int a), .val (.int b), .val (.int x), .val (.int y), .val (.ref sp), .val (.ref sl), .val (.ref sn), .val (.ref sv), .val (.ref at'), .val (.ref r), .val (.ref a64_), .val (.int (3 : Int32))] [])) (fun t_ hr_ => XS.icmpYes A70_ hx rfl (pc0 := 226) (pc' := 231) rfl (Jvm.hb hby at_226) rfl (teq (rfl)).1 (by decide) (by decide) hr_) ?_
    refine own_by (T' := T70_) (g' := (mkF m 233 #[.val (.int i0), .val (.int i1), .val (.int i2), .val (.int i3), .val (.int (2 : Int32)), .val (.int (0 : Int32)), .val (.int a), .val (.int b), .val (.int x), .val (.int y), .val (.ref sp), .val (.ref sl), .val (.ref sn), .val (.ref sv), .val (.ref at'), .val (.ref r), .val (.ref a64_), .val (.int (3 : Int32))] [(.ref r)])) (fun t_ hr_ => XS.aload A70_ hx rfl (Jvm.hb hby at_231) rfl rfl hr_) ?_
    refine own_by (T' := T70_) (g' := (mkF m 235 #[.val (.int i0), .val (.int i1), .val (.int i2), .val (.int i3), .val (.int (2 : Int32)), .val (.int (0 : Int32)), .val (.int a), .val (.int b), .val (.int x), .val (.int y), .val (.ref sp), .val (.ref sl), .val (.ref sn), .val (.ref sv), .val (.ref at'), .val (.ref r), .val (.ref a64_), .val (.int (3 : Int32))] [(.ref a64_), (.ref r)])) (fun t_ hr_ => XS.aload A70_ hx rfl (Jvm.hb hby at_233) rfl rfl hr_) ?_
    refine own_by (T' := T70_) (g' := (mkF m 237 #[.val (.int i0), .val (.int i1), .val (.int i2), .val (.int i3), .val (.int (2 : Int32)), .val (.int (0 : Int32)), .val (.int a), .val (.int b), .val (.int x), .val (.int y), .val (.ref sp), .val (.ref sl), .val (.ref sn), .val (.ref sv), .val (.ref at'), .val (.ref r), .val (.ref a64_), .val (.int (3 : Int32))] [(.int (3 : Int32)), (.ref a64_), (.ref r)])) (fun t_ hr_ => XS.iload A70_ hx rfl (Jvm.hb hby at_235) rfl hr_) ?_
    refine own_by (T' := T70_) (g' := (mkF m 238 #[.val (.int i0), .val (.int i1), .val (.int i2), .val (.int i3), .val (.int (2 : Int32)), .val (.int (0 : Int32)), .val (.int a), .val (.int b), .val (.int x), .val (.int y), .val (.ref sp), .val (.ref sl), .val (.ref sn), .val (.ref sv), .val (.ref at'), .val (.ref r), .val (.ref a64_), .val (.int (3 : Int32))] [(.int (0 : Int32)), (.int (3 : Int32)), (.ref a64_), (.ref r)])) (fun t_ hr_ => XS.iconst A70_ hx rfl (Jvm.hb hby at_237) hr_) ?_
    refine own_callS w70_ hx (y := (⟨"com/example/sigillo/sigillo/soap/AttributeNamePinLaw", "at", "(Ljava/lang/String;[CII)Z"⟩ : MethodName)) (hw _ (List.mem_of_getElem? (i := 179) rfl)) (hw _ (List.mem_of_getElem? (i := 180) rfl)) (hw _ (List.mem_of_getElem? (i := 2) rfl)) (hw _ (List.mem_of_getElem? (i := 181) rfl)) (by decide) (kc := 0) (ks := 0) (argsL := [(.ref r), (.ref a64_), (.int (3 : Int32)), (.int (0 : Int32))]) (rest := []) (own_payCt (W := 0) (ctAt l Z a0 hw SC SF n0 h69_ (own_old w70_) r a64_ k64_ ([a, b, 58] : List Int32) ([a, b, (58 : Int32), x, y] : List Int32) 3 0 Sz V69_ rfl rfl (by decide) (by decide) (fun q => rfl)) w70_ (hw _ (List.mem_of_getElem? (i := 181) rfl)) (hw _ (List.mem_of_getElem? (i := 2) rfl)) hEL (by decide) (by decide)) (g := (mkF m 238 #[.val (.int i0), .val (.int i1), .val (.int i2), .val (.int i3), .val (.int (2 : Int32)), .val (.int (0 : Int32)), .val (.int a), .val (.int b), .val (.int x), .val (.int y), .val (.ref sp), .val (.ref sl), .val (.ref sn), .val (.ref sv), .val (.ref at'), .val (.ref r), .val (.ref a64_), .val (.int (3 : Int32))] [(.int (0 : Int32)), (.int (3 : Int32)), (.ref a64_), (.ref r)])) rfl (by rw [hml]; rfl) (lenOf pd_805342835 rfl) rfl (by show 2 * 0 + _ ≤ _; exact Nat.le_of_eq rfl) (Jvm.hb hby at_238) (by decide) (by decide) (fun v71_ T71_ vm71_ h71_ q71_ C71_ w71_ => ?_)
    obtain ⟨rfl, rfl⟩ := q71_
    have A71_ := own_at w71_
    show own_WP p e _ below s Z _ n0 _ T71_ (mkF m 241 #[.val (.int i0), .val (.int i1), .val (.int i2), .val (.int i3), .val (.int (2 : Int32)), .val (.int (0 : Int32)), .val (.int a), .val (.int b), .val (.int x), .val (.int y), .val (.ref sp), .val (.ref sl), .val (.ref sn), .val (.ref sv), .val (.ref at'), .val (.ref r), .val (.ref a64_), .val (.int (3 : Int32))] [(.int (1 : Int32))])
    refine own_by (T' := T71_) (g' := (mkF m 244 #[.val (.int i0), .val (.int i1), .val (.int i2), .val (.int i3), .val (.int (2 : Int32)), .val (.int (0 : Int32)), .val (.int a), .val (.int b), .val (.int x), .val (.int y), .val (.ref sp), .val (.ref sl), .val (.ref sn), .val (.ref sv), .val (.ref at'), .val (.ref r), .val (.ref a64_), .val (.int (3 : Int32))] [])) (fun t_ hr_ => XS.ifNo A71_ hx rfl (Jvm.hb hby at_241) rfl ((if0 _ _).trans (feq (by decide : ¬ (1 : Int32) = 0)).1) hr_) ?_
    refine own_by (T' := T71_) (g' := (mkF m 246 #[.val (.int i0), .val (.int i1), .val (.int i2), .val (.int i3), .val (.int (2 : Int32)), .val (.int (0 : Int32)), .val (.int a), .val (.int b), .val (.int x), .val (.int y), .val (.ref sp), .val (.ref sl), .val (.ref sn), .val (.ref sv), .val (.ref at'), .val (.ref r), .val (.ref a64_), .val (.int (3 : Int32))] [(.ref r)])) (fun t_ hr_ => XS.aload A71_ hx rfl (Jvm.hb hby at_244) rfl rfl hr_) ?_
    refine own_by (T' := T71_) (g' := (mkF m 248 #[.val (.int i0), .val (.int i1), .val (.int i2), .val (.int i3), .val (.int (2 : Int32)), .val (.int (0 : Int32)), .val (.int a), .val (.int b), .val (.int x), .val (.int y), .val (.ref sp), .val (.ref sl), .val (.ref sn), .val (.ref sv), .val (.ref at'), .val (.ref r), .val (.ref a64_), .val (.int (3 : Int32))] [(.ref a64_), (.ref r)])) (fun t_ hr_ => XS.aload A71_ hx rfl (Jvm.hb hby at_246) rfl rfl hr_) ?_
    refine own_by (T' := T71_) (g' := (mkF m 250 #[.val (.int i0), .val (.int i1), .val (.int i2), .val (.int i3), .val (.int (2 : Int32)), .val (.int (0 : Int32)), .val (.int a), .val (.int b), .val (.int x), .val (.int y), .val (.ref sp), .val (.ref sl), .val (.ref sn), .val (.ref sv), .val (.ref at'), .val (.ref r), .val (.ref a64_), .val (.int (3 : Int32))] [(.int (3 : Int32)), (.ref a64_), (.ref r)])) (fun t_ hr_ => XS.iload A71_ hx rfl (Jvm.hb hby at_248) rfl hr_) ?_
    refine own_by (T' := T71_) (g' := (mkF m 251 #[.val (.int i0), .val (.int i1), .val (.int i2), .val (.int i3), .val (.int (2 : Int32)), .val (.int (0 : Int32)), .val (.int a), .val (.int b), .val (.int x), .val (.int y), .val (.ref sp), .val (.ref sl), .val (.ref sn), .val (.ref sv), .val (.ref at'), .val (.ref r), .val (.ref a64_), .val (.int (3 : Int32))] [(.int (1 : Int32)), (.int (3 : Int32)), (.ref a64_), (.ref r)])) (fun t_ hr_ => XS.iconst A71_ hx rfl (Jvm.hb hby at_250) hr_) ?_
    refine own_callS w71_ hx (y := (⟨"com/example/sigillo/sigillo/soap/AttributeNamePinLaw", "at", "(Ljava/lang/String;[CII)Z"⟩ : MethodName)) (hw _ (List.mem_of_getElem? (i := 179) rfl)) (hw _ (List.mem_of_getElem? (i := 180) rfl)) (hw _ (List.mem_of_getElem? (i := 2) rfl)) (hw _ (List.mem_of_getElem? (i := 181) rfl)) (by decide) (kc := 0) (ks := 0) (argsL := [(.ref r), (.ref a64_), (.int (3 : Int32)), (.int (1 : Int32))]) (rest := []) (own_payCt (W := 0) (ctAt l Z a0 hw SC SF n0 h69_ (own_old w71_) r a64_ k64_ ([a, b, 58] : List Int32) ([a, b, (58 : Int32), x, y] : List Int32) 3 1 Sz V69_ rfl rfl (by decide) (by decide) (fun q => rfl)) w71_ (hw _ (List.mem_of_getElem? (i := 181) rfl)) (hw _ (List.mem_of_getElem? (i := 2) rfl)) hEL (by decide) (by decide)) (g := (mkF m 251 #[.val (.int i0), .val (.int i1), .val (.int i2), .val (.int i3), .val (.int (2 : Int32)), .val (.int (0 : Int32)), .val (.int a), .val (.int b), .val (.int x), .val (.int y), .val (.ref sp), .val (.ref sl), .val (.ref sn), .val (.ref sv), .val (.ref at'), .val (.ref r), .val (.ref a64_), .val (.int (3 : Int32))] [(.int (1 : Int32)), (.int (3 : Int32)), (.ref a64_), (.ref r)])) rfl (by rw [hml]; rfl) (lenOf pd_805342835 rfl) rfl (by show 2 * 0 + _ ≤ _; exact Nat.le_of_eq rfl) (Jvm.hb hby at_251) (by decide) (by decide) (fun v72_ T72_ vm72_ h72_ q72_ C72_ w72_ => ?_)
    obtain ⟨rfl, rfl⟩ := q72_
    have A72_ := own_at w72_
    show own_WP p e _ below s Z _ n0 _ T72_ (mkF m 254 #[.val (.int i0), .val (.int i1), .val (.int i2), .val (.int i3), .val (.int (2 : Int32)), .val (.int (0 : Int32)), .val (.int a), .val (.int b), .val (.int x), .val (.int y), .val (.ref sp), .val (.ref sl), .val (.ref sn), .val (.ref sv), .val (.ref at'), .val (.ref r), .val (.ref a64_), .val (.int (3 : Int32))] [(.int (1 : Int32))])
    refine own_by (T' := T72_) (g' := (mkF m 257 #[.val (.int i0), .val (.int i1), .val (.int i2), .val (.int i3), .val (.int (2 : Int32)), .val (.int (0 : Int32)), .val (.int a), .val (.int b), .val (.int x), .val (.int y), .val (.ref sp), .val (.ref sl), .val (.ref sn), .val (.ref sv), .val (.ref at'), .val (.ref r), .val (.ref a64_), .val (.int (3 : Int32))] [])) (fun t_ hr_ => XS.ifNo A72_ hx rfl (Jvm.hb hby at_254) rfl ((if0 _ _).trans (feq (by decide : ¬ (1 : Int32) = 0)).1) hr_) ?_
    refine own_by (T' := T72_) (g' := (mkF m 259 #[.val (.int i0), .val (.int i1), .val (.int i2), .val (.int i3), .val (.int (2 : Int32)), .val (.int (0 : Int32)), .val (.int a), .val (.int b), .val (.int x), .val (.int y), .val (.ref sp), .val (.ref sl), .val (.ref sn), .val (.ref sv), .val (.ref at'), .val (.ref r), .val (.ref a64_), .val (.int (3 : Int32))] [(.ref r)])) (fun t_ hr_ => XS.aload A72_ hx rfl (Jvm.hb hby at_257) rfl rfl hr_) ?_
    refine own_by (T' := T72_) (g' := (mkF m 261 #[.val (.int i0), .val (.int i1), .val (.int i2), .val (.int i3), .val (.int (2 : Int32)), .val (.int (0 : Int32)), .val (.int a), .val (.int b), .val (.int x), .val (.int y), .val (.ref sp), .val (.ref sl), .val (.ref sn), .val (.ref sv), .val (.ref at'), .val (.ref r), .val (.ref a64_), .val (.int (3 : Int32))] [(.ref a64_), (.ref r)])) (fun t_ hr_ => XS.aload A72_ hx rfl (Jvm.hb hby at_259) rfl rfl hr_) ?_
    refine own_by (T' := T72_) (g' := (mkF m 263 #[.val (.int i0), .val (.int i1), .val (.int i2), .val (.int i3), .val (.int (2 : Int32)), .val (.int (0 : Int32)), .val (.int a), .val (.int b), .val (.int x), .val (.int y), .val (.ref sp), .val (.ref sl), .val (.ref sn), .val (.ref sv), .val (.ref at'), .val (.ref r), .val (.ref a64_), .val (.int (3 : Int32))] [(.int (3 : Int32)), (.ref a64_), (.ref r)])) (fun t_ hr_ => XS.iload A72_ hx rfl (Jvm.hb hby at_261) rfl hr_) ?_
    refine own_by (T' := T72_) (g' := (mkF m 264 #[.val (.int i0), .val (.int i1), .val (.int i2), .val (.int i3), .val (.int (2 : Int32)), .val (.int (0 : Int32)), .val (.int a), .val (.int b), .val (.int x), .val (.int y), .val (.ref sp), .val (.ref sl), .val (.ref sn), .val (.ref sv), .val (.ref at'), .val (.ref r), .val (.ref a64_), .val (.int (3 : Int32))] [(.int (2 : Int32)), (.int (3 : Int32)), (.ref a64_), (.ref r)])) (fun t_ hr_ => XS.iconst A72_ hx rfl (Jvm.hb hby at_263) hr_) ?_
    refine own_callS w72_ hx (y := (⟨"com/example/sigillo/sigillo/soap/AttributeNamePinLaw", "at", "(Ljava/lang/String;[CII)Z"⟩ : MethodName)) (hw _ (List.mem_of_getElem? (i := 179) rfl)) (hw _ (List.mem_of_getElem? (i := 180) rfl)) (hw _ (List.mem_of_getElem? (i := 2) rfl)) (hw _ (List.mem_of_getElem? (i := 181) rfl)) (by decide) (kc := 0) (ks := 0) (argsL := [(.ref r), (.ref a64_), (.int (3 : Int32)), (.int (2 : Int32))]) (rest := []) (own_payCt (W := 0) (ctAt l Z a0 hw SC SF n0 h69_ (own_old w72_) r a64_ k64_ ([a, b, 58] : List Int32) ([a, b, (58 : Int32), x, y] : List Int32) 3 2 Sz V69_ rfl rfl (by decide) (by decide) (fun q => rfl)) w72_ (hw _ (List.mem_of_getElem? (i := 181) rfl)) (hw _ (List.mem_of_getElem? (i := 2) rfl)) hEL (by decide) (by decide)) (g := (mkF m 264 #[.val (.int i0), .val (.int i1), .val (.int i2), .val (.int i3), .val (.int (2 : Int32)), .val (.int (0 : Int32)), .val (.int a), .val (.int b), .val (.int x), .val (.int y), .val (.ref sp), .val (.ref sl), .val (.ref sn), .val (.ref sv), .val (.ref at'), .val (.ref r), .val (.ref a64_), .val (.int (3 : Int32))] [(.int (2 : Int32)), (.int (3 : Int32)), (.ref a64_), (.ref r)])) rfl (by rw [hml]; rfl) (lenOf pd_805342835 rfl) rfl (by show 2 * 0 + _ ≤ _; exact Nat.le_of_eq rfl) (Jvm.hb hby at_264) (by decide) (by decide) (fun v73_ T73_ vm73_ h73_ q73_ C73_ w73_ => ?_)
    obtain ⟨rfl, rfl⟩ := q73_
    have A73_ := own_at w73_
    show own_WP p e _ below s Z _ n0 _ T73_ (mkF m 267 #[.val (.int i0), .val (.int i1), .val (.int i2), .val (.int i3), .val (.int (2 : Int32)), .val (.int (0 : Int32)), .val (.int a), .val (.int b), .val (.int x), .val (.int y), .val (.ref sp), .val (.ref sl), .val (.ref sn), .val (.ref sv), .val (.ref at'), .val (.ref r), .val (.ref a64_), .val (.int (3 : Int32))] [(.int (1 : Int32))])
    refine own_by (T' := T73_) (g' := (mkF m 270 #[.val (.int i0), .val (.int i1), .val (.int i2), .val (.int i3), .val (.int (2 : Int32)), .val (.int (0 : Int32)), .val (.int a), .val (.int b), .val (.int x), .val (.int y), .val (.ref sp), .val (.ref sl), .val (.ref sn), .val (.ref sv), .val (.ref at'), .val (.ref r), .val (.ref a64_), .val (.int (3 : Int32))] [])) (fun t_ hr_ => XS.ifNo A73_ hx rfl (Jvm.hb hby at_267) rfl ((if0 _ _).trans (feq (by decide : ¬ (1 : Int32) = 0)).1) hr_) ?_
    refine own_by (T' := T73_) (g' := (mkF m 272 #[.val (.int i0), .val (.int i1), .val (.int i2), .val (.int i3), .val (.int (2 : Int32)), .val (.int (0 : Int32)), .val (.int a), .val (.int b), .val (.int x), .val (.int y), .val (.ref sp), .val (.ref sl), .val (.ref sn), .val (.ref sv), .val (.ref at'), .val (.ref r), .val (.ref a64_), .val (.int (3 : Int32))] [(.ref r)])) (fun t_ hr_ => XS.aload A73_ hx rfl (Jvm.hb hby at_270) rfl rfl hr_) ?_
    refine own_by (T' := T73_) (g' := (mkF m 274 #[.val (.int i0), .val (.int i1), .val (.int i2), .val (.int i3), .val (.int (2 : Int32)), .val (.int (0 : Int32)), .val (.int a), .val (.int b), .val (.int x), .val (.int y), .val (.ref sp), .val (.ref sl), .val (.ref sn), .val (.ref sv), .val (.ref at'), .val (.ref r), .val (.ref a64_), .val (.int (3 : Int32))] [(.ref a64_), (.ref r)])) (fun t_ hr_ => XS.aload A73_ hx rfl (Jvm.hb hby at_272) rfl rfl hr_) ?_
    refine own_by (T' := T73_) (g' := (mkF m 276 #[.val (.int i0), .val (.int i1), .val (.int i2), .val (.int i3), .val (.int (2 : Int32)), .val (.int (0 : Int32)), .val (.int a), .val (.int b), .val (.int x), .val (.int y), .val (.ref sp), .val (.ref sl), .val (.ref sn), .val (.ref sv), .val (.ref at'), .val (.ref r), .val (.ref a64_), .val (.int (3 : Int32))] [(.int (3 : Int32)), (.ref a64_), (.ref r)])) (fun t_ hr_ => XS.iload A73_ hx rfl (Jvm.hb hby at_274) rfl hr_) ?_
    refine own_by (T' := T73_) (g' := (mkF m 277 #[.val (.int i0), .val (.int i1), .val (.int i2), .val (.int i3), .val (.int (2 : Int32)), .val (.int (0 : Int32)), .val (.int a), .val (.int b), .val (.int x), .val (.int y), .val (.ref sp), .val (.ref sl), .val (.ref sn), .val (.ref sv), .val (.ref at'), .val (.ref r), .val (.ref a64_), .val (.int (3 : Int32))] [(.int (3 : Int32)), (.int (3 : Int32)), (.ref a64_), (.ref r)])) (fun t_ hr_ => XS.iconst A73_ hx rfl (Jvm.hb hby at_276) hr_) ?_
    refine own_callS w73_ hx (y := (⟨"com/example/sigillo/sigillo/soap/AttributeNamePinLaw", "at", "(Ljava/lang/String;[CII)Z"⟩ : MethodName)) (hw _ (List.mem_of_getElem? (i := 179) rfl)) (hw _ (List.mem_of_getElem? (i := 180) rfl)) (hw _ (List.mem_of_getElem? (i := 2) rfl)) (hw _ (List.mem_of_getElem? (i := 181) rfl)) (by decide) (kc := 0) (ks := 0) (argsL := [(.ref r), (.ref a64_), (.int (3 : Int32)), (.int (3 : Int32))]) (rest := []) (own_payCt (W := 0) (ctAt l Z a0 hw SC SF n0 h69_ (own_old w73_) r a64_ k64_ ([a, b, 58] : List Int32) ([a, b, (58 : Int32), x, y] : List Int32) 3 3 Sz V69_ rfl rfl (by decide) (by decide) (fun q => absurd q (by decide))) w73_ (hw _ (List.mem_of_getElem? (i := 181) rfl)) (hw _ (List.mem_of_getElem? (i := 2) rfl)) hEL (by decide) (by decide)) (g := (mkF m 277 #[.val (.int i0), .val (.int i1), .val (.int i2), .val (.int i3), .val (.int (2 : Int32)), .val (.int (0 : Int32)), .val (.int a), .val (.int b), .val (.int x), .val (.int y), .val (.ref sp), .val (.ref sl), .val (.ref sn), .val (.ref sv), .val (.ref at'), .val (.ref r), .val (.ref a64_), .val (.int (3 : Int32))] [(.int (3 : Int32)), (.int (3 : Int32)), (.ref a64_), (.ref r)])) rfl (by rw [hml]; rfl) (lenOf pd_805342835 rfl) rfl (by show 2 * 0 + _ ≤ _; exact Nat.le_of_eq rfl) (Jvm.hb hby at_277) (by decide) (by decide) (fun v74_ T74_ vm74_ h74_ q74_ C74_ w74_ => ?_)
    obtain ⟨rfl, rfl⟩ := q74_
    have A74_ := own_at w74_
    show own_WP p e _ below s Z _ n0 _ T74_ (mkF m 280 #[.val (.int i0), .val (.int i1), .val (.int i2), .val (.int i3), .val (.int (2 : Int32)), .val (.int (0 : Int32)), .val (.int a), .val (.int b), .val (.int x), .val (.int y), .val (.ref sp), .val (.ref sl), .val (.ref sn), .val (.ref sv), .val (.ref at'), .val (.ref r), .val (.ref a64_), .val (.int (3 : Int32))] [(.int (1 : Int32))])
    refine own_by (T' := T74_) (g' := (mkF m 283 #[.val (.int i0), .val (.int i1), .val (.int i2), .val (.int i3), .val (.int (2 : Int32)), .val (.int (0 : Int32)), .val (.int a), .val (.int b), .val (.int x), .val (.int y), .val (.ref sp), .val (.ref sl), .val (.ref sn), .val (.ref sv), .val (.ref at'), .val (.ref r), .val (.ref a64_), .val (.int (3 : Int32))] [])) (fun t_ hr_ => XS.ifNo A74_ hx rfl (Jvm.hb hby at_280) rfl ((if0 _ _).trans (feq (by decide : ¬ (1 : Int32) = 0)).1) hr_) ?_
    refine own_by (T' := T74_) (g' := (mkF m 285 #[.val (.int i0), .val (.int i1), .val (.int i2), .val (.int i3), .val (.int (2 : Int32)), .val (.int (0 : Int32)), .val (.int a), .val (.int b), .val (.int x), .val (.int y), .val (.ref sp), .val (.ref sl), .val (.ref sn), .val (.ref sv), .val (.ref at'), .val (.ref r), .val (.ref a64_), .val (.int (3 : Int32))] [(.ref r)])) (fun t_ hr_ => XS.aload A74_ hx rfl (Jvm.hb hby at_283) rfl rfl hr_) ?_
    refine own_by (T' := T74_) (g' := (mkF m 287 #[.val (.int i0), .val (.int i1), .val (.int i2), .val (.int i3), .val (.int (2 : Int32)), .val (.int (0 : Int32)), .val (.int a), .val (.int b), .val (.int x), .val (.int y), .val (.ref sp), .val (.ref sl), .val (.ref sn), .val (.ref sv), .val (.ref at'), .val (.ref r), .val (.ref a64_), .val (.int (3 : Int32))] [(.ref a64_), (.ref r)])) (fun t_ hr_ => XS.aload A74_ hx rfl (Jvm.hb hby at_285) rfl rfl hr_) ?_
    refine own_by (T' := T74_) (g' := (mkF m 289 #[.val (.int i0), .val (.int i1), .val (.int i2), .val (.int i3), .val (.int (2 : Int32)), .val (.int (0 : Int32)), .val (.int a), .val (.int b), .val (.int x), .val (.int y), .val (.ref sp), .val (.ref sl), .val (.ref sn), .val (.ref sv), .val (.ref at'), .val (.ref r), .val (.ref a64_), .val (.int (3 : Int32))] [(.int (3 : Int32)), (.ref a64_), (.ref r)])) (fun t_ hr_ => XS.iload A74_ hx rfl (Jvm.hb hby at_287) rfl hr_) ?_
    refine own_by (T' := T74_) (g' := (mkF m 290 #[.val (.int i0), .val (.int i1), .val (.int i2), .val (.int i3), .val (.int (2 : Int32)), .val (.int (0 : Int32)), .val (.int a), .val (.int b), .val (.int x), .val (.int y), .val (.ref sp), .val (.ref sl), .val (.ref sn), .val (.ref sv), .val (.ref at'), .val (.ref r), .val (.ref a64_), .val (.int (3 : Int32))] [(.int (4 : Int32)), (.int (3 : Int32)), (.ref a64_), (.ref r)])) (fun t_ hr_ => XS.iconst A74_ hx rfl (Jvm.hb hby at_289) hr_) ?_
    refine own_callS w74_ hx (y := (⟨"com/example/sigillo/sigillo/soap/AttributeNamePinLaw", "at", "(Ljava/lang/String;[CII)Z"⟩ : MethodName)) (hw _ (List.mem_of_getElem? (i := 179) rfl)) (hw _ (List.mem_of_getElem? (i := 180) rfl)) (hw _ (List.mem_of_getElem? (i := 2) rfl)) (hw _ (List.mem_of_getElem? (i := 181) rfl)) (by decide) (kc := 0) (ks := 0) (argsL := [(.ref r), (.ref a64_), (.int (3 : Int32)), (.int (4 : Int32))]) (rest := []) (own_payCt (W := 0) (ctAt l Z a0 hw SC SF n0 h69_ (own_old w74_) r a64_ k64_ ([a, b, 58] : List Int32) ([a, b, (58 : Int32), x, y] : List Int32) 3 4 Sz V69_ rfl rfl (by decide) (by decide) (fun q => absurd q (by decide))) w74_ (hw _ (List.mem_of_getElem? (i := 181) rfl)) (hw _ (List.mem_of_getElem? (i := 2) rfl)) hEL (by decide) (by decide)) (g := (mkF m 290 #[.val (.int i0), .val (.int i1), .val (.int i2), .val (.int i3), .val (.int (2 : Int32)), .val (.int (0 : Int32)), .val (.int a), .val (.int b), .val (.int x), .val (.int y), .val (.ref sp), .val (.ref sl), .val (.ref sn), .val (.ref sv), .val (.ref at'), .val (.ref r), .val (.ref a64_), .val (.int (3 : Int32))] [(.int (4 : Int32)), (.int (3 : Int32)), (.ref a64_), (.ref r)])) rfl (by rw [hml]; rfl) (lenOf pd_805342835 rfl) rfl (by show 2 * 0 + _ ≤ _; exact Nat.le_of_eq rfl) (Jvm.hb hby at_290) (by decide) (by decide) (fun v75_ T75_ vm75_ h75_ q75_ C75_ w75_ => ?_)
    obtain ⟨rfl, rfl⟩ := q75_
    have A75_ := own_at w75_
    show own_WP p e _ below s Z _ n0 _ T75_ (mkF m 293 #[.val (.int i0), .val (.int i1), .val (.int i2), .val (.int i3), .val (.int (2 : Int32)), .val (.int (0 : Int32)), .val (.int a), .val (.int b), .val (.int x), .val (.int y), .val (.ref sp), .val (.ref sl), .val (.ref sn), .val (.ref sv), .val (.ref at'), .val (.ref r), .val (.ref a64_), .val (.int (3 : Int32))] [(.int (1 : Int32))])
    refine own_by (T' := T75_) (g' := (mkF m 296 #[.val (.int i0), .val (.int i1), .val (.int i2), .val (.int i3), .val (.int (2 : Int32)), .val (.int (0 : Int32)), .val (.int a), .val (.int b), .val (.int x), .val (.int y), .val (.ref sp), .val (.ref sl), .val (.ref sn), .val (.ref sv), .val (.ref at'), .val (.ref r), .val (.ref a64_), .val (.int (3 : Int32))] [])) (fun t_ hr_ => XS.ifNo A75_ hx rfl (Jvm.hb hby at_293) rfl ((if0 _ _).trans (feq (by decide : ¬ (1 : Int32) = 0)).1) hr_) ?_
    refine own_by (T' := T75_) (g' := (mkF m 297 #[.val (.int i0), .val (.int i1), .val (.int i2), .val (.int i3), .val (.int (2 : Int32)), .val (.int (0 : Int32)), .val (.int a), .val (.int b), .val (.int x), .val (.int y), .val (.ref sp), .val (.ref sl), .val (.ref sn), .val (.ref sv), .val (.ref at'), .val (.ref r), .val (.ref a64_), .val (.int (3 : Int32))] [(.int (1 : Int32))])) (fun t_ hr_ => XS.iconst A75_ hx rfl (Jvm.hb hby at_296) hr_) ?_
    refine own_by (T' := T75_) (g' := (mkF m 301 #[.val (.int i0), .val (.int i1), .val (.int i2), .val (.int i3), .val (.int (2 : Int32)), .val (.int (0 : Int32)), .val (.int a), .val (.int b), .val (.int x), .val (.int y), .val (.ref sp), .val (.ref sl), .val (.ref sn), .val (.ref sv), .val (.ref at'), .val (.ref r), .val (.ref a64_), .val (.int (3 : Int32))] [(.int (1 : Int32))])) (fun t_ hr_ => XS.goto A75_ hx rfl (pc0 := 297) (pc' := 301) rfl (Jvm.hb hby at_297) (by decide) (by decide) hr_) ?_
    exact own_retZ w75_ hx hEL hlk hret (Or.inr rfl) (Jvm.hb hby at_301) (by decide) (by decide) rfl
  · show own_WP p e _ below s Z _ n0 _ T0 (mkF m 139 #[.val (.int i0), .val (.int i1), .val (.int i2), .val (.int i3), .val (.int (2 : Int32)), .val (.int (1 : Int32)), .val (.int a), .val (.int b), .val (.int x), .val (.int y), .val (.ref sp), .val (.ref sl), .val (.ref sn), .val (.ref sv), .val (.ref at'), .val (.ref r), .unset, .unset] [])
    refine own_by (T' := T0) (g' := (mkF m 140 #[.val (.int i0), .val (.int i1), .val (.int i2), .val (.int i3), .val (.int (2 : Int32)), .val (.int (1 : Int32)), .val (.int a), .val (.int b), .val (.int x), .val (.int y), .val (.ref sp), .val (.ref sl), .val (.ref sn), .val (.ref sv), .val (.ref at'), .val (.ref r), .unset, .unset] [(.int (5 : Int32))])) (fun t_ hr_ => XS.iconst A_0 hx rfl (Jvm.hb hby at_139) hr_) ?_
    refine own_newP w0 hx (hw _ (List.mem_of_getElem? (i := 7) rfl)) (g := (mkF m 140 #[.val (.int i0), .val (.int i1), .val (.int i2), .val (.int i3), .val (.int (2 : Int32)), .val (.int (1 : Int32)), .val (.int a), .val (.int b), .val (.int x), .val (.int y), .val (.ref sp), .val (.ref sl), .val (.ref sn), .val (.ref sv), .val (.ref at'), .val (.ref r), .unset, .unset] [(.int (5 : Int32))])) rfl (Jvm.hb hby at_140) rfl (by decide) (cap := 5) (by decide) (by decide) (by decide) (by decide) (fun T76_ h76_ a76_ k76_ g76_ E76_ V76_ w76_ => ?_)
    have A76_ := own_at w76_
    show own_WP p e _ below s Z _ n0 _ T76_ (mkF m 142 #[.val (.int i0), .val (.int i1), .val (.int i2), .val (.int i3), .val (.int (2 : Int32)), .val (.int (1 : Int32)), .val (.int a), .val (.int b), .val (.int x), .val (.int y), .val (.ref sp), .val (.ref sl), .val (.ref sn), .val (.ref sv), .val (.ref at'), .val (.ref r), .unset, .unset] [(.ref a76_)])
    have ge : n0 ≤ a76_ := by rw [g76_]; exact own_n0 w0
    have U0 : Arv Z h76_ a76_ k76_ .char (5 : Int32) [(.int (0 : Int32)), (.int (0 : Int32)), (.int (0 : Int32)), (.int (0 : Int32)), (.int (0 : Int32))] (.int 0) := V76_.pad (vs' := [(.int (0 : Int32)), (.int (0 : Int32)), (.int (0 : Int32)), (.int (0 : Int32)), (.int (0 : Int32))]) (fun i => pad_rep [] (.int (0 : Int32)) 5 i)
    have gez : h0.size ≤ a76_ := by rw [g76_]; exact Nat.le_refl _
    refine own_by (T' := T76_) (g' := (mkF m 144 #[.val (.int i0), .val (.int i1), .val (.int i2), .val (.int i3), .val (.int (2 : Int32)), .val (.int (1 : Int32)), .val (.int a), .val (.int b), .val (.int x), .val (.int y), .val (.ref sp), .val (.ref sl), .val (.ref sn), .val (.ref sv), .val (.ref at'), .val (.ref r), .val (.ref a76_), .unset] [])) (fun t_ hr_ => XS.astore A76_ hx rfl (Jvm.hb hby at_142) rfl rfl (l' := #[.val (.int i0), .val (.int i1), .val (.int i2), .val (.int i3), .val (.int (2 : Int32)), .val (.int (1 : Int32)), .val (.int a), .val (.int b), .val (.int x), .val (.int y), .val (.ref sp), .val (.ref sl), .val (.ref sn), .val (.ref sv), .val (.ref at'), .val (.ref r), .val (.ref a76_), .unset]) rfl hr_) ?_
    refine own_by (T' := T76_) (g' := (mkF m 146 #[.val (.int i0), .val (.int i1), .val (.int i2), .val (.int i3), .val (.int (2 : Int32)), .val (.int (1 : Int32)), .val (.int a), .val (.int b), .val (.int x), .val (.int y), .val (.ref sp), .val (.ref sl), .val (.ref sn), .val (.ref sv), .val (.ref at'), .val (.ref r), .val (.ref a76_), .unset] [(.int (2 : Int32))])) (fun t_ hr_ => XS.iload A76_ hx rfl (Jvm.hb hby at_144) rfl hr_) ?_
    refine own_by (T' := T76_) (g' := (mkF m 168 #[.val (.int i0), .val (.int i1), .val (.int i2), .val (.int i3), .val (.int (2 : Int32)), .val (.int (1 : Int32)), .val (.int a), .val (.int b), .val (.int x), .val (.int y), .val (.ref sp), .val (.ref sl), .val (.ref sn), .val (.ref sv), .val (.ref at'), .val (.ref r), .val (.ref a76_), .unset] [])) (fun t_ hr_ => XS.ifYes A76_ hx rfl (pc0 := 146) (pc' := 168) rfl (Jvm.hb hby at_146) rfl ((if0 _ _).trans (feq (by decide)).2) (by decide) (by decide) hr_) ?_
    refine own_by (T' := T76_) (g' := (mkF m 170 #[.val (.int i0), .val (.int i1), .val (.int i2), .val (.int i3), .val (.int (2 : Int32)), .val (.int (1 : Int32)), .val (.int a), .val (.int b), .val (.int x), .val (.int y), .val (.ref sp), .val (.ref sl), .val (.ref sn), .val (.ref sv), .val (.ref at'), .val (.ref r), .val (.ref a76_), .unset] [(.ref a76_)])) (fun t_ hr_ => XS.aload A76_ hx rfl (Jvm.hb hby at_168) rfl rfl hr_) ?_
    refine own_by (T' := T76_) (g' := (mkF m 171 #[.val (.int i0), .val (.int i1), .val (.int i2), .val (.int i3), .val (.int (2 : Int32)), .val (.int (1 : Int32)), .val (.int a), .val (.int b), .val (.int x), .val (.int y), .val (.ref sp), .val (.ref sl), .val (.ref sn), .val (.ref sv), .val (.ref at'), .val (.ref r), .val (.ref a76_), .unset] [(.int (0 : Int32)), (.ref a76_)])) (fun t_ hr_ => XS.iconst A76_ hx rfl (Jvm.hb hby at_170) hr_) ?_
    refine own_by (T' := T76_) (g' := (mkF m 173 #[.val (.int i0), .val (.int i1), .val (.int i2), .val (.int i3), .val (.int (2 : Int32)), .val (.int (1 : Int32)), .val (.int a), .val (.int b), .val (.int x), .val (.int y), .val (.ref sp), .val (.ref sl), .val (.ref sn), .val (.ref sv), .val (.ref at'), .val (.ref r), .val (.ref a76_), .unset] [(.int a), (.int (0 : Int32)), (.ref a76_)])) (fun t_ hr_ => XS.iload A76_ hx rfl (Jvm.hb hby at_171) rfl hr_) ?_
    refine own_castore w76_ hx U0 (by decide) (own_rng255 ra) (i := 0) rfl (by simp) ge (g := (mkF m 173 #[.val (.int i0), .val (.int i1), .val (.int i2), .val (.int i3), .val (.int (2 : Int32)), .val (.int (1 : Int32)), .val (.int a), .val (.int b), .val (.int x), .val (.int y), .val (.ref sp), .val (.ref sl), .val (.ref sn), .val (.ref sv), .val (.ref at'), .val (.ref r), .val (.ref a76_), .unset] [(.int a), (.int (0 : Int32)), (.ref a76_)])) rfl rfl (Jvm.hb hby at_173) (fun T77_ h77_ W77_ V77_ w77_ => ?_)
    have A77_ := own_at w77_
    show own_WP p e _ below s Z _ n0 _ T77_ (mkF m 174 #[.val (.int i0), .val (.int i1), .val (.int i2), .val (.int i3), .val (.int (2 : Int32)), .val (.int (1 : Int32)), .val (.int a), .val (.int b), .val (.int x), .val (.int y), .val (.ref sp), .val (.ref sl), .val (.ref sn), .val (.ref sv), .val (.ref at'), .val (.ref r), .val (.ref a76_), .unset] [])
    have EeW77_ := own_extWr E76_ W77_ gez
    refine own_by (T' := T77_) (g' := (mkF m 176 #[.val (.int i0), .val (.int i1), .val (.int i2), .val (.int i3), .val (.int (2 : Int32)), .val (.int (1 : Int32)), .val (.int a), .val (.int b), .val (.int x), .val (.int y), .val (.ref sp), .val (.ref sl), .val (.ref sn), .val (.ref sv), .val (.ref at'), .val (.ref r), .val (.ref a76_), .unset] [(.ref a76_)])) (fun t_ hr_ => XS.aload A77_ hx rfl (Jvm.hb hby at_174) rfl rfl hr_) ?_
    refine own_by (T' := T77_) (g' := (mkF m 177 #[.val (.int i0), .val (.int i1), .val (.int i2), .val (.int i3), .val (.int (2 : Int32)), .val (.int (1 : Int32)), .val (.int a), .val (.int b), .val (.int x), .val (.int y), .val (.ref sp), .val (.ref sl), .val (.ref sn), .val (.ref sv), .val (.ref at'), .val (.ref r), .val (.ref a76_), .unset] [(.int (1 : Int32)), (.ref a76_)])) (fun t_ hr_ => XS.iconst A77_ hx rfl (Jvm.hb hby at_176) hr_) ?_
    refine own_by (T' := T77_) (g' := (mkF m 179 #[.val (.int i0), .val (.int i1), .val (.int i2), .val (.int i3), .val (.int (2 : Int32)), .val (.int (1 : Int32)), .val (.int a), .val (.int b), .val (.int x), .val (.int y), .val (.ref sp), .val (.ref sl), .val (.ref sn), .val (.ref sv), .val (.ref at'), .val (.ref r), .val (.ref a76_), .unset] [(.int b), (.int (1 : Int32)), (.ref a76_)])) (fun t_ hr_ => XS.iload A77_ hx rfl (Jvm.hb hby at_177) rfl hr_) ?_
    refine own_castore w77_ hx V77_ (by decide) (own_rng255 rb) (i := 1) rfl (by simp) ge (g := (mkF m 179 #[.val (.int i0), .val (.int i1), .val (.int i2), .val (.int i3), .val (.int (2 : Int32)), .val (.int (1 : Int32)), .val (.int a), .val (.int b), .val (.int x), .val (.int y), .val (.ref sp), .val (.ref sl), .val (.ref sn), .val (.ref sv), .val (.ref at'), .val (.ref r), .val (.ref a76_), .unset] [(.int b), (.int (1 : Int32)), (.ref a76_)])) rfl rfl (Jvm.hb hby at_179) (fun T78_ h78_ W78_ V78_ w78_ => ?_)
    have A78_ := own_at w78_
    show own_WP p e _ below s Z _ n0 _ T78_ (mkF m 180 #[.val (.int i0), .val (.int i1), .val (.int i2), .val (.int i3), .val (.int (2 : Int32)), .val (.int (1 : Int32)), .val (.int a), .val (.int b), .val (.int x), .val (.int y), .val (.ref sp), .val (.ref sl), .val (.ref sn), .val (.ref sv), .val (.ref at'), .val (.ref r), .val (.ref a76_), .unset] [])
    have EeW78_ := own_extWr EeW77_ W78_ gez
    refine own_by (T' := T78_) (g' := (mkF m 182 #[.val (.int i0), .val (.int i1), .val (.int i2), .val (.int i3), .val (.int (2 : Int32)), .val (.int (1 : Int32)), .val (.int a), .val (.int b), .val (.int x), .val (.int y), .val (.ref sp), .val (.ref sl), .val (.ref sn), .val (.ref sv), .val (.ref at'), .val (.ref r), .val (.ref a76_), .unset] [(.ref a76_)])) (fun t_ hr_ => XS.aload A78_ hx rfl (Jvm.hb hby at_180) rfl rfl hr_) ?_
    refine own_by (T' := T78_) (g' := (mkF m 184 #[.val (.int i0), .val (.int i1), .val (.int i2), .val (.int i3), .val (.int (2 : Int32)), .val (.int (1 : Int32)), .val (.int a), .val (.int b), .val (.int x), .val (.int y), .val (.ref sp), .val (.ref sl), .val (.ref sn), .val (.ref sv), .val (.ref at'), .val (.ref r), .val (.ref a76_), .unset] [(.int (2 : Int32)), (.ref a76_)])) (fun t_ hr_ => XS.iload A78_ hx rfl (Jvm.hb hby at_182) rfl hr_) ?_
    refine own_by (T' := T78_) (g' := (mkF m 186 #[.val (.int i0), .val (.int i1), .val (.int i2), .val (.int i3), .val (.int (2 : Int32)), .val (.int (1 : Int32)), .val (.int a), .val (.int b), .val (.int x), .val (.int y), .val (.ref sp), .val (.ref sl), .val (.ref sn), .val (.ref sv), .val (.ref at'), .val (.ref r), .val (.ref a76_), .unset] [(.int (58 : Int32)), (.int (2 : Int32)), (.ref a76_)])) (fun t_ hr_ => XS.bipush A78_ hx rfl (Jvm.hb hby at_184) hr_) ?_
    refine own_castore w78_ hx V78_ (by decide) (own_rng255 (by decide)) (i := 2) rfl (by simp) ge (g := (mkF m 186 #[.val (.int i0), .val (.int i1), .val (.int i2), .val (.int i3), .val (.int (2 : Int32)), .val (.int (1 : Int32)), .val (.int a), .val (.int b), .val (.int x), .val (.int y), .val (.ref sp), .val (.ref sl), .val (.ref sn), .val (.ref sv), .val (.ref at'), .val (.ref r), .val (.ref a76_), .unset] [(.int (58 : Int32)), (.int (2 : Int32)), (.ref a76_)])) rfl rfl (Jvm.hb hby at_186) (fun T79_ h79_ W79_ V79_ w79_ => ?_)
    have A79_ := own_at w79_
    show own_WP p e _ below s Z _ n0 _ T79_ (mkF m 187 #[.val (.int i0), .val (.int i1), .val (.int i2), .val (.int i3), .val (.int (2 : Int32)), .val (.int (1 : Int32)), .val (.int a), .val (.int b), .val (.int x), .val (.int y), .val (.ref sp), .val (.ref sl), .val (.ref sn), .val (.ref sv), .val (.ref at'), .val (.ref r), .val (.ref a76_), .unset] [])
    have EeW79_ := own_extWr EeW78_ W79_ gez
    refine own_by (T' := T79_) (g' := (mkF m 189 #[.val (.int i0), .val (.int i1), .val (.int i2), .val (.int i3), .val (.int (2 : Int32)), .val (.int (1 : Int32)), .val (.int a), .val (.int b), .val (.int x), .val (.int y), .val (.ref sp), .val (.ref sl), .val (.ref sn), .val (.ref sv), .val (.ref at'), .val (.ref r), .val (.ref a76_), .unset] [(.ref a76_)])) (fun t_ hr_ => XS.aload A79_ hx rfl (Jvm.hb hby at_187) rfl rfl hr_) ?_
    refine own_by (T' := T79_) (g' := (mkF m 191 #[.val (.int i0), .val (.int i1), .val (.int i2), .val (.int i3), .val (.int (2 : Int32)), .val (.int (1 : Int32)), .val (.int a), .val (.int b), .val (.int x), .val (.int y), .val (.ref sp), .val (.ref sl), .val (.ref sn), .val (.ref sv), .val (.ref at'), .val (.ref r), .val (.ref a76_), .unset] [(.int (2 : Int32)), (.ref a76_)])) (fun t_ hr_ => XS.iload A79_ hx rfl (Jvm.hb hby at_189) rfl hr_) ?_
    refine own_by (T' := T79_) (g' := (mkF m 192 #[.val (.int i0), .val (.int i1), .val (.int i2), .val (.int i3), .val (.int (2 : Int32)), .val (.int (1 : Int32)), .val (.int a), .val (.int b), .val (.int x), .val (.int y), .val (.ref sp), .val (.ref sl), .val (.ref sn), .val (.ref sv), .val (.ref at'), .val (.ref r), .val (.ref a76_), .unset] [(.int (1 : Int32)), (.int (2 : Int32)), (.ref a76_)])) (fun t_ hr_ => XS.iconst A79_ hx rfl (Jvm.hb hby at_191) hr_) ?_
    refine own_by (T' := T79_) (g' := (mkF m 193 #[.val (.int i0), .val (.int i1), .val (.int i2), .val (.int i3), .val (.int (2 : Int32)), .val (.int (1 : Int32)), .val (.int a), .val (.int b), .val (.int x), .val (.int y), .val (.ref sp), .val (.ref sl), .val (.ref sn), .val (.ref sv), .val (.ref at'), .val (.ref r), .val (.ref a76_), .unset] [(.int ((2 : Int32) + (1 : Int32))), (.ref a76_)])) (fun t_ hr_ => XS.iadd A79_ hx rfl (Jvm.hb hby at_192) rfl hr_) ?_
    refine own_by (T' := T79_) (g' := (mkF m 195 #[.val (.int i0), .val (.int i1), .val (.int i2), .val (.int i3), .val (.int (2 : Int32)), .val (.int (1 : Int32)), .val (.int a), .val (.int b), .val (.int x), .val (.int y), .val (.ref sp), .val (.ref sl), .val (.ref sn), .val (.ref sv), .val (.ref at'), .val (.ref r), .val (.ref a76_), .unset] [(.int x), (.int ((2 : Int32) + (1 : Int32))), (.ref a76_)])) (fun t_ hr_ => XS.iload A79_ hx rfl (Jvm.hb hby at_193) rfl hr_) ?_
    rw [show ((2 : Int32) + (1 : Int32)) = (3 : Int32) from (by decide)]
    show own_WP p e _ below s Z _ n0 _ T79_ (mkF m 195 #[.val (.int i0), .val (.int i1), .val (.int i2), .val (.int i3), .val (.int (2 : Int32)), .val (.int (1 : Int32)), .val (.int a), .val (.int b), .val (.int x), .val (.int y), .val (.ref sp), .val (.ref sl), .val (.ref sn), .val (.ref sv), .val (.ref at'), .val (.ref r), .val (.ref a76_), .unset] [(.int x), (.int (3 : Int32)), (.ref a76_)])
    refine own_castore w79_ hx V79_ (by decide) (own_rng255 rx) (i := 3) rfl (by simp) ge (g := (mkF m 195 #[.val (.int i0), .val (.int i1), .val (.int i2), .val (.int i3), .val (.int (2 : Int32)), .val (.int (1 : Int32)), .val (.int a), .val (.int b), .val (.int x), .val (.int y), .val (.ref sp), .val (.ref sl), .val (.ref sn), .val (.ref sv), .val (.ref at'), .val (.ref r), .val (.ref a76_), .unset] [(.int x), (.int (3 : Int32)), (.ref a76_)])) rfl rfl (Jvm.hb hby at_195) (fun T80_ h80_ W80_ V80_ w80_ => ?_)
    have A80_ := own_at w80_
    show own_WP p e _ below s Z _ n0 _ T80_ (mkF m 196 #[.val (.int i0), .val (.int i1), .val (.int i2), .val (.int i3), .val (.int (2 : Int32)), .val (.int (1 : Int32)), .val (.int a), .val (.int b), .val (.int x), .val (.int y), .val (.ref sp), .val (.ref sl), .val (.ref sn), .val (.ref sv), .val (.ref at'), .val (.ref r), .val (.ref a76_), .unset] [])
    have EeW80_ := own_extWr EeW79_ W80_ gez
    refine own_by (T' := T80_) (g' := (mkF m 198 #[.val (.int i0), .val (.int i1), .val (.int i2), .val (.int i3), .val (.int (2 : Int32)), .val (.int (1 : Int32)), .val (.int a), .val (.int b), .val (.int x), .val (.int y), .val (.ref sp), .val (.ref sl), .val (.ref sn), .val (.ref sv), .val (.ref at'), .val (.ref r), .val (.ref a76_), .unset] [(.ref a76_)])) (fun t_ hr_ => XS.aload A80_ hx rfl (Jvm.hb hby at_196) rfl rfl hr_) ?_
    refine own_by (T' := T80_) (g' := (mkF m 200 #[.val (.int i0), .val (.int i1), .val (.int i2), .val (.int i3), .val (.int (2 : Int32)), .val (.int (1 : Int32)), .val (.int a), .val (.int b), .val (.int x), .val (.int y), .val (.ref sp), .val (.ref sl), .val (.ref sn), .val (.ref sv), .val (.ref at'), .val (.ref r), .val (.ref a76_), .unset] [(.int (2 : Int32)), (.ref a76_)])) (fun t_ hr_ => XS.iload A80_ hx rfl (Jvm.hb hby at_198) rfl hr_) ?_
    refine own_by (T' := T80_) (g' := (mkF m 201 #[.val (.int i0), .val (.int i1), .val (.int i2), .val (.int i3), .val (.int (2 : Int32)), .val (.int (1 : Int32)), .val (.int a), .val (.int b), .val (.int x), .val (.int y), .val (.ref sp), .val (.ref sl), .val (.ref sn), .val (.ref sv), .val (.ref at'), .val (.ref r), .val (.ref a76_), .unset] [(.int (2 : Int32)), (.int (2 : Int32)), (.ref a76_)])) (fun t_ hr_ => XS.iconst A80_ hx rfl (Jvm.hb hby at_200) hr_) ?_
    refine own_by (T' := T80_) (g' := (mkF m 202 #[.val (.int i0), .val (.int i1), .val (.int i2), .val (.int i3), .val (.int (2 : Int32)), .val (.int (1 : Int32)), .val (.int a), .val (.int b), .val (.int x), .val (.int y), .val (.ref sp), .val (.ref sl), .val (.ref sn), .val (.ref sv), .val (.ref at'), .val (.ref r), .val (.ref a76_), .unset] [(.int ((2 : Int32) + (2 : Int32))), (.ref a76_)])) (fun t_ hr_ => XS.iadd A80_ hx rfl (Jvm.hb hby at_201) rfl hr_) ?_
    refine own_by (T' := T80_) (g' := (mkF m 204 #[.val (.int i0), .val (.int i1), .val (.int i2), .val (.int i3), .val (.int (2 : Int32)), .val (.int (1 : Int32)), .val (.int a), .val (.int b), .val (.int x), .val (.int y), .val (.ref sp), .val (.ref sl), .val (.ref sn), .val (.ref sv), .val (.ref at'), .val (.ref r), .val (.ref a76_), .unset] [(.int y), (.int ((2 : Int32) + (2 : Int32))), (.ref a76_)])) (fun t_ hr_ => XS.iload A80_ hx rfl (Jvm.hb hby at_202) rfl hr_) ?_
    rw [show ((2 : Int32) + (2 : Int32)) = (4 : Int32) from (by decide)]
    show own_WP p e _ below s Z _ n0 _ T80_ (mkF m 204 #[.val (.int i0), .val (.int i1), .val (.int i2), .val (.int i3), .val (.int (2 : Int32)), .val (.int (1 : Int32)), .val (.int a), .val (.int b), .val (.int x), .val (.int y), .val (.ref sp), .val (.ref sl), .val (.ref sn), .val (.ref sv), .val (.ref at'), .val (.ref r), .val (.ref a76_), .unset] [(.int y), (.int (4 : Int32)), (.ref a76_)])
    refine own_castore w80_ hx V80_ (by decide) (own_rng255 ry) (i := 4) rfl (by simp) ge (g := (mkF m 204 #[.val (.int i0), .val (.int i1), .val (.int i2), .val (.int i3), .val (.int (2 : Int32)), .val (.int (1 : Int32)), .val (.int a), .val (.int b), .val (.int x), .val (.int y), .val (.ref sp), .val (.ref sl), .val (.ref sn), .val (.ref sv), .val (.ref at'), .val (.ref r), .val (.ref a76_), .unset] [(.int y), (.int (4 : Int32)), (.ref a76_)])) rfl rfl (Jvm.hb hby at_204) (fun T81_ h81_ W81_ V81_ w81_ => ?_)
    have A81_ := own_at w81_
    show own_WP p e _ below s Z _ n0 _ T81_ (mkF m 205 #[.val (.int i0), .val (.int i1), .val (.int i2), .val (.int i3), .val (.int (2 : Int32)), .val (.int (1 : Int32)), .val (.int a), .val (.int b), .val (.int x), .val (.int y), .val (.ref sp), .val (.ref sl), .val (.ref sn), .val (.ref sv), .val (.ref at'), .val (.ref r), .val (.ref a76_), .unset] [])
    have EeW81_ := own_extWr EeW80_ W81_ gez
    refine own_by (T' := T81_) (g' := (mkF m 207 #[.val (.int i0), .val (.int i1), .val (.int i2), .val (.int i3), .val (.int (2 : Int32)), .val (.int (1 : Int32)), .val (.int a), .val (.int b), .val (.int x), .val (.int y), .val (.ref sp), .val (.ref sl), .val (.ref sn), .val (.ref sv), .val (.ref at'), .val (.ref r), .val (.ref a76_), .unset] [(.int (2 : Int32))])) (fun t_ hr_ => XS.iload A81_ hx rfl (Jvm.hb hby at_205) rfl hr_) ?_
    refine own_by (T' := T81_) (g' := (mkF m 208 #[.val (.int i0), .val (.int i1), .val (.int i2), .val (.int i3), .val (.int (2 : Int32)), .val (.int (1 : Int32)), .val (.int a), .val (.int b), .val (.int x), .val (.int y), .val (.ref sp), .val (.ref sl), .val (.ref sn), .val (.ref sv), .val (.ref at'), .val (.ref r), .val (.ref a76_), .unset] [(.int (1 : Int32)), (.int (2 : Int32))])) (fun t_ hr_ => XS.iconst A81_ hx rfl (Jvm.hb hby at_207) hr_) ?_
    refine own_by (T' := T81_) (g' := (mkF m 209 #[.val (.int i0), .val (.int i1), .val (.int i2), .val (.int i3), .val (.int (2 : Int32)), .val (.int (1 : Int32)), .val (.int a), .val (.int b), .val (.int x), .val (.int y), .val (.ref sp), .val (.ref sl), .val (.ref sn), .val (.ref sv), .val (.ref at'), .val (.ref r), .val (.ref a76_), .unset] [(.int ((2 : Int32) + (1 : Int32)))])) (fun t_ hr_ => XS.iadd A81_ hx rfl (Jvm.hb hby at_208) rfl hr_) ?_
    refine own_by (T' := T81_) (g' := (mkF m 211 #[.val (.int i0), .val (.int i1), .val (.int i2), .val (.int i3), .val (.int (2 : Int32)), .val (.int (1 : Int32)), .val (.int a), .val (.int b), .val (.int x), .val (.int y), .val (.ref sp), .val (.ref sl), .val (.ref sn), .val (.ref sv), .val (.ref at'), .val (.ref r), .val (.ref a76_), .unset] [(.int (1 : Int32)), (.int ((2 : Int32) + (1 : Int32)))])) (fun t_ hr_ => XS.iload A81_ hx rfl (Jvm.hb hby at_209) rfl hr_) ?_
    refine own_by (T' := T81_) (g' := (mkF m 212 #[.val (.int i0), .val (.int i1), .val (.int i2), .val (.int i3), .val (.int (2 : Int32)), .val (.int (1 : Int32)), .val (.int a), .val (.int b), .val (.int x), .val (.int y), .val (.ref sp), .val (.ref sl), .val (.ref sn), .val (.ref sv), .val (.ref at'), .val (.ref r), .val (.ref a76_), .unset] [(.int (((2 : Int32) + (1 : Int32)) + (1 : Int32)))])) (fun t_ hr_ => XS.iadd A81_ hx rfl (Jvm.hb hby at_211) rfl hr_) ?_
    refine own_by (T' := T81_) (g' := (mkF m 214 #[.val (.int i0), .val (.int i1), .val (.int i2), .val (.int i3), .val (.int (2 : Int32)), .val (.int (1 : Int32)), .val (.int a), .val (.int b), .val (.int x), .val (.int y), .val (.ref sp), .val (.ref sl), .val (.ref sn), .val (.ref sv), .val (.ref at'), .val (.ref r), .val (.ref a76_), .val (.int (((2 : Int32) + (1 : Int32)) + (1 : Int32)))] [])) (fun t_ hr_ => XS.istore A81_ hx rfl (Jvm.hb hby at_212) rfl (l' := #[.val (.int i0), .val (.int i1), .val (.int i2), .val (.int i3), .val (.int (2 : Int32)), .val (.int (1 : Int32)), .val (.int a), .val (.int b), .val (.int x), .val (.int y), .val (.ref sp), .val (.ref sl), .val (.ref sn), .val (.ref sv), .val (.ref at'), .val (.ref r), .val (.ref a76_), .val (.int (((2 : Int32) + (1 : Int32)) + (1 : Int32)))]) rfl hr_) ?_
    rw [show (((2 : Int32) + (1 : Int32)) + (1 : Int32)) = (4 : Int32) from (by decide)]
    show own_WP p e _ below s Z _ n0 _ T81_ (mkF m 214 #[.val (.int i0), .val (.int i1), .val (.int i2), .val (.int i3), .val (.int (2 : Int32)), .val (.int (1 : Int32)), .val (.int a), .val (.int b), .val (.int x), .val (.int y), .val (.ref sp), .val (.ref sl), .val (.ref sn), .val (.ref sv), .val (.ref at'), .val (.ref r), .val (.ref a76_), .val (.int (4 : Int32))] [])
    refine own_by (T' := T81_) (g' := (mkF m 216 #[.val (.int i0), .val (.int i1), .val (.int i2), .val (.int i3), .val (.int (2 : Int32)), .val (.int (1 : Int32)), .val (.int a), .val (.int b), .val (.int x), .val (.int y), .val (.ref sp), .val (.ref sl), .val (.ref sn), .val (.ref sv), .val (.ref at'), .val (.ref r), .val (.ref a76_), .val (.int (4 : Int32))] [(.ref r)])) (fun t_ hr_ => XS.aload A81_ hx rfl (Jvm.hb hby at_214) rfl rfl hr_) ?_
    refine own_by (T' := T81_) (g' := (mkF m 219 #[.val (.int i0), .val (.int i1), .val (.int i2), .val (.int i3), .val (.int (2 : Int32)), .val (.int (1 : Int32)), .val (.int a), .val (.int b), .val (.int x), .val (.int y), .val (.ref sp), .val (.ref sl), .val (.ref sn), .val (.ref sv), .val (.ref at'), .val (.ref r), .val (.ref a76_), .val (.int (4 : Int32))] [])) (fun t_ hr_ => XS.ifnullNo A81_ hx rfl (Jvm.hb hby at_216) rfl hr_) ?_
    refine own_by (T' := T81_) (g' := (mkF m 221 #[.val (.int i0), .val (.int i1), .val (.int i2), .val (.int i3), .val (.int (2 : Int32)), .val (.int (1 : Int32)), .val (.int a), .val (.int b), .val (.int x), .val (.int y), .val (.ref sp), .val (.ref sl), .val (.ref sn), .val (.ref sv), .val (.ref at'), .val (.ref r), .val (.ref a76_), .val (.int (4 : Int32))] [(.ref r)])) (fun t_ hr_ => XS.aload A81_ hx rfl (Jvm.hb hby at_219) rfl rfl hr_) ?_
    have Sz : own_Str Z h81_ r ([a, b, 58, x] : List Int32) := by first | exact S0.ext EeW81_ | (have q := S0.ext EeW81_; simpa [own_nc] using q)
    refine own_callV w81_ hx (y := (⟨"java/lang/String", "length", "()I"⟩ : MethodName)) (z := (⟨"java/lang/String", "length", "()I"⟩ : MethodName)) (hw _ (List.mem_of_getElem? (i := 178) rfl)) (hw _ (List.mem_of_getElem? (i := 96) rfl)) (fun u hu => notFace_of_selects (args := #[]) (mvT hu (hw _ (List.mem_of_getElem? (i := 98) rfl)))) (hw _ (List.mem_of_getElem? (i := 98) rfl)) (hw _ (List.mem_of_getElem? (i := 97) rfl)) (by decide) (kc := 0) (ks := 0) (a := r) (argsL := []) (rest := []) (own_payLen (W := 0) w81_ hEL (own_wLen hw) (hw _ (List.mem_of_getElem? (i := 5) rfl)) SC Sz (by decide) (by decide)) Sz.exa (g := (mkF m 221 #[.val (.int i0), .val (.int i1), .val (.int i2), .val (.int i3), .val (.int (2 : Int32)), .val (.int (1 : Int32)), .val (.int a), .val (.int b), .val (.int x), .val (.int y), .val (.ref sp), .val (.ref sl), .val (.ref sn), .val (.ref sv), .val (.ref at'), .val (.ref r), .val (.ref a76_), .val (.int (4 : Int32))] [(.ref r)])) rfl (by rw [hml]; rfl) (lenOf pd_691884 rfl) rfl (by show 2 * 0 + _ ≤ _; exact Nat.le_of_eq rfl) (Jvm.hb hby at_221) (by decide) (by decide) (fun v82_ T82_ vm82_ h82_ q82_ C82_ w82_ => ?_)
    obtain ⟨rfl, rfl⟩ := q82_
    have A82_ := own_at w82_
    show own_WP p e _ below s Z _ n0 _ T82_ (mkF m 224 #[.val (.int i0), .val (.int i1), .val (.int i2), .val (.int i3), .val (.int (2 : Int32)), .val (.int (1 : Int32)), .val (.int a), .val (.int b), .val (.int x), .val (.int y), .val (.ref sp), .val (.ref sl), .val (.ref sn), .val (.ref sv), .val (.ref at'), .val (.ref r), .val (.ref a76_), .val (.int (4 : Int32))] [(.int (Int32.ofNat ([a, b, 58, x] : List Int32).length))])
    refine own_by (T' := T82_) (g' := (mkF m 226 #[.val (.int i0), .val (.int i1), .val (.int i2), .val (.int i3), .val (.int (2 : Int32)), .val (.int (1 : Int32)), .val (.int a), .val (.int b), .val (.int x), .val (.int y), .val (.ref sp), .val (.ref sl), .val (.ref sn), .val (.ref sv), .val (.ref at'), .val (.ref r), .val (.ref a76_), .val (.int (4 : Int32))] [(.int (4 : Int32)), (.int (Int32.ofNat ([a, b, 58, x] : List Int32).length))])) (fun t_ hr_ => XS.iload A82_ hx rfl (Jvm.hb hby at_224) rfl hr_) ?_
    refine own_by (T' := T82_) (g' := (mkF m 231 #[.val (.int i0), .val (.int i1), .val (.int i2), .val (.int i3), .val (.int (2 : Int32)), .val (.int (1 : Int32)), .val (.int a), .val (.int b), .val (.int x), .val (.int y), .val (.ref sp), .val (.ref sl), .val (.ref sn), .val (.ref sv), .val (.ref at'), .val (.ref r), .val (.ref a76_), .val (.int (4 : Int32))] [])) (fun t_ hr_ => XS.icmpYes A82_ hx rfl (pc0 := 226) (pc' := 231) rfl (Jvm.hb hby at_226) rfl (teq (rfl)).1 (by decide) (by decide) hr_) ?_
    refine own_by (T' := T82_) (g' := (mkF m 233 #[.val (.int i0), .val (.int i1), .val (.int i2), .val (.int i3), .val (.int (2 : Int32)), .val (.int (1 : Int32)), .val (.int a), .val (.int b), .val (.int x), .val (.int y), .val (.ref sp), .val (.ref sl), .val (.ref sn), .val (.ref sv), .val (.ref at'), .val (.ref r), .val (.ref a76_), .val (.int (4 : Int32))] [(.ref r)])) (fun t_ hr_ => XS.aload A82_ hx rfl (Jvm.hb hby at_231) rfl rfl hr_) ?_
    refine own_by (T' := T82_) (g' := (mkF m 235 #[.val (.int i0), .val (.int i1), .val (.int i2), .val (.int i3), .val (.int (2 : Int32)), .val (.int (1 : Int32)), .val (.int a), .val (.int b), .val (.int x), .val (.int y), .val (.ref sp), .val (.ref sl), .val (.ref sn), .val (.ref sv), .val (.ref at'), .val (.ref r), .val (.ref a76_), .val (.int (4 : Int32))] [(.ref a76_), (.ref r)])) (fun t_ hr_ => XS.aload A82_ hx rfl (Jvm.hb hby at_233) rfl rfl hr_) ?_
    refine own_by (T' := T82_) (g' := (mkF m 237 #[.val (.int i0), .val (.int i1), .val (.int i2), .val (.int i3), .val (.int (2 : Int32)), .val (.int (1 : Int32)), .val (.int a), .val (.int b), .val (.int x), .val (.int y), .val (.ref sp), .val (.ref sl), .val (.ref sn), .val (.ref sv), .val (.ref at'), .val (.ref r), .val (.ref a76_), .val (.int (4 : Int32))] [(.int (4 : Int32)), (.ref a76_), (.ref r)])) (fun t_ hr_ => XS.iload A82_ hx rfl (Jvm.hb hby at_235) rfl hr_) ?_
    refine own_by (T' := T82_) (g' := (mkF m 238 #[.val (.int i0), .val (.int i1), .val (.int i2), .val (.int i3), .val (.int (2 : Int32)), .val (.int (1 : Int32)), .val (.int a), .val (.int b), .val (.int x), .val (.int y), .val (.ref sp), .val (.ref sl), .val (.ref sn), .val (.ref sv), .val (.ref at'), .val (.ref r), .val (.ref a76_), .val (.int (4 : Int32))] [(.int (0 : Int32)), (.int (4 : Int32)), (.ref a76_), (.ref r)])) (fun t_ hr_ => XS.iconst A82_ hx rfl (Jvm.hb hby at_237) hr_) ?_
    refine own_callS w82_ hx (y := (⟨"com/example/sigillo/sigillo/soap/AttributeNamePinLaw", "at", "(Ljava/lang/String;[CII)Z"⟩ : MethodName)) (hw _ (List.mem_of_getElem? (i := 179) rfl)) (hw _ (List.mem_of_getElem? (i := 180) rfl)) (hw _ (List.mem_of_getElem? (i := 2) rfl)) (hw _ (List.mem_of_getElem? (i := 181) rfl)) (by decide) (kc := 0) (ks := 0) (argsL := [(.ref r), (.ref a76_), (.int (4 : Int32)), (.int (0 : Int32))]) (rest := []) (own_payCt (W := 0) (ctAt l Z a0 hw SC SF n0 h81_ (own_old w82_) r a76_ k76_ ([a, b, 58, x] : List Int32) ([a, b, (58 : Int32), x, y] : List Int32) 4 0 Sz V81_ rfl rfl (by decide) (by decide) (fun q => rfl)) w82_ (hw _ (List.mem_of_getElem? (i := 181) rfl)) (hw _ (List.mem_of_getElem? (i := 2) rfl)) hEL (by decide) (by decide)) (g := (mkF m 238 #[.val (.int i0), .val (.int i1), .val (.int i2), .val (.int i3), .val (.int (2 : Int32)), .val (.int (1 : Int32)), .val (.int a), .val (.int b), .val (.int x), .val (.int y), .val (.ref sp), .val (.ref sl), .val (.ref sn), .val (.ref sv), .val (.ref at'), .val (.ref r), .val (.ref a76_), .val (.int (4 : Int32))] [(.int (0 : Int32)), (.int (4 : Int32)), (.ref a76_), (.ref r)])) rfl (by rw [hml]; rfl) (lenOf pd_805342835 rfl) rfl (by show 2 * 0 + _ ≤ _; exact Nat.le_of_eq rfl) (Jvm.hb hby at_238) (by decide) (by decide) (fun v83_ T83_ vm83_ h83_ q83_ C83_ w83_ => ?_)
    obtain ⟨rfl, rfl⟩ := q83_
    have A83_ := own_at w83_
    show own_WP p e _ below s Z _ n0 _ T83_ (mkF m 241 #[.val (.int i0), .val (.int i1), .val (.int i2), .val (.int i3), .val (.int (2 : Int32)), .val (.int (1 : Int32)), .val (.int a), .val (.int b), .val (.int x), .val (.int y), .val (.ref sp), .val (.ref sl), .val (.ref sn), .val (.ref sv), .val (.ref at'), .val (.ref r), .val (.ref a76_), .val (.int (4 : Int32))] [(.int (1 : Int32))])
    refine own_by (T' := T83_) (g' := (mkF m 244 #[.val (.int i0), .val (.int i1), .val (.int i2), .val (.int i3), .val (.int (2 : Int32)), .val (.int (1 : Int32)), .val (.int a), .val (.int b), .val (.int x), .val (.int y), .val (.ref sp), .val (.ref sl), .val (.ref sn), .val (.ref sv), .val (.ref at'), .val (.ref r), .val (.ref a76_), .val (.int (4 : Int32))] [])) (fun t_ hr_ => XS.ifNo A83_ hx rfl (Jvm.hb hby at_241) rfl ((if0 _ _).trans (feq (by decide : ¬ (1 : Int32) = 0)).1) hr_) ?_
    refine own_by (T' := T83_) (g' := (mkF m 246 #[.val (.int i0), .val (.int i1), .val (.int i2), .val (.int i3), .val (.int (2 : Int32)), .val (.int (1 : Int32)), .val (.int a), .val (.int b), .val (.int x), .val (.int y), .val (.ref sp), .val (.ref sl), .val (.ref sn), .val (.ref sv), .val (.ref at'), .val (.ref r), .val (.ref a76_), .val (.int (4 : Int32))] [(.ref r)])) (fun t_ hr_ => XS.aload A83_ hx rfl (Jvm.hb hby at_244) rfl rfl hr_) ?_
    refine own_by (T' := T83_) (g' := (mkF m 248 #[.val (.int i0), .val (.int i1), .val (.int i2), .val (.int i3), .val (.int (2 : Int32)), .val (.int (1 : Int32)), .val (.int a), .val (.int b), .val (.int x), .val (.int y), .val (.ref sp), .val (.ref sl), .val (.ref sn), .val (.ref sv), .val (.ref at'), .val (.ref r), .val (.ref a76_), .val (.int (4 : Int32))] [(.ref a76_), (.ref r)])) (fun t_ hr_ => XS.aload A83_ hx rfl (Jvm.hb hby at_246) rfl rfl hr_) ?_
    refine own_by (T' := T83_) (g' := (mkF m 250 #[.val (.int i0), .val (.int i1), .val (.int i2), .val (.int i3), .val (.int (2 : Int32)), .val (.int (1 : Int32)), .val (.int a), .val (.int b), .val (.int x), .val (.int y), .val (.ref sp), .val (.ref sl), .val (.ref sn), .val (.ref sv), .val (.ref at'), .val (.ref r), .val (.ref a76_), .val (.int (4 : Int32))] [(.int (4 : Int32)), (.ref a76_), (.ref r)])) (fun t_ hr_ => XS.iload A83_ hx rfl (Jvm.hb hby at_248) rfl hr_) ?_
    refine own_by (T' := T83_) (g' := (mkF m 251 #[.val (.int i0), .val (.int i1), .val (.int i2), .val (.int i3), .val (.int (2 : Int32)), .val (.int (1 : Int32)), .val (.int a), .val (.int b), .val (.int x), .val (.int y), .val (.ref sp), .val (.ref sl), .val (.ref sn), .val (.ref sv), .val (.ref at'), .val (.ref r), .val (.ref a76_), .val (.int (4 : Int32))] [(.int (1 : Int32)), (.int (4 : Int32)), (.ref a76_), (.ref r)])) (fun t_ hr_ => XS.iconst A83_ hx rfl (Jvm.hb hby at_250) hr_) ?_
    refine own_callS w83_ hx (y := (⟨"com/example/sigillo/sigillo/soap/AttributeNamePinLaw", "at", "(Ljava/lang/String;[CII)Z"⟩ : MethodName)) (hw _ (List.mem_of_getElem? (i := 179) rfl)) (hw _ (List.mem_of_getElem? (i := 180) rfl)) (hw _ (List.mem_of_getElem? (i := 2) rfl)) (hw _ (List.mem_of_getElem? (i := 181) rfl)) (by decide) (kc := 0) (ks := 0) (argsL := [(.ref r), (.ref a76_), (.int (4 : Int32)), (.int (1 : Int32))]) (rest := []) (own_payCt (W := 0) (ctAt l Z a0 hw SC SF n0 h81_ (own_old w83_) r a76_ k76_ ([a, b, 58, x] : List Int32) ([a, b, (58 : Int32), x, y] : List Int32) 4 1 Sz V81_ rfl rfl (by decide) (by decide) (fun q => rfl)) w83_ (hw _ (List.mem_of_getElem? (i := 181) rfl)) (hw _ (List.mem_of_getElem? (i := 2) rfl)) hEL (by decide) (by decide)) (g := (mkF m 251 #[.val (.int i0), .val (.int i1), .val (.int i2), .val (.int i3), .val (.int (2 : Int32)), .val (.int (1 : Int32)), .val (.int a), .val (.int b), .val (.int x), .val (.int y), .val (.ref sp), .val (.ref sl), .val (.ref sn), .val (.ref sv), .val (.ref at'), .val (.ref r), .val (.ref a76_), .val (.int (4 : Int32))] [(.int (1 : Int32)), (.int (4 : Int32)), (.ref a76_), (.ref r)])) rfl (by rw [hml]; rfl) (lenOf pd_805342835 rfl) rfl (by show 2 * 0 + _ ≤ _; exact Nat.le_of_eq rfl) (Jvm.hb hby at_251) (by decide) (by decide) (fun v84_ T84_ vm84_ h84_ q84_ C84_ w84_ => ?_)
    obtain ⟨rfl, rfl⟩ := q84_
    have A84_ := own_at w84_
    show own_WP p e _ below s Z _ n0 _ T84_ (mkF m 254 #[.val (.int i0), .val (.int i1), .val (.int i2), .val (.int i3), .val (.int (2 : Int32)), .val (.int (1 : Int32)), .val (.int a), .val (.int b), .val (.int x), .val (.int y), .val (.ref sp), .val (.ref sl), .val (.ref sn), .val (.ref sv), .val (.ref at'), .val (.ref r), .val (.ref a76_), .val (.int (4 : Int32))] [(.int (1 : Int32))])
    refine own_by (T' := T84_) (g' := (mkF m 257 #[.val (.int i0), .val (.int i1), .val (.int i2), .val (.int i3), .val (.int (2 : Int32)), .val (.int (1 : Int32)), .val (.int a), .val (.int b), .val (.int x), .val (.int y), .val (.ref sp), .val (.ref sl), .val (.ref sn), .val (.ref sv), .val (.ref at'), .val (.ref r), .val (.ref a76_), .val (.int (4 : Int32))] [])) (fun t_ hr_ => XS.ifNo A84_ hx rfl (Jvm.hb hby at_254) rfl ((if0 _ _).trans (feq (by decide : ¬ (1 : Int32) = 0)).1) hr_) ?_
    refine own_by (T' := T84_) (g' := (mkF m 259 #[.val (.int i0), .val (.int i1), .val (.int i2), .val (.int i3), .val (.int (2 : Int32)), .val (.int (1 : Int32)), .val (.int a), .val (.int b), .val (.int x), .val (.int y), .val (.ref sp), .val (.ref sl), .val (.ref sn), .val (.ref sv), .val (.ref at'), .val (.ref r), .val (.ref a76_), .val (.int (4 : Int32))] [(.ref r)])) (fun t_ hr_ => XS.aload A84_ hx rfl (Jvm.hb hby at_257) rfl rfl hr_) ?_
    refine own_by (T' := T84_) (g' := (mkF m 261 #[.val (.int i0), .val (.int i1), .val (.int i2), .val (.int i3), .val (.int (2 : Int32)), .val (.int (1 : Int32)), .val (.int a), .val (.int b), .val (.int x), .val (.int y), .val (.ref sp), .val (.ref sl), .val (.ref sn), .val (.ref sv), .val (.ref at'), .val (.ref r), .val (.ref a76_), .val (.int (4 : Int32))] [(.ref a76_), (.ref r)])) (fun t_ hr_ => XS.aload A84_ hx rfl (Jvm.hb hby at_259) rfl rfl hr_) ?_
    refine own_by (T' := T84_) (g' := (mkF m 263 #[.val (.int i0), .val (.int i1), .val (.int i2), .val (.int i3), .val (.int (2 : Int32)), .val (.int (1 : Int32)), .val (.int a), .val (.int b), .val (.int x), .val (.int y), .val (.ref sp), .val (.ref sl), .val (.ref sn), .val (.ref sv), .val (.ref at'), .val (.ref r), .val (.ref a76_), .val (.int (4 : Int32))] [(.int (4 : Int32)), (.ref a76_), (.ref r)])) (fun t_ hr_ => XS.iload A84_ hx rfl (Jvm.hb hby at_261) rfl hr_) ?_
    refine own_by (T' := T84_) (g' := (mkF m 264 #[.val (.int i0), .val (.int i1), .val (.int i2), .val (.int i3), .val (.int (2 : Int32)), .val (.int (1 : Int32)), .val (.int a), .val (.int b), .val (.int x), .val (.int y), .val (.ref sp), .val (.ref sl), .val (.ref sn), .val (.ref sv), .val (.ref at'), .val (.ref r), .val (.ref a76_), .val (.int (4 : Int32))] [(.int (2 : Int32)), (.int (4 : Int32)), (.ref a76_), (.ref r)])) (fun t_ hr_ => XS.iconst A84_ hx rfl (Jvm.hb hby at_263) hr_) ?_
    refine own_callS w84_ hx (y := (⟨"com/example/sigillo/sigillo/soap/AttributeNamePinLaw", "at", "(Ljava/lang/String;[CII)Z"⟩ : MethodName)) (hw _ (List.mem_of_getElem? (i := 179) rfl)) (hw _ (List.mem_of_getElem? (i := 180) rfl)) (hw _ (List.mem_of_getElem? (i := 2) rfl)) (hw _ (List.mem_of_getElem? (i := 181) rfl)) (by decide) (kc := 0) (ks := 0) (argsL := [(.ref r), (.ref a76_), (.int (4 : Int32)), (.int (2 : Int32))]) (rest := []) (own_payCt (W := 0) (ctAt l Z a0 hw SC SF n0 h81_ (own_old w84_) r a76_ k76_ ([a, b, 58, x] : List Int32) ([a, b, (58 : Int32), x, y] : List Int32) 4 2 Sz V81_ rfl rfl (by decide) (by decide) (fun q => rfl)) w84_ (hw _ (List.mem_of_getElem? (i := 181) rfl)) (hw _ (List.mem_of_getElem? (i := 2) rfl)) hEL (by decide) (by decide)) (g := (mkF m 264 #[.val (.int i0), .val (.int i1), .val (.int i2), .val (.int i3), .val (.int (2 : Int32)), .val (.int (1 : Int32)), .val (.int a), .val (.int b), .val (.int x), .val (.int y), .val (.ref sp), .val (.ref sl), .val (.ref sn), .val (.ref sv), .val (.ref at'), .val (.ref r), .val (.ref a76_), .val (.int (4 : Int32))] [(.int (2 : Int32)), (.int (4 : Int32)), (.ref a76_), (.ref r)])) rfl (by rw [hml]; rfl) (lenOf pd_805342835 rfl) rfl (by show 2 * 0 + _ ≤ _; exact Nat.le_of_eq rfl) (Jvm.hb hby at_264) (by decide) (by decide) (fun v85_ T85_ vm85_ h85_ q85_ C85_ w85_ => ?_)
    obtain ⟨rfl, rfl⟩ := q85_
    have A85_ := own_at w85_
    show own_WP p e _ below s Z _ n0 _ T85_ (mkF m 267 #[.val (.int i0), .val (.int i1), .val (.int i2), .val (.int i3), .val (.int (2 : Int32)), .val (.int (1 : Int32)), .val (.int a), .val (.int b), .val (.int x), .val (.int y), .val (.ref sp), .val (.ref sl), .val (.ref sn), .val (.ref sv), .val (.ref at'), .val (.ref r), .val (.ref a76_), .val (.int (4 : Int32))] [(.int (1 : Int32))])
    refine own_by (T' := T85_) (g' := (mkF m 270 #[.val (.int i0), .val (.int i1), .val (.int i2), .val (.int i3), .val (.int (2 : Int32)), .val (.int (1 : Int32)), .val (.int a), .val (.int b), .val (.int x), .val (.int y), .val (.ref sp), .val (.ref sl), .val (.ref sn), .val (.ref sv), .val (.ref at'), .val (.ref r), .val (.ref a76_), .val (.int (4 : Int32))] [])) (fun t_ hr_ => XS.ifNo A85_ hx rfl (Jvm.hb hby at_267) rfl ((if0 _ _).trans (feq (by decide : ¬ (1 : Int32) = 0)).1) hr_) ?_
    refine own_by (T' := T85_) (g' := (mkF m 272 #[.val (.int i0), .val (.int i1), .val (.int i2), .val (.int i3), .val (.int (2 : Int32)), .val (.int (1 : Int32)), .val (.int a), .val (.int b), .val (.int x), .val (.int y), .val (.ref sp), .val (.ref sl), .val (.ref sn), .val (.ref sv), .val (.ref at'), .val (.ref r), .val (.ref a76_), .val (.int (4 : Int32))] [(.ref r)])) (fun t_ hr_ => XS.aload A85_ hx rfl (Jvm.hb hby at_270) rfl rfl hr_) ?_
    refine own_by (T' := T85_) (g' := (mkF m 274 #[.val (.int i0), .val (.int i1), .val (.int i2), .val (.int i3), .val (.int (2 : Int32)), .val (.int (1 : Int32)), .val (.int a), .val (.int b), .val (.int x), .val (.int y), .val (.ref sp), .val (.ref sl), .val (.ref sn), .val (.ref sv), .val (.ref at'), .val (.ref r), .val (.ref a76_), .val (.int (4 : Int32))] [(.ref a76_), (.ref r)])) (fun t_ hr_ => XS.aload A85_ hx rfl (Jvm.hb hby at_272) rfl rfl hr_) ?_
    refine own_by (T' := T85_) (g' := (mkF m 276 #[.val (.int i0), .val (.int i1), .val (.int i2), .val (.int i3), .val (.int (2 : Int32)), .val (.int (1 : Int32)), .val (.int a), .val (.int b), .val (.int x), .val (.int y), .val (.ref sp), .val (.ref sl), .val (.ref sn), .val (.ref sv), .val (.ref at'), .val (.ref r), .val (.ref a76_), .val (.int (4 : Int32))] [(.int (4 : Int32)), (.ref a76_), (.ref r)])) (fun t_ hr_ => XS.iload A85_ hx rfl (Jvm.hb hby at_274) rfl hr_) ?_
    refine own_by (T' := T85_) (g' := (mkF m 277 #[.val (.int i0), .val (.int i1), .val (.int i2), .val (.int i3), .val (.int (2 : Int32)), .val (.int (1 : Int32)), .val (.int a), .val (.int b), .val (.int x), .val (.int y), .val (.ref sp), .val (.ref sl), .val (.ref sn), .val (.ref sv), .val (.ref at'), .val (.ref r), .val (.ref a76_), .val (.int (4 : Int32))] [(.int (3 : Int32)), (.int (4 : Int32)), (.ref a76_), (.ref r)])) (fun t_ hr_ => XS.iconst A85_ hx rfl (Jvm.hb hby at_276) hr_) ?_
    refine own_callS w85_ hx (y := (⟨"com/example/sigillo/sigillo/soap/AttributeNamePinLaw", "at", "(Ljava/lang/String;[CII)Z"⟩ : MethodName)) (hw _ (List.mem_of_getElem? (i := 179) rfl)) (hw _ (List.mem_of_getElem? (i := 180) rfl)) (hw _ (List.mem_of_getElem? (i := 2) rfl)) (hw _ (List.mem_of_getElem? (i := 181) rfl)) (by decide) (kc := 0) (ks := 0) (argsL := [(.ref r), (.ref a76_), (.int (4 : Int32)), (.int (3 : Int32))]) (rest := []) (own_payCt (W := 0) (ctAt l Z a0 hw SC SF n0 h81_ (own_old w85_) r a76_ k76_ ([a, b, 58, x] : List Int32) ([a, b, (58 : Int32), x, y] : List Int32) 4 3 Sz V81_ rfl rfl (by decide) (by decide) (fun q => rfl)) w85_ (hw _ (List.mem_of_getElem? (i := 181) rfl)) (hw _ (List.mem_of_getElem? (i := 2) rfl)) hEL (by decide) (by decide)) (g := (mkF m 277 #[.val (.int i0), .val (.int i1), .val (.int i2), .val (.int i3), .val (.int (2 : Int32)), .val (.int (1 : Int32)), .val (.int a), .val (.int b), .val (.int x), .val (.int y), .val (.ref sp), .val (.ref sl), .val (.ref sn), .val (.ref sv), .val (.ref at'), .val (.ref r), .val (.ref a76_), .val (.int (4 : Int32))] [(.int (3 : Int32)), (.int (4 : Int32)), (.ref a76_), (.ref r)])) rfl (by rw [hml]; rfl) (lenOf pd_805342835 rfl) rfl (by show 2 * 0 + _ ≤ _; exact Nat.le_of_eq rfl) (Jvm.hb hby at_277) (by decide) (by decide) (fun v86_ T86_ vm86_ h86_ q86_ C86_ w86_ => ?_)
    obtain ⟨rfl, rfl⟩ := q86_
    have A86_ := own_at w86_
    show own_WP p e _ below s Z _ n0 _ T86_ (mkF m 280 #[.val (.int i0), .val (.int i1), .val (.int i2), .val (.int i3), .val (.int (2 : Int32)), .val (.int (1 : Int32)), .val (.int a), .val (.int b), .val (.int x), .val (.int y), .val (.ref sp), .val (.ref sl), .val (.ref sn), .val (.ref sv), .val (.ref at'), .val (.ref r), .val (.ref a76_), .val (.int (4 : Int32))] [(.int (1 : Int32))])
    refine own_by (T' := T86_) (g' := (mkF m 283 #[.val (.int i0), .val (.int i1), .val (.int i2), .val (.int i3), .val (.int (2 : Int32)), .val (.int (1 : Int32)), .val (.int a), .val (.int b), .val (.int x), .val (.int y), .val (.ref sp), .val (.ref sl), .val (.ref sn), .val (.ref sv), .val (.ref at'), .val (.ref r), .val (.ref a76_), .val (.int (4 : Int32))] [])) (fun t_ hr_ => XS.ifNo A86_ hx rfl (Jvm.hb hby at_280) rfl ((if0 _ _).trans (feq (by decide : ¬ (1 : Int32) = 0)).1) hr_) ?_
    refine own_by (T' := T86_) (g' := (mkF m 285 #[.val (.int i0), .val (.int i1), .val (.int i2), .val (.int i3), .val (.int (2 : Int32)), .val (.int (1 : Int32)), .val (.int a), .val (.int b), .val (.int x), .val (.int y), .val (.ref sp), .val (.ref sl), .val (.ref sn), .val (.ref sv), .val (.ref at'), .val (.ref r), .val (.ref a76_), .val (.int (4 : Int32))] [(.ref r)])) (fun t_ hr_ => XS.aload A86_ hx rfl (Jvm.hb hby at_283) rfl rfl hr_) ?_
    refine own_by (T' := T86_) (g' := (mkF m 287 #[.val (.int i0), .val (.int i1), .val (.int i2), .val (.int i3), .val (.int (2 : Int32)), .val (.int (1 : Int32)), .val (.int a), .val (.int b), .val (.int x), .val (.int y), .val (.ref sp), .val (.ref sl), .val (.ref sn), .val (.ref sv), .val (.ref at'), .val (.ref r), .val (.ref a76_), .val (.int (4 : Int32))] [(.ref a76_), (.ref r)])) (fun t_ hr_ => XS.aload A86_ hx rfl (Jvm.hb hby at_285) rfl rfl hr_) ?_
    refine own_by (T' := T86_) (g' := (mkF m 289 #[.val (.int i0), .val (.int i1), .val (.int i2), .val (.int i3), .val (.int (2 : Int32)), .val (.int (1 : Int32)), .val (.int a), .val (.int b), .val (.int x), .val (.int y), .val (.ref sp), .val (.ref sl), .val (.ref sn), .val (.ref sv), .val (.ref at'), .val (.ref r), .val (.ref a76_), .val (.int (4 : Int32))] [(.int (4 : Int32)), (.ref a76_), (.ref r)])) (fun t_ hr_ => XS.iload A86_ hx rfl (Jvm.hb hby at_287) rfl hr_) ?_
    refine own_by (T' := T86_) (g' := (mkF m 290 #[.val (.int i0), .val (.int i1), .val (.int i2), .val (.int i3), .val (.int (2 : Int32)), .val (.int (1 : Int32)), .val (.int a), .val (.int b), .val (.int x), .val (.int y), .val (.ref sp), .val (.ref sl), .val (.ref sn), .val (.ref sv), .val (.ref at'), .val (.ref r), .val (.ref a76_), .val (.int (4 : Int32))] [(.int (4 : Int32)), (.int (4 : Int32)), (.ref a76_), (.ref r)])) (fun t_ hr_ => XS.iconst A86_ hx rfl (Jvm.hb hby at_289) hr_) ?_
    refine own_callS w86_ hx (y := (⟨"com/example/sigillo/sigillo/soap/AttributeNamePinLaw", "at", "(Ljava/lang/String;[CII)Z"⟩ : MethodName)) (hw _ (List.mem_of_getElem? (i := 179) rfl)) (hw _ (List.mem_of_getElem? (i := 180) rfl)) (hw _ (List.mem_of_getElem? (i := 2) rfl)) (hw _ (List.mem_of_getElem? (i := 181) rfl)) (by decide) (kc := 0) (ks := 0) (argsL := [(.ref r), (.ref a76_), (.int (4 : Int32)), (.int (4 : Int32))]) (rest := []) (own_payCt (W := 0) (ctAt l Z a0 hw SC SF n0 h81_ (own_old w86_) r a76_ k76_ ([a, b, 58, x] : List Int32) ([a, b, (58 : Int32), x, y] : List Int32) 4 4 Sz V81_ rfl rfl (by decide) (by decide) (fun q => absurd q (by decide))) w86_ (hw _ (List.mem_of_getElem? (i := 181) rfl)) (hw _ (List.mem_of_getElem? (i := 2) rfl)) hEL (by decide) (by decide)) (g := (mkF m 290 #[.val (.int i0), .val (.int i1), .val (.int i2), .val (.int i3), .val (.int (2 : Int32)), .val (.int (1 : Int32)), .val (.int a), .val (.int b), .val (.int x), .val (.int y), .val (.ref sp), .val (.ref sl), .val (.ref sn), .val (.ref sv), .val (.ref at'), .val (.ref r), .val (.ref a76_), .val (.int (4 : Int32))] [(.int (4 : Int32)), (.int (4 : Int32)), (.ref a76_), (.ref r)])) rfl (by rw [hml]; rfl) (lenOf pd_805342835 rfl) rfl (by show 2 * 0 + _ ≤ _; exact Nat.le_of_eq rfl) (Jvm.hb hby at_290) (by decide) (by decide) (fun v87_ T87_ vm87_ h87_ q87_ C87_ w87_ => ?_)
    obtain ⟨rfl, rfl⟩ := q87_
    have A87_ := own_at w87_
    show own_WP p e _ below s Z _ n0 _ T87_ (mkF m 293 #[.val (.int i0), .val (.int i1), .val (.int i2), .val (.int i3), .val (.int (2 : Int32)), .val (.int (1 : Int32)), .val (.int a), .val (.int b), .val (.int x), .val (.int y), .val (.ref sp), .val (.ref sl), .val (.ref sn), .val (.ref sv), .val (.ref at'), .val (.ref r), .val (.ref a76_), .val (.int (4 : Int32))] [(.int (1 : Int32))])
    refine own_by (T' := T87_) (g' := (mkF m 296 #[.val (.int i0), .val (.int i1), .val (.int i2), .val (.int i3), .val (.int (2 : Int32)), .val (.int (1 : Int32)), .val (.int a), .val (.int b), .val (.int x), .val (.int y), .val (.ref sp), .val (.ref sl), .val (.ref sn), .val (.ref sv), .val (.ref at'), .val (.ref r), .val (.ref a76_), .val (.int (4 : Int32))] [])) (fun t_ hr_ => XS.ifNo A87_ hx rfl (Jvm.hb hby at_293) rfl ((if0 _ _).trans (feq (by decide : ¬ (1 : Int32) = 0)).1) hr_) ?_
    refine own_by (T' := T87_) (g' := (mkF m 297 #[.val (.int i0), .val (.int i1), .val (.int i2), .val (.int i3), .val (.int (2 : Int32)), .val (.int (1 : Int32)), .val (.int a), .val (.int b), .val (.int x), .val (.int y), .val (.ref sp), .val (.ref sl), .val (.ref sn), .val (.ref sv), .val (.ref at'), .val (.ref r), .val (.ref a76_), .val (.int (4 : Int32))] [(.int (1 : Int32))])) (fun t_ hr_ => XS.iconst A87_ hx rfl (Jvm.hb hby at_296) hr_) ?_
    refine own_by (T' := T87_) (g' := (mkF m 301 #[.val (.int i0), .val (.int i1), .val (.int i2), .val (.int i3), .val (.int (2 : Int32)), .val (.int (1 : Int32)), .val (.int a), .val (.int b), .val (.int x), .val (.int y), .val (.ref sp), .val (.ref sl), .val (.ref sn), .val (.ref sv), .val (.ref at'), .val (.ref r), .val (.ref a76_), .val (.int (4 : Int32))] [(.int (1 : Int32))])) (fun t_ hr_ => XS.goto A87_ hx rfl (pc0 := 297) (pc' := 301) rfl (Jvm.hb hby at_297) (by decide) (by decide) hr_) ?_
    exact own_retZ w87_ hx hEL hlk hret (Or.inr rfl) (Jvm.hb hby at_301) (by decide) (by decide) rfl
  · show own_WP p e _ below s Z _ n0 _ T0 (mkF m 139 #[.val (.int i0), .val (.int i1), .val (.int i2), .val (.int i3), .val (.int (2 : Int32)), .val (.int (2 : Int32)), .val (.int a), .val (.int b), .val (.int x), .val (.int y), .val (.ref sp), .val (.ref sl), .val (.ref sn), .val (.ref sv), .val (.ref at'), .val (.ref r), .unset, .unset] [])
    refine own_by (T' := T0) (g' := (mkF m 140 #[.val (.int i0), .val (.int i1), .val (.int i2), .val (.int i3), .val (.int (2 : Int32)), .val (.int (2 : Int32)), .val (.int a), .val (.int b), .val (.int x), .val (.int y), .val (.ref sp), .val (.ref sl), .val (.ref sn), .val (.ref sv), .val (.ref at'), .val (.ref r), .unset, .unset] [(.int (5 : Int32))])) (fun t_ hr_ => XS.iconst A_0 hx rfl (Jvm.hb hby at_139) hr_) ?_
    refine own_newP w0 hx (hw _ (List.mem_of_getElem? (i := 7) rfl)) (g := (mkF m 140 #[.val (.int i0), .val (.int i1), .val (.int i2), .val (.int i3), .val (.int (2 : Int32)), .val (.int (2 : Int32)), .val (.int a), .val (.int b), .val (.int x), .val (.int y), .val (.ref sp), .val (.ref sl), .val (.ref sn), .val (.ref sv), .val (.ref at'), .val (.ref r), .unset, .unset] [(.int (5 : Int32))])) rfl (Jvm.hb hby at_140) rfl (by decide) (cap := 5) (by decide) (by decide) (by decide) (by decide) (fun T88_ h88_ a88_ k88_ g88_ E88_ V88_ w88_ => ?_)
    have A88_ := own_at w88_
    show own_WP p e _ below s Z _ n0 _ T88_ (mkF m 142 #[.val (.int i0), .val (.int i1), .val (.int i2), .val (.int i3), .val (.int (2 : Int32)), .val (.int (2 : Int32)), .val (.int a), .val (.int b), .val (.int x), .val (.int y), .val (.ref sp), .val (.ref sl), .val (.ref sn), .val (.ref sv), .val (.ref at'), .val (.ref r), .unset, .unset] [(.ref a88_)])
    have ge : n0 ≤ a88_ := by rw [g88_]; exact own_n0 w0
    have U0 : Arv Z h88_ a88_ k88_ .char (5 : Int32) [(.int (0 : Int32)), (.int (0 : Int32)), (.int (0 : Int32)), (.int (0 : Int32)), (.int (0 : Int32))] (.int 0) := V88_.pad (vs' := [(.int (0 : Int32)), (.int (0 : Int32)), (.int (0 : Int32)), (.int (0 : Int32)), (.int (0 : Int32))]) (fun i => pad_rep [] (.int (0 : Int32)) 5 i)
    have gez : h0.size ≤ a88_ := by rw [g88_]; exact Nat.le_refl _
    refine own_by (T' := T88_) (g' := (mkF m 144 #[.val (.int i0), .val (.int i1), .val (.int i2), .val (.int i3), .val (.int (2 : Int32)), .val (.int (2 : Int32)), .val (.int a), .val (.int b), .val (.int x), .val (.int y), .val (.ref sp), .val (.ref sl), .val (.ref sn), .val (.ref sv), .val (.ref at'), .val (.ref r), .val (.ref a88_), .unset] [])) (fun t_ hr_ => XS.astore A88_ hx rfl (Jvm.hb hby at_142) rfl rfl (l' := #[.val (.int i0), .val (.int i1), .val (.int i2), .val (.int i3), .val (.int (2 : Int32)), .val (.int (2 : Int32)), .val (.int a), .val (.int b), .val (.int x), .val (.int y), .val (.ref sp), .val (.ref sl), .val (.ref sn), .val (.ref sv), .val (.ref at'), .val (.ref r), .val (.ref a88_), .unset]) rfl hr_) ?_
    refine own_by (T' := T88_) (g' := (mkF m 146 #[.val (.int i0), .val (.int i1), .val (.int i2), .val (.int i3), .val (.int (2 : Int32)), .val (.int (2 : Int32)), .val (.int a), .val (.int b), .val (.int x), .val (.int y), .val (.ref sp), .val (.ref sl), .val (.ref sn), .val (.ref sv), .val (.ref at'), .val (.ref r), .val (.ref a88_), .unset] [(.int (2 : Int32))])) (fun t_ hr_ => XS.iload A88_ hx rfl (Jvm.hb hby at_144) rfl hr_) ?_
    refine own_by (T' := T88_) (g' := (mkF m 168 #[.val (.int i0), .val (.int i1), .val (.int i2), .val (.int i3), .val (.int (2 : Int32)), .val (.int (2 : Int32)), .val (.int a), .val (.int b), .val (.int x), .val (.int y), .val (.ref sp), .val (.ref sl), .val (.ref sn), .val (.ref sv), .val (.ref at'), .val (.ref r), .val (.ref a88_), .unset] [])) (fun t_ hr_ => XS.ifYes A88_ hx rfl (pc0 := 146) (pc' := 168) rfl (Jvm.hb hby at_146) rfl ((if0 _ _).trans (feq (by decide)).2) (by decide) (by decide) hr_) ?_
    refine own_by (T' := T88_) (g' := (mkF m 170 #[.val (.int i0), .val (.int i1), .val (.int i2), .val (.int i3), .val (.int (2 : Int32)), .val (.int (2 : Int32)), .val (.int a), .val (.int b), .val (.int x), .val (.int y), .val (.ref sp), .val (.ref sl), .val (.ref sn), .val (.ref sv), .val (.ref at'), .val (.ref r), .val (.ref a88_), .unset] [(.ref a88_)])) (fun t_ hr_ => XS.aload A88_ hx rfl (Jvm.hb hby at_168) rfl rfl hr_) ?_
    refine own_by (T' := T88_) (g' := (mkF m 171 #[.val (.int i0), .val (.int i1), .val (.int i2), .val (.int i3), .val (.int (2 : Int32)), .val (.int (2 : Int32)), .val (.int a), .val (.int b), .val (.int x), .val (.int y), .val (.ref sp), .val (.ref sl), .val (.ref sn), .val (.ref sv), .val (.ref at'), .val (.ref r), .val (.ref a88_), .unset] [(.int (0 : Int32)), (.ref a88_)])) (fun t_ hr_ => XS.iconst A88_ hx rfl (Jvm.hb hby at_170) hr_) ?_
    refine own_by (T' := T88_) (g' := (mkF m 173 #[.val (.int i0), .val (.int i1), .val (.int i2), .val (.int i3), .val (.int (2 : Int32)), .val (.int (2 : Int32)), .val (.int a), .val (.int b), .val (.int x), .val (.int y), .val (.ref sp), .val (.ref sl), .val (.ref sn), .val (.ref sv), .val (.ref at'), .val (.ref r), .val (.ref a88_), .unset] [(.int a), (.int (0 : Int32)), (.ref a88_)])) (fun t_ hr_ => XS.iload A88_ hx rfl (Jvm.hb hby at_171) rfl hr_) ?_
    refine own_castore w88_ hx U0 (by decide) (own_rng255 ra) (i := 0) rfl (by simp) ge (g := (mkF m 173 #[.val (.int i0), .val (.int i1), .val (.int i2), .val (.int i3), .val (.int (2 : Int32)), .val (.int (2 : Int32)), .val (.int a), .val (.int b), .val (.int x), .val (.int y), .val (.ref sp), .val (.ref sl), .val (.ref sn), .val (.ref sv), .val (.ref at'), .val (.ref r), .val (.ref a88_), .unset] [(.int a), (.int (0 : Int32)), (.ref a88_)])) rfl rfl (Jvm.hb hby at_173) (fun T89_ h89_ W89_ V89_ w89_ => ?_)
    have A89_ := own_at w89_
    show own_WP p e _ below s Z _ n0 _ T89_ (mkF m 174 #[.val (.int i0), .val (.int i1), .val (.int i2), .val (.int i3), .val (.int (2 : Int32)), .val (.int (2 : Int32)), .val (.int a), .val (.int b), .val (.int x), .val (.int y), .val (.ref sp), .val (.ref sl), .val (.ref sn), .val (.ref sv), .val (.ref at'), .val (.ref r), .val (.ref a88_), .unset] [])
    have EeW89_ := own_extWr E88_ W89_ gez
    refine own_by (T' := T89_) (g' := (mkF m 176 #[.val (.int i0), .val (.int i1), .val (.int i2), .val (.int i3), .val (.int (2 : Int32)), .val (.int (2 : Int32)), .val (.int a), .val (.int b), .val (.int x), .val (.int y), .val (.ref sp), .val (.ref sl), .val (.ref sn), .val (.ref sv), .val (.ref at'), .val (.ref r), .val (.ref a88_), .unset] [(.ref a88_)])) (fun t_ hr_ => XS.aload A89_ hx rfl (Jvm.hb hby at_174) rfl rfl hr_) ?_
    refine own_by (T' := T89_) (g' := (mkF m 177 #[.val (.int i0), .val (.int i1), .val (.int i2), .val (.int i3), .val (.int (2 : Int32)), .val (.int (2 : Int32)), .val (.int a), .val (.int b), .val (.int x), .val (.int y), .val (.ref sp), .val (.ref sl), .val (.ref sn), .val (.ref sv), .val (.ref at'), .val (.ref r), .val (.ref a88_), .unset] [(.int (1 : Int32)), (.ref a88_)])) (fun t_ hr_ => XS.iconst A89_ hx rfl (Jvm.hb hby at_176) hr_) ?_
    refine own_by (T' := T89_) (g' := (mkF m 179 #[.val (.int i0), .val (.int i1), .val (.int i2), .val (.int i3), .val (.int (2 : Int32)), .val (.int (2 : Int32)), .val (.int a), .val (.int b), .val (.int x), .val (.int y), .val (.ref sp), .val (.ref sl), .val (.ref sn), .val (.ref sv), .val (.ref at'), .val (.ref r), .val (.ref a88_), .unset] [(.int b), (.int (1 : Int32)), (.ref a88_)])) (fun t_ hr_ => XS.iload A89_ hx rfl (Jvm.hb hby at_177) rfl hr_) ?_
    refine own_castore w89_ hx V89_ (by decide) (own_rng255 rb) (i := 1) rfl (by simp) ge (g := (mkF m 179 #[.val (.int i0), .val (.int i1), .val (.int i2), .val (.int i3), .val (.int (2 : Int32)), .val (.int (2 : Int32)), .val (.int a), .val (.int b), .val (.int x), .val (.int y), .val (.ref sp), .val (.ref sl), .val (.ref sn), .val (.ref sv), .val (.ref at'), .val (.ref r), .val (.ref a88_), .unset] [(.int b), (.int (1 : Int32)), (.ref a88_)])) rfl rfl (Jvm.hb hby at_179) (fun T90_ h90_ W90_ V90_ w90_ => ?_)
    have A90_ := own_at w90_
    show own_WP p e _ below s Z _ n0 _ T90_ (mkF m 180 #[.val (.int i0), .val (.int i1), .val (.int i2), .val (.int i3), .val (.int (2 : Int32)), .val (.int (2 : Int32)), .val (.int a), .val (.int b), .val (.int x), .val (.int y), .val (.ref sp), .val (.ref sl), .val (.ref sn), .val (.ref sv), .val (.ref at'), .val (.ref r), .val (.ref a88_), .unset] [])
    have EeW90_ := own_extWr EeW89_ W90_ gez
    refine own_by (T' := T90_) (g' := (mkF m 182 #[.val (.int i0), .val (.int i1), .val (.int i2), .val (.int i3), .val (.int (2 : Int32)), .val (.int (2 : Int32)), .val (.int a), .val (.int b), .val (.int x), .val (.int y), .val (.ref sp), .val (.ref sl), .val (.ref sn), .val (.ref sv), .val (.ref at'), .val (.ref r), .val (.ref a88_), .unset] [(.ref a88_)])) (fun t_ hr_ => XS.aload A90_ hx rfl (Jvm.hb hby at_180) rfl rfl hr_) ?_
    refine own_by (T' := T90_) (g' := (mkF m 184 #[.val (.int i0), .val (.int i1), .val (.int i2), .val (.int i3), .val (.int (2 : Int32)), .val (.int (2 : Int32)), .val (.int a), .val (.int b), .val (.int x), .val (.int y), .val (.ref sp), .val (.ref sl), .val (.ref sn), .val (.ref sv), .val (.ref at'), .val (.ref r), .val (.ref a88_), .unset] [(.int (2 : Int32)), (.ref a88_)])) (fun t_ hr_ => XS.iload A90_ hx rfl (Jvm.hb hby at_182) rfl hr_) ?_
    refine own_by (T' := T90_) (g' := (mkF m 186 #[.val (.int i0), .val (.int i1), .val (.int i2), .val (.int i3), .val (.int (2 : Int32)), .val (.int (2 : Int32)), .val (.int a), .val (.int b), .val (.int x), .val (.int y), .val (.ref sp), .val (.ref sl), .val (.ref sn), .val (.ref sv), .val (.ref at'), .val (.ref r), .val (.ref a88_), .unset] [(.int (58 : Int32)), (.int (2 : Int32)), (.ref a88_)])) (fun t_ hr_ => XS.bipush A90_ hx rfl (Jvm.hb hby at_184) hr_) ?_
    refine own_castore w90_ hx V90_ (by decide) (own_rng255 (by decide)) (i := 2) rfl (by simp) ge (g := (mkF m 186 #[.val (.int i0), .val (.int i1), .val (.int i2), .val (.int i3), .val (.int (2 : Int32)), .val (.int (2 : Int32)), .val (.int a), .val (.int b), .val (.int x), .val (.int y), .val (.ref sp), .val (.ref sl), .val (.ref sn), .val (.ref sv), .val (.ref at'), .val (.ref r), .val (.ref a88_), .unset] [(.int (58 : Int32)), (.int (2 : Int32)), (.ref a88_)])) rfl rfl (Jvm.hb hby at_186) (fun T91_ h91_ W91_ V91_ w91_ => ?_)
    have A91_ := own_at w91_
    show own_WP p e _ below s Z _ n0 _ T91_ (mkF m 187 #[.val (.int i0), .val (.int i1), .val (.int i2), .val (.int i3), .val (.int (2 : Int32)), .val (.int (2 : Int32)), .val (.int a), .val (.int b), .val (.int x), .val (.int y), .val (.ref sp), .val (.ref sl), .val (.ref sn), .val (.ref sv), .val (.ref at'), .val (.ref r), .val (.ref a88_), .unset] [])
    have EeW91_ := own_extWr EeW90_ W91_ gez
    refine own_by (T' := T91_) (g' := (mkF m 189 #[.val (.int i0), .val (.int i1), .val (.int i2), .val (.int i3), .val (.int (2 : Int32)), .val (.int (2 : Int32)), .val (.int a), .val (.int b), .val (.int x), .val (.int y), .val (.ref sp), .val (.ref sl), .val (.ref sn), .val (.ref sv), .val (.ref at'), .val (.ref r), .val (.ref a88_), .unset] [(.ref a88_)])) (fun t_ hr_ => XS.aload A91_ hx rfl (Jvm.hb hby at_187) rfl rfl hr_) ?_
    refine own_by (T' := T91_) (g' := (mkF m 191 #[.val (.int i0), .val (.int i1), .val (.int i2), .val (.int i3), .val (.int (2 : Int32)), .val (.int (2 : Int32)), .val (.int a), .val (.int b), .val (.int x), .val (.int y), .val (.ref sp), .val (.ref sl), .val (.ref sn), .val (.ref sv), .val (.ref at'), .val (.ref r), .val (.ref a88_), .unset] [(.int (2 : Int32)), (.ref a88_)])) (fun t_ hr_ => XS.iload A91_ hx rfl (Jvm.hb hby at_189) rfl hr_) ?_
    refine own_by (T' := T91_) (g' := (mkF m 192 #[.val (.int i0), .val (.int i1), .val (.int i2), .val (.int i3), .val (.int (2 : Int32)), .val (.int (2 : Int32)), .val (.int a), .val (.int b), .val (.int x), .val (.int y), .val (.ref sp), .val (.ref sl), .val (.ref sn), .val (.ref sv), .val (.ref at'), .val (.ref r), .val (.ref a88_), .unset] [(.int (1 : Int32)), (.int (2 : Int32)), (.ref a88_)])) (fun t_ hr_ => XS.iconst A91_ hx rfl (Jvm.hb hby at_191) hr_) ?_
    refine own_by (T' := T91_) (g' := (mkF m 193 #[.val (.int i0), .val (.int i1), .val (.int i2), .val (.int i3), .val (.int (2 : Int32)), .val (.int (2 : Int32)), .val (.int a), .val (.int b), .val (.int x), .val (.int y), .val (.ref sp), .val (.ref sl), .val (.ref sn), .val (.ref sv), .val (.ref at'), .val (.ref r), .val (.ref a88_), .unset] [(.int ((2 : Int32) + (1 : Int32))), (.ref a88_)])) (fun t_ hr_ => XS.iadd A91_ hx rfl (Jvm.hb hby at_192) rfl hr_) ?_
    refine own_by (T' := T91_) (g' := (mkF m 195 #[.val (.int i0), .val (.int i1), .val (.int i2), .val (.int i3), .val (.int (2 : Int32)), .val (.int (2 : Int32)), .val (.int a), .val (.int b), .val (.int x), .val (.int y), .val (.ref sp), .val (.ref sl), .val (.ref sn), .val (.ref sv), .val (.ref at'), .val (.ref r), .val (.ref a88_), .unset] [(.int x), (.int ((2 : Int32) + (1 : Int32))), (.ref a88_)])) (fun t_ hr_ => XS.iload A91_ hx rfl (Jvm.hb hby at_193) rfl hr_) ?_
    rw [show ((2 : Int32) + (1 : Int32)) = (3 : Int32) from (by decide)]
    show own_WP p e _ below s Z _ n0 _ T91_ (mkF m 195 #[.val (.int i0), .val (.int i1), .val (.int i2), .val (.int i3), .val (.int (2 : Int32)), .val (.int (2 : Int32)), .val (.int a), .val (.int b), .val (.int x), .val (.int y), .val (.ref sp), .val (.ref sl), .val (.ref sn), .val (.ref sv), .val (.ref at'), .val (.ref r), .val (.ref a88_), .unset] [(.int x), (.int (3 : Int32)), (.ref a88_)])
    refine own_castore w91_ hx V91_ (by decide) (own_rng255 rx) (i := 3) rfl (by simp) ge (g := (mkF m 195 #[.val (.int i0), .val (.int i1), .val (.int i2), .val (.int i3), .val (.int (2 : Int32)), .val (.int (2 : Int32)), .val (.int a), .val (.int b), .val (.int x), .val (.int y), .val (.ref sp), .val (.ref sl), .val (.ref sn), .val (.ref sv), .val (.ref at'), .val (.ref r), .val (.ref a88_), .unset] [(.int x), (.int (3 : Int32)), (.ref a88_)])) rfl rfl (Jvm.hb hby at_195) (fun T92_ h92_ W92_ V92_ w92_ => ?_)
    have A92_ := own_at w92_
    show own_WP p e _ below s Z _ n0 _ T92_ (mkF m 196 #[.val (.int i0), .val (.int i1), .val (.int i2), .val (.int i3), .val (.int (2 : Int32)), .val (.int (2 : Int32)), .val (.int a), .val (.int b), .val (.int x), .val (.int y), .val (.ref sp), .val (.ref sl), .val (.ref sn), .val (.ref sv), .val (.ref at'), .val (.ref r), .val (.ref a88_), .unset] [])
    have EeW92_ := own_extWr EeW91_ W92_ gez
    refine own_by (T' := T92_) (g' := (mkF m 198 #[.val (.int i0), .val (.int i1), .val (.int i2), .val (.int i3), .val (.int (2 : Int32)), .val (.int (2 : Int32)), .val (.int a), .val (.int b), .val (.int x), .val (.int y), .val (.ref sp), .val (.ref sl), .val (.ref sn), .val (.ref sv), .val (.ref at'), .val (.ref r), .val (.ref a88_), .unset] [(.ref a88_)])) (fun t_ hr_ => XS.aload A92_ hx rfl (Jvm.hb hby at_196) rfl rfl hr_) ?_
    refine own_by (T' := T92_) (g' := (mkF m 200 #[.val (.int i0), .val (.int i1), .val (.int i2), .val (.int i3), .val (.int (2 : Int32)), .val (.int (2 : Int32)), .val (.int a), .val (.int b), .val (.int x), .val (.int y), .val (.ref sp), .val (.ref sl), .val (.ref sn), .val (.ref sv), .val (.ref at'), .val (.ref r), .val (.ref a88_), .unset] [(.int (2 : Int32)), (.ref a88_)])) (fun t_ hr_ => XS.iload A92_ hx rfl (Jvm.hb hby at_198) rfl hr_) ?_
    refine own_by (T' := T92_) (g' := (mkF m 201 #[.val (.int i0), .val (.int i1), .val (.int i2), .val (.int i3), .val (.int (2 : Int32)), .val (.int (2 : Int32)), .val (.int a), .val (.int b), .val (.int x), .val (.int y), .val (.ref sp), .val (.ref sl), .val (.ref sn), .val (.ref sv), .val (.ref at'), .val (.ref r), .val (.ref a88_), .unset] [(.int (2 : Int32)), (.int (2 : Int32)), (.ref a88_)])) (fun t_ hr_ => XS.iconst A92_ hx rfl (Jvm.hb hby at_200) hr_) ?_
    refine own_by (T' := T92_) (g' := (mkF m 202 #[.val (.int i0), .val (.int i1), .val (.int i2), .val (.int i3), .val (.int (2 : Int32)), .val (.int (2 : Int32)), .val (.int a), .val (.int b), .val (.int x), .val (.int y), .val (.ref sp), .val (.ref sl), .val (.ref sn), .val (.ref sv), .val (.ref at'), .val (.ref r), .val (.ref a88_), .unset] [(.int ((2 : Int32) + (2 : Int32))), (.ref a88_)])) (fun t_ hr_ => XS.iadd A92_ hx rfl (Jvm.hb hby at_201) rfl hr_) ?_
    refine own_by (T' := T92_) (g' := (mkF m 204 #[.val (.int i0), .val (.int i1), .val (.int i2), .val (.int i3), .val (.int (2 : Int32)), .val (.int (2 : Int32)), .val (.int a), .val (.int b), .val (.int x), .val (.int y), .val (.ref sp), .val (.ref sl), .val (.ref sn), .val (.ref sv), .val (.ref at'), .val (.ref r), .val (.ref a88_), .unset] [(.int y), (.int ((2 : Int32) + (2 : Int32))), (.ref a88_)])) (fun t_ hr_ => XS.iload A92_ hx rfl (Jvm.hb hby at_202) rfl hr_) ?_
    rw [show ((2 : Int32) + (2 : Int32)) = (4 : Int32) from (by decide)]
    show own_WP p e _ below s Z _ n0 _ T92_ (mkF m 204 #[.val (.int i0), .val (.int i1), .val (.int i2), .val (.int i3), .val (.int (2 : Int32)), .val (.int (2 : Int32)), .val (.int a), .val (.int b), .val (.int x), .val (.int y), .val (.ref sp), .val (.ref sl), .val (.ref sn), .val (.ref sv), .val (.ref at'), .val (.ref r), .val (.ref a88_), .unset] [(.int y), (.int (4 : Int32)), (.ref a88_)])
    refine own_castore w92_ hx V92_ (by decide) (own_rng255 ry) (i := 4) rfl (by simp) ge (g := (mkF m 204 #[.val (.int i0), .val (.int i1), .val (.int i2), .val (.int i3), .val (.int (2 : Int32)), .val (.int (2 : Int32)), .val (.int a), .val (.int b), .val (.int x), .val (.int y), .val (.ref sp), .val (.ref sl), .val (.ref sn), .val (.ref sv), .val (.ref at'), .val (.ref r), .val (.ref a88_), .unset] [(.int y), (.int (4 : Int32)), (.ref a88_)])) rfl rfl (Jvm.hb hby at_204) (fun T93_ h93_ W93_ V93_ w93_ => ?_)
    have A93_ := own_at w93_
    show own_WP p e _ below s Z _ n0 _ T93_ (mkF m 205 #[.val (.int i0), .val (.int i1), .val (.int i2), .val (.int i3), .val (.int (2 : Int32)), .val (.int (2 : Int32)), .val (.int a), .val (.int b), .val (.int x), .val (.int y), .val (.ref sp), .val (.ref sl), .val (.ref sn), .val (.ref sv), .val (.ref at'), .val (.ref r), .val (.ref a88_), .unset] [])
    have EeW93_ := own_extWr EeW92_ W93_ gez
    refine own_by (T' := T93_) (g' := (mkF m 207 #[.val (.int i0), .val (.int i1), .val (.int i2), .val (.int i3), .val (.int (2 : Int32)), .val (.int (2 : Int32)), .val (.int a), .val (.int b), .val (.int x), .val (.int y), .val (.ref sp), .val (.ref sl), .val (.ref sn), .val (.ref sv), .val (.ref at'), .val (.ref r), .val (.ref a88_), .unset] [(.int (2 : Int32))])) (fun t_ hr_ => XS.iload A93_ hx rfl (Jvm.hb hby at_205) rfl hr_) ?_
    refine own_by (T' := T93_) (g' := (mkF m 208 #[.val (.int i0), .val (.int i1), .val (.int i2), .val (.int i3), .val (.int (2 : Int32)), .val (.int (2 : Int32)), .val (.int a), .val (.int b), .val (.int x), .val (.int y), .val (.ref sp), .val (.ref sl), .val (.ref sn), .val (.ref sv), .val (.ref at'), .val (.ref r), .val (.ref a88_), .unset] [(.int (1 : Int32)), (.int (2 : Int32))])) (fun t_ hr_ => XS.iconst A93_ hx rfl (Jvm.hb hby at_207) hr_) ?_
    refine own_by (T' := T93_) (g' := (mkF m 209 #[.val (.int i0), .val (.int i1), .val (.int i2), .val (.int i3), .val (.int (2 : Int32)), .val (.int (2 : Int32)), .val (.int a), .val (.int b), .val (.int x), .val (.int y), .val (.ref sp), .val (.ref sl), .val (.ref sn), .val (.ref sv), .val (.ref at'), .val (.ref r), .val (.ref a88_), .unset] [(.int ((2 : Int32) + (1 : Int32)))])) (fun t_ hr_ => XS.iadd A93_ hx rfl (Jvm.hb hby at_208) rfl hr_) ?_
    refine own_by (T' := T93_) (g' := (mkF m 211 #[.val (.int i0), .val (.int i1), .val (.int i2), .val (.int i3), .val (.int (2 : Int32)), .val (.int (2 : Int32)), .val (.int a), .val (.int b), .val (.int x), .val (.int y), .val (.ref sp), .val (.ref sl), .val (.ref sn), .val (.ref sv), .val (.ref at'), .val (.ref r), .val (.ref a88_), .unset] [(.int (2 : Int32)), (.int ((2 : Int32) + (1 : Int32)))])) (fun t_ hr_ => XS.iload A93_ hx rfl (Jvm.hb hby at_209) rfl hr_) ?_
    refine own_by (T' := T93_) (g' := (mkF m 212 #[.val (.int i0), .val (.int i1), .val (.int i2), .val (.int i3), .val (.int (2 : Int32)), .val (.int (2 : Int32)), .val (.int a), .val (.int b), .val (.int x), .val (.int y), .val (.ref sp), .val (.ref sl), .val (.ref sn), .val (.ref sv), .val (.ref at'), .val (.ref r), .val (.ref a88_), .unset] [(.int (((2 : Int32) + (1 : Int32)) + (2 : Int32)))])) (fun t_ hr_ => XS.iadd A93_ hx rfl (Jvm.hb hby at_211) rfl hr_) ?_
    refine own_by (T' := T93_) (g' := (mkF m 214 #[.val (.int i0), .val (.int i1), .val (.int i2), .val (.int i3), .val (.int (2 : Int32)), .val (.int (2 : Int32)), .val (.int a), .val (.int b), .val (.int x), .val (.int y), .val (.ref sp), .val (.ref sl), .val (.ref sn), .val (.ref sv), .val (.ref at'), .val (.ref r), .val (.ref a88_), .val (.int (((2 : Int32) + (1 : Int32)) + (2 : Int32)))] [])) (fun t_ hr_ => XS.istore A93_ hx rfl (Jvm.hb hby at_212) rfl (l' := #[.val (.int i0), .val (.int i1), .val (.int i2), .val (.int i3), .val (.int (2 : Int32)), .val (.int (2 : Int32)), .val (.int a), .val (.int b), .val (.int x), .val (.int y), .val (.ref sp), .val (.ref sl), .val (.ref sn), .val (.ref sv), .val (.ref at'), .val (.ref r), .val (.ref a88_), .val (.int (((2 : Int32) + (1 : Int32)) + (2 : Int32)))]) rfl hr_) ?_
    rw [show (((2 : Int32) + (1 : Int32)) + (2 : Int32)) = (5 : Int32) from (by decide)]
    show own_WP p e _ below s Z _ n0 _ T93_ (mkF m 214 #[.val (.int i0), .val (.int i1), .val (.int i2), .val (.int i3), .val (.int (2 : Int32)), .val (.int (2 : Int32)), .val (.int a), .val (.int b), .val (.int x), .val (.int y), .val (.ref sp), .val (.ref sl), .val (.ref sn), .val (.ref sv), .val (.ref at'), .val (.ref r), .val (.ref a88_), .val (.int (5 : Int32))] [])
    refine own_by (T' := T93_) (g' := (mkF m 216 #[.val (.int i0), .val (.int i1), .val (.int i2), .val (.int i3), .val (.int (2 : Int32)), .val (.int (2 : Int32)), .val (.int a), .val (.int b), .val (.int x), .val (.int y), .val (.ref sp), .val (.ref sl), .val (.ref sn), .val (.ref sv), .val (.ref at'), .val (.ref r), .val (.ref a88_), .val (.int (5 : Int32))] [(.ref r)])) (fun t_ hr_ => XS.aload A93_ hx rfl (Jvm.hb hby at_214) rfl rfl hr_) ?_
    refine own_by (T' := T93_) (g' := (mkF m 219 #[.val (.int i0), .val (.int i1), .val (.int i2), .val (.int i3), .val (.int (2 : Int32)), .val (.int (2 : Int32)), .val (.int a), .val (.int b), .val (.int x), .val (.int y), .val (.ref sp), .val (.ref sl), .val (.ref sn), .val (.ref sv), .val (.ref at'), .val (.ref r), .val (.ref a88_), .val (.int (5 : Int32))] [])) (fun t_ hr_ => XS.ifnullNo A93_ hx rfl (Jvm.hb hby at_216) rfl hr_) ?_
    refine own_by (T' := T93_) (g' := (mkF m 221 #[.val (.int i0), .val (.int i1), .val (.int i2), .val (.int i3), .val (.int (2 : Int32)), .val (.int (2 : Int32)), .val (.int a), .val (.int b), .val (.int x), .val (.int y), .val (.ref sp), .val (.ref sl), .val (.ref sn), .val (.ref sv), .val (.ref at'), .val (.ref r), .val (.ref a88_), .val (.int (5 : Int32))] [(.ref r)])) (fun t_ hr_ => XS.aload A93_ hx rfl (Jvm.hb hby at_219) rfl rfl hr_) ?_
    have Sz : own_Str Z h93_ r ([a, b, 58, x, y] : List Int32) := by first | exact S0.ext EeW93_ | (have q := S0.ext EeW93_; simpa [own_nc] using q)
    refine own_callV w93_ hx (y := (⟨"java/lang/String", "length", "()I"⟩ : MethodName)) (z := (⟨"java/lang/String", "length", "()I"⟩ : MethodName)) (hw _ (List.mem_of_getElem? (i := 178) rfl)) (hw _ (List.mem_of_getElem? (i := 96) rfl)) (fun u hu => notFace_of_selects (args := #[]) (mvT hu (hw _ (List.mem_of_getElem? (i := 98) rfl)))) (hw _ (List.mem_of_getElem? (i := 98) rfl)) (hw _ (List.mem_of_getElem? (i := 97) rfl)) (by decide) (kc := 0) (ks := 0) (a := r) (argsL := []) (rest := []) (own_payLen (W := 0) w93_ hEL (own_wLen hw) (hw _ (List.mem_of_getElem? (i := 5) rfl)) SC Sz (by decide) (by decide)) Sz.exa (g := (mkF m 221 #[.val (.int i0), .val (.int i1), .val (.int i2), .val (.int i3), .val (.int (2 : Int32)), .val (.int (2 : Int32)), .val (.int a), .val (.int b), .val (.int x), .val (.int y), .val (.ref sp), .val (.ref sl), .val (.ref sn), .val (.ref sv), .val (.ref at'), .val (.ref r), .val (.ref a88_), .val (.int (5 : Int32))] [(.ref r)])) rfl (by rw [hml]; rfl) (lenOf pd_691884 rfl) rfl (by show 2 * 0 + _ ≤ _; exact Nat.le_of_eq rfl) (Jvm.hb hby at_221) (by decide) (by decide) (fun v94_ T94_ vm94_ h94_ q94_ C94_ w94_ => ?_)
    obtain ⟨rfl, rfl⟩ := q94_
    have A94_ := own_at w94_
    show own_WP p e _ below s Z _ n0 _ T94_ (mkF m 224 #[.val (.int i0), .val (.int i1), .val (.int i2), .val (.int i3), .val (.int (2 : Int32)), .val (.int (2 : Int32)), .val (.int a), .val (.int b), .val (.int x), .val (.int y), .val (.ref sp), .val (.ref sl), .val (.ref sn), .val (.ref sv), .val (.ref at'), .val (.ref r), .val (.ref a88_), .val (.int (5 : Int32))] [(.int (Int32.ofNat ([a, b, 58, x, y] : List Int32).length))])
    refine own_by (T' := T94_) (g' := (mkF m 226 #[.val (.int i0), .val (.int i1), .val (.int i2), .val (.int i3), .val (.int (2 : Int32)), .val (.int (2 : Int32)), .val (.int a), .val (.int b), .val (.int x), .val (.int y), .val (.ref sp), .val (.ref sl), .val (.ref sn), .val (.ref sv), .val (.ref at'), .val (.ref r), .val (.ref a88_), .val (.int (5 : Int32))] [(.int (5 : Int32)), (.int (Int32.ofNat ([a, b, 58, x, y] : List Int32).length))])) (fun t_ hr_ => XS.iload A94_ hx rfl (Jvm.hb hby at_224) rfl hr_) ?_
    refine own_by (T' := T94_) (g' := (mkF m 231 #[.val (.int i0), .val (.int i1), .val (.int i2), .val (.int i3), .val (.int (2 : Int32)), .val (.int (2 : Int32)), .val (.int a), .val (.int b), .val (.int x), .val (.int y), .val (.ref sp), .val (.ref sl), .val (.ref sn), .val (.ref sv), .val (.ref at'), .val (.ref r), .val (.ref a88_), .val (.int (5 : Int32))] [])) (fun t_ hr_ => XS.icmpYes A94_ hx rfl (pc0 := 226) (pc' := 231) rfl (Jvm.hb hby at_226) rfl (teq (rfl)).1 (by decide) (by decide) hr_) ?_
    refine own_by (T' := T94_) (g' := (mkF m 233 #[.val (.int i0), .val (.int i1), .val (.int i2), .val (.int i3), .val (.int (2 : Int32)), .val (.int (2 : Int32)), .val (.int a), .val (.int b), .val (.int x), .val (.int y), .val (.ref sp), .val (.ref sl), .val (.ref sn), .val (.ref sv), .val (.ref at'), .val (.ref r), .val (.ref a88_), .val (.int (5 : Int32))] [(.ref r)])) (fun t_ hr_ => XS.aload A94_ hx rfl (Jvm.hb hby at_231) rfl rfl hr_) ?_
    refine own_by (T' := T94_) (g' := (mkF m 235 #[.val (.int i0), .val (.int i1), .val (.int i2), .val (.int i3), .val (.int (2 : Int32)), .val (.int (2 : Int32)), .val (.int a), .val (.int b), .val (.int x), .val (.int y), .val (.ref sp), .val (.ref sl), .val (.ref sn), .val (.ref sv), .val (.ref at'), .val (.ref r), .val (.ref a88_), .val (.int (5 : Int32))] [(.ref a88_), (.ref r)])) (fun t_ hr_ => XS.aload A94_ hx rfl (Jvm.hb hby at_233) rfl rfl hr_) ?_
    refine own_by (T' := T94_) (g' := (mkF m 237 #[.val (.int i0), .val (.int i1), .val (.int i2), .val (.int i3), .val (.int (2 : Int32)), .val (.int (2 : Int32)), .val (.int a), .val (.int b), .val (.int x), .val (.int y), .val (.ref sp), .val (.ref sl), .val (.ref sn), .val (.ref sv), .val (.ref at'), .val (.ref r), .val (.ref a88_), .val (.int (5 : Int32))] [(.int (5 : Int32)), (.ref a88_), (.ref r)])) (fun t_ hr_ => XS.iload A94_ hx rfl (Jvm.hb hby at_235) rfl hr_) ?_
    refine own_by (T' := T94_) (g' := (mkF m 238 #[.val (.int i0), .val (.int i1), .val (.int i2), .val (.int i3), .val (.int (2 : Int32)), .val (.int (2 : Int32)), .val (.int a), .val (.int b), .val (.int x), .val (.int y), .val (.ref sp), .val (.ref sl), .val (.ref sn), .val (.ref sv), .val (.ref at'), .val (.ref r), .val (.ref a88_), .val (.int (5 : Int32))] [(.int (0 : Int32)), (.int (5 : Int32)), (.ref a88_), (.ref r)])) (fun t_ hr_ => XS.iconst A94_ hx rfl (Jvm.hb hby at_237) hr_) ?_
    refine own_callS w94_ hx (y := (⟨"com/example/sigillo/sigillo/soap/AttributeNamePinLaw", "at", "(Ljava/lang/String;[CII)Z"⟩ : MethodName)) (hw _ (List.mem_of_getElem? (i := 179) rfl)) (hw _ (List.mem_of_getElem? (i := 180) rfl)) (hw _ (List.mem_of_getElem? (i := 2) rfl)) (hw _ (List.mem_of_getElem? (i := 181) rfl)) (by decide) (kc := 0) (ks := 0) (argsL := [(.ref r), (.ref a88_), (.int (5 : Int32)), (.int (0 : Int32))]) (rest := []) (own_payCt (W := 0) (ctAt l Z a0 hw SC SF n0 h93_ (own_old w94_) r a88_ k88_ ([a, b, 58, x, y] : List Int32) ([a, b, (58 : Int32), x, y] : List Int32) 5 0 Sz V93_ rfl rfl (by decide) (by decide) (fun q => rfl)) w94_ (hw _ (List.mem_of_getElem? (i := 181) rfl)) (hw _ (List.mem_of_getElem? (i := 2) rfl)) hEL (by decide) (by decide)) (g := (mkF m 238 #[.val (.int i0), .val (.int i1), .val (.int i2), .val (.int i3), .val (.int (2 : Int32)), .val (.int (2 : Int32)), .val (.int a), .val (.int b), .val (.int x), .val (.int y), .val (.ref sp), .val (.ref sl), .val (.ref sn), .val (.ref sv), .val (.ref at'), .val (.ref r), .val (.ref a88_), .val (.int (5 : Int32))] [(.int (0 : Int32)), (.int (5 : Int32)), (.ref a88_), (.ref r)])) rfl (by rw [hml]; rfl) (lenOf pd_805342835 rfl) rfl (by show 2 * 0 + _ ≤ _; exact Nat.le_of_eq rfl) (Jvm.hb hby at_238) (by decide) (by decide) (fun v95_ T95_ vm95_ h95_ q95_ C95_ w95_ => ?_)
    obtain ⟨rfl, rfl⟩ := q95_
    have A95_ := own_at w95_
    show own_WP p e _ below s Z _ n0 _ T95_ (mkF m 241 #[.val (.int i0), .val (.int i1), .val (.int i2), .val (.int i3), .val (.int (2 : Int32)), .val (.int (2 : Int32)), .val (.int a), .val (.int b), .val (.int x), .val (.int y), .val (.ref sp), .val (.ref sl), .val (.ref sn), .val (.ref sv), .val (.ref at'), .val (.ref r), .val (.ref a88_), .val (.int (5 : Int32))] [(.int (1 : Int32))])
    refine own_by (T' := T95_) (g' := (mkF m 244 #[.val (.int i0), .val (.int i1), .val (.int i2), .val (.int i3), .val (.int (2 : Int32)), .val (.int (2 : Int32)), .val (.int a), .val (.int b), .val (.int x), .val (.int y), .val (.ref sp), .val (.ref sl), .val (.ref sn), .val (.ref sv), .val (.ref at'), .val (.ref r), .val (.ref a88_), .val (.int (5 : Int32))] [])) (fun t_ hr_ => XS.ifNo A95_ hx rfl (Jvm.hb hby at_241) rfl ((if0 _ _).trans (feq (by decide : ¬ (1 : Int32) = 0)).1) hr_) ?_
    refine own_by (T' := T95_) (g' := (mkF m 246 #[.val (.int i0), .val (.int i1), .val (.int i2), .val (.int i3), .val (.int (2 : Int32)), .val (.int (2 : Int32)), .val (.int a), .val (.int b), .val (.int x), .val (.int y), .val (.ref sp), .val (.ref sl), .val (.ref sn), .val (.ref sv), .val (.ref at'), .val (.ref r), .val (.ref a88_), .val (.int (5 : Int32))] [(.ref r)])) (fun t_ hr_ => XS.aload A95_ hx rfl (Jvm.hb hby at_244) rfl rfl hr_) ?_
    refine own_by (T' := T95_) (g' := (mkF m 248 #[.val (.int i0), .val (.int i1), .val (.int i2), .val (.int i3), .val (.int (2 : Int32)), .val (.int (2 : Int32)), .val (.int a), .val (.int b), .val (.int x), .val (.int y), .val (.ref sp), .val (.ref sl), .val (.ref sn), .val (.ref sv), .val (.ref at'), .val (.ref r), .val (.ref a88_), .val (.int (5 : Int32))] [(.ref a88_), (.ref r)])) (fun t_ hr_ => XS.aload A95_ hx rfl (Jvm.hb hby at_246) rfl rfl hr_) ?_
    refine own_by (T' := T95_) (g' := (mkF m 250 #[.val (.int i0), .val (.int i1), .val (.int i2), .val (.int i3), .val (.int (2 : Int32)), .val (.int (2 : Int32)), .val (.int a), .val (.int b), .val (.int x), .val (.int y), .val (.ref sp), .val (.ref sl), .val (.ref sn), .val (.ref sv), .val (.ref at'), .val (.ref r), .val (.ref a88_), .val (.int (5 : Int32))] [(.int (5 : Int32)), (.ref a88_), (.ref r)])) (fun t_ hr_ => XS.iload A95_ hx rfl (Jvm.hb hby at_248) rfl hr_) ?_
    refine own_by (T' := T95_) (g' := (mkF m 251 #[.val (.int i0), .val (.int i1), .val (.int i2), .val (.int i3), .val (.int (2 : Int32)), .val (.int (2 : Int32)), .val (.int a), .val (.int b), .val (.int x), .val (.int y), .val (.ref sp), .val (.ref sl), .val (.ref sn), .val (.ref sv), .val (.ref at'), .val (.ref r), .val (.ref a88_), .val (.int (5 : Int32))] [(.int (1 : Int32)), (.int (5 : Int32)), (.ref a88_), (.ref r)])) (fun t_ hr_ => XS.iconst A95_ hx rfl (Jvm.hb hby at_250) hr_) ?_
    refine own_callS w95_ hx (y := (⟨"com/example/sigillo/sigillo/soap/AttributeNamePinLaw", "at", "(Ljava/lang/String;[CII)Z"⟩ : MethodName)) (hw _ (List.mem_of_getElem? (i := 179) rfl)) (hw _ (List.mem_of_getElem? (i := 180) rfl)) (hw _ (List.mem_of_getElem? (i := 2) rfl)) (hw _ (List.mem_of_getElem? (i := 181) rfl)) (by decide) (kc := 0) (ks := 0) (argsL := [(.ref r), (.ref a88_), (.int (5 : Int32)), (.int (1 : Int32))]) (rest := []) (own_payCt (W := 0) (ctAt l Z a0 hw SC SF n0 h93_ (own_old w95_) r a88_ k88_ ([a, b, 58, x, y] : List Int32) ([a, b, (58 : Int32), x, y] : List Int32) 5 1 Sz V93_ rfl rfl (by decide) (by decide) (fun q => rfl)) w95_ (hw _ (List.mem_of_getElem? (i := 181) rfl)) (hw _ (List.mem_of_getElem? (i := 2) rfl)) hEL (by decide) (by decide)) (g := (mkF m 251 #[.val (.int i0), .val (.int i1), .val (.int i2), .val (.int i3), .val (.int (2 : Int32)), .val (.int (2 : Int32)), .val (.int a), .val (.int b), .val (.int x), .val (.int y), .val (.ref sp), .val (.ref sl), .val (.ref sn), .val (.ref sv), .val (.ref at'), .val (.ref r), .val (.ref a88_), .val (.int (5 : Int32))] [(.int (1 : Int32)), (.int (5 : Int32)), (.ref a88_), (.ref r)])) rfl (by rw [hml]; rfl) (lenOf pd_805342835 rfl) rfl (by show 2 * 0 + _ ≤ _; exact Nat.le_of_eq rfl) (Jvm.hb hby at_251) (by decide) (by decide) (fun v96_ T96_ vm96_ h96_ q96_ C96_ w96_ => ?_)
    obtain ⟨rfl, rfl⟩ := q96_
    have A96_ := own_at w96_
    show own_WP p e _ below s Z _ n0 _ T96_ (mkF m 254 #[.val (.int i0), .val (.int i1), .val (.int i2), .val (.int i3), .val (.int (2 : Int32)), .val (.int (2 : Int32)), .val (.int a), .val (.int b), .val (.int x), .val (.int y), .val (.ref sp), .val (.ref sl), .val (.ref sn), .val (.ref sv), .val (.ref at'), .val (.ref r), .val (.ref a88_), .val (.int (5 : Int32))] [(.int (1 : Int32))])
    refine own_by (T' := T96_) (g' := (mkF m 257 #[.val (.int i0), .val (.int i1), .val (.int i2), .val (.int i3), .val (.int (2 : Int32)), .val (.int (2 : Int32)), .val (.int a), .val (.int b), .val (.int x), .val (.int y), .val (.ref sp), .val (.ref sl), .val (.ref sn), .val (.ref sv), .val (.ref at'), .val (.ref r), .val (.ref a88_), .val (.int (5 : Int32))] [])) (fun t_ hr_ => XS.ifNo A96_ hx rfl (Jvm.hb hby at_254) rfl ((if0 _ _).trans (feq (by decide : ¬ (1 : Int32) = 0)).1) hr_) ?_
    refine own_by (T' := T96_) (g' := (mkF m 259 #[.val (.int i0), .val (.int i1), .val (.int i2), .val (.int i3), .val (.int (2 : Int32)), .val (.int (2 : Int32)), .val (.int a), .val (.int b), .val (.int x), .val (.int y), .val (.ref sp), .val (.ref sl), .val (.ref sn), .val (.ref sv), .val (.ref at'), .val (.ref r), .val (.ref a88_), .val (.int (5 : Int32))] [(.ref r)])) (fun t_ hr_ => XS.aload A96_ hx rfl (Jvm.hb hby at_257) rfl rfl hr_) ?_
    refine own_by (T' := T96_) (g' := (mkF m 261 #[.val (.int i0), .val (.int i1), .val (.int i2), .val (.int i3), .val (.int (2 : Int32)), .val (.int (2 : Int32)), .val (.int a), .val (.int b), .val (.int x), .val (.int y), .val (.ref sp), .val (.ref sl), .val (.ref sn), .val (.ref sv), .val (.ref at'), .val (.ref r), .val (.ref a88_), .val (.int (5 : Int32))] [(.ref a88_), (.ref r)])) (fun t_ hr_ => XS.aload A96_ hx rfl (Jvm.hb hby at_259) rfl rfl hr_) ?_
    refine own_by (T' := T96_) (g' := (mkF m 263 #[.val (.int i0), .val (.int i1), .val (.int i2), .val (.int i3), .val (.int (2 : Int32)), .val (.int (2 : Int32)), .val (.int a), .val (.int b), .val (.int x), .val (.int y), .val (.ref sp), .val (.ref sl), .val (.ref sn), .val (.ref sv), .val (.ref at'), .val (.ref r), .val (.ref a88_), .val (.int (5 : Int32))] [(.int (5 : Int32)), (.ref a88_), (.ref r)])) (fun t_ hr_ => XS.iload A96_ hx rfl (Jvm.hb hby at_261) rfl hr_) ?_
    refine own_by (T' := T96_) (g' := (mkF m 264 #[.val (.int i0), .val (.int i1), .val (.int i2), .val (.int i3), .val (.int (2 : Int32)), .val (.int (2 : Int32)), .val (.int a), .val (.int b), .val (.int x), .val (.int y), .val (.ref sp), .val (.ref sl), .val (.ref sn), .val (.ref sv), .val (.ref at'), .val (.ref r), .val (.ref a88_), .val (.int (5 : Int32))] [(.int (2 : Int32)), (.int (5 : Int32)), (.ref a88_), (.ref r)])) (fun t_ hr_ => XS.iconst A96_ hx rfl (Jvm.hb hby at_263) hr_) ?_
    refine own_callS w96_ hx (y := (⟨"com/example/sigillo/sigillo/soap/AttributeNamePinLaw", "at", "(Ljava/lang/String;[CII)Z"⟩ : MethodName)) (hw _ (List.mem_of_getElem? (i := 179) rfl)) (hw _ (List.mem_of_getElem? (i := 180) rfl)) (hw _ (List.mem_of_getElem? (i := 2) rfl)) (hw _ (List.mem_of_getElem? (i := 181) rfl)) (by decide) (kc := 0) (ks := 0) (argsL := [(.ref r), (.ref a88_), (.int (5 : Int32)), (.int (2 : Int32))]) (rest := []) (own_payCt (W := 0) (ctAt l Z a0 hw SC SF n0 h93_ (own_old w96_) r a88_ k88_ ([a, b, 58, x, y] : List Int32) ([a, b, (58 : Int32), x, y] : List Int32) 5 2 Sz V93_ rfl rfl (by decide) (by decide) (fun q => rfl)) w96_ (hw _ (List.mem_of_getElem? (i := 181) rfl)) (hw _ (List.mem_of_getElem? (i := 2) rfl)) hEL (by decide) (by decide)) (g := (mkF m 264 #[.val (.int i0), .val (.int i1), .val (.int i2), .val (.int i3), .val (.int (2 : Int32)), .val (.int (2 : Int32)), .val (.int a), .val (.int b), .val (.int x), .val (.int y), .val (.ref sp), .val (.ref sl), .val (.ref sn), .val (.ref sv), .val (.ref at'), .val (.ref r), .val (.ref a88_), .val (.int (5 : Int32))] [(.int (2 : Int32)), (.int (5 : Int32)), (.ref a88_), (.ref r)])) rfl (by rw [hml]; rfl) (lenOf pd_805342835 rfl) rfl (by show 2 * 0 + _ ≤ _; exact Nat.le_of_eq rfl) (Jvm.hb hby at_264) (by decide) (by decide) (fun v97_ T97_ vm97_ h97_ q97_ C97_ w97_ => ?_)
    obtain ⟨rfl, rfl⟩ := q97_
    have A97_ := own_at w97_
    show own_WP p e _ below s Z _ n0 _ T97_ (mkF m 267 #[.val (.int i0), .val (.int i1), .val (.int i2), .val (.int i3), .val (.int (2 : Int32)), .val (.int (2 : Int32)), .val (.int a), .val (.int b), .val (.int x), .val (.int y), .val (.ref sp), .val (.ref sl), .val (.ref sn), .val (.ref sv), .val (.ref at'), .val (.ref r), .val (.ref a88_), .val (.int (5 : Int32))] [(.int (1 : Int32))])
    refine own_by (T' := T97_) (g' := (mkF m 270 #[.val (.int i0), .val (.int i1), .val (.int i2), .val (.int i3), .val (.int (2 : Int32)), .val (.int (2 : Int32)), .val (.int a), .val (.int b), .val (.int x), .val (.int y), .val (.ref sp), .val (.ref sl), .val (.ref sn), .val (.ref sv), .val (.ref at'), .val (.ref r), .val (.ref a88_), .val (.int (5 : Int32))] [])) (fun t_ hr_ => XS.ifNo A97_ hx rfl (Jvm.hb hby at_267) rfl ((if0 _ _).trans (feq (by decide : ¬ (1 : Int32) = 0)).1) hr_) ?_
    refine own_by (T' := T97_) (g' := (mkF m 272 #[.val (.int i0), .val (.int i1), .val (.int i2), .val (.int i3), .val (.int (2 : Int32)), .val (.int (2 : Int32)), .val (.int a), .val (.int b), .val (.int x), .val (.int y), .val (.ref sp), .val (.ref sl), .val (.ref sn), .val (.ref sv), .val (.ref at'), .val (.ref r), .val (.ref a88_), .val (.int (5 : Int32))] [(.ref r)])) (fun t_ hr_ => XS.aload A97_ hx rfl (Jvm.hb hby at_270) rfl rfl hr_) ?_
    refine own_by (T' := T97_) (g' := (mkF m 274 #[.val (.int i0), .val (.int i1), .val (.int i2), .val (.int i3), .val (.int (2 : Int32)), .val (.int (2 : Int32)), .val (.int a), .val (.int b), .val (.int x), .val (.int y), .val (.ref sp), .val (.ref sl), .val (.ref sn), .val (.ref sv), .val (.ref at'), .val (.ref r), .val (.ref a88_), .val (.int (5 : Int32))] [(.ref a88_), (.ref r)])) (fun t_ hr_ => XS.aload A97_ hx rfl (Jvm.hb hby at_272) rfl rfl hr_) ?_
    refine own_by (T' := T97_) (g' := (mkF m 276 #[.val (.int i0), .val (.int i1), .val (.int i2), .val (.int i3), .val (.int (2 : Int32)), .val (.int (2 : Int32)), .val (.int a), .val (.int b), .val (.int x), .val (.int y), .val (.ref sp), .val (.ref sl), .val (.ref sn), .val (.ref sv), .val (.ref at'), .val (.ref r), .val (.ref a88_), .val (.int (5 : Int32))] [(.int (5 : Int32)), (.ref a88_), (.ref r)])) (fun t_ hr_ => XS.iload A97_ hx rfl (Jvm.hb hby at_274) rfl hr_) ?_
    refine own_by (T' := T97_) (g' := (mkF m 277 #[.val (.int i0), .val (.int i1), .val (.int i2), .val (.int i3), .val (.int (2 : Int32)), .val (.int (2 : Int32)), .val (.int a), .val (.int b), .val (.int x), .val (.int y), .val (.ref sp), .val (.ref sl), .val (.ref sn), .val (.ref sv), .val (.ref at'), .val (.ref r), .val (.ref a88_), .val (.int (5 : Int32))] [(.int (3 : Int32)), (.int (5 : Int32)), (.ref a88_), (.ref r)])) (fun t_ hr_ => XS.iconst A97_ hx rfl (Jvm.hb hby at_276) hr_) ?_
    refine own_callS w97_ hx (y := (⟨"com/example/sigillo/sigillo/soap/AttributeNamePinLaw", "at", "(Ljava/lang/String;[CII)Z"⟩ : MethodName)) (hw _ (List.mem_of_getElem? (i := 179) rfl)) (hw _ (List.mem_of_getElem? (i := 180) rfl)) (hw _ (List.mem_of_getElem? (i := 2) rfl)) (hw _ (List.mem_of_getElem? (i := 181) rfl)) (by decide) (kc := 0) (ks := 0) (argsL := [(.ref r), (.ref a88_), (.int (5 : Int32)), (.int (3 : Int32))]) (rest := []) (own_payCt (W := 0) (ctAt l Z a0 hw SC SF n0 h93_ (own_old w97_) r a88_ k88_ ([a, b, 58, x, y] : List Int32) ([a, b, (58 : Int32), x, y] : List Int32) 5 3 Sz V93_ rfl rfl (by decide) (by decide) (fun q => rfl)) w97_ (hw _ (List.mem_of_getElem? (i := 181) rfl)) (hw _ (List.mem_of_getElem? (i := 2) rfl)) hEL (by decide) (by decide)) (g := (mkF m 277 #[.val (.int i0), .val (.int i1), .val (.int i2), .val (.int i3), .val (.int (2 : Int32)), .val (.int (2 : Int32)), .val (.int a), .val (.int b), .val (.int x), .val (.int y), .val (.ref sp), .val (.ref sl), .val (.ref sn), .val (.ref sv), .val (.ref at'), .val (.ref r), .val (.ref a88_), .val (.int (5 : Int32))] [(.int (3 : Int32)), (.int (5 : Int32)), (.ref a88_), (.ref r)])) rfl (by rw [hml]; rfl) (lenOf pd_805342835 rfl) rfl (by show 2 * 0 + _ ≤ _; exact Nat.le_of_eq rfl) (Jvm.hb hby at_277) (by decide) (by decide) (fun v98_ T98_ vm98_ h98_ q98_ C98_ w98_ => ?_)
    obtain ⟨rfl, rfl⟩ := q98_
    have A98_ := own_at w98_
    show own_WP p e _ below s Z _ n0 _ T98_ (mkF m 280 #[.val (.int i0), .val (.int i1), .val (.int i2), .val (.int i3), .val (.int (2 : Int32)), .val (.int (2 : Int32)), .val (.int a), .val (.int b), .val (.int x), .val (.int y), .val (.ref sp), .val (.ref sl), .val (.ref sn), .val (.ref sv), .val (.ref at'), .val (.ref r), .val (.ref a88_), .val (.int (5 : Int32))] [(.int (1 : Int32))])
    refine own_by (T' := T98_) (g' := (mkF m 283 #[.val (.int i0), .val (.int i1), .val (.int i2), .val (.int i3), .val (.int (2 : Int32)), .val (.int (2 : Int32)), .val (.int a), .val (.int b), .val (.int x), .val (.int y), .val (.ref sp), .val (.ref sl), .val (.ref sn), .val (.ref sv), .val (.ref at'), .val (.ref r), .val (.ref a88_), .val (.int (5 : Int32))] [])) (fun t_ hr_ => XS.ifNo A98_ hx rfl (Jvm.hb hby at_280) rfl ((if0 _ _).trans (feq (by decide : ¬ (1 : Int32) = 0)).1) hr_) ?_
    refine own_by (T' := T98_) (g' := (mkF m 285 #[.val (.int i0), .val (.int i1), .val (.int i2), .val (.int i3), .val (.int (2 : Int32)), .val (.int (2 : Int32)), .val (.int a), .val (.int b), .val (.int x), .val (.int y), .val (.ref sp), .val (.ref sl), .val (.ref sn), .val (.ref sv), .val (.ref at'), .val (.ref r), .val (.ref a88_), .val (.int (5 : Int32))] [(.ref r)])) (fun t_ hr_ => XS.aload A98_ hx rfl (Jvm.hb hby at_283) rfl rfl hr_) ?_
    refine own_by (T' := T98_) (g' := (mkF m 287 #[.val (.int i0), .val (.int i1), .val (.int i2), .val (.int i3), .val (.int (2 : Int32)), .val (.int (2 : Int32)), .val (.int a), .val (.int b), .val (.int x), .val (.int y), .val (.ref sp), .val (.ref sl), .val (.ref sn), .val (.ref sv), .val (.ref at'), .val (.ref r), .val (.ref a88_), .val (.int (5 : Int32))] [(.ref a88_), (.ref r)])) (fun t_ hr_ => XS.aload A98_ hx rfl (Jvm.hb hby at_285) rfl rfl hr_) ?_
    refine own_by (T' := T98_) (g' := (mkF m 289 #[.val (.int i0), .val (.int i1), .val (.int i2), .val (.int i3), .val (.int (2 : Int32)), .val (.int (2 : Int32)), .val (.int a), .val (.int b), .val (.int x), .val (.int y), .val (.ref sp), .val (.ref sl), .val (.ref sn), .val (.ref sv), .val (.ref at'), .val (.ref r), .val (.ref a88_), .val (.int (5 : Int32))] [(.int (5 : Int32)), (.ref a88_), (.ref r)])) (fun t_ hr_ => XS.iload A98_ hx rfl (Jvm.hb hby at_287) rfl hr_) ?_
    refine own_by (T' := T98_) (g' := (mkF m 290 #[.val (.int i0), .val (.int i1), .val (.int i2), .val (.int i3), .val (.int (2 : Int32)), .val (.int (2 : Int32)), .val (.int a), .val (.int b), .val (.int x), .val (.int y), .val (.ref sp), .val (.ref sl), .val (.ref sn), .val (.ref sv), .val (.ref at'), .val (.ref r), .val (.ref a88_), .val (.int (5 : Int32))] [(.int (4 : Int32)), (.int (5 : Int32)), (.ref a88_), (.ref r)])) (fun t_ hr_ => XS.iconst A98_ hx rfl (Jvm.hb hby at_289) hr_) ?_
    refine own_callS w98_ hx (y := (⟨"com/example/sigillo/sigillo/soap/AttributeNamePinLaw", "at", "(Ljava/lang/String;[CII)Z"⟩ : MethodName)) (hw _ (List.mem_of_getElem? (i := 179) rfl)) (hw _ (List.mem_of_getElem? (i := 180) rfl)) (hw _ (List.mem_of_getElem? (i := 2) rfl)) (hw _ (List.mem_of_getElem? (i := 181) rfl)) (by decide) (kc := 0) (ks := 0) (argsL := [(.ref r), (.ref a88_), (.int (5 : Int32)), (.int (4 : Int32))]) (rest := []) (own_payCt (W := 0) (ctAt l Z a0 hw SC SF n0 h93_ (own_old w98_) r a88_ k88_ ([a, b, 58, x, y] : List Int32) ([a, b, (58 : Int32), x, y] : List Int32) 5 4 Sz V93_ rfl rfl (by decide) (by decide) (fun q => rfl)) w98_ (hw _ (List.mem_of_getElem? (i := 181) rfl)) (hw _ (List.mem_of_getElem? (i := 2) rfl)) hEL (by decide) (by decide)) (g := (mkF m 290 #[.val (.int i0), .val (.int i1), .val (.int i2), .val (.int i3), .val (.int (2 : Int32)), .val (.int (2 : Int32)), .val (.int a), .val (.int b), .val (.int x), .val (.int y), .val (.ref sp), .val (.ref sl), .val (.ref sn), .val (.ref sv), .val (.ref at'), .val (.ref r), .val (.ref a88_), .val (.int (5 : Int32))] [(.int (4 : Int32)), (.int (5 : Int32)), (.ref a88_), (.ref r)])) rfl (by rw [hml]; rfl) (lenOf pd_805342835 rfl) rfl (by show 2 * 0 + _ ≤ _; exact Nat.le_of_eq rfl) (Jvm.hb hby at_290) (by decide) (by decide) (fun v99_ T99_ vm99_ h99_ q99_ C99_ w99_ => ?_)
    obtain ⟨rfl, rfl⟩ := q99_
    have A99_ := own_at w99_
    show own_WP p e _ below s Z _ n0 _ T99_ (mkF m 293 #[.val (.int i0), .val (.int i1), .val (.int i2), .val (.int i3), .val (.int (2 : Int32)), .val (.int (2 : Int32)), .val (.int a), .val (.int b), .val (.int x), .val (.int y), .val (.ref sp), .val (.ref sl), .val (.ref sn), .val (.ref sv), .val (.ref at'), .val (.ref r), .val (.ref a88_), .val (.int (5 : Int32))] [(.int (1 : Int32))])
    refine own_by (T' := T99_) (g' := (mkF m 296 #[.val (.int i0), .val (.int i1), .val (.int i2), .val (.int i3), .val (.int (2 : Int32)), .val (.int (2 : Int32)), .val (.int a), .val (.int b), .val (.int x), .val (.int y), .val (.ref sp), .val (.ref sl), .val (.ref sn), .val (.ref sv), .val (.ref at'), .val (.ref r), .val (.ref a88_), .val (.int (5 : Int32))] [])) (fun t_ hr_ => XS.ifNo A99_ hx rfl (Jvm.hb hby at_293) rfl ((if0 _ _).trans (feq (by decide : ¬ (1 : Int32) = 0)).1) hr_) ?_
    refine own_by (T' := T99_) (g' := (mkF m 297 #[.val (.int i0), .val (.int i1), .val (.int i2), .val (.int i3), .val (.int (2 : Int32)), .val (.int (2 : Int32)), .val (.int a), .val (.int b), .val (.int x), .val (.int y), .val (.ref sp), .val (.ref sl), .val (.ref sn), .val (.ref sv), .val (.ref at'), .val (.ref r), .val (.ref a88_), .val (.int (5 : Int32))] [(.int (1 : Int32))])) (fun t_ hr_ => XS.iconst A99_ hx rfl (Jvm.hb hby at_296) hr_) ?_
    refine own_by (T' := T99_) (g' := (mkF m 301 #[.val (.int i0), .val (.int i1), .val (.int i2), .val (.int i3), .val (.int (2 : Int32)), .val (.int (2 : Int32)), .val (.int a), .val (.int b), .val (.int x), .val (.int y), .val (.ref sp), .val (.ref sl), .val (.ref sn), .val (.ref sv), .val (.ref at'), .val (.ref r), .val (.ref a88_), .val (.int (5 : Int32))] [(.int (1 : Int32))])) (fun t_ hr_ => XS.goto A99_ hx rfl (pc0 := 297) (pc' := 301) rfl (Jvm.hb hby at_297) (by decide) (by decide) hr_) ?_
    exact own_retZ w99_ hx hEL hlk hret (Or.inr rfl) (Jvm.hb hby at_301) (by decide) (by decide) rfl

theorem pd_446650151 : parseMethodDescriptor "(ICC)Ljava/lang/String;" = some ⟨[.int, .char, .char], some (.object "java/lang/String")⟩ := by decide +kernel
theorem pd_514189454 : parseMethodDescriptor "(Ljava/lang/String;Ljava/lang/String;Ljava/lang/String;Ljava/lang/String;)V" = some ⟨[(.object "java/lang/String"), (.object "java/lang/String"), (.object "java/lang/String"), (.object "java/lang/String")], none⟩ := by decide +kernel
theorem pn_120 : plainFor x = true := by first | exact plainFor_of_name (by first | (simp [plainName, overriddenIn]; done) | decide +kernel) | decide +kernel
theorem ef_ct0 (m : MethodId) (x0 : Int32) (x1 : Int32) (x2 : Int32) (x3 : Int32) : entryFrame m #[(.int x0), (.int x1), (.int x2), (.int x3)] maxLocals = mkF m 0 #[.val (.int x0), .val (.int x1), .val (.int x2), .val (.int x3), .unset, .unset, .unset, .unset, .unset, .unset, .unset, .unset, .unset, .unset, .unset, .unset, .unset, .unset] [] := by first | (simp [entryFrame, mkF, argsToLocals, Value.category, maxLocals]; done) | rfl
set_option maxRecDepth 65536 in
set_option maxHeartbeats 40000000 in
theorem ct0 (l : Launch) (Z : State) (a0 : Array Value) (hw : ∀ d ∈ tables_1, d.before a0 Z = true) (SC : own_SC Z) (SF : own_SF Z) (n0 : Nat) (h0 : Heap) (O0 : Old Z n0 h0) (i0 i1 i2 i3 : Int32)  :
    own_Ct l x code maxLocals ret room_1 Z consts_1 n0 #[(.int i0), (.int i1), (.int i2), (.int i3)] h0 [] (fun v h => v = some (.int 1)) := by
  have hEL := own_EL hw
  refine own_body pn_120 O0 (fun p e s m below meth cc_ T0 vm0 hx hby hml0 hret hlk hnm hsf w0 => ?_)
  have hml : cc_.maxLocals = 18 := hml0
  have A_0 := own_at w0
  refine own_entry (ef_ct0 m i0 i1 i2 i3) ?_
  refine own_by (T' := T0) (g' := (mkF m 1 #[.val (.int i0), .val (.int i1), .val (.int i2), .val (.int i3), .unset, .unset, .unset, .unset, .unset, .unset, .unset, .unset, .unset, .unset, .unset, .unset, .unset, .unset] [(.int i2)])) (fun t_ hr_ => XS.iloadN A_0 hx rfl (Jvm.hb hby at_0) rfl hr_) ?_
  refine own_by (T' := T0) (g' := (mkF m 2 #[.val (.int i0), .val (.int i1), .val (.int i2), .val (.int i3), .unset, .unset, .unset, .unset, .unset, .unset, .unset, .unset, .unset, .unset, .unset, .unset, .unset, .unset] [(.int (3 : Int32)), (.int i2)])) (fun t_ hr_ => XS.iconst A_0 hx rfl (Jvm.hb hby at_1) hr_) ?_
  refine own_by (T' := T0) (g' := (mkF m 3 #[.val (.int i0), .val (.int i1), .val (.int i2), .val (.int i3), .unset, .unset, .unset, .unset, .unset, .unset, .unset, .unset, .unset, .unset, .unset, .unset, .unset, .unset] [(.int (i2 &&& (3 : Int32)))])) (fun t_ hr_ => XS.iand A_0 hx rfl (Jvm.hb hby at_2) rfl hr_) ?_
  refine own_by (T' := T0) (g' := (mkF m 4 #[.val (.int i0), .val (.int i1), .val (.int i2), .val (.int i3), .unset, .unset, .unset, .unset, .unset, .unset, .unset, .unset, .unset, .unset, .unset, .unset, .unset, .unset] [(.int (3 : Int32)), (.int (i2 &&& (3 : Int32)))])) (fun t_ hr_ => XS.iconst A_0 hx rfl (Jvm.hb hby at_3) hr_) ?_
  refine own_by (T' := T0) (g' := (mkF m 5 #[.val (.int i0), .val (.int i1), .val (.int i2), .val (.int i3), .unset, .unset, .unset, .unset, .unset, .unset, .unset, .unset, .unset, .unset, .unset, .unset, .unset, .unset] [(.int ((i2 &&& (3 : Int32)) % (3 : Int32)))])) (fun t_ hr_ => own_irem A_0 hx rfl (Jvm.hb hby at_4) rfl (by decide) hr_) ?_
  obtain ⟨pl, epl⟩ : ∃ z, z = ((i2 &&& (3 : Int32)) % (3 : Int32)) := ⟨_, rfl⟩
  rw [← epl]
  have hp := own_cases3 (own_rem (own_mask i2 3 (by decide)).1 (by decide))
  rw [← epl] at hp
  clear epl
  show own_WP p e _ below s Z _ n0 _ T0 (mkF m 5 #[.val (.int i0), .val (.int i1), .val (.int i2), .val (.int i3), .unset, .unset, .unset, .unset, .unset, .unset, .unset, .unset, .unset, .unset, .unset, .unset, .unset, .unset] [(.int pl)])
  refine own_by (T' := T0) (g' := (mkF m 7 #[.val (.int i0), .val (.int i1), .val (.int i2), .val (.int i3), .val (.int pl), .unset, .unset, .unset, .unset, .unset, .unset, .unset, .unset, .unset, .unset, .unset, .unset, .unset] [])) (fun t_ hr_ => XS.istore A_0 hx rfl (Jvm.hb hby at_5) rfl (l' := #[.val (.int i0), .val (.int i1), .val (.int i2), .val (.int i3), .val (.int pl), .unset, .unset, .unset, .unset, .unset, .unset, .unset, .unset, .unset, .unset, .unset, .unset, .unset]) rfl hr_) ?_
  refine own_by (T' := T0) (g' := (mkF m 8 #[.val (.int i0), .val (.int i1), .val (.int i2), .val (.int i3), .val (.int pl), .unset, .unset, .unset, .unset, .unset, .unset, .unset, .unset, .unset, .unset, .unset, .unset, .unset] [(.int i2)])) (fun t_ hr_ => XS.iloadN A_0 hx rfl (Jvm.hb hby at_7) rfl hr_) ?_
  refine own_by (T' := T0) (g' := (mkF m 9 #[.val (.int i0), .val (.int i1), .val (.int i2), .val (.int i3), .val (.int pl), .unset, .unset, .unset, .unset, .unset, .unset, .unset, .unset, .unset, .unset, .unset, .unset, .unset] [(.int (2 : Int32)), (.int i2)])) (fun t_ hr_ => XS.iconst A_0 hx rfl (Jvm.hb hby at_8) hr_) ?_
  refine own_by (T' := T0) (g' := (mkF m 10 #[.val (.int i0), .val (.int i1), .val (.int i2), .val (.int i3), .val (.int pl), .unset, .unset, .unset, .unset, .unset, .unset, .unset, .unset, .unset, .unset, .unset, .unset, .unset] [(.int ((i2.toUInt32 >>> ((2 : Int32) &&& 31).toUInt32).toInt32))])) (fun t_ hr_ => XS.iushr A_0 hx rfl (Jvm.hb hby at_9) rfl hr_) ?_
  refine own_by (T' := T0) (g' := (mkF m 11 #[.val (.int i0), .val (.int i1), .val (.int i2), .val (.int i3), .val (.int pl), .unset, .unset, .unset, .unset, .unset, .unset, .unset, .unset, .unset, .unset, .unset, .unset, .unset] [(.int (3 : Int32)), (.int ((i2.toUInt32 >>> ((2 : Int32) &&& 31).toUInt32).toInt32))])) (fun t_ hr_ => XS.iconst A_0 hx rfl (Jvm.hb hby at_10) hr_) ?_
  refine own_by (T' := T0) (g' := (mkF m 12 #[.val (.int i0), .val (.int i1), .val (.int i2), .val (.int i3), .val (.int pl), .unset, .unset, .unset, .unset, .unset, .unset, .unset, .unset, .unset, .unset, .unset, .unset, .unset] [(.int (((i2.toUInt32 >>> ((2 : Int32) &&& 31).toUInt32).toInt32) &&& (3 : Int32)))])) (fun t_ hr_ => XS.iand A_0 hx rfl (Jvm.hb hby at_11) rfl hr_) ?_
  refine own_by (T' := T0) (g' := (mkF m 13 #[.val (.int i0), .val (.int i1), .val (.int i2), .val (.int i3), .val (.int pl), .unset, .unset, .unset, .unset, .unset, .unset, .unset, .unset, .unset, .unset, .unset, .unset, .unset] [(.int (3 : Int32)), (.int (((i2.toUInt32 >>> ((2 : Int32) &&& 31).toUInt32).toInt32) &&& (3 : Int32)))])) (fun t_ hr_ => XS.iconst A_0 hx rfl (Jvm.hb hby at_12) hr_) ?_
  refine own_by (T' := T0) (g' := (mkF m 14 #[.val (.int i0), .val (.int i1), .val (.int i2), .val (.int i3), .val (.int pl), .unset, .unset, .unset, .unset, .unset, .unset, .unset, .unset, .unset, .unset, .unset, .unset, .unset] [(.int ((((i2.toUInt32 >>> ((2 : Int32) &&& 31).toUInt32).toInt32) &&& (3 : Int32)) % (3 : Int32)))])) (fun t_ hr_ => own_irem A_0 hx rfl (Jvm.hb hby at_13) rfl (by decide) hr_) ?_
  obtain ⟨ll, ell⟩ : ∃ z, z = ((((i2.toUInt32 >>> ((2 : Int32) &&& 31).toUInt32).toInt32) &&& (3 : Int32)) % (3 : Int32)) := ⟨_, rfl⟩
  rw [← ell]
  have hl := own_cases3 (own_rem (own_mask ((i2.toUInt32 >>> ((2 : Int32) &&& 31).toUInt32).toInt32) 3 (by decide)).1 (by decide))
  rw [← ell] at hl
  clear ell
  show own_WP p e _ below s Z _ n0 _ T0 (mkF m 14 #[.val (.int i0), .val (.int i1), .val (.int i2), .val (.int i3), .val (.int pl), .unset, .unset, .unset, .unset, .unset, .unset, .unset, .unset, .unset, .unset, .unset, .unset, .unset] [(.int ll)])
  refine own_by (T' := T0) (g' := (mkF m 16 #[.val (.int i0), .val (.int i1), .val (.int i2), .val (.int i3), .val (.int pl), .val (.int ll), .unset, .unset, .unset, .unset, .unset, .unset, .unset, .unset, .unset, .unset, .unset, .unset] [])) (fun t_ hr_ => XS.istore A_0 hx rfl (Jvm.hb hby at_14) rfl (l' := #[.val (.int i0), .val (.int i1), .val (.int i2), .val (.int i3), .val (.int pl), .val (.int ll), .unset, .unset, .unset, .unset, .unset, .unset, .unset, .unset, .unset, .unset, .unset, .unset]) rfl hr_) ?_
  refine own_by (T' := T0) (g' := (mkF m 17 #[.val (.int i0), .val (.int i1), .val (.int i2), .val (.int i3), .val (.int pl), .val (.int ll), .unset, .unset, .unset, .unset, .unset, .unset, .unset, .unset, .unset, .unset, .unset, .unset] [(.int i0)])) (fun t_ hr_ => XS.iloadN A_0 hx rfl (Jvm.hb hby at_16) rfl hr_) ?_
  refine own_by (T' := T0) (g' := (mkF m 20 #[.val (.int i0), .val (.int i1), .val (.int i2), .val (.int i3), .val (.int pl), .val (.int ll), .unset, .unset, .unset, .unset, .unset, .unset, .unset, .unset, .unset, .unset, .unset, .unset] [(.int (255 : Int32)), (.int i0)])) (fun t_ hr_ => XS.sipush A_0 hx rfl (Jvm.hb hby at_17) hr_) ?_
  refine own_by (T' := T0) (g' := (mkF m 21 #[.val (.int i0), .val (.int i1), .val (.int i2), .val (.int i3), .val (.int pl), .val (.int ll), .unset, .unset, .unset, .unset, .unset, .unset, .unset, .unset, .unset, .unset, .unset, .unset] [(.int (i0 &&& (255 : Int32)))])) (fun t_ hr_ => XS.iand A_0 hx rfl (Jvm.hb hby at_20) rfl hr_) ?_
  refine own_by (T' := T0) (g' := (mkF m 22 #[.val (.int i0), .val (.int i1), .val (.int i2), .val (.int i3), .val (.int pl), .val (.int ll), .unset, .unset, .unset, .unset, .unset, .unset, .unset, .unset, .unset, .unset, .unset, .unset] [(.int ((i0 &&& (255 : Int32)).toUInt32.toUInt16.toUInt32.toInt32))])) (fun t_ hr_ => XS.i2c A_0 hx rfl (Jvm.hb hby at_21) rfl hr_) ?_
  obtain ⟨a, ea⟩ : ∃ z, z = ((i0 &&& (255 : Int32)).toUInt32.toUInt16.toUInt32.toInt32) := ⟨_, rfl⟩
  have ra : ¬ a < 0 ∧ ¬ (255 : Int32) < a := by rw [ea, own_ch255]; exact own_r255 _
  rw [← ea]
  clear ea
  show own_WP p e _ below s Z _ n0 _ T0 (mkF m 22 #[.val (.int i0), .val (.int i1), .val (.int i2), .val (.int i3), .val (.int pl), .val (.int ll), .unset, .unset, .unset, .unset, .unset, .unset, .unset, .unset, .unset, .unset, .unset, .unset] [(.int a)])
  refine own_by (T' := T0) (g' := (mkF m 24 #[.val (.int i0), .val (.int i1), .val (.int i2), .val (.int i3), .val (.int pl), .val (.int ll), .val (.int a), .unset, .unset, .unset, .unset, .unset, .unset, .unset, .unset, .unset, .unset, .unset] [])) (fun t_ hr_ => XS.istore A_0 hx rfl (Jvm.hb hby at_22) rfl (l' := #[.val (.int i0), .val (.int i1), .val (.int i2), .val (.int i3), .val (.int pl), .val (.int ll), .val (.int a), .unset, .unset, .unset, .unset, .unset, .unset, .unset, .unset, .unset, .unset, .unset]) rfl hr_) ?_
  refine own_by (T' := T0) (g' := (mkF m 25 #[.val (.int i0), .val (.int i1), .val (.int i2), .val (.int i3), .val (.int pl), .val (.int ll), .val (.int a), .unset, .unset, .unset, .unset, .unset, .unset, .unset, .unset, .unset, .unset, .unset] [(.int i0)])) (fun t_ hr_ => XS.iloadN A_0 hx rfl (Jvm.hb hby at_24) rfl hr_) ?_
  refine own_by (T' := T0) (g' := (mkF m 27 #[.val (.int i0), .val (.int i1), .val (.int i2), .val (.int i3), .val (.int pl), .val (.int ll), .val (.int a), .unset, .unset, .unset, .unset, .unset, .unset, .unset, .unset, .unset, .unset, .unset] [(.int (8 : Int32)), (.int i0)])) (fun t_ hr_ => XS.bipush A_0 hx rfl (Jvm.hb hby at_25) hr_) ?_
  refine own_by (T' := T0) (g' := (mkF m 28 #[.val (.int i0), .val (.int i1), .val (.int i2), .val (.int i3), .val (.int pl), .val (.int ll), .val (.int a), .unset, .unset, .unset, .unset, .unset, .unset, .unset, .unset, .unset, .unset, .unset] [(.int ((i0.toUInt32 >>> ((8 : Int32) &&& 31).toUInt32).toInt32))])) (fun t_ hr_ => XS.iushr A_0 hx rfl (Jvm.hb hby at_27) rfl hr_) ?_
  refine own_by (T' := T0) (g' := (mkF m 31 #[.val (.int i0), .val (.int i1), .val (.int i2), .val (.int i3), .val (.int pl), .val (.int ll), .val (.int a), .unset, .unset, .unset, .unset, .unset, .unset, .unset, .unset, .unset, .unset, .unset] [(.int (255 : Int32)), (.int ((i0.toUInt32 >>> ((8 : Int32) &&& 31).toUInt32).toInt32))])) (fun t_ hr_ => XS.sipush A_0 hx rfl (Jvm.hb hby at_28) hr_) ?_
  refine own_by (T' := T0) (g' := (mkF m 32 #[.val (.int i0), .val (.int i1), .val (.int i2), .val (.int i3), .val (.int pl), .val (.int ll), .val (.int a), .unset, .unset, .unset, .unset, .unset, .unset, .unset, .unset, .unset, .unset, .unset] [(.int (((i0.toUInt32 >>> ((8 : Int32) &&& 31).toUInt32).toInt32) &&& (255 : Int32)))])) (fun t_ hr_ => XS.iand A_0 hx rfl (Jvm.hb hby at_31) rfl hr_) ?_
  refine own_by (T' := T0) (g' := (mkF m 33 #[.val (.int i0), .val (.int i1), .val (.int i2), .val (.int i3), .val (.int pl), .val (.int ll), .val (.int a), .unset, .unset, .unset, .unset, .unset, .unset, .unset, .unset, .unset, .unset, .unset] [(.int ((((i0.toUInt32 >>> ((8 : Int32) &&& 31).toUInt32).toInt32) &&& (255 : Int32)).toUInt32.toUInt16.toUInt32.toInt32))])) (fun t_ hr_ => XS.i2c A_0 hx rfl (Jvm.hb hby at_32) rfl hr_) ?_
  obtain ⟨b, eb⟩ : ∃ z, z = ((((i0.toUInt32 >>> ((8 : Int32) &&& 31).toUInt32).toInt32) &&& (255 : Int32)).toUInt32.toUInt16.toUInt32.toInt32) := ⟨_, rfl⟩
  have rb : ¬ b < 0 ∧ ¬ (255 : Int32) < b := by rw [eb, own_ch255]; exact own_r255 _
  rw [← eb]
  clear eb
  show own_WP p e _ below s Z _ n0 _ T0 (mkF m 33 #[.val (.int i0), .val (.int i1), .val (.int i2), .val (.int i3), .val (.int pl), .val (.int ll), .val (.int a), .unset, .unset, .unset, .unset, .unset, .unset, .unset, .unset, .unset, .unset, .unset] [(.int b)])
  refine own_by (T' := T0) (g' := (mkF m 35 #[.val (.int i0), .val (.int i1), .val (.int i2), .val (.int i3), .val (.int pl), .val (.int ll), .val (.int a), .val (.int b), .unset, .unset, .unset, .unset, .unset, .unset, .unset, .unset, .unset, .unset] [])) (fun t_ hr_ => XS.istore A_0 hx rfl (Jvm.hb hby at_33) rfl (l' := #[.val (.int i0), .val (.int i1), .val (.int i2), .val (.int i3), .val (.int pl), .val (.int ll), .val (.int a), .val (.int b), .unset, .unset, .unset, .unset, .unset, .unset, .unset, .unset, .unset, .unset]) rfl hr_) ?_
  refine own_by (T' := T0) (g' := (mkF m 36 #[.val (.int i0), .val (.int i1), .val (.int i2), .val (.int i3), .val (.int pl), .val (.int ll), .val (.int a), .val (.int b), .unset, .unset, .unset, .unset, .unset, .unset, .unset, .unset, .unset, .unset] [(.int i1)])) (fun t_ hr_ => XS.iloadN A_0 hx rfl (Jvm.hb hby at_35) rfl hr_) ?_
  refine own_by (T' := T0) (g' := (mkF m 39 #[.val (.int i0), .val (.int i1), .val (.int i2), .val (.int i3), .val (.int pl), .val (.int ll), .val (.int a), .val (.int b), .unset, .unset, .unset, .unset, .unset, .unset, .unset, .unset, .unset, .unset] [(.int (255 : Int32)), (.int i1)])) (fun t_ hr_ => XS.sipush A_0 hx rfl (Jvm.hb hby at_36) hr_) ?_
  refine own_by (T' := T0) (g' := (mkF m 40 #[.val (.int i0), .val (.int i1), .val (.int i2), .val (.int i3), .val (.int pl), .val (.int ll), .val (.int a), .val (.int b), .unset, .unset, .unset, .unset, .unset, .unset, .unset, .unset, .unset, .unset] [(.int (i1 &&& (255 : Int32)))])) (fun t_ hr_ => XS.iand A_0 hx rfl (Jvm.hb hby at_39) rfl hr_) ?_
  refine own_by (T' := T0) (g' := (mkF m 41 #[.val (.int i0), .val (.int i1), .val (.int i2), .val (.int i3), .val (.int pl), .val (.int ll), .val (.int a), .val (.int b), .unset, .unset, .unset, .unset, .unset, .unset, .unset, .unset, .unset, .unset] [(.int ((i1 &&& (255 : Int32)).toUInt32.toUInt16.toUInt32.toInt32))])) (fun t_ hr_ => XS.i2c A_0 hx rfl (Jvm.hb hby at_40) rfl hr_) ?_
  obtain ⟨x, ex⟩ : ∃ z, z = ((i1 &&& (255 : Int32)).toUInt32.toUInt16.toUInt32.toInt32) := ⟨_, rfl⟩
  have rx : ¬ x < 0 ∧ ¬ (255 : Int32) < x := by rw [ex, own_ch255]; exact own_r255 _
  rw [← ex]
  clear ex
  show own_WP p e _ below s Z _ n0 _ T0 (mkF m 41 #[.val (.int i0), .val (.int i1), .val (.int i2), .val (.int i3), .val (.int pl), .val (.int ll), .val (.int a), .val (.int b), .unset, .unset, .unset, .unset, .unset, .unset, .unset, .unset, .unset, .unset] [(.int x)])
  refine own_by (T' := T0) (g' := (mkF m 43 #[.val (.int i0), .val (.int i1), .val (.int i2), .val (.int i3), .val (.int pl), .val (.int ll), .val (.int a), .val (.int b), .val (.int x), .unset, .unset, .unset, .unset, .unset, .unset, .unset, .unset, .unset] [])) (fun t_ hr_ => XS.istore A_0 hx rfl (Jvm.hb hby at_41) rfl (l' := #[.val (.int i0), .val (.int i1), .val (.int i2), .val (.int i3), .val (.int pl), .val (.int ll), .val (.int a), .val (.int b), .val (.int x), .unset, .unset, .unset, .unset, .unset, .unset, .unset, .unset, .unset]) rfl hr_) ?_
  refine own_by (T' := T0) (g' := (mkF m 44 #[.val (.int i0), .val (.int i1), .val (.int i2), .val (.int i3), .val (.int pl), .val (.int ll), .val (.int a), .val (.int b), .val (.int x), .unset, .unset, .unset, .unset, .unset, .unset, .unset, .unset, .unset] [(.int i1)])) (fun t_ hr_ => XS.iloadN A_0 hx rfl (Jvm.hb hby at_43) rfl hr_) ?_
  refine own_by (T' := T0) (g' := (mkF m 46 #[.val (.int i0), .val (.int i1), .val (.int i2), .val (.int i3), .val (.int pl), .val (.int ll), .val (.int a), .val (.int b), .val (.int x), .unset, .unset, .unset, .unset, .unset, .unset, .unset, .unset, .unset] [(.int (8 : Int32)), (.int i1)])) (fun t_ hr_ => XS.bipush A_0 hx rfl (Jvm.hb hby at_44) hr_) ?_
  refine own_by (T' := T0) (g' := (mkF m 47 #[.val (.int i0), .val (.int i1), .val (.int i2), .val (.int i3), .val (.int pl), .val (.int ll), .val (.int a), .val (.int b), .val (.int x), .unset, .unset, .unset, .unset, .unset, .unset, .unset, .unset, .unset] [(.int ((i1.toUInt32 >>> ((8 : Int32) &&& 31).toUInt32).toInt32))])) (fun t_ hr_ => XS.iushr A_0 hx rfl (Jvm.hb hby at_46) rfl hr_) ?_
  refine own_by (T' := T0) (g' := (mkF m 50 #[.val (.int i0), .val (.int i1), .val (.int i2), .val (.int i3), .val (.int pl), .val (.int ll), .val (.int a), .val (.int b), .val (.int x), .unset, .unset, .unset, .unset, .unset, .unset, .unset, .unset, .unset] [(.int (255 : Int32)), (.int ((i1.toUInt32 >>> ((8 : Int32) &&& 31).toUInt32).toInt32))])) (fun t_ hr_ => XS.sipush A_0 hx rfl (Jvm.hb hby at_47) hr_) ?_
  refine own_by (T' := T0) (g' := (mkF m 51 #[.val (.int i0), .val (.int i1), .val (.int i2), .val (.int i3), .val (.int pl), .val (.int ll), .val (.int a), .val (.int b), .val (.int x), .unset, .unset, .unset, .unset, .unset, .unset, .unset, .unset, .unset] [(.int (((i1.toUInt32 >>> ((8 : Int32) &&& 31).toUInt32).toInt32) &&& (255 : Int32)))])) (fun t_ hr_ => XS.iand A_0 hx rfl (Jvm.hb hby at_50) rfl hr_) ?_
  refine own_by (T' := T0) (g' := (mkF m 52 #[.val (.int i0), .val (.int i1), .val (.int i2), .val (.int i3), .val (.int pl), .val (.int ll), .val (.int a), .val (.int b), .val (.int x), .unset, .unset, .unset, .unset, .unset, .unset, .unset, .unset, .unset] [(.int ((((i1.toUInt32 >>> ((8 : Int32) &&& 31).toUInt32).toInt32) &&& (255 : Int32)).toUInt32.toUInt16.toUInt32.toInt32))])) (fun t_ hr_ => XS.i2c A_0 hx rfl (Jvm.hb hby at_51) rfl hr_) ?_
  obtain ⟨y, ey⟩ : ∃ z, z = ((((i1.toUInt32 >>> ((8 : Int32) &&& 31).toUInt32).toInt32) &&& (255 : Int32)).toUInt32.toUInt16.toUInt32.toInt32) := ⟨_, rfl⟩
  have ry : ¬ y < 0 ∧ ¬ (255 : Int32) < y := by rw [ey, own_ch255]; exact own_r255 _
  rw [← ey]
  clear ey
  show own_WP p e _ below s Z _ n0 _ T0 (mkF m 52 #[.val (.int i0), .val (.int i1), .val (.int i2), .val (.int i3), .val (.int pl), .val (.int ll), .val (.int a), .val (.int b), .val (.int x), .unset, .unset, .unset, .unset, .unset, .unset, .unset, .unset, .unset] [(.int y)])
  refine own_by (T' := T0) (g' := (mkF m 54 #[.val (.int i0), .val (.int i1), .val (.int i2), .val (.int i3), .val (.int pl), .val (.int ll), .val (.int a), .val (.int b), .val (.int x), .val (.int y), .unset, .unset, .unset, .unset, .unset, .unset, .unset, .unset] [])) (fun t_ hr_ => XS.istore A_0 hx rfl (Jvm.hb hby at_52) rfl (l' := #[.val (.int i0), .val (.int i1), .val (.int i2), .val (.int i3), .val (.int pl), .val (.int ll), .val (.int a), .val (.int b), .val (.int x), .val (.int y), .unset, .unset, .unset, .unset, .unset, .unset, .unset, .unset]) rfl hr_) ?_
  refine own_by (T' := T0) (g' := (mkF m 56 #[.val (.int i0), .val (.int i1), .val (.int i2), .val (.int i3), .val (.int pl), .val (.int ll), .val (.int a), .val (.int b), .val (.int x), .val (.int y), .unset, .unset, .unset, .unset, .unset, .unset, .unset, .unset] [(.int pl)])) (fun t_ hr_ => XS.iload A_0 hx rfl (Jvm.hb hby at_54) rfl hr_) ?_
  refine own_by (T' := T0) (g' := (mkF m 58 #[.val (.int i0), .val (.int i1), .val (.int i2), .val (.int i3), .val (.int pl), .val (.int ll), .val (.int a), .val (.int b), .val (.int x), .val (.int y), .unset, .unset, .unset, .unset, .unset, .unset, .unset, .unset] [(.int a), (.int pl)])) (fun t_ hr_ => XS.iload A_0 hx rfl (Jvm.hb hby at_56) rfl hr_) ?_
  refine own_by (T' := T0) (g' := (mkF m 60 #[.val (.int i0), .val (.int i1), .val (.int i2), .val (.int i3), .val (.int pl), .val (.int ll), .val (.int a), .val (.int b), .val (.int x), .val (.int y), .unset, .unset, .unset, .unset, .unset, .unset, .unset, .unset] [(.int b), (.int a), (.int pl)])) (fun t_ hr_ => XS.iload A_0 hx rfl (Jvm.hb hby at_58) rfl hr_) ?_
  refine own_callS w0 hx (y := (⟨"com/example/sigillo/sigillo/soap/AttributeNamePinLaw", "draw", "(ICC)Ljava/lang/String;"⟩ : MethodName)) (hw _ (List.mem_of_getElem? (i := 0) rfl)) (hw _ (List.mem_of_getElem? (i := 1) rfl)) (hw _ (List.mem_of_getElem? (i := 2) rfl)) (hw _ (List.mem_of_getElem? (i := 3) rfl)) (by decide) (kc := 3) (ks := 8) (argsL := [(.int pl), (.int a), (.int b)]) (rest := []) (own_payCt (W := 0) (ctDr l Z a0 hw SC n0 h0 (own_old w0) pl a b hp ra rb) w0 (hw _ (List.mem_of_getElem? (i := 3) rfl)) (hw _ (List.mem_of_getElem? (i := 2) rfl)) hEL (by decide) (by decide)) (g := (mkF m 60 #[.val (.int i0), .val (.int i1), .val (.int i2), .val (.int i3), .val (.int pl), .val (.int ll), .val (.int a), .val (.int b), .val (.int x), .val (.int y), .unset, .unset, .unset, .unset, .unset, .unset, .unset, .unset] [(.int b), (.int a), (.int pl)])) rfl (by rw [hml]; rfl) (lenOf pd_446650151 rfl) rfl (by show 2 * 0 + _ ≤ _; exact Nat.le_of_eq rfl) (Jvm.hb hby at_60) (by decide) (by decide) (fun v1_ T1_ vm1_ h1_ q1_ C1_ w1_ => ?_)
  obtain ⟨sp, ps, rfl, Esp, Ssp, qsp⟩ := q1_
  have A1_ := own_at w1_
  show own_WP p e _ below s Z _ n0 _ T1_ (mkF m 63 #[.val (.int i0), .val (.int i1), .val (.int i2), .val (.int i3), .val (.int pl), .val (.int ll), .val (.int a), .val (.int b), .val (.int x), .val (.int y), .unset, .unset, .unset, .unset, .unset, .unset, .unset, .unset] [(.ref sp)])
  refine own_by (T' := T1_) (g' := (mkF m 65 #[.val (.int i0), .val (.int i1), .val (.int i2), .val (.int i3), .val (.int pl), .val (.int ll), .val (.int a), .val (.int b), .val (.int x), .val (.int y), .val (.ref sp), .unset, .unset, .unset, .unset, .unset, .unset, .unset] [])) (fun t_ hr_ => XS.astore A1_ hx rfl (Jvm.hb hby at_63) rfl rfl (l' := #[.val (.int i0), .val (.int i1), .val (.int i2), .val (.int i3), .val (.int pl), .val (.int ll), .val (.int a), .val (.int b), .val (.int x), .val (.int y), .val (.ref sp), .unset, .unset, .unset, .unset, .unset, .unset, .unset]) rfl hr_) ?_
  refine own_by (T' := T1_) (g' := (mkF m 67 #[.val (.int i0), .val (.int i1), .val (.int i2), .val (.int i3), .val (.int pl), .val (.int ll), .val (.int a), .val (.int b), .val (.int x), .val (.int y), .val (.ref sp), .unset, .unset, .unset, .unset, .unset, .unset, .unset] [(.int ll)])) (fun t_ hr_ => XS.iload A1_ hx rfl (Jvm.hb hby at_65) rfl hr_) ?_
  refine own_by (T' := T1_) (g' := (mkF m 69 #[.val (.int i0), .val (.int i1), .val (.int i2), .val (.int i3), .val (.int pl), .val (.int ll), .val (.int a), .val (.int b), .val (.int x), .val (.int y), .val (.ref sp), .unset, .unset, .unset, .unset, .unset, .unset, .unset] [(.int x), (.int ll)])) (fun t_ hr_ => XS.iload A1_ hx rfl (Jvm.hb hby at_67) rfl hr_) ?_
  refine own_by (T' := T1_) (g' := (mkF m 71 #[.val (.int i0), .val (.int i1), .val (.int i2), .val (.int i3), .val (.int pl), .val (.int ll), .val (.int a), .val (.int b), .val (.int x), .val (.int y), .val (.ref sp), .unset, .unset, .unset, .unset, .unset, .unset, .unset] [(.int y), (.int x), (.int ll)])) (fun t_ hr_ => XS.iload A1_ hx rfl (Jvm.hb hby at_69) rfl hr_) ?_
  refine own_callS w1_ hx (y := (⟨"com/example/sigillo/sigillo/soap/AttributeNamePinLaw", "draw", "(ICC)Ljava/lang/String;"⟩ : MethodName)) (hw _ (List.mem_of_getElem? (i := 0) rfl)) (hw _ (List.mem_of_getElem? (i := 1) rfl)) (hw _ (List.mem_of_getElem? (i := 2) rfl)) (hw _ (List.mem_of_getElem? (i := 3) rfl)) (by decide) (kc := 3) (ks := 8) (argsL := [(.int ll), (.int x), (.int y)]) (rest := []) (own_payCt (W := 0) (ctDr l Z a0 hw SC n0 h1_ (own_old w1_) ll x y hl rx ry) w1_ (hw _ (List.mem_of_getElem? (i := 3) rfl)) (hw _ (List.mem_of_getElem? (i := 2) rfl)) hEL (by decide) (by decide)) (g := (mkF m 71 #[.val (.int i0), .val (.int i1), .val (.int i2), .val (.int i3), .val (.int pl), .val (.int ll), .val (.int a), .val (.int b), .val (.int x), .val (.int y), .val (.ref sp), .unset, .unset, .unset, .unset, .unset, .unset, .unset] [(.int y), (.int x), (.int ll)])) rfl (by rw [hml]; rfl) (lenOf pd_446650151 rfl) rfl (by show 2 * 0 + _ ≤ _; exact Nat.le_of_eq rfl) (Jvm.hb hby at_71) (by decide) (by decide) (fun v2_ T2_ vm2_ h2_ q2_ C2_ w2_ => ?_)
  obtain ⟨sl, ls, rfl, Esl, Ssl, qsl⟩ := q2_
  have A2_ := own_at w2_
  show own_WP p e _ below s Z _ n0 _ T2_ (mkF m 74 #[.val (.int i0), .val (.int i1), .val (.int i2), .val (.int i3), .val (.int pl), .val (.int ll), .val (.int a), .val (.int b), .val (.int x), .val (.int y), .val (.ref sp), .unset, .unset, .unset, .unset, .unset, .unset, .unset] [(.ref sl)])
  refine own_by (T' := T2_) (g' := (mkF m 76 #[.val (.int i0), .val (.int i1), .val (.int i2), .val (.int i3), .val (.int pl), .val (.int ll), .val (.int a), .val (.int b), .val (.int x), .val (.int y), .val (.ref sp), .val (.ref sl), .unset, .unset, .unset, .unset, .unset, .unset] [])) (fun t_ hr_ => XS.astore A2_ hx rfl (Jvm.hb hby at_74) rfl rfl (l' := #[.val (.int i0), .val (.int i1), .val (.int i2), .val (.int i3), .val (.int pl), .val (.int ll), .val (.int a), .val (.int b), .val (.int x), .val (.int y), .val (.ref sp), .val (.ref sl), .unset, .unset, .unset, .unset, .unset, .unset]) rfl hr_) ?_
  refine own_by (T' := T2_) (g' := (mkF m 77 #[.val (.int i0), .val (.int i1), .val (.int i2), .val (.int i3), .val (.int pl), .val (.int ll), .val (.int a), .val (.int b), .val (.int x), .val (.int y), .val (.ref sp), .val (.ref sl), .unset, .unset, .unset, .unset, .unset, .unset] [(.int i3)])) (fun t_ hr_ => XS.iloadN A2_ hx rfl (Jvm.hb hby at_76) rfl hr_) ?_
  refine own_by (T' := T2_) (g' := (mkF m 79 #[.val (.int i0), .val (.int i1), .val (.int i2), .val (.int i3), .val (.int pl), .val (.int ll), .val (.int a), .val (.int b), .val (.int x), .val (.int y), .val (.ref sp), .val (.ref sl), .unset, .unset, .unset, .unset, .unset, .unset] [(.int (16 : Int32)), (.int i3)])) (fun t_ hr_ => XS.bipush A2_ hx rfl (Jvm.hb hby at_77) hr_) ?_
  refine own_by (T' := T2_) (g' := (mkF m 80 #[.val (.int i0), .val (.int i1), .val (.int i2), .val (.int i3), .val (.int pl), .val (.int ll), .val (.int a), .val (.int b), .val (.int x), .val (.int y), .val (.ref sp), .val (.ref sl), .unset, .unset, .unset, .unset, .unset, .unset] [(.int ((i3.toUInt32 >>> ((16 : Int32) &&& 31).toUInt32).toInt32))])) (fun t_ hr_ => XS.iushr A2_ hx rfl (Jvm.hb hby at_79) rfl hr_) ?_
  refine own_by (T' := T2_) (g' := (mkF m 81 #[.val (.int i0), .val (.int i1), .val (.int i2), .val (.int i3), .val (.int pl), .val (.int ll), .val (.int a), .val (.int b), .val (.int x), .val (.int y), .val (.ref sp), .val (.ref sl), .unset, .unset, .unset, .unset, .unset, .unset] [(.int (1 : Int32)), (.int ((i3.toUInt32 >>> ((16 : Int32) &&& 31).toUInt32).toInt32))])) (fun t_ hr_ => XS.iconst A2_ hx rfl (Jvm.hb hby at_80) hr_) ?_
  refine own_by (T' := T2_) (g' := (mkF m 82 #[.val (.int i0), .val (.int i1), .val (.int i2), .val (.int i3), .val (.int pl), .val (.int ll), .val (.int a), .val (.int b), .val (.int x), .val (.int y), .val (.ref sp), .val (.ref sl), .unset, .unset, .unset, .unset, .unset, .unset] [(.int (((i3.toUInt32 >>> ((16 : Int32) &&& 31).toUInt32).toInt32) &&& (1 : Int32)))])) (fun t_ hr_ => XS.iand A2_ hx rfl (Jvm.hb hby at_81) rfl hr_) ?_
  refine own_by (T' := T2_) (g' := (mkF m 83 #[.val (.int i0), .val (.int i1), .val (.int i2), .val (.int i3), .val (.int pl), .val (.int ll), .val (.int a), .val (.int b), .val (.int x), .val (.int y), .val (.ref sp), .val (.ref sl), .unset, .unset, .unset, .unset, .unset, .unset] [(.int i3), (.int (((i3.toUInt32 >>> ((16 : Int32) &&& 31).toUInt32).toInt32) &&& (1 : Int32)))])) (fun t_ hr_ => XS.iloadN A2_ hx rfl (Jvm.hb hby at_82) rfl hr_) ?_
  refine own_by (T' := T2_) (g' := (mkF m 86 #[.val (.int i0), .val (.int i1), .val (.int i2), .val (.int i3), .val (.int pl), .val (.int ll), .val (.int a), .val (.int b), .val (.int x), .val (.int y), .val (.ref sp), .val (.ref sl), .unset, .unset, .unset, .unset, .unset, .unset] [(.int (255 : Int32)), (.int i3), (.int (((i3.toUInt32 >>> ((16 : Int32) &&& 31).toUInt32).toInt32) &&& (1 : Int32)))])) (fun t_ hr_ => XS.sipush A2_ hx rfl (Jvm.hb hby at_83) hr_) ?_
  refine own_by (T' := T2_) (g' := (mkF m 87 #[.val (.int i0), .val (.int i1), .val (.int i2), .val (.int i3), .val (.int pl), .val (.int ll), .val (.int a), .val (.int b), .val (.int x), .val (.int y), .val (.ref sp), .val (.ref sl), .unset, .unset, .unset, .unset, .unset, .unset] [(.int (i3 &&& (255 : Int32))), (.int (((i3.toUInt32 >>> ((16 : Int32) &&& 31).toUInt32).toInt32) &&& (1 : Int32)))])) (fun t_ hr_ => XS.iand A2_ hx rfl (Jvm.hb hby at_86) rfl hr_) ?_
  refine own_by (T' := T2_) (g' := (mkF m 88 #[.val (.int i0), .val (.int i1), .val (.int i2), .val (.int i3), .val (.int pl), .val (.int ll), .val (.int a), .val (.int b), .val (.int x), .val (.int y), .val (.ref sp), .val (.ref sl), .unset, .unset, .unset, .unset, .unset, .unset] [(.int ((i3 &&& (255 : Int32)).toUInt32.toUInt16.toUInt32.toInt32)), (.int (((i3.toUInt32 >>> ((16 : Int32) &&& 31).toUInt32).toInt32) &&& (1 : Int32)))])) (fun t_ hr_ => XS.i2c A2_ hx rfl (Jvm.hb hby at_87) rfl hr_) ?_
  refine own_by (T' := T2_) (g' := (mkF m 89 #[.val (.int i0), .val (.int i1), .val (.int i2), .val (.int i3), .val (.int pl), .val (.int ll), .val (.int a), .val (.int b), .val (.int x), .val (.int y), .val (.ref sp), .val (.ref sl), .unset, .unset, .unset, .unset, .unset, .unset] [(.int (0 : Int32)), (.int ((i3 &&& (255 : Int32)).toUInt32.toUInt16.toUInt32.toInt32)), (.int (((i3.toUInt32 >>> ((16 : Int32) &&& 31).toUInt32).toInt32) &&& (1 : Int32)))])) (fun t_ hr_ => XS.iconst A2_ hx rfl (Jvm.hb hby at_88) hr_) ?_
  refine own_callS w2_ hx (y := (⟨"com/example/sigillo/sigillo/soap/AttributeNamePinLaw", "draw", "(ICC)Ljava/lang/String;"⟩ : MethodName)) (hw _ (List.mem_of_getElem? (i := 0) rfl)) (hw _ (List.mem_of_getElem? (i := 1) rfl)) (hw _ (List.mem_of_getElem? (i := 2) rfl)) (hw _ (List.mem_of_getElem? (i := 3) rfl)) (by decide) (kc := 3) (ks := 8) (argsL := [(.int (((i3.toUInt32 >>> ((16 : Int32) &&& 31).toUInt32).toInt32) &&& (1 : Int32))), (.int ((i3 &&& (255 : Int32)).toUInt32.toUInt16.toUInt32.toInt32)), (.int (0 : Int32))]) (rest := []) (own_payCt (W := 0) (ctDr l Z a0 hw SC n0 h2_ (own_old w2_) (((i3.toUInt32 >>> ((16 : Int32) &&& 31).toUInt32).toInt32) &&& (1 : Int32)) ((i3 &&& (255 : Int32)).toUInt32.toUInt16.toUInt32.toInt32) (0 : Int32) (own_cases2 (own_mask _ 1 (by decide))) (by rw [own_ch255]; exact own_r255 _) (by decide)) w2_ (hw _ (List.mem_of_getElem? (i := 3) rfl)) (hw _ (List.mem_of_getElem? (i := 2) rfl)) hEL (by decide) (by decide)) (g := (mkF m 89 #[.val (.int i0), .val (.int i1), .val (.int i2), .val (.int i3), .val (.int pl), .val (.int ll), .val (.int a), .val (.int b), .val (.int x), .val (.int y), .val (.ref sp), .val (.ref sl), .unset, .unset, .unset, .unset, .unset, .unset] [(.int (0 : Int32)), (.int ((i3 &&& (255 : Int32)).toUInt32.toUInt16.toUInt32.toInt32)), (.int (((i3.toUInt32 >>> ((16 : Int32) &&& 31).toUInt32).toInt32) &&& (1 : Int32)))])) rfl (by rw [hml]; rfl) (lenOf pd_446650151 rfl) rfl (by show 2 * 0 + _ ≤ _; exact Nat.le_of_eq rfl) (Jvm.hb hby at_89) (by decide) (by decide) (fun v3_ T3_ vm3_ h3_ q3_ C3_ w3_ => ?_)
  obtain ⟨sn, ns, rfl, Esn, Ssn, qsn⟩ := q3_
  have A3_ := own_at w3_
  show own_WP p e _ below s Z _ n0 _ T3_ (mkF m 92 #[.val (.int i0), .val (.int i1), .val (.int i2), .val (.int i3), .val (.int pl), .val (.int ll), .val (.int a), .val (.int b), .val (.int x), .val (.int y), .val (.ref sp), .val (.ref sl), .unset, .unset, .unset, .unset, .unset, .unset] [(.ref sn)])
  refine own_by (T' := T3_) (g' := (mkF m 94 #[.val (.int i0), .val (.int i1), .val (.int i2), .val (.int i3), .val (.int pl), .val (.int ll), .val (.int a), .val (.int b), .val (.int x), .val (.int y), .val (.ref sp), .val (.ref sl), .val (.ref sn), .unset, .unset, .unset, .unset, .unset] [])) (fun t_ hr_ => XS.astore A3_ hx rfl (Jvm.hb hby at_92) rfl rfl (l' := #[.val (.int i0), .val (.int i1), .val (.int i2), .val (.int i3), .val (.int pl), .val (.int ll), .val (.int a), .val (.int b), .val (.int x), .val (.int y), .val (.ref sp), .val (.ref sl), .val (.ref sn), .unset, .unset, .unset, .unset, .unset]) rfl hr_) ?_
  refine own_by (T' := T3_) (g' := (mkF m 95 #[.val (.int i0), .val (.int i1), .val (.int i2), .val (.int i3), .val (.int pl), .val (.int ll), .val (.int a), .val (.int b), .val (.int x), .val (.int y), .val (.ref sp), .val (.ref sl), .val (.ref sn), .unset, .unset, .unset, .unset, .unset] [(.int i3)])) (fun t_ hr_ => XS.iloadN A3_ hx rfl (Jvm.hb hby at_94) rfl hr_) ?_
  refine own_by (T' := T3_) (g' := (mkF m 97 #[.val (.int i0), .val (.int i1), .val (.int i2), .val (.int i3), .val (.int pl), .val (.int ll), .val (.int a), .val (.int b), .val (.int x), .val (.int y), .val (.ref sp), .val (.ref sl), .val (.ref sn), .unset, .unset, .unset, .unset, .unset] [(.int (17 : Int32)), (.int i3)])) (fun t_ hr_ => XS.bipush A3_ hx rfl (Jvm.hb hby at_95) hr_) ?_
  refine own_by (T' := T3_) (g' := (mkF m 98 #[.val (.int i0), .val (.int i1), .val (.int i2), .val (.int i3), .val (.int pl), .val (.int ll), .val (.int a), .val (.int b), .val (.int x), .val (.int y), .val (.ref sp), .val (.ref sl), .val (.ref sn), .unset, .unset, .unset, .unset, .unset] [(.int ((i3.toUInt32 >>> ((17 : Int32) &&& 31).toUInt32).toInt32))])) (fun t_ hr_ => XS.iushr A3_ hx rfl (Jvm.hb hby at_97) rfl hr_) ?_
  refine own_by (T' := T3_) (g' := (mkF m 99 #[.val (.int i0), .val (.int i1), .val (.int i2), .val (.int i3), .val (.int pl), .val (.int ll), .val (.int a), .val (.int b), .val (.int x), .val (.int y), .val (.ref sp), .val (.ref sl), .val (.ref sn), .unset, .unset, .unset, .unset, .unset] [(.int (1 : Int32)), (.int ((i3.toUInt32 >>> ((17 : Int32) &&& 31).toUInt32).toInt32))])) (fun t_ hr_ => XS.iconst A3_ hx rfl (Jvm.hb hby at_98) hr_) ?_
  refine own_by (T' := T3_) (g' := (mkF m 100 #[.val (.int i0), .val (.int i1), .val (.int i2), .val (.int i3), .val (.int pl), .val (.int ll), .val (.int a), .val (.int b), .val (.int x), .val (.int y), .val (.ref sp), .val (.ref sl), .val (.ref sn), .unset, .unset, .unset, .unset, .unset] [(.int (((i3.toUInt32 >>> ((17 : Int32) &&& 31).toUInt32).toInt32) &&& (1 : Int32)))])) (fun t_ hr_ => XS.iand A3_ hx rfl (Jvm.hb hby at_99) rfl hr_) ?_
  refine own_by (T' := T3_) (g' := (mkF m 101 #[.val (.int i0), .val (.int i1), .val (.int i2), .val (.int i3), .val (.int pl), .val (.int ll), .val (.int a), .val (.int b), .val (.int x), .val (.int y), .val (.ref sp), .val (.ref sl), .val (.ref sn), .unset, .unset, .unset, .unset, .unset] [(.int i3), (.int (((i3.toUInt32 >>> ((17 : Int32) &&& 31).toUInt32).toInt32) &&& (1 : Int32)))])) (fun t_ hr_ => XS.iloadN A3_ hx rfl (Jvm.hb hby at_100) rfl hr_) ?_
  refine own_by (T' := T3_) (g' := (mkF m 103 #[.val (.int i0), .val (.int i1), .val (.int i2), .val (.int i3), .val (.int pl), .val (.int ll), .val (.int a), .val (.int b), .val (.int x), .val (.int y), .val (.ref sp), .val (.ref sl), .val (.ref sn), .unset, .unset, .unset, .unset, .unset] [(.int (8 : Int32)), (.int i3), (.int (((i3.toUInt32 >>> ((17 : Int32) &&& 31).toUInt32).toInt32) &&& (1 : Int32)))])) (fun t_ hr_ => XS.bipush A3_ hx rfl (Jvm.hb hby at_101) hr_) ?_
  refine own_by (T' := T3_) (g' := (mkF m 104 #[.val (.int i0), .val (.int i1), .val (.int i2), .val (.int i3), .val (.int pl), .val (.int ll), .val (.int a), .val (.int b), .val (.int x), .val (.int y), .val (.ref sp), .val (.ref sl), .val (.ref sn), .unset, .unset, .unset, .unset, .unset] [(.int ((i3.toUInt32 >>> ((8 : Int32) &&& 31).toUInt32).toInt32)), (.int (((i3.toUInt32 >>> ((17 : Int32) &&& 31).toUInt32).toInt32) &&& (1 : Int32)))])) (fun t_ hr_ => XS.iushr A3_ hx rfl (Jvm.hb hby at_103) rfl hr_) ?_
  refine own_by (T' := T3_) (g' := (mkF m 107 #[.val (.int i0), .val (.int i1), .val (.int i2), .val (.int i3), .val (.int pl), .val (.int ll), .val (.int a), .val (.int b), .val (.int x), .val (.int y), .val (.ref sp), .val (.ref sl), .val (.ref sn), .unset, .unset, .unset, .unset, .unset] [(.int (255 : Int32)), (.int ((i3.toUInt32 >>> ((8 : Int32) &&& 31).toUInt32).toInt32)), (.int (((i3.toUInt32 >>> ((17 : Int32) &&& 31).toUInt32).toInt32) &&& (1 : Int32)))])) (fun t_ hr_ => XS.sipush A3_ hx rfl (Jvm.hb hby at_104) hr_) ?_
  refine own_by (T' := T3_) (g' := (mkF m 108 #[.val (.int i0), .val (.int i1), .val (.int i2), .val (.int i3), .val (.int pl), .val (.int ll), .val (.int a), .val (.int b), .val (.int x), .val (.int y), .val (.ref sp), .val (.ref sl), .val (.ref sn), .unset, .unset, .unset, .unset, .unset] [(.int (((i3.toUInt32 >>> ((8 : Int32) &&& 31).toUInt32).toInt32) &&& (255 : Int32))), (.int (((i3.toUInt32 >>> ((17 : Int32) &&& 31).toUInt32).toInt32) &&& (1 : Int32)))])) (fun t_ hr_ => XS.iand A3_ hx rfl (Jvm.hb hby at_107) rfl hr_) ?_
  refine own_by (T' := T3_) (g' := (mkF m 109 #[.val (.int i0), .val (.int i1), .val (.int i2), .val (.int i3), .val (.int pl), .val (.int ll), .val (.int a), .val (.int b), .val (.int x), .val (.int y), .val (.ref sp), .val (.ref sl), .val (.ref sn), .unset, .unset, .unset, .unset, .unset] [(.int ((((i3.toUInt32 >>> ((8 : Int32) &&& 31).toUInt32).toInt32) &&& (255 : Int32)).toUInt32.toUInt16.toUInt32.toInt32)), (.int (((i3.toUInt32 >>> ((17 : Int32) &&& 31).toUInt32).toInt32) &&& (1 : Int32)))])) (fun t_ hr_ => XS.i2c A3_ hx rfl (Jvm.hb hby at_108) rfl hr_) ?_
  refine own_by (T' := T3_) (g' := (mkF m 110 #[.val (.int i0), .val (.int i1), .val (.int i2), .val (.int i3), .val (.int pl), .val (.int ll), .val (.int a), .val (.int b), .val (.int x), .val (.int y), .val (.ref sp), .val (.ref sl), .val (.ref sn), .unset, .unset, .unset, .unset, .unset] [(.int (0 : Int32)), (.int ((((i3.toUInt32 >>> ((8 : Int32) &&& 31).toUInt32).toInt32) &&& (255 : Int32)).toUInt32.toUInt16.toUInt32.toInt32)), (.int (((i3.toUInt32 >>> ((17 : Int32) &&& 31).toUInt32).toInt32) &&& (1 : Int32)))])) (fun t_ hr_ => XS.iconst A3_ hx rfl (Jvm.hb hby at_109) hr_) ?_
  refine own_callS w3_ hx (y := (⟨"com/example/sigillo/sigillo/soap/AttributeNamePinLaw", "draw", "(ICC)Ljava/lang/String;"⟩ : MethodName)) (hw _ (List.mem_of_getElem? (i := 0) rfl)) (hw _ (List.mem_of_getElem? (i := 1) rfl)) (hw _ (List.mem_of_getElem? (i := 2) rfl)) (hw _ (List.mem_of_getElem? (i := 3) rfl)) (by decide) (kc := 3) (ks := 8) (argsL := [(.int (((i3.toUInt32 >>> ((17 : Int32) &&& 31).toUInt32).toInt32) &&& (1 : Int32))), (.int ((((i3.toUInt32 >>> ((8 : Int32) &&& 31).toUInt32).toInt32) &&& (255 : Int32)).toUInt32.toUInt16.toUInt32.toInt32)), (.int (0 : Int32))]) (rest := []) (own_payCt (W := 0) (ctDr l Z a0 hw SC n0 h3_ (own_old w3_) (((i3.toUInt32 >>> ((17 : Int32) &&& 31).toUInt32).toInt32) &&& (1 : Int32)) ((((i3.toUInt32 >>> ((8 : Int32) &&& 31).toUInt32).toInt32) &&& (255 : Int32)).toUInt32.toUInt16.toUInt32.toInt32) (0 : Int32) (own_cases2 (own_mask _ 1 (by decide))) (by rw [own_ch255]; exact own_r255 _) (by decide)) w3_ (hw _ (List.mem_of_getElem? (i := 3) rfl)) (hw _ (List.mem_of_getElem? (i := 2) rfl)) hEL (by decide) (by decide)) (g := (mkF m 110 #[.val (.int i0), .val (.int i1), .val (.int i2), .val (.int i3), .val (.int pl), .val (.int ll), .val (.int a), .val (.int b), .val (.int x), .val (.int y), .val (.ref sp), .val (.ref sl), .val (.ref sn), .unset, .unset, .unset, .unset, .unset] [(.int (0 : Int32)), (.int ((((i3.toUInt32 >>> ((8 : Int32) &&& 31).toUInt32).toInt32) &&& (255 : Int32)).toUInt32.toUInt16.toUInt32.toInt32)), (.int (((i3.toUInt32 >>> ((17 : Int32) &&& 31).toUInt32).toInt32) &&& (1 : Int32)))])) rfl (by rw [hml]; rfl) (lenOf pd_446650151 rfl) rfl (by show 2 * 0 + _ ≤ _; exact Nat.le_of_eq rfl) (Jvm.hb hby at_110) (by decide) (by decide) (fun v4_ T4_ vm4_ h4_ q4_ C4_ w4_ => ?_)
  obtain ⟨sv, vs, rfl, Esv, Ssv, qsv⟩ := q4_
  have A4_ := own_at w4_
  show own_WP p e _ below s Z _ n0 _ T4_ (mkF m 113 #[.val (.int i0), .val (.int i1), .val (.int i2), .val (.int i3), .val (.int pl), .val (.int ll), .val (.int a), .val (.int b), .val (.int x), .val (.int y), .val (.ref sp), .val (.ref sl), .val (.ref sn), .unset, .unset, .unset, .unset, .unset] [(.ref sv)])
  refine own_by (T' := T4_) (g' := (mkF m 115 #[.val (.int i0), .val (.int i1), .val (.int i2), .val (.int i3), .val (.int pl), .val (.int ll), .val (.int a), .val (.int b), .val (.int x), .val (.int y), .val (.ref sp), .val (.ref sl), .val (.ref sn), .val (.ref sv), .unset, .unset, .unset, .unset] [])) (fun t_ hr_ => XS.astore A4_ hx rfl (Jvm.hb hby at_113) rfl rfl (l' := #[.val (.int i0), .val (.int i1), .val (.int i2), .val (.int i3), .val (.int pl), .val (.int ll), .val (.int a), .val (.int b), .val (.int x), .val (.int y), .val (.ref sp), .val (.ref sl), .val (.ref sn), .val (.ref sv), .unset, .unset, .unset, .unset]) rfl hr_) ?_
  refine own_new w4_ hx (hw _ (List.mem_of_getElem? (i := 37) rfl)) (hw _ (List.mem_of_getElem? (i := 38) rfl)) (hw _ (List.mem_of_getElem? (i := 39) rfl)) (g := (mkF m 115 #[.val (.int i0), .val (.int i1), .val (.int i2), .val (.int i3), .val (.int pl), .val (.int ll), .val (.int a), .val (.int b), .val (.int x), .val (.int y), .val (.ref sp), .val (.ref sl), .val (.ref sn), .val (.ref sv), .unset, .unset, .unset, .unset] [])) rfl (Jvm.hb hby at_115) (by decide) (by decide) (fun T5_ h5_ a5_ g5_ E5_ ⟨X5_, D5_⟩ w5_ => ?_)
  have A5_ := own_at w5_
  show own_WP p e _ below s Z _ n0 _ T5_ (mkF m 118 #[.val (.int i0), .val (.int i1), .val (.int i2), .val (.int i3), .val (.int pl), .val (.int ll), .val (.int a), .val (.int b), .val (.int x), .val (.int y), .val (.ref sp), .val (.ref sl), .val (.ref sn), .val (.ref sv), .unset, .unset, .unset, .unset] [(.ref a5_)])
  refine own_by (T' := T5_) (g' := (mkF m 119 #[.val (.int i0), .val (.int i1), .val (.int i2), .val (.int i3), .val (.int pl), .val (.int ll), .val (.int a), .val (.int b), .val (.int x), .val (.int y), .val (.ref sp), .val (.ref sl), .val (.ref sn), .val (.ref sv), .unset, .unset, .unset, .unset] [(.ref a5_), (.ref a5_)])) (fun t_ hr_ => XS.dup A5_ hx rfl (Jvm.hb hby at_118) rfl rfl hr_) ?_
  refine own_by (T' := T5_) (g' := (mkF m 121 #[.val (.int i0), .val (.int i1), .val (.int i2), .val (.int i3), .val (.int pl), .val (.int ll), .val (.int a), .val (.int b), .val (.int x), .val (.int y), .val (.ref sp), .val (.ref sl), .val (.ref sn), .val (.ref sv), .unset, .unset, .unset, .unset] [(.ref sp), (.ref a5_), (.ref a5_)])) (fun t_ hr_ => XS.aload A5_ hx rfl (Jvm.hb hby at_119) rfl rfl hr_) ?_
  refine own_by (T' := T5_) (g' := (mkF m 123 #[.val (.int i0), .val (.int i1), .val (.int i2), .val (.int i3), .val (.int pl), .val (.int ll), .val (.int a), .val (.int b), .val (.int x), .val (.int y), .val (.ref sp), .val (.ref sl), .val (.ref sn), .val (.ref sv), .unset, .unset, .unset, .unset] [(.ref sl), (.ref sp), (.ref a5_), (.ref a5_)])) (fun t_ hr_ => XS.aload A5_ hx rfl (Jvm.hb hby at_121) rfl rfl hr_) ?_
  refine own_by (T' := T5_) (g' := (mkF m 125 #[.val (.int i0), .val (.int i1), .val (.int i2), .val (.int i3), .val (.int pl), .val (.int ll), .val (.int a), .val (.int b), .val (.int x), .val (.int y), .val (.ref sp), .val (.ref sl), .val (.ref sn), .val (.ref sv), .unset, .unset, .unset, .unset] [(.ref sn), (.ref sl), (.ref sp), (.ref a5_), (.ref a5_)])) (fun t_ hr_ => XS.aload A5_ hx rfl (Jvm.hb hby at_123) rfl rfl hr_) ?_
  refine own_by (T' := T5_) (g' := (mkF m 127 #[.val (.int i0), .val (.int i1), .val (.int i2), .val (.int i3), .val (.int pl), .val (.int ll), .val (.int a), .val (.int b), .val (.int x), .val (.int y), .val (.ref sp), .val (.ref sl), .val (.ref sn), .val (.ref sv), .unset, .unset, .unset, .unset] [(.ref sv), (.ref sn), (.ref sl), (.ref sp), (.ref a5_), (.ref a5_)])) (fun t_ hr_ => XS.aload A5_ hx rfl (Jvm.hb hby at_125) rfl rfl hr_) ?_
  have gno : n0 ≤ a5_ := by rw [g5_]; exact own_n0 w4_
  refine own_callC w5_ hx (y := (⟨"com/example/sigillo/sigillo/soap/XmlElement$Attribute", "<init>", "(Ljava/lang/String;Ljava/lang/String;Ljava/lang/String;Ljava/lang/String;)V"⟩ : MethodName)) rfl (hw _ (List.mem_of_getElem? (i := 40) rfl)) (hw _ (List.mem_of_getElem? (i := 41) rfl)) (hw _ (List.mem_of_getElem? (i := 42) rfl)) (by decide) (kc := 0) (ks := 0) (a := a5_) (argsL := [(.ref sp), (.ref sl), (.ref sn), (.ref sv)]) (rest := [(.ref a5_)]) (own_payCt (W := 1) (ctAtt l Z a0 hw  n0 h5_ (own_old w5_) a5_ sp sl sn sv _ _ _ _ (X5_) ((D5_ (Or.inr (hw _ (List.mem_of_getElem? (i := 50) rfl))) (ty := (.object "java/lang/String")) (by decide))) ((D5_ (Or.inr (hw _ (List.mem_of_getElem? (i := 52) rfl))) (ty := (.object "java/lang/String")) (by decide))) ((D5_ (Or.inr (hw _ (List.mem_of_getElem? (i := 54) rfl))) (ty := (.object "java/lang/String")) (by decide))) ((D5_ (Or.inr (hw _ (List.mem_of_getElem? (i := 56) rfl))) (ty := (.object "java/lang/String")) (by decide))) gno ) w5_ (hw _ (List.mem_of_getElem? (i := 42) rfl)) (hw _ (List.mem_of_getElem? (i := 39) rfl)) hEL (by decide) (by decide)) (g := (mkF m 127 #[.val (.int i0), .val (.int i1), .val (.int i2), .val (.int i3), .val (.int pl), .val (.int ll), .val (.int a), .val (.int b), .val (.int x), .val (.int y), .val (.ref sp), .val (.ref sl), .val (.ref sn), .val (.ref sv), .unset, .unset, .unset, .unset] [(.ref sv), (.ref sn), (.ref sl), (.ref sp), (.ref a5_), (.ref a5_)])) rfl (by rw [hml]; rfl) (lenOf pd_514189454 rfl) rfl (by show 2 * 0 + _ ≤ _; exact Nat.le_of_eq rfl) (Jvm.hb hby at_127) (by decide) (by decide) (fun v6_ T6_ vm6_ h6_ q6_ C6_ w6_ => ?_)
  obtain ⟨rfl, Ko, Xo, Fo_0, Fo_1, Fo_2, Fo_3⟩ := q6_
  have A6_ := own_at w6_
  show own_WP p e _ below s Z _ n0 _ T6_ (mkF m 130 #[.val (.int i0), .val (.int i1), .val (.int i2), .val (.int i3), .val (.int pl), .val (.int ll), .val (.int a), .val (.int b), .val (.int x), .val (.int y), .val (.ref sp), .val (.ref sl), .val (.ref sn), .val (.ref sv), .unset, .unset, .unset, .unset] [(.ref a5_)])
  have Eo := own_extK E5_ Ko (allS (by rw [g5_]; exact Nat.le_refl _) all0)
  refine own_by (T' := T6_) (g' := (mkF m 132 #[.val (.int i0), .val (.int i1), .val (.int i2), .val (.int i3), .val (.int pl), .val (.int ll), .val (.int a), .val (.int b), .val (.int x), .val (.int y), .val (.ref sp), .val (.ref sl), .val (.ref sn), .val (.ref sv), .val (.ref a5_), .unset, .unset, .unset] [])) (fun t_ hr_ => XS.astore A6_ hx rfl (Jvm.hb hby at_130) rfl rfl (l' := #[.val (.int i0), .val (.int i1), .val (.int i2), .val (.int i3), .val (.int pl), .val (.int ll), .val (.int a), .val (.int b), .val (.int x), .val (.int y), .val (.ref sp), .val (.ref sl), .val (.ref sn), .val (.ref sv), .val (.ref a5_), .unset, .unset, .unset]) rfl hr_) ?_
  refine own_by (T' := T6_) (g' := (mkF m 134 #[.val (.int i0), .val (.int i1), .val (.int i2), .val (.int i3), .val (.int pl), .val (.int ll), .val (.int a), .val (.int b), .val (.int x), .val (.int y), .val (.ref sp), .val (.ref sl), .val (.ref sn), .val (.ref sv), .val (.ref a5_), .unset, .unset, .unset] [(.ref a5_)])) (fun t_ hr_ => XS.aload A6_ hx rfl (Jvm.hb hby at_132) rfl rfl hr_) ?_
  have Ez := own_extTrans (own_extTrans Esn Esv) Eo
  have Ey := own_extTrans Esl Ez
  refine own_callV w6_ hx (y := (⟨"com/example/sigillo/sigillo/soap/XmlElement$Attribute", "name", "()Ljava/lang/String;"⟩ : MethodName)) (z := (⟨"com/example/sigillo/sigillo/soap/XmlElement$Attribute", "name", "()Ljava/lang/String;"⟩ : MethodName)) (hw _ (List.mem_of_getElem? (i := 57) rfl)) (hw _ (List.mem_of_getElem? (i := 58) rfl)) (fun u hu => notFace_of_selects (args := #[]) (mvT hu (hw _ (List.mem_of_getElem? (i := 60) rfl)))) (hw _ (List.mem_of_getElem? (i := 60) rfl)) (hw _ (List.mem_of_getElem? (i := 59) rfl)) (by decide) (kc := 6) (ks := 48) (a := a5_) (argsL := []) (rest := []) (own_payCt (W := 0) (ctNm l Z a0 hw SC n0 h6_ (own_old w6_) a5_ sp sl ps ls Fo_0 Fo_1 (Ssp.ext Ey) (Ssl.ext Ez) (by rw [qsp]; exact Nat.le_trans (List.length_take_le' _ _) (by simp)) (by rw [qsl]; exact Nat.le_trans (List.length_take_le' _ _) (by simp))) w6_ (hw _ (List.mem_of_getElem? (i := 61) rfl)) (hw _ (List.mem_of_getElem? (i := 39) rfl)) hEL (by decide) (by decide)) Xo (g := (mkF m 134 #[.val (.int i0), .val (.int i1), .val (.int i2), .val (.int i3), .val (.int pl), .val (.int ll), .val (.int a), .val (.int b), .val (.int x), .val (.int y), .val (.ref sp), .val (.ref sl), .val (.ref sn), .val (.ref sv), .val (.ref a5_), .unset, .unset, .unset] [(.ref a5_)])) rfl (by rw [hml]; rfl) (lenOf pd_179586189 rfl) rfl (by show 2 * 0 + _ ≤ _; exact Nat.le_of_eq rfl) (Jvm.hb hby at_134) (by decide) (by decide) (fun v7_ T7_ vm7_ h7_ q7_ C7_ w7_ => ?_)
  obtain ⟨r, rfl, Er, Sr⟩ := q7_
  have A7_ := own_at w7_
  show own_WP p e _ below s Z _ n0 _ T7_ (mkF m 137 #[.val (.int i0), .val (.int i1), .val (.int i2), .val (.int i3), .val (.int pl), .val (.int ll), .val (.int a), .val (.int b), .val (.int x), .val (.int y), .val (.ref sp), .val (.ref sl), .val (.ref sn), .val (.ref sv), .val (.ref a5_), .unset, .unset, .unset] [(.ref r)])
  rw [qsp, qsl] at Sr
  refine own_by (T' := T7_) (g' := (mkF m 139 #[.val (.int i0), .val (.int i1), .val (.int i2), .val (.int i3), .val (.int pl), .val (.int ll), .val (.int a), .val (.int b), .val (.int x), .val (.int y), .val (.ref sp), .val (.ref sl), .val (.ref sn), .val (.ref sv), .val (.ref a5_), .val (.ref r), .unset, .unset] [])) (fun t_ hr_ => XS.astore A7_ hx rfl (Jvm.hb hby at_137) rfl rfl (l' := #[.val (.int i0), .val (.int i1), .val (.int i2), .val (.int i3), .val (.int pl), .val (.int ll), .val (.int a), .val (.int b), .val (.int x), .val (.int y), .val (.ref sp), .val (.ref sl), .val (.ref sn), .val (.ref sv), .val (.ref a5_), .val (.ref r), .unset, .unset]) rfl hr_) ?_
  exact J139 hw SC SF hx hby hml hret hlk hnm i0 i1 i2 i3 pl ll a b x y sp sl sn sv a5_ r (own_mono w7_ (by decide : 19 ≤ 30) (by decide : 84 ≤ 400)) hp hl ra rb rx ry Sr

set_option maxRecDepth 65536 in
set_option maxHeartbeats 40000000 in
theorem comes_1 {Post : Tables → Env → Array Value → State → Outcome → State → Prop} (hpost : ∀ tb e args s v u, (limb_1_1.after args s (.returned v) u = true ∧ limb_1_2.after args s (.returned v) u = true ∧ True) → Jvm.D.FramedW s (.returned v) u (Jvm.fieldLocs frame_1_writes args s ++ Jvm.arrayLocs frame_1_arrays args s ++ Jvm.staticLocs frame_1_statics s) 48 2304 → Post tb e args s (.returned v) u) :
    ArmFor flags0 classFile x code maxLocals ret World_1 tables_1 room_1 Calls_1 rest_1 Pre_1 Post := by
  intro l hfl _ _ p e ha hc hk s m args below hf hA hF happ hP
  obtain ⟨hcalls, hrest, hpre⟩ := hP
  obtain ⟨-, -, -, hnamed, -, -, -, hat⟩ := (Spec.applies_iff hf).mp happ
  obtain ⟨hg, hn⟩ := and_e (Cond.before_iff.mp (show (Jvm.Cond.and given_1 narrow_1).before args s = true from hpre))
  obtain ⟨hcnt, hg0⟩ := and_e hg
  obtain ⟨ha0, hg1⟩ := and_e hg0
  obtain ⟨ha1, hg2⟩ := and_e hg1
  obtain ⟨ha2, hg3⟩ := and_e hg2
  have ha3 := hg3
  obtain ⟨w0, w1, w2, w3, rfl⟩ : ∃ w0 w1 w2 w3 : Value, args = #[w0, w1, w2, w3] := by
    have hs : args.size = 4 := by simpa [Cond.value, given_1] using hcnt
    obtain ⟨L⟩ := args
    match L, hs with
    | [w0, w1, w2, w3], _ => exact ⟨w0, w1, w2, w3, rfl⟩
  have hw := fun d (hd : d ∈ tables_1) => atoms_spec (ws := Jvm.Cond.code x code maxLocals ret :: tables_1) hat d (List.mem_cons_of_mem _ hd)
  obtain ⟨hsets, hown0⟩ := atoms_of _ (rest_1_c_eq ▸ (show rest_1_c.before _ s = true from hrest))
  obtain ⟨i0, ei0⟩ := is_v ha0
  obtain rfl : w0 = (.int i0) := Option.some.inj ei0
  obtain ⟨i1, ei1⟩ := is_v ha1
  obtain rfl : w1 = (.int i1) := Option.some.inj ei1
  obtain ⟨i2, ei2⟩ := is_v ha2
  obtain rfl : w2 = (.int i2) := Option.some.inj ei2
  obtain ⟨i3, ei3⟩ := is_v ha3
  obtain rfl : w3 = (.int i3) := Option.some.inj ei3
  have n3 := not_v (Cond.before_iff.mp (hsets _ (List.mem_of_getElem? (i := 2) rfl)))
  obtain ⟨zc, ec⟩ := is_v (Cond.before_iff.mp (hsets _ (List.mem_of_getElem? (i := 1) rfl)))
  have SC : own_SC s := ⟨zc, Sta.start ec (Or.inl (hsets _ (List.mem_of_getElem? (i := 0) rfl))), gotF (Cond.eq_ints ec (Term.int_eval (0))) n3⟩
  obtain ⟨vf, ef, rf⟩ := isR_v (Cond.before_iff.mp (hsets _ (List.mem_of_getElem? (i := 8) rfl)))
  have SF : own_SF s := ⟨vf, Sta.start ef (Or.inl (hsets _ (List.mem_of_getElem? (i := 7) rfl))), rf⟩
  have hCH : CHv s consts_1 s.vm s.heap := CHv.start (own_EL hw) (fun q hq => hcalls.1 q hq) (hsets _ (List.mem_of_getElem? (i := 2) rfl)) (hw _ (List.mem_of_getElem? (i := 23) rfl)) (hw _ (List.mem_of_getElem? (i := 5) rfl))
  obtain ⟨n, o, h1, h2, h3, _, L, rfl, ⟨rfl, N, -⟩, -, hq⟩ := ct0 l s _ hw SC SF s.heap.size s.heap (Old.start s) i0 i1 i2 i3  tables_1 p e ha hc hk s m _ below hf ((Spec.applies_iff_loose hf).mp happ).1 ⟨rfl, State.Warmed39.refl s, rfl, hCH, fun x hx => by cases hx⟩ trivial
  refine ⟨n, _, h1, h2, h3, hpost _ _ _ _ _ _ ⟨Cond.after_iff.mpr rfl, Cond.after_iff.mpr (eq_i res_at (Term.int_eval (1)) rfl), trivial⟩ ⟨hq.1, hq.2.1, hq.2.2.1, (hq.2.2.2.sift fun y hy => Or.inr (N y hy)).mono (by decide) (by decide)⟩⟩
theorem main_1_1 : Claimed_1_1 := comes_1 fun _ _ _ _ _ _ h hF => ⟨h.1, hF⟩
theorem main_1_2 : Claimed_1_2 := comes_1 fun _ _ _ _ _ _ h hF => ⟨h.2.1, hF⟩

end Jvm.Pilot.@@N@@
namespace Jvm.Pilot.@@N@@
open Jvm Jvm.ClassFile Sem Op Lib Jvm.Free Jvm.Stand Jvm.Pilot.@@N@@.Jvm.D
/-! MADE BY PROGRAM (witnessworld.py) out of the Statement's table words and the real class files: 25 classes; the members and pool entries that the words name. The judged class is class 1, her method 3. -/
namespace start1
open Jvm.ClassFile
def u (s : String) : CpInfo := .utf8 (stringToUtf16 s)
/-- a pool by its gaps: so many unusable entries, then the entry; so many at the end -/
def gap : Nat → List CpInfo → List CpInfo
  | 0, r => r
  | n + 1, r => .unusable :: gap n r
def poolList (es : List (Nat × CpInfo)) (last : Nat) : List CpInfo := es.foldr (fun e r => gap e.1 (e.2 :: r)) (gap last [])
def pool (es : List (Nat × CpInfo)) (last : Nat) : Array CpInfo := ⟨poolList es last⟩
def fileOf (pool : Array CpInfo) (this : Nat) (attrs : Array Attribute := #[]) (ms : Array MethodInfo := #[]) (fl : Nat := 33) (sup : Nat := 0) (ifs : Array Nat := #[]) (fds : Array FieldInfo := #[]) : ClassFile where
  minorVersion := 0
  majorVersion := 65
  constantPool := pool
  accessFlags := fl
  thisClass := this
  superClass := sup
  interfaces := ifs
  fields := fds
  methods := ms
  attributes := attrs
def plain (name : String) (sup : Option ClassId) : Class where
  name := name
  kind := .ordinary
  loader := none
  accessFlags := 33
  super := sup
  interfaces := #[]
  cf := none
  fields := #[]
  methods := #[]
  instanceTypes := #[]
  staticTypes := #[]
  resolved := #[]
  callSites := []
  init := .initialized
  statics := none
  mirror := none

def pool0 : Array CpInfo := pool [(5, u "<init>"), (0, u "()V"), (1, .class_ 10), (1, u "java/lang/Object")] 113

def k0c0 : Code := { maxStack := 0, maxLocals := 1, code := object_method_1_code, exceptionTable := #[], attributes := #[] }
def k0m0 : Method := { name := "<init>", desc := "()V", sig := { parameters := [], returnType := none }, accessFlags := 1, code := some k0c0 }
/-- java/lang/Object -/
def k0 : Class := { plain "java/lang/Object" none with
  accessFlags := 33
  interfaces := #[]
  cf := some (fileOf pool0 8 #[] #[{ accessFlags := 1, nameIndex := 5, descriptorIndex := 6, attributes := #[] }] 33 0 #[] #[])
  fields := #[]
  methods := #[k0m0]
  instanceTypes := #[]
  staticTypes := #[]
  resolved := Array.replicate 124 none
  statics := none }

def pool1 : Array CpInfo := pool [(2, .class_ 4), (1, u "java/lang/Object"), (0, u "<init>"), (0, u "()V"), (0, .string 8), (0, u ""), (0, .methodref 10 11), (0, .class_ 12), (0, .nameAndType 13 14), (0, u "java/lang/String"), (0, u "valueOf"), (0, u "(C)Ljava/lang/String;"), (0, .methodref 10 16), (0, .nameAndType 5 17), (0, u "([C)V"), (0, .methodref 10 19), (0, .nameAndType 20 21), (0, u "charAt"), (0, u "(I)C"), (0, .methodref 23 24), (0, .class_ 25), (0, .nameAndType 26 27), (0, u "com/example/sigillo/sigillo/soap/AttributeNamePinLaw"), (0, u "draw"), (0, u "(ICC)Ljava/lang/String;"), (0, .class_ 29), (0, u "com/example/sigillo/sigillo/soap/XmlElement$Attribute"), (0, .methodref 28 31), (0, .nameAndType 5 32), (0, u "(Ljava/lang/String;Ljava/lang/String;Ljava/lang/String;Ljava/lang/String;)V"), (0, .methodref 28 34), (0, .nameAndType 35 36), (0, u "name"), (0, u "()Ljava/lang/String;"), (0, .methodref 10 38), (0, .nameAndType 39 40), (0, u "length"), (0, u "()I"), (0, .methodref 23 42), (0, .nameAndType 43 44), (0, u "at"), (0, u "(Ljava/lang/String;[CII)Z"), (3, u "law"), (0, u "(IIII)Z")] 8

def k1m0 : Method := { name := "<init>", desc := "()V", sig := { parameters := [], returnType := none }, accessFlags := 1, code := none }
def k1c1 : Code := { maxStack := 6, maxLocals := 3, code := method_2_code, exceptionTable := #[], attributes := #[] }
def k1m1 : Method := { name := "draw", desc := "(ICC)Ljava/lang/String;", sig := { parameters := [.int, .char, .char], returnType := some (.object "java/lang/String") }, accessFlags := 10, code := some k1c1 }
def k1c2 : Code := { maxStack := 3, maxLocals := 4, code := method_3_code, exceptionTable := #[], attributes := #[] }
def k1m2 : Method := { name := "at", desc := "(Ljava/lang/String;[CII)Z", sig := { parameters := [(.object "java/lang/String"), (.array .char), .int, .int], returnType := some .boolean }, accessFlags := 10, code := some k1c2 }
def k1c3 : Code := { maxStack := 6, maxLocals := 18, code := code, exceptionTable := #[], attributes := #[] }
def k1m3 : Method := { name := "law", desc := "(IIII)Z", sig := { parameters := [.int, .int, .int, .int], returnType := some .boolean }, accessFlags := 9, code := some k1c3 }
/-- com/example/sigillo/sigillo/soap/AttributeNamePinLaw -/
def k1 : Class := { plain "com/example/sigillo/sigillo/soap/AttributeNamePinLaw" (some 0) with
  accessFlags := 49
  interfaces := #[]
  cf := some (fileOf pool1 23 #[] #[{ accessFlags := 1, nameIndex := 5, descriptorIndex := 6, attributes := #[] }, { accessFlags := 10, nameIndex := 26, descriptorIndex := 27, attributes := #[] }, { accessFlags := 10, nameIndex := 43, descriptorIndex := 44, attributes := #[] }, { accessFlags := 9, nameIndex := 48, descriptorIndex := 49, attributes := #[] }] 49 2 #[] #[])
  fields := #[]
  methods := #[k1m0, k1m1, k1m2, k1m3]
  instanceTypes := #[]
  staticTypes := #[]
  resolved := Array.replicate 58 none
  statics := none }

def pool2 : Array CpInfo := pool [(1, .class_ 2), (0, u "java/io/Serializable"), (0, .class_ 4), (0, u "java/lang/Object")] 2

/-- java/io/Serializable -/
def k2 : Class := { plain "java/io/Serializable" (some 0) with
  accessFlags := 1537
  interfaces := #[]
  cf := some (fileOf pool2 1 #[] #[] 1537 3 #[] #[])
  fields := #[]
  methods := #[]
  instanceTypes := #[]
  staticTypes := #[]
  resolved := Array.replicate 7 none
  statics := none }

def pool3 : Array CpInfo := pool [(1, .class_ 2), (0, u "java/lang/Comparable"), (0, .class_ 4), (0, u "java/lang/Object")] 7

/-- java/lang/Comparable -/
def k3 : Class := { plain "java/lang/Comparable" (some 0) with
  accessFlags := 1537
  interfaces := #[]
  cf := some (fileOf pool3 1 #[] #[] 1537 3 #[] #[])
  fields := #[]
  methods := #[]
  instanceTypes := #[]
  staticTypes := #[]
  resolved := Array.replicate 12 none
  statics := none }

def pool4 : Array CpInfo := pool [(2, .class_ 4), (1, u "java/lang/CharSequence"), (42, .class_ 48), (0, u "java/lang/CharSequence$1CodePointIterator"), (10, .class_ 60), (0, u "java/lang/CharSequence$1CharIterator"), (5, .class_ 67), (0, u "java/lang/Object")] 63

/-- java/lang/CharSequence -/
def k4 : Class := { plain "java/lang/CharSequence" (some 0) with
  accessFlags := 1537
  interfaces := #[]
  cf := some (fileOf pool4 2 #[.nestMembers #[47, 59]] #[] 1537 66 #[] #[])
  fields := #[]
  methods := #[]
  instanceTypes := #[]
  staticTypes := #[]
  resolved := Array.replicate 131 none
  statics := none }

def pool5 : Array CpInfo := pool [(1, .class_ 2), (0, u "java/lang/constant/Constable"), (0, .class_ 4), (0, u "java/lang/Object")] 6

/-- java/lang/constant/Constable -/
def k5 : Class := { plain "java/lang/constant/Constable" (some 0) with
  accessFlags := 1537
  interfaces := #[]
  cf := some (fileOf pool5 1 #[] #[] 1537 3 #[] #[])
  fields := #[]
  methods := #[]
  instanceTypes := #[]
  staticTypes := #[]
  resolved := Array.replicate 11 none
  statics := none }

def pool6 : Array CpInfo := pool [(1, .class_ 2), (0, u "java/lang/constant/ConstantDesc"), (0, .class_ 4), (0, u "java/lang/Object")] 32

/-- java/lang/constant/ConstantDesc -/
def k6 : Class := { plain "java/lang/constant/ConstantDesc" (some 0) with
  accessFlags := 1537
  interfaces := #[]
  cf := some (fileOf pool6 1 #[] #[] 1537 3 #[] #[])
  fields := #[]
  methods := #[]
  instanceTypes := #[]
  staticTypes := #[]
  resolved := Array.replicate 37 none
  statics := none }

def pool7 : Array CpInfo := pool [(1, .methodref 2 3), (0, .class_ 4), (0, .nameAndType 5 6), (0, u "java/lang/Object"), (0, u "<init>"), (0, u "()V"), (2, .fieldref 10 11), (0, .class_ 12), (0, .nameAndType 13 14), (0, u "java/lang/String"), (0, u "value"), (0, u "[B"), (0, .fieldref 10 16), (0, .nameAndType 17 18), (0, u "coder"), (0, u "B"), (2, u "hash"), (0, u "I"), (2, u "hashIsZero"), (0, u "Z"), (0, .methodref 10 28), (0, .nameAndType 5 29), (0, u "([CIILjava/lang/Void;)V"), (8, .fieldref 10 39), (0, .nameAndType 40 26), (0, u "COMPACT_STRINGS"), (1, .class_ 44), (1, u "java/lang/StringUTF16"), (0, u "compress"), (1, .methodref 42 48), (0, .nameAndType 49 50), (0, u "coderFromArrayLen"), (0, u "([BI)B"), (2, u "toBytes"), (0, .methodref 55 56), (0, .class_ 57), (0, .nameAndType 58 59), (0, u "java/util/Arrays"), (0, u "copyOfRange"), (0, u "([BII)[B"), (47, .class_ 109), (1, u "java/lang/StringLatin1"), (32, u "()Z"), (34, .methodref 42 178), (0, .nameAndType 45 179), (0, u "([CII)[B"), (13, .class_ 195), (1, u "java/lang/System"), (13, .methodref 10 210), (0, .nameAndType 5 211), (0, u "([BB)V"), (0, .methodref 193 213), (0, .nameAndType 214 215), (0, u "arraycopy"), (0, u "(Ljava/lang/Object;ILjava/lang/Object;II)V"), (118, u "()I"), (0, .methodref 10 336), (0, .nameAndType 17 337), (0, u "()B"), (2, u "()[B"), (22, u "([BI)C"), (5, u "(C)Z"), (21, u "(II)V"), (35, u "(I)C"), (61, .methodref 10 490), (0, .nameAndType 5 491), (0, u "(Ljava/lang/AbstractStringBuilder;Ljava/lang/Void;)V"), (0, .methodref 10 493), (0, .nameAndType 494 142), (0, u "isLatin1"), (0, .methodref 107 496), (0, .nameAndType 497 363), (0, u "charAt"), (3, u "checkIndex"), (4, .nameAndType 507 334), (0, u "length"), (24, u "getBytes"), (16, .methodref 550 506), (0, .class_ 551), (0, u "java/lang/AbstractStringBuilder"), (0, .methodref 550 553), (0, .nameAndType 554 340), (0, u "getValue"), (20, .class_ 576), (0, u "java/lang/CharSequence"), (22, u "CASE_INSENSITIVE_ORDER"), (0, u "Ljava/util/Comparator;"), (91, u "isEmpty"), (89, u "valueOf"), (0, u "(C)Ljava/lang/String;"), (37, u "([BIB)V"), (188, u "([C)V"), (4, .methodref 107 1016), (0, .nameAndType 1017 369), (0, u "canEncode"), (0, .methodref 107 1019), (0, .nameAndType 53 1020), (0, u "(C)[B"), (26, .methodref 550 493), (5, .fieldref 1054 1055), (0, .class_ 1056), (0, .nameAndType 1057 1058), (0, u "jdk/internal/util/Preconditions"), (0, u "SIOOBE_FORMATTER"), (0, u "Ljava/util/function/BiFunction;"), (0, .methodref 1054 1060), (0, .nameAndType 501 1061), (0, u "(IILjava/util/function/BiFunction;)I"), (39, u "serialPersistentFields"), (0, u "[Ljava/io/ObjectStreamField;"), (0, .class_ 1104), (0, u "java/lang/String$CaseInsensitiveComparator"), (1, .class_ 1107), (0, u "java/io/Serializable"), (0, .class_ 1109), (0, u "java/lang/Comparable"), (0, .class_ 1111), (0, u "java/lang/constant/Constable"), (0, .class_ 1113), (0, u "java/lang/constant/ConstantDesc"), (2, u "serialVersionUID"), (0, u "J"), (3, u "REPL"), (0, u "C"), (2, u "LATIN1"), (1, u "UTF16"), (105, u "(Ljava/lang/StringBuilder;)V")] 217

def k7m0 : Method := { name := "<init>", desc := "()V", sig := { parameters := [], returnType := none }, accessFlags := 1, code := none }
def k7c1 : Code := { maxStack := 5, maxLocals := 2, code := jdk_42_method_3_code, exceptionTable := #[], attributes := #[] }
def k7m1 : Method := { name := "<init>", desc := "([C)V", sig := { parameters := [(.array .char)], returnType := none }, accessFlags := 1, code := some k7c1 }
def k7c2 : Code := { maxStack := 3, maxLocals := 2, code := jdk_42_method_53_code, exceptionTable := #[], attributes := #[] }
def k7m2 : Method := { name := "<init>", desc := "(Ljava/lang/StringBuilder;)V", sig := { parameters := [(.object "java/lang/StringBuilder")], returnType := none }, accessFlags := 1, code := some k7c2 }
def k7c3 : Code := { maxStack := 2, maxLocals := 1, code := jdk_42_method_54_code, exceptionTable := #[], attributes := #[] }
def k7m3 : Method := { name := "length", desc := "()I", sig := { parameters := [], returnType := some .int }, accessFlags := 1, code := some k7c3 }
def k7c4 : Code := { maxStack := 1, maxLocals := 1, code := jdk_42_method_55_code, exceptionTable := #[], attributes := #[] }
def k7m4 : Method := { name := "isEmpty", desc := "()Z", sig := { parameters := [], returnType := some .boolean }, accessFlags := 1, code := some k7c4 }
def k7c5 : Code := { maxStack := 2, maxLocals := 2, code := jdk_42_method_56_code, exceptionTable := #[], attributes := #[] }
def k7m5 : Method := { name := "charAt", desc := "(I)C", sig := { parameters := [.int], returnType := some .char }, accessFlags := 1, code := some k7c5 }
def k7c6 : Code := { maxStack := 4, maxLocals := 1, code := jdk_42_method_139_code, exceptionTable := #[], attributes := #[] }
def k7m6 : Method := { name := "valueOf", desc := "(C)Ljava/lang/String;", sig := { parameters := [.char], returnType := some (.object "java/lang/String") }, accessFlags := 9, code := some k7c6 }
def k7c7 : Code := { maxStack := 5, maxLocals := 4, code := jdk_42_method_147_code, exceptionTable := #[], attributes := #[] }
def k7m7 : Method := { name := "getBytes", desc := "([BIB)V", sig := { parameters := [(.array .byte), .int, .byte], returnType := none }, accessFlags := 0, code := some k7c7 }
def k7c8 : Code := { maxStack := 4, maxLocals := 6, code := jdk_42_method_149_code, exceptionTable := #[], attributes := #[] }
def k7m8 : Method := { name := "<init>", desc := "([CIILjava/lang/Void;)V", sig := { parameters := [(.array .char), .int, .int, (.object "java/lang/Void")], returnType := none }, accessFlags := 2, code := some k7c8 }
def k7c9 : Code := { maxStack := 5, maxLocals := 5, code := jdk_42_method_150_code, exceptionTable := #[], attributes := #[] }
def k7m9 : Method := { name := "<init>", desc := "(Ljava/lang/AbstractStringBuilder;Ljava/lang/Void;)V", sig := { parameters := [(.object "java/lang/AbstractStringBuilder"), (.object "java/lang/Void")], returnType := none }, accessFlags := 0, code := some k7c9 }
def k7c10 : Code := { maxStack := 2, maxLocals := 3, code := jdk_42_method_151_code, exceptionTable := #[], attributes := #[] }
def k7m10 : Method := { name := "<init>", desc := "([BB)V", sig := { parameters := [(.array .byte), .byte], returnType := none }, accessFlags := 0, code := some k7c10 }
def k7c11 : Code := { maxStack := 1, maxLocals := 1, code := jdk_42_method_152_code, exceptionTable := #[], attributes := #[] }
def k7m11 : Method := { name := "coder", desc := "()B", sig := { parameters := [], returnType := some .byte }, accessFlags := 0, code := some k7c11 }
def k7c12 : Code := { maxStack := 1, maxLocals := 1, code := jdk_42_method_154_code, exceptionTable := #[], attributes := #[] }
def k7m12 : Method := { name := "isLatin1", desc := "()Z", sig := { parameters := [], returnType := some .boolean }, accessFlags := 0, code := some k7c12 }
def k7c13 : Code := { maxStack := 3, maxLocals := 2, code := jdk_42_method_155_code, exceptionTable := #[], attributes := #[] }
def k7m13 : Method := { name := "checkIndex", desc := "(II)V", sig := { parameters := [.int, .int], returnType := none }, accessFlags := 8, code := some k7c13 }
/-- java/lang/String -/
def k7 : Class := { plain "java/lang/String" (some 0) with
  accessFlags := 49
  interfaces := #[2, 3, 4, 5, 6]
  cf := some (fileOf pool7 10 #[.nestMembers #[1103]] #[{ accessFlags := 1, nameIndex := 5, descriptorIndex := 6, attributes := #[] }, { accessFlags := 1, nameIndex := 5, descriptorIndex := 1010, attributes := #[] }, { accessFlags := 1, nameIndex := 5, descriptorIndex := 1233, attributes := #[] }, { accessFlags := 1, nameIndex := 507, descriptorIndex := 334, attributes := #[] }, { accessFlags := 1, nameIndex := 692, descriptorIndex := 142, attributes := #[] }, { accessFlags := 1, nameIndex := 497, descriptorIndex := 427, attributes := #[] }, { accessFlags := 9, nameIndex := 782, descriptorIndex := 783, attributes := #[] }, { accessFlags := 0, nameIndex := 532, descriptorIndex := 821, attributes := #[] }, { accessFlags := 2, nameIndex := 5, descriptorIndex := 29, attributes := #[] }, { accessFlags := 0, nameIndex := 5, descriptorIndex := 491, attributes := #[] }, { accessFlags := 0, nameIndex := 5, descriptorIndex := 211, attributes := #[] }, { accessFlags := 0, nameIndex := 17, descriptorIndex := 337, attributes := #[] }, { accessFlags := 0, nameIndex := 494, descriptorIndex := 142, attributes := #[] }, { accessFlags := 8, nameIndex := 501, descriptorIndex := 391, attributes := #[] }] 49 2 #[1106, 1108, 575, 1110, 1112] #[{ accessFlags := 18, nameIndex := 13, descriptorIndex := 14, attributes := #[] }, { accessFlags := 18, nameIndex := 17, descriptorIndex := 18, attributes := #[] }, { accessFlags := 2, nameIndex := 21, descriptorIndex := 22, attributes := #[] }, { accessFlags := 2, nameIndex := 25, descriptorIndex := 26, attributes := #[] }, { accessFlags := 26, nameIndex := 1116, descriptorIndex := 1117, attributes := #[] }, { accessFlags := 24, nameIndex := 40, descriptorIndex := 26, attributes := #[] }, { accessFlags := 26, nameIndex := 1101, descriptorIndex := 1102, attributes := #[] }, { accessFlags := 26, nameIndex := 1121, descriptorIndex := 1122, attributes := #[] }, { accessFlags := 25, nameIndex := 599, descriptorIndex := 600, attributes := #[] }, { accessFlags := 24, nameIndex := 1125, descriptorIndex := 18, attributes := #[] }, { accessFlags := 24, nameIndex := 1127, descriptorIndex := 18, attributes := #[] }])
  fields := #[{ name := "value", type := (.array .byte), accessFlags := 18, slot := 0, constantValue := 0 }, { name := "coder", type := .byte, accessFlags := 18, slot := 1, constantValue := 0 }, { name := "hash", type := .int, accessFlags := 2, slot := 2, constantValue := 0 }, { name := "hashIsZero", type := .boolean, accessFlags := 2, slot := 3, constantValue := 0 }, { name := "serialVersionUID", type := .long, accessFlags := 26, slot := 0, constantValue := 0 }, { name := "COMPACT_STRINGS", type := .boolean, accessFlags := 24, slot := 1, constantValue := 0 }, { name := "serialPersistentFields", type := (.array (.object "java/io/ObjectStreamField")), accessFlags := 26, slot := 2, constantValue := 0 }, { name := "REPL", type := .char, accessFlags := 26, slot := 3, constantValue := 0 }, { name := "CASE_INSENSITIVE_ORDER", type := (.object "java/util/Comparator"), accessFlags := 25, slot := 4, constantValue := 0 }, { name := "LATIN1", type := .byte, accessFlags := 24, slot := 5, constantValue := 0 }, { name := "UTF16", type := .byte, accessFlags := 24, slot := 6, constantValue := 0 }]
  methods := #[k7m0, k7m1, k7m2, k7m3, k7m4, k7m5, k7m6, k7m7, k7m8, k7m9, k7m10, k7m11, k7m12, k7m13]
  instanceTypes := #[(.array .byte), .byte, .int, .boolean]
  staticTypes := #[.long, .boolean, (.array (.object "java/io/ObjectStreamField")), .char, (.object "java/util/Comparator"), .byte, .byte]
  resolved := Array.replicate 1451 none
  statics := some 0 }

def pool8 : Array CpInfo := pool [(6, .class_ 8), (1, u "java/lang/Object"), (0, u "<init>"), (0, u "()V"), (1, .class_ 14), (1, u "java/lang/StringUTF16"), (31, u "$assertionsDisabled"), (0, u "Z"), (13, u "HI_BYTE_SHIFT"), (0, u "I"), (2, u "LO_BYTE_SHIFT"), (49, .methodref 12 116), (0, .nameAndType 117 118), (0, u "compress"), (0, u "([CI[BII)I"), (3, u "([CII)[B"), (138, u "coderFromArrayLen"), (0, u "([BI)B"), (106, .class_ 371), (1, u "java/lang/StringUTF16$LinesSpliterator"), (58, u "MAX_LENGTH"), (196, .class_ 628), (0, u "java/lang/StringUTF16$CodePointsSpliterator"), (0, .class_ 630), (0, u "java/lang/StringUTF16$CharsSpliterator")] 4

def k8m0 : Method := { name := "<init>", desc := "()V", sig := { parameters := [], returnType := none }, accessFlags := 0, code := none }
def k8c1 : Code := { maxStack := 2, maxLocals := 2, code := jdk_52_method_15_code, exceptionTable := #[], attributes := #[] }
def k8m1 : Method := { name := "coderFromArrayLen", desc := "([BI)B", sig := { parameters := [(.array .byte), .int], returnType := some .byte }, accessFlags := 8, code := some k8c1 }
def k8c2 : Code := { maxStack := 5, maxLocals := 6, code := jdk_52_method_16_code, exceptionTable := #[], attributes := #[] }
def k8m2 : Method := { name := "compress", desc := "([CII)[B", sig := { parameters := [(.array .char), .int, .int], returnType := some (.array .byte) }, accessFlags := 9, code := some k8c2 }
def k8c3 : Code := { maxStack := 3, maxLocals := 7, code := jdk_52_method_21_code, exceptionTable := #[], attributes := #[] }
def k8m3 : Method := { name := "compress", desc := "([CI[BII)I", sig := { parameters := [(.array .char), .int, (.array .byte), .int, .int], returnType := some .int }, accessFlags := 9, code := some k8c3 }
/-- java/lang/StringUTF16 -/
def k8 : Class := { plain "java/lang/StringUTF16" (some 0) with
  accessFlags := 48
  interfaces := #[]
  cf := some (fileOf pool8 12 #[.nestMembers #[627, 629, 369]] #[{ accessFlags := 0, nameIndex := 9, descriptorIndex := 10, attributes := #[] }, { accessFlags := 8, nameIndex := 261, descriptorIndex := 262, attributes := #[] }, { accessFlags := 9, nameIndex := 117, descriptorIndex := 122, attributes := #[] }, { accessFlags := 9, nameIndex := 117, descriptorIndex := 118, attributes := #[] }] 48 6 #[] #[{ accessFlags := 26, nameIndex := 61, descriptorIndex := 62, attributes := #[] }, { accessFlags := 26, nameIndex := 65, descriptorIndex := 62, attributes := #[] }, { accessFlags := 24, nameIndex := 430, descriptorIndex := 62, attributes := #[] }, { accessFlags := 4120, nameIndex := 46, descriptorIndex := 47, attributes := #[] }])
  fields := #[{ name := "HI_BYTE_SHIFT", type := .int, accessFlags := 26, slot := 0, constantValue := 0 }, { name := "LO_BYTE_SHIFT", type := .int, accessFlags := 26, slot := 1, constantValue := 0 }, { name := "MAX_LENGTH", type := .int, accessFlags := 24, slot := 2, constantValue := 0 }, { name := "$assertionsDisabled", type := .boolean, accessFlags := 4120, slot := 3, constantValue := 0 }]
  methods := #[k8m0, k8m1, k8m2, k8m3]
  instanceTypes := #[]
  staticTypes := #[.int, .int, .int, .boolean]
  resolved := Array.replicate 635 none
  statics := none }

def pool9 : Array CpInfo := pool [(1, .methodref 2 3), (0, .class_ 4), (0, .nameAndType 5 6), (0, u "java/lang/Object"), (0, u "<init>"), (0, u "()V"), (0, .class_ 8), (0, u "java/lang/Record")] 13

def k9c0 : Code := { maxStack := 1, maxLocals := 1, code := jdk_30_method_1_code, exceptionTable := #[], attributes := #[] }
def k9m0 : Method := { name := "<init>", desc := "()V", sig := { parameters := [], returnType := none }, accessFlags := 4, code := some k9c0 }
/-- java/lang/Record -/
def k9 : Class := { plain "java/lang/Record" (some 0) with
  accessFlags := 1057
  interfaces := #[]
  cf := some (fileOf pool9 7 #[] #[{ accessFlags := 4, nameIndex := 5, descriptorIndex := 6, attributes := #[] }] 1057 2 #[] #[])
  fields := #[]
  methods := #[k9m0]
  instanceTypes := #[]
  staticTypes := #[]
  resolved := Array.replicate 22 none
  statics := none }

def pool10 : Array CpInfo := pool [(1, .methodref 2 3), (0, .class_ 4), (0, .nameAndType 5 6), (0, u "java/lang/Record"), (0, u "<init>"), (0, u "()V"), (0, .fieldref 8 9), (0, .class_ 10), (0, .nameAndType 11 12), (0, u "com/example/sigillo/sigillo/soap/XmlElement$Attribute"), (0, u "prefix"), (0, u "Ljava/lang/String;"), (0, .fieldref 8 14), (0, .nameAndType 15 12), (0, u "localName"), (0, .fieldref 8 17), (0, .nameAndType 18 12), (0, u "namespaceUri"), (0, .fieldref 8 20), (0, .nameAndType 21 12), (0, u "value"), (0, .methodref 23 24), (0, .class_ 25), (0, .nameAndType 26 27), (0, u "java/lang/String"), (0, u "isEmpty"), (0, u "()Z"), (0, .class_ 29), (0, u "java/lang/StringBuilder"), (0, .methodref 28 3), (0, .methodref 28 32), (0, .nameAndType 33 34), (0, u "append"), (0, u "(Ljava/lang/String;)Ljava/lang/StringBuilder;"), (0, .string 36), (0, u ":"), (0, .methodref 28 38), (0, .nameAndType 39 40), (0, u "toString"), (0, u "()Ljava/lang/String;"), (11, u "(Ljava/lang/String;Ljava/lang/String;Ljava/lang/String;Ljava/lang/String;)V"), (3, u "name"), (6, .class_ 64), (0, u "com/example/sigillo/sigillo/soap/XmlElement")] 22

def k10c0 : Code := { maxStack := 2, maxLocals := 5, code := prog_33_method_1_code, exceptionTable := #[], attributes := #[] }
def k10m0 : Method := { name := "<init>", desc := "(Ljava/lang/String;Ljava/lang/String;Ljava/lang/String;Ljava/lang/String;)V", sig := { parameters := [(.object "java/lang/String"), (.object "java/lang/String"), (.object "java/lang/String"), (.object "java/lang/String")], returnType := none }, accessFlags := 0, code := some k10c0 }
def k10c1 : Code := { maxStack := 2, maxLocals := 1, code := prog_33_method_2_code, exceptionTable := #[], attributes := #[] }
def k10m1 : Method := { name := "name", desc := "()Ljava/lang/String;", sig := { parameters := [], returnType := some (.object "java/lang/String") }, accessFlags := 0, code := some k10c1 }
/-- com/example/sigillo/sigillo/soap/XmlElement$Attribute -/
def k10 : Class := { plain "com/example/sigillo/sigillo/soap/XmlElement$Attribute" (some 9) with
  accessFlags := 48
  interfaces := #[]
  cf := some (fileOf pool10 8 #[.nestHost 63] #[{ accessFlags := 0, nameIndex := 5, descriptorIndex := 52, attributes := #[] }, { accessFlags := 0, nameIndex := 56, descriptorIndex := 40, attributes := #[] }] 48 2 #[] #[{ accessFlags := 18, nameIndex := 11, descriptorIndex := 12, attributes := #[] }, { accessFlags := 18, nameIndex := 15, descriptorIndex := 12, attributes := #[] }, { accessFlags := 18, nameIndex := 18, descriptorIndex := 12, attributes := #[] }, { accessFlags := 18, nameIndex := 21, descriptorIndex := 12, attributes := #[] }])
  fields := #[{ name := "prefix", type := (.object "java/lang/String"), accessFlags := 18, slot := 0, constantValue := 0 }, { name := "localName", type := (.object "java/lang/String"), accessFlags := 18, slot := 1, constantValue := 0 }, { name := "namespaceUri", type := (.object "java/lang/String"), accessFlags := 18, slot := 2, constantValue := 0 }, { name := "value", type := (.object "java/lang/String"), accessFlags := 18, slot := 3, constantValue := 0 }]
  methods := #[k10m0, k10m1]
  instanceTypes := #[(.object "java/lang/String"), (.object "java/lang/String"), (.object "java/lang/String"), (.object "java/lang/String")]
  staticTypes := #[]
  resolved := Array.replicate 87 none
  statics := none }

def pool11 : Array CpInfo := pool [(1, .class_ 2), (0, u "java/lang/Appendable"), (0, .class_ 4), (0, u "java/lang/Object")] 9

/-- java/lang/Appendable -/
def k11 : Class := { plain "java/lang/Appendable" (some 0) with
  accessFlags := 1537
  interfaces := #[]
  cf := some (fileOf pool11 1 #[] #[] 1537 3 #[] #[])
  fields := #[]
  methods := #[]
  instanceTypes := #[]
  staticTypes := #[]
  resolved := Array.replicate 14 none
  statics := none }

def pool12 : Array CpInfo := pool [(1, .class_ 2), (0, u "java/lang/String"), (0, .methodref 4 5), (0, .class_ 6), (0, .nameAndType 7 8), (0, u "java/lang/Object"), (0, u "<init>"), (0, u "()V"), (1, .class_ 12), (1, u "java/lang/AbstractStringBuilder"), (0, u "EMPTYVALUE"), (0, u "[B"), (0, .fieldref 10 16), (0, .nameAndType 17 14), (0, u "value"), (0, .fieldref 1 19), (0, .nameAndType 20 21), (0, u "COMPACT_STRINGS"), (0, u "Z"), (0, .fieldref 10 23), (0, .nameAndType 24 25), (0, u "coder"), (0, u "B"), (6, .methodref 1 33), (0, .nameAndType 34 35), (0, u "length"), (0, u "()I"), (4, .methodref 1 41), (0, .nameAndType 24 42), (0, u "()B"), (2, u "append"), (0, u "(Ljava/lang/String;)Ljava/lang/AbstractStringBuilder;"), (1, .class_ 49), (0, u "java/lang/CharSequence"), (19, u "(Ljava/lang/String;)V"), (5, u "maybeLatin1"), (3, .fieldref 10 80), (0, .nameAndType 81 82), (0, u "count"), (0, u "I"), (2, u "isLatin1"), (0, u "()Z"), (13, .methodref 10 101), (0, .nameAndType 102 103), (0, u "ensureCapacityInternal"), (0, u "(I)V"), (104, .methodref 10 209), (0, .nameAndType 210 211), (0, u "putStringAt"), (0, u "(ILjava/lang/String;)V"), (5, u "inflateIfNeededFor"), (2, .nameAndType 221 222), (0, u "getBytes"), (0, u "([BIB)V"), (174, .methodref 10 398), (0, .nameAndType 217 69), (0, .methodref 1 220), (3, u "()[B"), (40, .class_ 445), (0, u "java/lang/Appendable"), (106, u "getValue")] 56

def k12m0 : Method := { name := "<init>", desc := "()V", sig := { parameters := [], returnType := none }, accessFlags := 0, code := none }
def k12c1 : Code := { maxStack := 2, maxLocals := 2, code := jdk_68_method_2_code, exceptionTable := #[], attributes := #[] }
def k12m1 : Method := { name := "<init>", desc := "(I)V", sig := { parameters := [.int], returnType := none }, accessFlags := 0, code := some k12c1 }
def k12c2 : Code := { maxStack := 1, maxLocals := 1, code := jdk_68_method_6_code, exceptionTable := #[], attributes := #[] }
def k12m2 : Method := { name := "length", desc := "()I", sig := { parameters := [], returnType := some .int }, accessFlags := 1, code := some k12c2 }
def k12c3 : Code := { maxStack := 4, maxLocals := 3, code := jdk_68_method_9_code, exceptionTable := #[], attributes := #[] }
def k12m3 : Method := { name := "ensureCapacityInternal", desc := "(I)V", sig := { parameters := [.int], returnType := none }, accessFlags := 2, code := some k12c3 }
def k12c4 : Code := { maxStack := 3, maxLocals := 3, code := jdk_68_method_22_code, exceptionTable := #[], attributes := #[] }
def k12m4 : Method := { name := "append", desc := "(Ljava/lang/String;)Ljava/lang/AbstractStringBuilder;", sig := { parameters := [(.object "java/lang/String")], returnType := some (.object "java/lang/AbstractStringBuilder") }, accessFlags := 1, code := some k12c4 }
def k12c5 : Code := { maxStack := 1, maxLocals := 1, code := jdk_68_method_64_code, exceptionTable := #[], attributes := #[] }
def k12m5 : Method := { name := "getValue", desc := "()[B", sig := { parameters := [], returnType := some (.array .byte) }, accessFlags := 16, code := some k12c5 }
def k12c6 : Code := { maxStack := 1, maxLocals := 1, code := jdk_68_method_68_code, exceptionTable := #[], attributes := #[] }
def k12m6 : Method := { name := "isLatin1", desc := "()Z", sig := { parameters := [], returnType := some .boolean }, accessFlags := 16, code := some k12c6 }
def k12c7 : Code := { maxStack := 2, maxLocals := 2, code := jdk_68_method_71_code, exceptionTable := #[], attributes := #[] }
def k12m7 : Method := { name := "inflateIfNeededFor", desc := "(Ljava/lang/String;)V", sig := { parameters := [(.object "java/lang/String")], returnType := none }, accessFlags := 2, code := some k12c7 }
def k12c8 : Code := { maxStack := 4, maxLocals := 3, code := jdk_68_method_73_code, exceptionTable := #[], attributes := #[] }
def k12m8 : Method := { name := "putStringAt", desc := "(ILjava/lang/String;)V", sig := { parameters := [.int, (.object "java/lang/String")], returnType := none }, accessFlags := 2, code := some k12c8 }
/-- java/lang/AbstractStringBuilder -/
def k12 : Class := { plain "java/lang/AbstractStringBuilder" (some 0) with
  accessFlags := 1056
  interfaces := #[11, 4]
  cf := some (fileOf pool12 10 #[] #[{ accessFlags := 0, nameIndex := 7, descriptorIndex := 8, attributes := #[] }, { accessFlags := 0, nameIndex := 7, descriptorIndex := 103, attributes := #[] }, { accessFlags := 1, nameIndex := 34, descriptorIndex := 35, attributes := #[] }, { accessFlags := 2, nameIndex := 102, descriptorIndex := 103, attributes := #[] }, { accessFlags := 1, nameIndex := 45, descriptorIndex := 46, attributes := #[] }, { accessFlags := 16, nameIndex := 552, descriptorIndex := 403, attributes := #[] }, { accessFlags := 16, nameIndex := 85, descriptorIndex := 86, attributes := #[] }, { accessFlags := 2, nameIndex := 217, descriptorIndex := 69, attributes := #[] }, { accessFlags := 2, nameIndex := 210, descriptorIndex := 211, attributes := #[] }] 1056 4 #[444, 48] #[{ accessFlags := 0, nameIndex := 17, descriptorIndex := 14, attributes := #[] }, { accessFlags := 0, nameIndex := 24, descriptorIndex := 25, attributes := #[] }, { accessFlags := 0, nameIndex := 75, descriptorIndex := 21, attributes := #[] }, { accessFlags := 0, nameIndex := 81, descriptorIndex := 82, attributes := #[] }, { accessFlags := 26, nameIndex := 13, descriptorIndex := 14, attributes := #[] }])
  fields := #[{ name := "value", type := (.array .byte), accessFlags := 0, slot := 0, constantValue := 0 }, { name := "coder", type := .byte, accessFlags := 0, slot := 1, constantValue := 0 }, { name := "maybeLatin1", type := .boolean, accessFlags := 0, slot := 2, constantValue := 0 }, { name := "count", type := .int, accessFlags := 0, slot := 3, constantValue := 0 }, { name := "EMPTYVALUE", type := (.array .byte), accessFlags := 26, slot := 0, constantValue := 0 }]
  methods := #[k12m0, k12m1, k12m2, k12m3, k12m4, k12m5, k12m6, k12m7, k12m8]
  instanceTypes := #[(.array .byte), .byte, .boolean, .int]
  staticTypes := #[(.array .byte)]
  resolved := Array.replicate 609 none
  statics := none }

def pool13 : Array CpInfo := pool [(1, .methodref 2 3), (0, .class_ 4), (0, .nameAndType 5 6), (0, u "java/lang/AbstractStringBuilder"), (0, u "<init>"), (0, u "(I)V"), (11, .class_ 20), (1, u "java/lang/String"), (3, .class_ 26), (1, u "java/lang/StringBuilder"), (0, u "append"), (0, u "(Ljava/lang/String;)Ljava/lang/StringBuilder;"), (0, .methodref 2 30), (0, .nameAndType 27 31), (0, u "(Ljava/lang/String;)Ljava/lang/AbstractStringBuilder;"), (105, .methodref 18 138), (0, .nameAndType 5 139), (0, u "(Ljava/lang/StringBuilder;)V"), (5, u "()V"), (10, u "()I"), (186, .methodref 2 344), (0, .nameAndType 345 156), (0, u "length"), (3, .class_ 350), (0, u "java/lang/Appendable"), (0, .class_ 352), (0, u "java/io/Serializable"), (0, .class_ 354), (0, u "java/lang/Comparable"), (0, .class_ 356), (0, u "java/lang/CharSequence"), (0, u "serialVersionUID"), (0, u "J"), (40, u "toString"), (0, u "()Ljava/lang/String;")] 21

def k13c0 : Code := { maxStack := 2, maxLocals := 1, code := jdk_67_method_1_code, exceptionTable := #[], attributes := #[] }
def k13m0 : Method := { name := "<init>", desc := "()V", sig := { parameters := [], returnType := none }, accessFlags := 1, code := some k13c0 }
def k13c1 : Code := { maxStack := 2, maxLocals := 2, code := jdk_67_method_7_code, exceptionTable := #[], attributes := #[] }
def k13m1 : Method := { name := "append", desc := "(Ljava/lang/String;)Ljava/lang/StringBuilder;", sig := { parameters := [(.object "java/lang/String")], returnType := some (.object "java/lang/StringBuilder") }, accessFlags := 1, code := some k13c1 }
def k13c2 : Code := { maxStack := 3, maxLocals := 1, code := jdk_67_method_42_code, exceptionTable := #[], attributes := #[] }
def k13m2 : Method := { name := "toString", desc := "()Ljava/lang/String;", sig := { parameters := [], returnType := some (.object "java/lang/String") }, accessFlags := 1, code := some k13c2 }
def k13c3 : Code := { maxStack := 1, maxLocals := 1, code := jdk_67_method_93_code, exceptionTable := #[], attributes := #[] }
def k13m3 : Method := { name := "length", desc := "()I", sig := { parameters := [], returnType := some .int }, accessFlags := 4161, code := some k13c3 }
/-- java/lang/StringBuilder -/
def k13 : Class := { plain "java/lang/StringBuilder" (some 12) with
  accessFlags := 49
  interfaces := #[11, 2, 3, 4]
  cf := some (fileOf pool13 24 #[] #[{ accessFlags := 1, nameIndex := 5, descriptorIndex := 145, attributes := #[] }, { accessFlags := 1, nameIndex := 27, descriptorIndex := 28, attributes := #[] }, { accessFlags := 1, nameIndex := 399, descriptorIndex := 400, attributes := #[] }, { accessFlags := 4161, nameIndex := 345, descriptorIndex := 156, attributes := #[] }] 49 2 #[349, 351, 353, 355] #[{ accessFlags := 24, nameIndex := 357, descriptorIndex := 358, attributes := #[] }])
  fields := #[{ name := "serialVersionUID", type := .long, accessFlags := 24, slot := 0, constantValue := 0 }]
  methods := #[k13m0, k13m1, k13m2, k13m3]
  instanceTypes := #[(.array .byte), .byte, .boolean, .int]
  staticTypes := #[.long]
  resolved := Array.replicate 422 none
  statics := none }

def pool14 : Array CpInfo := pool [(2, .class_ 4), (1, u "java/lang/Object"), (0, u "<init>"), (0, u "()V"), (1, .class_ 10), (1, u "java/lang/System"), (0, u "allowSecurityManager"), (0, u "I"), (16, u "cons"), (0, u "Ljava/io/Console;"), (77, .class_ 110), (1, u "java/lang/System$CallersHolder"), (43, u "initialErrStream"), (0, u "Ljava/io/PrintStream;"), (19, u "security"), (0, u "Ljava/lang/SecurityManager;"), (31, .class_ 209), (0, u "java/lang/System$1"), (7, u "props"), (0, u "Ljava/util/Properties;"), (2, u "lineSeparator"), (0, u "Ljava/lang/String;"), (96, .class_ 321), (1, u "java/lang/System$LoggerFinder"), (5, .class_ 328), (0, u "java/lang/System$Logger"), (67, u "err"), (2, u "out"), (91, u "notSupportedJnuEncoding"), (15, u "in"), (17, u "initialIn"), (0, u "Ljava/io/InputStream;"), (35, u "bootLayer"), (0, u "Ljava/lang/ModuleLayer;"), (99, .class_ 664), (0, u "java/lang/System$2"), (9, u "NEVER"), (2, u "MAYBE"), (49, u "arraycopy"), (0, u "(Ljava/lang/Object;ILjava/lang/Object;II)V"), (72, .class_ 802), (0, u "java/lang/System$Logger$Level")] 31

def k14m0 : Method := { name := "<init>", desc := "()V", sig := { parameters := [], returnType := none }, accessFlags := 2, code := none }
def k14m1 : Method := { name := "arraycopy", desc := "(Ljava/lang/Object;ILjava/lang/Object;II)V", sig := { parameters := [(.object "java/lang/Object"), .int, (.object "java/lang/Object"), .int, .int], returnType := none }, accessFlags := 265, code := none }
/-- java/lang/System -/
def k14 : Class := { plain "java/lang/System" (some 0) with
  accessFlags := 49
  interfaces := #[]
  cf := some (fileOf pool14 8 #[.nestMembers #[319, 327, 801, 108, 663, 208]] #[{ accessFlags := 2, nameIndex := 5, descriptorIndex := 6, attributes := #[] }, { accessFlags := 265, nameIndex := 727, descriptorIndex := 728, attributes := #[] }] 49 2 #[] #[{ accessFlags := 25, nameIndex := 507, descriptorIndex := 526, attributes := #[] }, { accessFlags := 25, nameIndex := 399, descriptorIndex := 155, attributes := #[] }, { accessFlags := 25, nameIndex := 396, descriptorIndex := 155, attributes := #[] }, { accessFlags := 10, nameIndex := 525, descriptorIndex := 526, attributes := #[] }, { accessFlags := 26, nameIndex := 674, descriptorIndex := 12, attributes := #[] }, { accessFlags := 26, nameIndex := 677, descriptorIndex := 12, attributes := #[] }, { accessFlags := 10, nameIndex := 11, descriptorIndex := 12, attributes := #[] }, { accessFlags := 74, nameIndex := 175, descriptorIndex := 176, attributes := #[] }, { accessFlags := 10, nameIndex := 491, descriptorIndex := 222, attributes := #[] }, { accessFlags := 74, nameIndex := 29, descriptorIndex := 30, attributes := #[] }, { accessFlags := 74, nameIndex := 154, descriptorIndex := 155, attributes := #[] }, { accessFlags := 10, nameIndex := 217, descriptorIndex := 218, attributes := #[] }, { accessFlags := 10, nameIndex := 221, descriptorIndex := 222, attributes := #[] }, { accessFlags := 8, nameIndex := 562, descriptorIndex := 563, attributes := #[] }])
  fields := #[{ name := "in", type := (.object "java/io/InputStream"), accessFlags := 25, slot := 0, constantValue := 0 }, { name := "out", type := (.object "java/io/PrintStream"), accessFlags := 25, slot := 1, constantValue := 0 }, { name := "err", type := (.object "java/io/PrintStream"), accessFlags := 25, slot := 2, constantValue := 0 }, { name := "initialIn", type := (.object "java/io/InputStream"), accessFlags := 10, slot := 3, constantValue := 0 }, { name := "NEVER", type := .int, accessFlags := 26, slot := 4, constantValue := 0 }, { name := "MAYBE", type := .int, accessFlags := 26, slot := 5, constantValue := 0 }, { name := "allowSecurityManager", type := .int, accessFlags := 10, slot := 6, constantValue := 0 }, { name := "security", type := (.object "java/lang/SecurityManager"), accessFlags := 74, slot := 7, constantValue := 0 }, { name := "notSupportedJnuEncoding", type := (.object "java/lang/String"), accessFlags := 10, slot := 8, constantValue := 0 }, { name := "cons", type := (.object "java/io/Console"), accessFlags := 74, slot := 9, constantValue := 0 }, { name := "initialErrStream", type := (.object "java/io/PrintStream"), accessFlags := 74, slot := 10, constantValue := 0 }, { name := "props", type := (.object "java/util/Properties"), accessFlags := 10, slot := 11, constantValue := 0 }, { name := "lineSeparator", type := (.object "java/lang/String"), accessFlags := 10, slot := 12, constantValue := 0 }, { name := "bootLayer", type := (.object "java/lang/ModuleLayer"), accessFlags := 8, slot := 13, constantValue := 0 }]
  methods := #[k14m0, k14m1]
  instanceTypes := #[]
  staticTypes := #[(.object "java/io/InputStream"), (.object "java/io/PrintStream"), (.object "java/io/PrintStream"), (.object "java/io/InputStream"), .int, .int, .int, (.object "java/lang/SecurityManager"), (.object "java/lang/String"), (.object "java/io/Console"), (.object "java/io/PrintStream"), (.object "java/util/Properties"), (.object "java/lang/String"), (.object "java/lang/ModuleLayer")]
  resolved := Array.replicate 834 none
  statics := none }

def pool15 : Array CpInfo := pool [(2, .class_ 4), (1, u "java/lang/Object"), (0, u "<init>"), (0, u "()V"), (7, .class_ 16), (1, u "java/util/Arrays"), (57, .class_ 76), (1, u "java/util/Arrays$NaturalOrder"), (36, .class_ 115), (1, u "java/util/Arrays$LegacyMergeSort"), (1, u "Z"), (21, u "copyOfRange"), (10, .methodref 151 152), (0, .class_ 153), (0, .nameAndType 154 155), (0, u "java/lang/System"), (0, u "arraycopy"), (0, u "(Ljava/lang/Object;ILjava/lang/Object;II)V"), (148, .methodref 305 306), (0, .class_ 307), (0, .nameAndType 308 309), (0, u "java/lang/Math"), (0, u "min"), (0, u "(II)I"), (29, .methodref 14 340), (0, .nameAndType 341 342), (0, u "copyOfRangeByte"), (0, u "([BII)[B"), (0, .methodref 14 344), (0, .nameAndType 345 346), (0, u "checkLength"), (0, u "(II)V"), (28, .class_ 376), (0, u "java/util/Arrays$ArrayList"), (68, u "$assertionsDisabled"), (269, u "MIN_ARRAY_SORT_GRAN"), (0, u "I"), (2, u "INSERTIONSORT_THRESHOLD"), (255, .class_ 976), (0, u "java/util/Arrays$ArrayItr")] 52

def k15m0 : Method := { name := "<init>", desc := "()V", sig := { parameters := [], returnType := none }, accessFlags := 2, code := none }
def k15c1 : Code := { maxStack := 4, maxLocals := 2, code := jdk_65_method_131_code, exceptionTable := #[], attributes := #[] }
def k15m1 : Method := { name := "checkLength", desc := "(II)V", sig := { parameters := [.int, .int], returnType := none }, accessFlags := 10, code := some k15c1 }
def k15c2 : Code := { maxStack := 3, maxLocals := 3, code := jdk_65_method_132_code, exceptionTable := #[], attributes := #[] }
def k15m2 : Method := { name := "copyOfRange", desc := "([BII)[B", sig := { parameters := [(.array .byte), .int, .int], returnType := some (.array .byte) }, accessFlags := 9, code := some k15c2 }
def k15c3 : Code := { maxStack := 6, maxLocals := 5, code := jdk_65_method_133_code, exceptionTable := #[], attributes := #[] }
def k15m3 : Method := { name := "copyOfRangeByte", desc := "([BII)[B", sig := { parameters := [(.array .byte), .int, .int], returnType := some (.array .byte) }, accessFlags := 10, code := some k15c3 }
/-- java/util/Arrays -/
def k15 : Class := { plain "java/util/Arrays" (some 0) with
  accessFlags := 49
  interfaces := #[]
  cf := some (fileOf pool15 14 #[.nestMembers #[975, 375, 113, 74]] #[{ accessFlags := 2, nameIndex := 5, descriptorIndex := 6, attributes := #[] }, { accessFlags := 10, nameIndex := 345, descriptorIndex := 346, attributes := #[] }, { accessFlags := 9, nameIndex := 139, descriptorIndex := 342, attributes := #[] }, { accessFlags := 10, nameIndex := 341, descriptorIndex := 342, attributes := #[] }] 49 2 #[] #[{ accessFlags := 26, nameIndex := 715, descriptorIndex := 716, attributes := #[] }, { accessFlags := 26, nameIndex := 719, descriptorIndex := 716, attributes := #[] }, { accessFlags := 4120, nameIndex := 445, descriptorIndex := 117, attributes := #[] }])
  fields := #[{ name := "MIN_ARRAY_SORT_GRAN", type := .int, accessFlags := 26, slot := 0, constantValue := 0 }, { name := "INSERTIONSORT_THRESHOLD", type := .int, accessFlags := 26, slot := 1, constantValue := 0 }, { name := "$assertionsDisabled", type := .boolean, accessFlags := 4120, slot := 2, constantValue := 0 }]
  methods := #[k15m0, k15m1, k15m2, k15m3]
  instanceTypes := #[]
  staticTypes := #[.int, .int, .boolean]
  resolved := Array.replicate 1029 none
  statics := none }

def pool16 : Array CpInfo := pool [(1, .class_ 2), (0, u "java/lang/Math"), (1, .class_ 6), (1, u "java/lang/Object"), (0, u "<init>"), (0, u "()V"), (89, .class_ 100), (1, u "java/lang/Math$RandomNumberGeneratorHolder"), (71, u "negativeZeroFloatBits"), (0, u "J"), (2, u "negativeZeroDoubleBits"), (24, u "min"), (43, u "$assertionsDisabled"), (0, u "Z"), (88, u "(II)I"), (2, u "twoToTheDoubleScaleDown"), (0, u "D"), (4, u "twoToTheDoubleScaleUp"), (9, u "E"), (3, u "PI"), (2, u "TAU"), (2, u "DEGREES_TO_RADIANS"), (0, u "RADIANS_TO_DEGREES")] 94

def k16m0 : Method := { name := "<init>", desc := "()V", sig := { parameters := [], returnType := none }, accessFlags := 2, code := none }
def k16c1 : Code := { maxStack := 2, maxLocals := 2, code := jdk_29_method_69_code, exceptionTable := #[], attributes := #[] }
def k16m1 : Method := { name := "min", desc := "(II)I", sig := { parameters := [.int, .int], returnType := some .int }, accessFlags := 9, code := some k16c1 }
/-- java/lang/Math -/
def k16 : Class := { plain "java/lang/Math" (some 0) with
  accessFlags := 49
  interfaces := #[]
  cf := some (fileOf pool16 1 #[.nestMembers #[98]] #[{ accessFlags := 2, nameIndex := 7, descriptorIndex := 8, attributes := #[] }, { accessFlags := 9, nameIndex := 201, descriptorIndex := 335, attributes := #[] }] 49 4 #[] #[{ accessFlags := 25, nameIndex := 354, descriptorIndex := 339, attributes := #[] }, { accessFlags := 25, nameIndex := 358, descriptorIndex := 339, attributes := #[] }, { accessFlags := 25, nameIndex := 361, descriptorIndex := 339, attributes := #[] }, { accessFlags := 26, nameIndex := 364, descriptorIndex := 339, attributes := #[] }, { accessFlags := 26, nameIndex := 365, descriptorIndex := 339, attributes := #[] }, { accessFlags := 26, nameIndex := 172, descriptorIndex := 173, attributes := #[] }, { accessFlags := 26, nameIndex := 176, descriptorIndex := 173, attributes := #[] }, { accessFlags := 8, nameIndex := 344, descriptorIndex := 339, attributes := #[] }, { accessFlags := 8, nameIndex := 338, descriptorIndex := 339, attributes := #[] }, { accessFlags := 4120, nameIndex := 245, descriptorIndex := 246, attributes := #[] }])
  fields := #[{ name := "E", type := .double, accessFlags := 25, slot := 0, constantValue := 0 }, { name := "PI", type := .double, accessFlags := 25, slot := 1, constantValue := 0 }, { name := "TAU", type := .double, accessFlags := 25, slot := 2, constantValue := 0 }, { name := "DEGREES_TO_RADIANS", type := .double, accessFlags := 26, slot := 3, constantValue := 0 }, { name := "RADIANS_TO_DEGREES", type := .double, accessFlags := 26, slot := 4, constantValue := 0 }, { name := "negativeZeroFloatBits", type := .long, accessFlags := 26, slot := 5, constantValue := 0 }, { name := "negativeZeroDoubleBits", type := .long, accessFlags := 26, slot := 6, constantValue := 0 }, { name := "twoToTheDoubleScaleUp", type := .double, accessFlags := 8, slot := 7, constantValue := 0 }, { name := "twoToTheDoubleScaleDown", type := .double, accessFlags := 8, slot := 8, constantValue := 0 }, { name := "$assertionsDisabled", type := .boolean, accessFlags := 4120, slot := 9, constantValue := 0 }]
  methods := #[k16m0, k16m1]
  instanceTypes := #[]
  staticTypes := #[.double, .double, .double, .double, .double, .long, .long, .double, .double, .boolean]
  resolved := Array.replicate 460 none
  statics := none }

def pool17 : Array CpInfo := pool [(1, .class_ 2), (0, u "java/lang/String"), (1, .class_ 6), (1, u "java/lang/Object"), (0, u "<init>"), (0, u "()V"), (0, .methodref 1 10), (0, .nameAndType 11 12), (0, u "checkIndex"), (0, u "(II)V"), (1, .class_ 16), (1, u "java/lang/StringLatin1"), (36, u "([BI)C"), (36, u "canEncode"), (14, u "(C)Z"), (15, u "$assertionsDisabled"), (0, u "Z"), (98, .class_ 223), (1, u "java/lang/StringLatin1$LinesSpliterator"), (28, u "charAt"), (127, u "toBytes"), (1, u "(C)[B"), (7, .class_ 391), (0, u "java/lang/StringLatin1$CharsSpliterator")] 3

def k17m0 : Method := { name := "<init>", desc := "()V", sig := { parameters := [], returnType := none }, accessFlags := 0, code := none }
def k17c1 : Code := { maxStack := 2, maxLocals := 2, code := jdk_43_method_2_code, exceptionTable := #[], attributes := #[] }
def k17m1 : Method := { name := "charAt", desc := "([BI)C", sig := { parameters := [(.array .byte), .int], returnType := some .char }, accessFlags := 9, code := some k17c1 }
def k17c2 : Code := { maxStack := 2, maxLocals := 1, code := jdk_43_method_3_code, exceptionTable := #[], attributes := #[] }
def k17m2 : Method := { name := "canEncode", desc := "(C)Z", sig := { parameters := [.char], returnType := some .boolean }, accessFlags := 9, code := some k17c2 }
def k17c3 : Code := { maxStack := 4, maxLocals := 1, code := jdk_43_method_46_code, exceptionTable := #[], attributes := #[] }
def k17m3 : Method := { name := "toBytes", desc := "(C)[B", sig := { parameters := [.char], returnType := some (.array .byte) }, accessFlags := 9, code := some k17c3 }
/-- java/lang/StringLatin1 -/
def k17 : Class := { plain "java/lang/StringLatin1" (some 0) with
  accessFlags := 48
  interfaces := #[]
  cf := some (fileOf pool17 14 #[.nestMembers #[390, 221]] #[{ accessFlags := 0, nameIndex := 7, descriptorIndex := 8, attributes := #[] }, { accessFlags := 9, nameIndex := 252, descriptorIndex := 53, attributes := #[] }, { accessFlags := 9, nameIndex := 90, descriptorIndex := 105, attributes := #[] }, { accessFlags := 9, nameIndex := 380, descriptorIndex := 382, attributes := #[] }] 48 4 #[] #[{ accessFlags := 4120, nameIndex := 121, descriptorIndex := 122, attributes := #[] }])
  fields := #[{ name := "$assertionsDisabled", type := .boolean, accessFlags := 4120, slot := 0, constantValue := 0 }]
  methods := #[k17m0, k17m1, k17m2, k17m3]
  instanceTypes := #[]
  staticTypes := #[.boolean]
  resolved := Array.replicate 395 none
  statics := none }

def pool18 : Array CpInfo := pool [(2, .class_ 4), (1, u "java/lang/Object"), (0, u "<init>"), (0, u "()V"), (17, .class_ 26), (1, u "jdk/internal/util/Preconditions"), (6, u "checkIndex"), (21, .class_ 56), (0, u "jdk/internal/util/Preconditions$4"), (57, .class_ 115), (0, u "jdk/internal/util/Preconditions$1"), (7, u "SIOOBE_FORMATTER"), (0, u "Ljava/util/function/BiFunction;"), (0, .class_ 126), (0, u "jdk/internal/util/Preconditions$2"), (3, u "AIOOBE_FORMATTER"), (0, .class_ 132), (0, u "jdk/internal/util/Preconditions$3"), (3, u "IOOBE_FORMATTER"), (41, u "(IILjava/util/function/BiFunction;)I")] 15

def k18m0 : Method := { name := "<init>", desc := "()V", sig := { parameters := [], returnType := none }, accessFlags := 1, code := none }
def k18c1 : Code := { maxStack := 3, maxLocals := 3, code := jdk_41_method_11_code, exceptionTable := #[], attributes := #[] }
def k18m1 : Method := { name := "checkIndex", desc := "(IILjava/util/function/BiFunction;)I", sig := { parameters := [.int, .int, (.object "java/util/function/BiFunction")], returnType := some .int }, accessFlags := 9, code := some k18c1 }
/-- jdk/internal/util/Preconditions -/
def k18 : Class := { plain "jdk/internal/util/Preconditions" (some 0) with
  accessFlags := 33
  interfaces := #[]
  cf := some (fileOf pool18 24 #[.nestMembers #[55, 131, 125, 114]] #[{ accessFlags := 1, nameIndex := 5, descriptorIndex := 6, attributes := #[] }, { accessFlags := 9, nameIndex := 33, descriptorIndex := 178, attributes := #[] }] 33 2 #[] #[{ accessFlags := 25, nameIndex := 123, descriptorIndex := 124, attributes := #[] }, { accessFlags := 25, nameIndex := 130, descriptorIndex := 124, attributes := #[] }, { accessFlags := 25, nameIndex := 136, descriptorIndex := 124, attributes := #[] }])
  fields := #[{ name := "SIOOBE_FORMATTER", type := (.object "java/util/function/BiFunction"), accessFlags := 25, slot := 0, constantValue := 0 }, { name := "AIOOBE_FORMATTER", type := (.object "java/util/function/BiFunction"), accessFlags := 25, slot := 1, constantValue := 0 }, { name := "IOOBE_FORMATTER", type := (.object "java/util/function/BiFunction"), accessFlags := 25, slot := 2, constantValue := 0 }]
  methods := #[k18m0, k18m1]
  instanceTypes := #[]
  staticTypes := #[(.object "java/util/function/BiFunction"), (.object "java/util/function/BiFunction"), (.object "java/util/function/BiFunction")]
  resolved := Array.replicate 194 none
  statics := some 1 }

def pool19 : Array CpInfo := pool [(9, u "<init>"), (6, .class_ 18), (1, u "java/lang/Object"), (0, u "()V"), (1, .class_ 23), (1, u "jdk/internal/util/ArraysSupport"), (0, u "LOG2_ARRAY_LONG_INDEX_SCALE"), (0, u "I"), (2, u "U"), (0, u "Ljdk/internal/misc/Unsafe;"), (8, u "BIG_ENDIAN"), (0, u "Z"), (8, u "LOG2_BYTE_BIT_SIZE"), (4, u "LOG2_ARRAY_INT_INDEX_SCALE"), (54, u "JLA"), (0, u "Ljdk/internal/access/JavaLangAccess;"), (11, u "LOG2_ARRAY_BOOLEAN_INDEX_SCALE"), (9, u "LOG2_ARRAY_BYTE_INDEX_SCALE"), (5, u "LOG2_ARRAY_CHAR_INDEX_SCALE"), (5, u "LOG2_ARRAY_SHORT_INDEX_SCALE"), (18, u "LOG2_ARRAY_FLOAT_INDEX_SCALE"), (24, u "LOG2_ARRAY_DOUBLE_INDEX_SCALE"), (89, u "T_BOOLEAN"), (2, u "T_CHAR"), (1, u "T_FLOAT"), (1, u "T_DOUBLE"), (1, u "T_BYTE"), (1, u "T_SHORT"), (1, u "T_INT"), (1, u "T_LONG"), (1, u "SOFT_MAX_ARRAY_LENGTH")] 83

def k19m0 : Method := { name := "<init>", desc := "()V", sig := { parameters := [], returnType := none }, accessFlags := 2, code := none }
/-- jdk/internal/util/ArraysSupport -/
def k19 : Class := { plain "jdk/internal/util/ArraysSupport" (some 0) with
  accessFlags := 33
  interfaces := #[]
  cf := some (fileOf pool19 21 #[] #[{ accessFlags := 2, nameIndex := 9, descriptorIndex := 19, attributes := #[] }] 33 16 #[] #[{ accessFlags := 24, nameIndex := 28, descriptorIndex := 29, attributes := #[] }, { accessFlags := 26, nameIndex := 38, descriptorIndex := 39, attributes := #[] }, { accessFlags := 25, nameIndex := 121, descriptorIndex := 25, attributes := #[] }, { accessFlags := 25, nameIndex := 131, descriptorIndex := 25, attributes := #[] }, { accessFlags := 25, nameIndex := 137, descriptorIndex := 25, attributes := #[] }, { accessFlags := 25, nameIndex := 143, descriptorIndex := 25, attributes := #[] }, { accessFlags := 25, nameIndex := 53, descriptorIndex := 25, attributes := #[] }, { accessFlags := 25, nameIndex := 24, descriptorIndex := 25, attributes := #[] }, { accessFlags := 25, nameIndex := 162, descriptorIndex := 25, attributes := #[] }, { accessFlags := 25, nameIndex := 187, descriptorIndex := 25, attributes := #[] }, { accessFlags := 26, nameIndex := 48, descriptorIndex := 25, attributes := #[] }, { accessFlags := 25, nameIndex := 277, descriptorIndex := 25, attributes := #[] }, { accessFlags := 25, nameIndex := 280, descriptorIndex := 25, attributes := #[] }, { accessFlags := 25, nameIndex := 282, descriptorIndex := 25, attributes := #[] }, { accessFlags := 25, nameIndex := 284, descriptorIndex := 25, attributes := #[] }, { accessFlags := 25, nameIndex := 286, descriptorIndex := 25, attributes := #[] }, { accessFlags := 25, nameIndex := 288, descriptorIndex := 25, attributes := #[] }, { accessFlags := 25, nameIndex := 290, descriptorIndex := 25, attributes := #[] }, { accessFlags := 25, nameIndex := 292, descriptorIndex := 25, attributes := #[] }, { accessFlags := 26, nameIndex := 108, descriptorIndex := 109, attributes := #[] }, { accessFlags := 25, nameIndex := 294, descriptorIndex := 25, attributes := #[] }])
  fields := #[{ name := "U", type := (.object "jdk/internal/misc/Unsafe"), accessFlags := 24, slot := 0, constantValue := 0 }, { name := "BIG_ENDIAN", type := .boolean, accessFlags := 26, slot := 1, constantValue := 0 }, { name := "LOG2_ARRAY_BOOLEAN_INDEX_SCALE", type := .int, accessFlags := 25, slot := 2, constantValue := 0 }, { name := "LOG2_ARRAY_BYTE_INDEX_SCALE", type := .int, accessFlags := 25, slot := 3, constantValue := 0 }, { name := "LOG2_ARRAY_CHAR_INDEX_SCALE", type := .int, accessFlags := 25, slot := 4, constantValue := 0 }, { name := "LOG2_ARRAY_SHORT_INDEX_SCALE", type := .int, accessFlags := 25, slot := 5, constantValue := 0 }, { name := "LOG2_ARRAY_INT_INDEX_SCALE", type := .int, accessFlags := 25, slot := 6, constantValue := 0 }, { name := "LOG2_ARRAY_LONG_INDEX_SCALE", type := .int, accessFlags := 25, slot := 7, constantValue := 0 }, { name := "LOG2_ARRAY_FLOAT_INDEX_SCALE", type := .int, accessFlags := 25, slot := 8, constantValue := 0 }, { name := "LOG2_ARRAY_DOUBLE_INDEX_SCALE", type := .int, accessFlags := 25, slot := 9, constantValue := 0 }, { name := "LOG2_BYTE_BIT_SIZE", type := .int, accessFlags := 26, slot := 10, constantValue := 0 }, { name := "T_BOOLEAN", type := .int, accessFlags := 25, slot := 11, constantValue := 0 }, { name := "T_CHAR", type := .int, accessFlags := 25, slot := 12, constantValue := 0 }, { name := "T_FLOAT", type := .int, accessFlags := 25, slot := 13, constantValue := 0 }, { name := "T_DOUBLE", type := .int, accessFlags := 25, slot := 14, constantValue := 0 }, { name := "T_BYTE", type := .int, accessFlags := 25, slot := 15, constantValue := 0 }, { name := "T_SHORT", type := .int, accessFlags := 25, slot := 16, constantValue := 0 }, { name := "T_INT", type := .int, accessFlags := 25, slot := 17, constantValue := 0 }, { name := "T_LONG", type := .int, accessFlags := 25, slot := 18, constantValue := 0 }, { name := "JLA", type := (.object "jdk/internal/access/JavaLangAccess"), accessFlags := 26, slot := 19, constantValue := 0 }, { name := "SOFT_MAX_ARRAY_LENGTH", type := .int, accessFlags := 25, slot := 20, constantValue := 0 }]
  methods := #[k19m0]
  instanceTypes := #[]
  staticTypes := #[(.object "jdk/internal/misc/Unsafe"), .boolean, .int, .int, .int, .int, .int, .int, .int, .int, .int, .int, .int, .int, .int, .int, .int, .int, .int, (.object "jdk/internal/access/JavaLangAccess"), .int]
  resolved := Array.replicate 378 none
  statics := none }

def pool20 : Array CpInfo := pool [(1, u "java/lang/Cloneable"), (0, .class_ 1), (0, u "java/lang/Object"), (0, .class_ 3)] 3

/-- java/lang/Cloneable -/
def k20 : Class := { plain "java/lang/Cloneable" (some 0) with
  accessFlags := 1537
  interfaces := #[]
  cf := some (fileOf pool20 2 #[] #[] 1537 4 #[] #[])
  fields := #[]
  methods := #[]
  instanceTypes := #[]
  staticTypes := #[]
  resolved := Array.replicate 8 none
  statics := none }

/-- the primitive byte -/
def k21 : Class := { plain "byte" none with kind := .primitive 'B', accessFlags := 0x411 }
/-- [B -/
def k22 : Class := { plain "[B" (some 0) with kind := .array 21 .byte, interfaces := #[20, 2], accessFlags := 1041 }

/-- the primitive char -/
def k23 : Class := { plain "char" none with kind := .primitive 'C', accessFlags := 0x411 }
/-- [C -/
def k24 : Class := { plain "[C" (some 0) with kind := .array 23 .char, interfaces := #[20, 2], accessFlags := 1041 }

def heap : Heap := #[{ cls := 7, slots := #[.long 0, .int 1, .null, .int 0, .null, .int 0, .int 0], vm := .statics 7 },
  { cls := 18, slots := #[.null, .null, .null], vm := .statics 18 }]
def classes : Array Class := #[k0, k1, k2, k3, k4, k5, k6, k7, k8, k9, k10, k11, k12, k13, k14, k15, k16, k17, k18, k19, k20, k21, k22, k23, k24]
def interned : List (Array UInt16 × Addr) := []
def slotsUsed : Nat := 10
def theMethod : MethodId := ⟨1, 3⟩
def args0 : Array Value := #[.int 5, .int 6, .int 7, .int 3]
def aboutOver (below : List Frame) : State where
  vm := { classes := classes, interned := interned.toArray }
  heap := heap
  slotsUsed := slotsUsed
  threads := #[{ frames := .invoking theMethod args0 :: below }]
def below0 : List Frame := [.native { method := ⟨0, 0⟩, args := #[] }]
def about1 : State := aboutOver below0
def p0 : Program := .bare "" "" ""
def e0 : Env := launch0.env 0 0 0
theorem w_frames : about1.frames = Frame.invoking theMethod args0 :: below0 := rfl
set_option maxRecDepth 65536 in
theorem w_args : argsFit about1.vm theMethod args0 = true := by decide +kernel
set_option maxRecDepth 65536 in
theorem w_heap : heapFits about1 = true := by decide +kernel
set_option maxRecDepth 65536 in
theorem w_runnable : about1.curStatus? = some .runnable := by decide +kernel
set_option maxRecDepth 65536 in
theorem w_alone : about1.alone = true := by decide +kernel
set_option maxRecDepth 65536 in
theorem w_named : about1.methodNamed? x = some theMethod := by decide +kernel
set_option maxRecDepth 65536 in
theorem w_hears : about1.hears theMethod below0 = true := by decide +kernel
set_option maxRecDepth 65536 in
theorem w_ripe : about1.ripe theMethod args0 below0 = true := by decide +kernel
theorem w_running : about1.status = .running := rfl
set_option maxRecDepth 65536 in
theorem w_room : about1.hasRoom e0.platform room_1 = true :=
  launch0.hasRoom_least _ room_1 (by decide +kernel) (by decide +kernel) (by decide +kernel) (by decide +kernel) (by decide +kernel) (by decide +kernel)
theorem allAtoms_all (ts : List Jvm.Cond) (a : Array Jvm.Value) (st : Jvm.State) : (allAtoms ts).before a st = ts.all (fun c => c.before a st) := by
  induction ts with
  | nil => rfl
  | cons c t ih =>
    show (Jvm.Cond.and c (allAtoms t)).before a st = _
    rw [Jvm.Cond.before_and, ih, List.all_cons]
def words1 : List Jvm.Cond := Jvm.Cond.code x code maxLocals ret :: tables_1
/-- a 'code' word, met by the world's own term for the bytes: nothing is compared byte by byte -/
theorem code_word {y : MethodName} {bytes : ByteArray} {mx : Nat} {rt : Option FieldType} {a : Array Value} {s : State} {m : MethodId} {meth : Method} {c : Code} (h1 : s.methodNamed? y = some m) (h2 : s.vm.method? m = some meth) (h3 : meth.code = some c) (h4 : c.code = bytes)
    (h5 : (c.maxLocals == mx && c.exceptionTable.isEmpty && decide (c.maxStack ≤ mostOperands) && decide (meth.sig.returnType = rt) && !meth.locks && decide (parseMethodDescriptor y.desc = some meth.sig)) = true) : (Jvm.Cond.code y bytes mx rt).before a s = true := by
  simp only [Bool.and_eq_true, beq_iff_eq, Bool.not_eq_true', decide_eq_true_eq] at h5
  obtain ⟨⟨⟨⟨⟨g1, g2⟩, g3⟩, g4⟩, g5⟩, g6⟩ := h5
  simp [Cond.before, Cond.holds, Cond.value, h1, h2, h3, h4, g1, g2, g3, g4, g5, g6]
def isCode : Jvm.Cond → Bool
  | .code _ _ _ _ => true
  | _ => false
theorem all_split {L : List Jvm.Cond} {P : Jvm.Cond → Bool} (h1 : L.all (fun c => isCode c || P c) = true) (h2 : ∀ c ∈ L.filter isCode, P c = true) : L.all P = true := by
  refine List.all_eq_true.mpr fun c hc => ?_
  have h := List.all_eq_true.mp h1 c hc
  rcases Bool.eq_false_or_eq_true (isCode c) with hi | hi
  · exact h2 c (List.mem_filter.mpr ⟨hc, hi⟩)
  · simpa [hi] using h
set_option maxRecDepth 65536 in
theorem w_c0 : (Jvm.Cond.code x code maxLocals ret).before args0 about1 = true := code_word (m := ⟨1, 3⟩) (meth := k1m3) (c := k1c3) (by decide +kernel) rfl rfl rfl (by decide +kernel)
set_option maxRecDepth 65536 in
theorem w_c1 : (Jvm.Cond.code ({ cls := "com/example/sigillo/sigillo/soap/AttributeNamePinLaw", name := "draw", desc := "(ICC)Ljava/lang/String;" } : Jvm.MethodName) method_2_code (3 : Nat) (Option.some (Jvm.ClassFile.FieldType.object "java/lang/String"))).before args0 about1 = true := code_word (m := ⟨1, 1⟩) (meth := k1m1) (c := k1c1) (by decide +kernel) rfl rfl rfl (by decide +kernel)
set_option maxRecDepth 65536 in
theorem w_c2 : (Jvm.Cond.code ({ cls := "java/lang/String", name := "<init>", desc := "([C)V" } : Jvm.MethodName) jdk_42_method_3_code (2 : Nat) (Option.none : Option Jvm.ClassFile.FieldType)).before args0 about1 = true := code_word (m := ⟨7, 1⟩) (meth := k7m1) (c := k7c1) (by decide +kernel) rfl rfl rfl (by decide +kernel)
set_option maxRecDepth 65536 in
theorem w_c3 : (Jvm.Cond.code ({ cls := "java/lang/String", name := "<init>", desc := "([CIILjava/lang/Void;)V" } : Jvm.MethodName) jdk_42_method_149_code (6 : Nat) (Option.none : Option Jvm.ClassFile.FieldType)).before args0 about1 = true := code_word (m := ⟨7, 8⟩) (meth := k7m8) (c := k7c8) (by decide +kernel) rfl rfl rfl (by decide +kernel)
set_option maxRecDepth 65536 in
theorem w_c4 : (Jvm.Cond.code ({ cls := "java/lang/Object", name := "<init>", desc := "()V" } : Jvm.MethodName) object_method_1_code (1 : Nat) (Option.none : Option Jvm.ClassFile.FieldType)).before args0 about1 = true := code_word (m := ⟨0, 0⟩) (meth := k0m0) (c := k0c0) (by decide +kernel) rfl rfl rfl (by decide +kernel)
set_option maxRecDepth 65536 in
theorem w_c5 : (Jvm.Cond.code ({ cls := "java/lang/StringUTF16", name := "compress", desc := "([CII)[B" } : Jvm.MethodName) jdk_52_method_16_code (6 : Nat) (Option.some (Jvm.ClassFile.FieldType.array Jvm.ClassFile.FieldType.byte))).before args0 about1 = true := code_word (m := ⟨8, 2⟩) (meth := k8m2) (c := k8c2) (by decide +kernel) rfl rfl rfl (by decide +kernel)
set_option maxRecDepth 65536 in
theorem w_c6 : (Jvm.Cond.code ({ cls := "java/lang/StringUTF16", name := "compress", desc := "([CI[BII)I" } : Jvm.MethodName) jdk_52_method_21_code (7 : Nat) (Option.some Jvm.ClassFile.FieldType.int)).before args0 about1 = true := code_word (m := ⟨8, 3⟩) (meth := k8m3) (c := k8c3) (by decide +kernel) rfl rfl rfl (by decide +kernel)
set_option maxRecDepth 65536 in
theorem w_c7 : (Jvm.Cond.code ({ cls := "java/lang/StringUTF16", name := "coderFromArrayLen", desc := "([BI)B" } : Jvm.MethodName) jdk_52_method_15_code (2 : Nat) (Option.some Jvm.ClassFile.FieldType.byte)).before args0 about1 = true := code_word (m := ⟨8, 1⟩) (meth := k8m1) (c := k8c1) (by decide +kernel) rfl rfl rfl (by decide +kernel)
set_option maxRecDepth 65536 in
theorem w_c8 : (Jvm.Cond.code ({ cls := "com/example/sigillo/sigillo/soap/XmlElement$Attribute", name := "<init>", desc := "(Ljava/lang/String;Ljava/lang/String;Ljava/lang/String;Ljava/lang/String;)V" } : Jvm.MethodName) prog_33_method_1_code (5 : Nat) (Option.none : Option Jvm.ClassFile.FieldType)).before args0 about1 = true := code_word (m := ⟨10, 0⟩) (meth := k10m0) (c := k10c0) (by decide +kernel) rfl rfl rfl (by decide +kernel)
set_option maxRecDepth 65536 in
theorem w_c9 : (Jvm.Cond.code ({ cls := "java/lang/Record", name := "<init>", desc := "()V" } : Jvm.MethodName) jdk_30_method_1_code (1 : Nat) (Option.none : Option Jvm.ClassFile.FieldType)).before args0 about1 = true := code_word (m := ⟨9, 0⟩) (meth := k9m0) (c := k9c0) (by decide +kernel) rfl rfl rfl (by decide +kernel)
set_option maxRecDepth 65536 in
theorem w_c10 : (Jvm.Cond.code ({ cls := "com/example/sigillo/sigillo/soap/XmlElement$Attribute", name := "name", desc := "()Ljava/lang/String;" } : Jvm.MethodName) prog_33_method_2_code (1 : Nat) (Option.some (Jvm.ClassFile.FieldType.object "java/lang/String"))).before args0 about1 = true := code_word (m := ⟨10, 1⟩) (meth := k10m1) (c := k10c1) (by decide +kernel) rfl rfl rfl (by decide +kernel)
set_option maxRecDepth 65536 in
theorem w_c11 : (Jvm.Cond.code ({ cls := "java/lang/String", name := "isEmpty", desc := "()Z" } : Jvm.MethodName) jdk_42_method_55_code (1 : Nat) (Option.some Jvm.ClassFile.FieldType.boolean)).before args0 about1 = true := code_word (m := ⟨7, 4⟩) (meth := k7m4) (c := k7c4) (by decide +kernel) rfl rfl rfl (by decide +kernel)
set_option maxRecDepth 65536 in
theorem w_c12 : (Jvm.Cond.code ({ cls := "java/lang/StringBuilder", name := "<init>", desc := "()V" } : Jvm.MethodName) jdk_67_method_1_code (1 : Nat) (Option.none : Option Jvm.ClassFile.FieldType)).before args0 about1 = true := code_word (m := ⟨13, 0⟩) (meth := k13m0) (c := k13c0) (by decide +kernel) rfl rfl rfl (by decide +kernel)
set_option maxRecDepth 65536 in
theorem w_c13 : (Jvm.Cond.code ({ cls := "java/lang/AbstractStringBuilder", name := "<init>", desc := "(I)V" } : Jvm.MethodName) jdk_68_method_2_code (2 : Nat) (Option.none : Option Jvm.ClassFile.FieldType)).before args0 about1 = true := code_word (m := ⟨12, 1⟩) (meth := k12m1) (c := k12c1) (by decide +kernel) rfl rfl rfl (by decide +kernel)
set_option maxRecDepth 65536 in
theorem w_c14 : (Jvm.Cond.code ({ cls := "java/lang/StringBuilder", name := "append", desc := "(Ljava/lang/String;)Ljava/lang/StringBuilder;" } : Jvm.MethodName) jdk_67_method_7_code (2 : Nat) (Option.some (Jvm.ClassFile.FieldType.object "java/lang/StringBuilder"))).before args0 about1 = true := code_word (m := ⟨13, 1⟩) (meth := k13m1) (c := k13c1) (by decide +kernel) rfl rfl rfl (by decide +kernel)
set_option maxRecDepth 65536 in
theorem w_c15 : (Jvm.Cond.code ({ cls := "java/lang/AbstractStringBuilder", name := "append", desc := "(Ljava/lang/String;)Ljava/lang/AbstractStringBuilder;" } : Jvm.MethodName) jdk_68_method_22_code (3 : Nat) (Option.some (Jvm.ClassFile.FieldType.object "java/lang/AbstractStringBuilder"))).before args0 about1 = true := code_word (m := ⟨12, 4⟩) (meth := k12m4) (c := k12c4) (by decide +kernel) rfl rfl rfl (by decide +kernel)
set_option maxRecDepth 65536 in
theorem w_c16 : (Jvm.Cond.code ({ cls := "java/lang/String", name := "length", desc := "()I" } : Jvm.MethodName) jdk_42_method_54_code (1 : Nat) (Option.some Jvm.ClassFile.FieldType.int)).before args0 about1 = true := code_word (m := ⟨7, 3⟩) (meth := k7m3) (c := k7c3) (by decide +kernel) rfl rfl rfl (by decide +kernel)
set_option maxRecDepth 65536 in
theorem w_c17 : (Jvm.Cond.code ({ cls := "java/lang/String", name := "coder", desc := "()B" } : Jvm.MethodName) jdk_42_method_152_code (1 : Nat) (Option.some Jvm.ClassFile.FieldType.byte)).before args0 about1 = true := code_word (m := ⟨7, 11⟩) (meth := k7m11) (c := k7c11) (by decide +kernel) rfl rfl rfl (by decide +kernel)
set_option maxRecDepth 65536 in
theorem w_c18 : (Jvm.Cond.code ({ cls := "java/lang/AbstractStringBuilder", name := "ensureCapacityInternal", desc := "(I)V" } : Jvm.MethodName) jdk_68_method_9_code (3 : Nat) (Option.none : Option Jvm.ClassFile.FieldType)).before args0 about1 = true := code_word (m := ⟨12, 3⟩) (meth := k12m3) (c := k12c3) (by decide +kernel) rfl rfl rfl (by decide +kernel)
set_option maxRecDepth 65536 in
theorem w_c19 : (Jvm.Cond.code ({ cls := "java/lang/AbstractStringBuilder", name := "putStringAt", desc := "(ILjava/lang/String;)V" } : Jvm.MethodName) jdk_68_method_73_code (3 : Nat) (Option.none : Option Jvm.ClassFile.FieldType)).before args0 about1 = true := code_word (m := ⟨12, 8⟩) (meth := k12m8) (c := k12c8) (by decide +kernel) rfl rfl rfl (by decide +kernel)
set_option maxRecDepth 65536 in
theorem w_c20 : (Jvm.Cond.code ({ cls := "java/lang/AbstractStringBuilder", name := "inflateIfNeededFor", desc := "(Ljava/lang/String;)V" } : Jvm.MethodName) jdk_68_method_71_code (2 : Nat) (Option.none : Option Jvm.ClassFile.FieldType)).before args0 about1 = true := code_word (m := ⟨12, 7⟩) (meth := k12m7) (c := k12c7) (by decide +kernel) rfl rfl rfl (by decide +kernel)
set_option maxRecDepth 65536 in
theorem w_c21 : (Jvm.Cond.code ({ cls := "java/lang/String", name := "getBytes", desc := "([BIB)V" } : Jvm.MethodName) jdk_42_method_147_code (4 : Nat) (Option.none : Option Jvm.ClassFile.FieldType)).before args0 about1 = true := code_word (m := ⟨7, 7⟩) (meth := k7m7) (c := k7c7) (by decide +kernel) rfl rfl rfl (by decide +kernel)
set_option maxRecDepth 65536 in
theorem w_c22 : (Jvm.Cond.code ({ cls := "java/lang/StringBuilder", name := "toString", desc := "()Ljava/lang/String;" } : Jvm.MethodName) jdk_67_method_42_code (1 : Nat) (Option.some (Jvm.ClassFile.FieldType.object "java/lang/String"))).before args0 about1 = true := code_word (m := ⟨13, 2⟩) (meth := k13m2) (c := k13c2) (by decide +kernel) rfl rfl rfl (by decide +kernel)
set_option maxRecDepth 65536 in
theorem w_c23 : (Jvm.Cond.code ({ cls := "java/lang/String", name := "<init>", desc := "(Ljava/lang/StringBuilder;)V" } : Jvm.MethodName) jdk_42_method_53_code (2 : Nat) (Option.none : Option Jvm.ClassFile.FieldType)).before args0 about1 = true := code_word (m := ⟨7, 2⟩) (meth := k7m2) (c := k7c2) (by decide +kernel) rfl rfl rfl (by decide +kernel)
set_option maxRecDepth 65536 in
theorem w_c24 : (Jvm.Cond.code ({ cls := "java/lang/String", name := "<init>", desc := "(Ljava/lang/AbstractStringBuilder;Ljava/lang/Void;)V" } : Jvm.MethodName) jdk_42_method_150_code (5 : Nat) (Option.none : Option Jvm.ClassFile.FieldType)).before args0 about1 = true := code_word (m := ⟨7, 9⟩) (meth := k7m9) (c := k7c9) (by decide +kernel) rfl rfl rfl (by decide +kernel)
set_option maxRecDepth 65536 in
theorem w_c25 : (Jvm.Cond.code ({ cls := "java/lang/AbstractStringBuilder", name := "getValue", desc := "()[B" } : Jvm.MethodName) jdk_68_method_64_code (1 : Nat) (Option.some (Jvm.ClassFile.FieldType.array Jvm.ClassFile.FieldType.byte))).before args0 about1 = true := code_word (m := ⟨12, 5⟩) (meth := k12m5) (c := k12c5) (by decide +kernel) rfl rfl rfl (by decide +kernel)
set_option maxRecDepth 65536 in
theorem w_c26 : (Jvm.Cond.code ({ cls := "java/lang/StringBuilder", name := "length", desc := "()I" } : Jvm.MethodName) jdk_67_method_93_code (1 : Nat) (Option.some Jvm.ClassFile.FieldType.int)).before args0 about1 = true := code_word (m := ⟨13, 3⟩) (meth := k13m3) (c := k13c3) (by decide +kernel) rfl rfl rfl (by decide +kernel)
set_option maxRecDepth 65536 in
theorem w_c27 : (Jvm.Cond.code ({ cls := "java/lang/AbstractStringBuilder", name := "length", desc := "()I" } : Jvm.MethodName) jdk_68_method_6_code (1 : Nat) (Option.some Jvm.ClassFile.FieldType.int)).before args0 about1 = true := code_word (m := ⟨12, 2⟩) (meth := k12m2) (c := k12c2) (by decide +kernel) rfl rfl rfl (by decide +kernel)
set_option maxRecDepth 65536 in
theorem w_c28 : (Jvm.Cond.code ({ cls := "java/lang/AbstractStringBuilder", name := "isLatin1", desc := "()Z" } : Jvm.MethodName) jdk_68_method_68_code (1 : Nat) (Option.some Jvm.ClassFile.FieldType.boolean)).before args0 about1 = true := code_word (m := ⟨12, 6⟩) (meth := k12m6) (c := k12c6) (by decide +kernel) rfl rfl rfl (by decide +kernel)
set_option maxRecDepth 65536 in
theorem w_c29 : (Jvm.Cond.code ({ cls := "java/util/Arrays", name := "copyOfRange", desc := "([BII)[B" } : Jvm.MethodName) jdk_65_method_132_code (3 : Nat) (Option.some (Jvm.ClassFile.FieldType.array Jvm.ClassFile.FieldType.byte))).before args0 about1 = true := code_word (m := ⟨15, 2⟩) (meth := k15m2) (c := k15c2) (by decide +kernel) rfl rfl rfl (by decide +kernel)
set_option maxRecDepth 65536 in
theorem w_c30 : (Jvm.Cond.code ({ cls := "java/util/Arrays", name := "copyOfRangeByte", desc := "([BII)[B" } : Jvm.MethodName) jdk_65_method_133_code (5 : Nat) (Option.some (Jvm.ClassFile.FieldType.array Jvm.ClassFile.FieldType.byte))).before args0 about1 = true := code_word (m := ⟨15, 3⟩) (meth := k15m3) (c := k15c3) (by decide +kernel) rfl rfl rfl (by decide +kernel)
set_option maxRecDepth 65536 in
theorem w_c31 : (Jvm.Cond.code ({ cls := "java/util/Arrays", name := "checkLength", desc := "(II)V" } : Jvm.MethodName) jdk_65_method_131_code (2 : Nat) (Option.none : Option Jvm.ClassFile.FieldType)).before args0 about1 = true := code_word (m := ⟨15, 1⟩) (meth := k15m1) (c := k15c1) (by decide +kernel) rfl rfl rfl (by decide +kernel)
set_option maxRecDepth 65536 in
theorem w_c32 : (Jvm.Cond.code ({ cls := "java/lang/Math", name := "min", desc := "(II)I" } : Jvm.MethodName) jdk_29_method_69_code (2 : Nat) (Option.some Jvm.ClassFile.FieldType.int)).before args0 about1 = true := code_word (m := ⟨16, 1⟩) (meth := k16m1) (c := k16c1) (by decide +kernel) rfl rfl rfl (by decide +kernel)
set_option maxRecDepth 65536 in
theorem w_c33 : (Jvm.Cond.code ({ cls := "com/example/sigillo/sigillo/soap/AttributeNamePinLaw", name := "at", desc := "(Ljava/lang/String;[CII)Z" } : Jvm.MethodName) method_3_code (4 : Nat) (Option.some Jvm.ClassFile.FieldType.boolean)).before args0 about1 = true := code_word (m := ⟨1, 2⟩) (meth := k1m2) (c := k1c2) (by decide +kernel) rfl rfl rfl (by decide +kernel)
set_option maxRecDepth 65536 in
theorem w_c34 : (Jvm.Cond.code ({ cls := "java/lang/String", name := "charAt", desc := "(I)C" } : Jvm.MethodName) jdk_42_method_56_code (2 : Nat) (Option.some Jvm.ClassFile.FieldType.char)).before args0 about1 = true := code_word (m := ⟨7, 5⟩) (meth := k7m5) (c := k7c5) (by decide +kernel) rfl rfl rfl (by decide +kernel)
set_option maxRecDepth 65536 in
theorem w_c35 : (Jvm.Cond.code ({ cls := "java/lang/String", name := "isLatin1", desc := "()Z" } : Jvm.MethodName) jdk_42_method_154_code (1 : Nat) (Option.some Jvm.ClassFile.FieldType.boolean)).before args0 about1 = true := code_word (m := ⟨7, 12⟩) (meth := k7m12) (c := k7c12) (by decide +kernel) rfl rfl rfl (by decide +kernel)
set_option maxRecDepth 65536 in
theorem w_c36 : (Jvm.Cond.code ({ cls := "java/lang/StringLatin1", name := "charAt", desc := "([BI)C" } : Jvm.MethodName) jdk_43_method_2_code (2 : Nat) (Option.some Jvm.ClassFile.FieldType.char)).before args0 about1 = true := code_word (m := ⟨17, 1⟩) (meth := k17m1) (c := k17c1) (by decide +kernel) rfl rfl rfl (by decide +kernel)
set_option maxRecDepth 65536 in
theorem w_c37 : (Jvm.Cond.code ({ cls := "java/lang/String", name := "checkIndex", desc := "(II)V" } : Jvm.MethodName) jdk_42_method_155_code (2 : Nat) (Option.none : Option Jvm.ClassFile.FieldType)).before args0 about1 = true := code_word (m := ⟨7, 13⟩) (meth := k7m13) (c := k7c13) (by decide +kernel) rfl rfl rfl (by decide +kernel)
set_option maxRecDepth 65536 in
theorem w_c38 : (Jvm.Cond.code ({ cls := "jdk/internal/util/Preconditions", name := "checkIndex", desc := "(IILjava/util/function/BiFunction;)I" } : Jvm.MethodName) jdk_41_method_11_code (3 : Nat) (Option.some Jvm.ClassFile.FieldType.int)).before args0 about1 = true := code_word (m := ⟨18, 1⟩) (meth := k18m1) (c := k18c1) (by decide +kernel) rfl rfl rfl (by decide +kernel)
set_option maxRecDepth 65536 in
theorem w_c39 : (Jvm.Cond.code ({ cls := "java/lang/String", name := "valueOf", desc := "(C)Ljava/lang/String;" } : Jvm.MethodName) jdk_42_method_139_code (1 : Nat) (Option.some (Jvm.ClassFile.FieldType.object "java/lang/String"))).before args0 about1 = true := code_word (m := ⟨7, 6⟩) (meth := k7m6) (c := k7c6) (by decide +kernel) rfl rfl rfl (by decide +kernel)
set_option maxRecDepth 65536 in
theorem w_c40 : (Jvm.Cond.code ({ cls := "java/lang/StringLatin1", name := "canEncode", desc := "(C)Z" } : Jvm.MethodName) jdk_43_method_3_code (1 : Nat) (Option.some Jvm.ClassFile.FieldType.boolean)).before args0 about1 = true := code_word (m := ⟨17, 2⟩) (meth := k17m2) (c := k17c2) (by decide +kernel) rfl rfl rfl (by decide +kernel)
set_option maxRecDepth 65536 in
theorem w_c41 : (Jvm.Cond.code ({ cls := "java/lang/StringLatin1", name := "toBytes", desc := "(C)[B" } : Jvm.MethodName) jdk_43_method_46_code (1 : Nat) (Option.some (Jvm.ClassFile.FieldType.array Jvm.ClassFile.FieldType.byte))).before args0 about1 = true := code_word (m := ⟨17, 3⟩) (meth := k17m3) (c := k17c3) (by decide +kernel) rfl rfl rfl (by decide +kernel)
set_option maxRecDepth 65536 in
theorem w_c42 : (Jvm.Cond.code ({ cls := "java/lang/String", name := "<init>", desc := "([BB)V" } : Jvm.MethodName) jdk_42_method_151_code (3 : Nat) (Option.none : Option Jvm.ClassFile.FieldType)).before args0 about1 = true := code_word (m := ⟨7, 10⟩) (meth := k7m10) (c := k7c10) (by decide +kernel) rfl rfl rfl (by decide +kernel)
def codes1 : List Jvm.Cond := [Jvm.Cond.code x code maxLocals ret, Jvm.Cond.code ({ cls := "com/example/sigillo/sigillo/soap/AttributeNamePinLaw", name := "draw", desc := "(ICC)Ljava/lang/String;" } : Jvm.MethodName) method_2_code (3 : Nat) (Option.some (Jvm.ClassFile.FieldType.object "java/lang/String")), Jvm.Cond.code ({ cls := "java/lang/String", name := "<init>", desc := "([C)V" } : Jvm.MethodName) jdk_42_method_3_code (2 : Nat) (Option.none : Option Jvm.ClassFile.FieldType), Jvm.Cond.code ({ cls := "java/lang/String", name := "<init>", desc := "([CIILjava/lang/Void;)V" } : Jvm.MethodName) jdk_42_method_149_code (6 : Nat) (Option.none : Option Jvm.ClassFile.FieldType), Jvm.Cond.code ({ cls := "java/lang/Object", name := "<init>", desc := "()V" } : Jvm.MethodName) object_method_1_code (1 : Nat) (Option.none : Option Jvm.ClassFile.FieldType), Jvm.Cond.code ({ cls := "java/lang/StringUTF16", name := "compress", desc := "([CII)[B" } : Jvm.MethodName) jdk_52_method_16_code (6 : Nat) (Option.some (Jvm.ClassFile.FieldType.array Jvm.ClassFile.FieldType.byte)), Jvm.Cond.code ({ cls := "java/lang/StringUTF16", name := "compress", desc := "([CI[BII)I" } : Jvm.MethodName) jdk_52_method_21_code (7 : Nat) (Option.some Jvm.ClassFile.FieldType.int), Jvm.Cond.code ({ cls := "java/lang/StringUTF16", name := "coderFromArrayLen", desc := "([BI)B" } : Jvm.MethodName) jdk_52_method_15_code (2 : Nat) (Option.some Jvm.ClassFile.FieldType.byte), Jvm.Cond.code ({ cls := "com/example/sigillo/sigillo/soap/XmlElement$Attribute", name := "<init>", desc := "(Ljava/lang/String;Ljava/lang/String;Ljava/lang/String;Ljava/lang/String;)V" } : Jvm.MethodName) prog_33_method_1_code (5 : Nat) (Option.none : Option Jvm.ClassFile.FieldType), Jvm.Cond.code ({ cls := "java/lang/Record", name := "<init>", desc := "()V" } : Jvm.MethodName) jdk_30_method_1_code (1 : Nat) (Option.none : Option Jvm.ClassFile.FieldType), Jvm.Cond.code ({ cls := "com/example/sigillo/sigillo/soap/XmlElement$Attribute", name := "name", desc := "()Ljava/lang/String;" } : Jvm.MethodName) prog_33_method_2_code (1 : Nat) (Option.some (Jvm.ClassFile.FieldType.object "java/lang/String")), Jvm.Cond.code ({ cls := "java/lang/String", name := "isEmpty", desc := "()Z" } : Jvm.MethodName) jdk_42_method_55_code (1 : Nat) (Option.some Jvm.ClassFile.FieldType.boolean), Jvm.Cond.code ({ cls := "java/lang/StringBuilder", name := "<init>", desc := "()V" } : Jvm.MethodName) jdk_67_method_1_code (1 : Nat) (Option.none : Option Jvm.ClassFile.FieldType), Jvm.Cond.code ({ cls := "java/lang/AbstractStringBuilder", name := "<init>", desc := "(I)V" } : Jvm.MethodName) jdk_68_method_2_code (2 : Nat) (Option.none : Option Jvm.ClassFile.FieldType), Jvm.Cond.code ({ cls := "java/lang/StringBuilder", name := "append", desc := "(Ljava/lang/String;)Ljava/lang/StringBuilder;" } : Jvm.MethodName) jdk_67_method_7_code (2 : Nat) (Option.some (Jvm.ClassFile.FieldType.object "java/lang/StringBuilder")), Jvm.Cond.code ({ cls := "java/lang/AbstractStringBuilder", name := "append", desc := "(Ljava/lang/String;)Ljava/lang/AbstractStringBuilder;" } : Jvm.MethodName) jdk_68_method_22_code (3 : Nat) (Option.some (Jvm.ClassFile.FieldType.object "java/lang/AbstractStringBuilder")), Jvm.Cond.code ({ cls := "java/lang/String", name := "length", desc := "()I" } : Jvm.MethodName) jdk_42_method_54_code (1 : Nat) (Option.some Jvm.ClassFile.FieldType.int), Jvm.Cond.code ({ cls := "java/lang/String", name := "coder", desc := "()B" } : Jvm.MethodName) jdk_42_method_152_code (1 : Nat) (Option.some Jvm.ClassFile.FieldType.byte), Jvm.Cond.code ({ cls := "java/lang/AbstractStringBuilder", name := "ensureCapacityInternal", desc := "(I)V" } : Jvm.MethodName) jdk_68_method_9_code (3 : Nat) (Option.none : Option Jvm.ClassFile.FieldType), Jvm.Cond.code ({ cls := "java/lang/AbstractStringBuilder", name := "putStringAt", desc := "(ILjava/lang/String;)V" } : Jvm.MethodName) jdk_68_method_73_code (3 : Nat) (Option.none : Option Jvm.ClassFile.FieldType), Jvm.Cond.code ({ cls := "java/lang/AbstractStringBuilder", name := "inflateIfNeededFor", desc := "(Ljava/lang/String;)V" } : Jvm.MethodName) jdk_68_method_71_code (2 : Nat) (Option.none : Option Jvm.ClassFile.FieldType), Jvm.Cond.code ({ cls := "java/lang/String", name := "getBytes", desc := "([BIB)V" } : Jvm.MethodName) jdk_42_method_147_code (4 : Nat) (Option.none : Option Jvm.ClassFile.FieldType), Jvm.Cond.code ({ cls := "java/lang/StringBuilder", name := "toString", desc := "()Ljava/lang/String;" } : Jvm.MethodName) jdk_67_method_42_code (1 : Nat) (Option.some (Jvm.ClassFile.FieldType.object "java/lang/String")), Jvm.Cond.code ({ cls := "java/lang/String", name := "<init>", desc := "(Ljava/lang/StringBuilder;)V" } : Jvm.MethodName) jdk_42_method_53_code (2 : Nat) (Option.none : Option Jvm.ClassFile.FieldType), Jvm.Cond.code ({ cls := "java/lang/String", name := "<init>", desc := "(Ljava/lang/AbstractStringBuilder;Ljava/lang/Void;)V" } : Jvm.MethodName) jdk_42_method_150_code (5 : Nat) (Option.none : Option Jvm.ClassFile.FieldType), Jvm.Cond.code ({ cls := "java/lang/AbstractStringBuilder", name := "getValue", desc := "()[B" } : Jvm.MethodName) jdk_68_method_64_code (1 : Nat) (Option.some (Jvm.ClassFile.FieldType.array Jvm.ClassFile.FieldType.byte)), Jvm.Cond.code ({ cls := "java/lang/StringBuilder", name := "length", desc := "()I" } : Jvm.MethodName) jdk_67_method_93_code (1 : Nat) (Option.some Jvm.ClassFile.FieldType.int), Jvm.Cond.code ({ cls := "java/lang/AbstractStringBuilder", name := "length", desc := "()I" } : Jvm.MethodName) jdk_68_method_6_code (1 : Nat) (Option.some Jvm.ClassFile.FieldType.int), Jvm.Cond.code ({ cls := "java/lang/AbstractStringBuilder", name := "isLatin1", desc := "()Z" } : Jvm.MethodName) jdk_68_method_68_code (1 : Nat) (Option.some Jvm.ClassFile.FieldType.boolean), Jvm.Cond.code ({ cls := "java/util/Arrays", name := "copyOfRange", desc := "([BII)[B" } : Jvm.MethodName) jdk_65_method_132_code (3 : Nat) (Option.some (Jvm.ClassFile.FieldType.array Jvm.ClassFile.FieldType.byte)), Jvm.Cond.code ({ cls := "java/util/Arrays", name := "copyOfRangeByte", desc := "([BII)[B" } : Jvm.MethodName) jdk_65_method_133_code (5 : Nat) (Option.some (Jvm.ClassFile.FieldType.array Jvm.ClassFile.FieldType.byte)), Jvm.Cond.code ({ cls := "java/util/Arrays", name := "checkLength", desc := "(II)V" } : Jvm.MethodName) jdk_65_method_131_code (2 : Nat) (Option.none : Option Jvm.ClassFile.FieldType), Jvm.Cond.code ({ cls := "java/lang/Math", name := "min", desc := "(II)I" } : Jvm.MethodName) jdk_29_method_69_code (2 : Nat) (Option.some Jvm.ClassFile.FieldType.int), Jvm.Cond.code ({ cls := "com/example/sigillo/sigillo/soap/AttributeNamePinLaw", name := "at", desc := "(Ljava/lang/String;[CII)Z" } : Jvm.MethodName) method_3_code (4 : Nat) (Option.some Jvm.ClassFile.FieldType.boolean), Jvm.Cond.code ({ cls := "java/lang/String", name := "charAt", desc := "(I)C" } : Jvm.MethodName) jdk_42_method_56_code (2 : Nat) (Option.some Jvm.ClassFile.FieldType.char), Jvm.Cond.code ({ cls := "java/lang/String", name := "isLatin1", desc := "()Z" } : Jvm.MethodName) jdk_42_method_154_code (1 : Nat) (Option.some Jvm.ClassFile.FieldType.boolean), Jvm.Cond.code ({ cls := "java/lang/StringLatin1", name := "charAt", desc := "([BI)C" } : Jvm.MethodName) jdk_43_method_2_code (2 : Nat) (Option.some Jvm.ClassFile.FieldType.char), Jvm.Cond.code ({ cls := "java/lang/String", name := "checkIndex", desc := "(II)V" } : Jvm.MethodName) jdk_42_method_155_code (2 : Nat) (Option.none : Option Jvm.ClassFile.FieldType), Jvm.Cond.code ({ cls := "jdk/internal/util/Preconditions", name := "checkIndex", desc := "(IILjava/util/function/BiFunction;)I" } : Jvm.MethodName) jdk_41_method_11_code (3 : Nat) (Option.some Jvm.ClassFile.FieldType.int), Jvm.Cond.code ({ cls := "java/lang/String", name := "valueOf", desc := "(C)Ljava/lang/String;" } : Jvm.MethodName) jdk_42_method_139_code (1 : Nat) (Option.some (Jvm.ClassFile.FieldType.object "java/lang/String")), Jvm.Cond.code ({ cls := "java/lang/StringLatin1", name := "canEncode", desc := "(C)Z" } : Jvm.MethodName) jdk_43_method_3_code (1 : Nat) (Option.some Jvm.ClassFile.FieldType.boolean), Jvm.Cond.code ({ cls := "java/lang/StringLatin1", name := "toBytes", desc := "(C)[B" } : Jvm.MethodName) jdk_43_method_46_code (1 : Nat) (Option.some (Jvm.ClassFile.FieldType.array Jvm.ClassFile.FieldType.byte)), Jvm.Cond.code ({ cls := "java/lang/String", name := "<init>", desc := "([BB)V" } : Jvm.MethodName) jdk_42_method_151_code (3 : Nat) (Option.none : Option Jvm.ClassFile.FieldType)]
set_option maxRecDepth 65536 in
theorem codes_eq : words1.filter isCode = codes1 := rfl
theorem w_codes : ∀ c ∈ words1.filter isCode, c.before args0 about1 = true := by
  rw [codes_eq]
  intro c hc
  simp only [codes1, List.mem_cons, List.not_mem_nil, or_false] at hc
  rcases hc with rfl | rfl | rfl | rfl | rfl | rfl | rfl | rfl | rfl | rfl | rfl | rfl | rfl | rfl | rfl | rfl | rfl | rfl | rfl | rfl | rfl | rfl | rfl | rfl | rfl | rfl | rfl | rfl | rfl | rfl | rfl | rfl | rfl | rfl | rfl | rfl | rfl | rfl | rfl | rfl | rfl | rfl | rfl
  · exact w_c0
  · exact w_c1
  · exact w_c2
  · exact w_c3
  · exact w_c4
  · exact w_c5
  · exact w_c6
  · exact w_c7
  · exact w_c8
  · exact w_c9
  · exact w_c10
  · exact w_c11
  · exact w_c12
  · exact w_c13
  · exact w_c14
  · exact w_c15
  · exact w_c16
  · exact w_c17
  · exact w_c18
  · exact w_c19
  · exact w_c20
  · exact w_c21
  · exact w_c22
  · exact w_c23
  · exact w_c24
  · exact w_c25
  · exact w_c26
  · exact w_c27
  · exact w_c28
  · exact w_c29
  · exact w_c30
  · exact w_c31
  · exact w_c32
  · exact w_c33
  · exact w_c34
  · exact w_c35
  · exact w_c36
  · exact w_c37
  · exact w_c38
  · exact w_c39
  · exact w_c40
  · exact w_c41
  · exact w_c42
set_option maxRecDepth 65536 in
theorem w_t1 : (words1.take 24).all (fun c => isCode c || c.before args0 about1) = true := by decide +kernel
set_option maxRecDepth 65536 in
theorem w_t2 : ((words1.drop 24).take 24).all (fun c => isCode c || c.before args0 about1) = true := by decide +kernel
set_option maxRecDepth 65536 in
theorem w_t3 : (((words1.drop 24).drop 24).take 24).all (fun c => isCode c || c.before args0 about1) = true := by decide +kernel
set_option maxRecDepth 65536 in
theorem w_t4 : ((((words1.drop 24).drop 24).drop 24).take 24).all (fun c => isCode c || c.before args0 about1) = true := by decide +kernel
set_option maxRecDepth 65536 in
theorem w_t5 : (((((words1.drop 24).drop 24).drop 24).drop 24).take 24).all (fun c => isCode c || c.before args0 about1) = true := by decide +kernel
set_option maxRecDepth 65536 in
theorem w_t6 : ((((((words1.drop 24).drop 24).drop 24).drop 24).drop 24).take 24).all (fun c => isCode c || c.before args0 about1) = true := by decide +kernel
set_option maxRecDepth 65536 in
theorem w_t7 : (((((((words1.drop 24).drop 24).drop 24).drop 24).drop 24).drop 24).take 24).all (fun c => isCode c || c.before args0 about1) = true := by decide +kernel
set_option maxRecDepth 65536 in
theorem w_t8 : ((((((((words1.drop 24).drop 24).drop 24).drop 24).drop 24).drop 24).drop 24).take 24).all (fun c => isCode c || c.before args0 about1) = true := by decide +kernel
set_option maxRecDepth 65536 in
theorem w_t9 : (((((((((words1.drop 24).drop 24).drop 24).drop 24).drop 24).drop 24).drop 24).drop 24).take 24).all (fun c => isCode c || c.before args0 about1) = true := by decide +kernel
set_option maxRecDepth 65536 in
theorem w_t10 : (((((((((words1.drop 24).drop 24).drop 24).drop 24).drop 24).drop 24).drop 24).drop 24).drop 24).all (fun c => isCode c || c.before args0 about1) = true := by decide +kernel
theorem w_tables : (allAtoms (Jvm.Cond.code x code maxLocals ret :: tables_1)).before args0 about1 = true := by
  rw [allAtoms_all]
  show words1.all (fun c => c.before args0 about1) = true
  refine all_split ?_ w_codes
  rw [← List.take_append_drop 24 words1, List.all_append, w_t1, ← List.take_append_drop 24 (words1.drop 24), List.all_append, w_t2, ← List.take_append_drop 24 ((words1.drop 24).drop 24), List.all_append, w_t3, ← List.take_append_drop 24 (((words1.drop 24).drop 24).drop 24), List.all_append, w_t4, ← List.take_append_drop 24 ((((words1.drop 24).drop 24).drop 24).drop 24), List.all_append, w_t5, ← List.take_append_drop 24 (((((words1.drop 24).drop 24).drop 24).drop 24).drop 24), List.all_append, w_t6, ← List.take_append_drop 24 ((((((words1.drop 24).drop 24).drop 24).drop 24).drop 24).drop 24), List.all_append, w_t7, ← List.take_append_drop 24 (((((((words1.drop 24).drop 24).drop 24).drop 24).drop 24).drop 24).drop 24), List.all_append, w_t8, ← List.take_append_drop 24 ((((((((words1.drop 24).drop 24).drop 24).drop 24).drop 24).drop 24).drop 24).drop 24), List.all_append, w_t9, w_t10]
  rfl
set_option maxRecDepth 65536 in
theorem w_rest : rest_1_c.before args0 about1 = true := by decide +kernel
set_option maxRecDepth 65536 in
theorem w_case : (Jvm.Cond.and given_1 narrow_1).before args0 about1 = true := by decide +kernel
set_option maxRecDepth 65536 in
theorem w_consts : constsHeld consts_1 about1 := Jvm.Lit.constsHeldB_iff.mp (by decide +kernel)
theorem w_applies : (headSpec (Jvm.Cond.code x code maxLocals ret :: tables_1) room_1).applies x e0.platform about1 = true :=
  (Spec.applies_iff w_frames).mpr ⟨w_running, w_runnable, w_alone, w_named, w_hears, w_ripe, w_room, w_tables⟩
theorem atStart : AtStart classFile x code maxLocals ret World_1 tables_1 room_1 Calls_1 rest_1 Pre_1 launch0 p0 e0 about1 theMethod args0 below0 :=
  ⟨lists_1, trivial, launch0.admits_env _ _ _, launch0.least_env, fairChoices_fair.cas, fairChoices_fair.clock, w_frames, w_args, w_heap, w_applies, ⟨w_consts, trivial⟩, w_rest, w_case⟩
end start1
theorem witness_1 : WitnessClaimed_1 := ⟨start1.p0, start1.e0, start1.about1, start1.theMethod, start1.args0, start1.below0, start1.atStart⟩
end Jvm.Pilot.@@N@@
