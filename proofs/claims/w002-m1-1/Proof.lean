import JvmDerived
import JvmDerived.Pilot.@@N@@Statement
import JvmDerived.Pilot.@@N@@Code
set_option linter.unusedVariables false
set_option linter.unusedSimpArgs false
/- laws to paste: Road.backV, Road.lenW, Road.chN, Road.eqW, Road.codOf (cut by pick.py; bodies as the Statement names them) -/
namespace Jvm.Pilot.@@N@@
namespace StrChars
open Jvm Sem ClassFile Op Lib Jvm.Stand Jvm.Free.XT Jvm.Free.ALB Jvm.Free.JM Jvm.Free
open Jvm.Lib.Cold (StaticIs)
/-- a char array whose places are chars -/
def Ch (a : Addr) (A : Cell) (U : State) : Prop := Arr .char a A U ∧ Typed .char A
theorem Ch.mv {a : Addr} {A : Cell} {U U' : State} (h : Ch a A U) (hal : U.vm.Alike U'.vm) (hh : U'.heap = U.heap) : Ch a A U' := ⟨h.1.mv hal hh, h.2⟩
theorem Ch.keep {a : Addr} {A : Cell} {U U' : State} (h : Ch a A U) (hal : U.vm.Alike U'.vm) (hk : U'.heap[a]? = some A) : Ch a A U' := ⟨h.1.keep hal hk, h.2⟩
/-- what place i of a char[]'s cell holds -/
def cv (A : Cell) (i : Nat) : Int32 := match A.slots[i]? with | some (.int x) => x | _ => 0
theorem Ch.get {a : Addr} {A : Cell} {U : State} (h : Ch a A U) {i : Nat} (hi : i < A.slots.size) : A.slots[i]? = some (.int (cv A i)) := by
  have e := Array.getElem?_eq_getElem hi
  have f := h.2 i _ e
  unfold cv; rw [e]
  generalize A.slots[i] = v at f
  cases v <;> simp [fits] at f ⊢
/-- the byte that i2b leaves of a char -/
def lo8 (x : Int32) : Int32 := x.toInt8.toInt32
theorem fits_lo8 (y : Int32) : fits .byte (.int (lo8 y)) = true := by
  have h1 := y.toInt8.le_toInt
  have h2 := y.toInt8.toInt_lt
  simp only [lo8, fits, Bool.and_eq_true, decide_eq_true_eq, Int32.le_iff_toInt_le, Int8.toInt_toInt32, show (-128 : Int32).toInt = -128 from by decide, show (127 : Int32).toInt = 127 from by decide]
  omega
/-- A' is A but that each place j of lo .. hi - 1 holds f j -/
def Laid (A A' : Cell) (lo hi : Nat) (f : Nat → Value) : Prop := A'.cls = A.cls ∧ A'.vm = A.vm ∧ A'.slots.size = A.slots.size ∧ ∀ i, A'.slots[i]? = if lo ≤ i ∧ i < hi then some (f i) else A.slots[i]?
theorem Laid.zero (A : Cell) (lo : Nat) (f : Nat → Value) : Laid A A lo (lo + 0) f := ⟨rfl, rfl, rfl, fun i => by rw [if_neg (by omega)]⟩
theorem Laid.step {A Ak : Cell} {lo k : Nat} {f : Nat → Value} {v : Value} (h : Laid A Ak lo k f) (hlo : lo ≤ k) (hk : k < Ak.slots.size) (hv : v = f k) : Laid A (Ak.setSlot k v) lo (k + 1) f := by
  refine ⟨h.1, h.2.1, by simpa [Cell.setSlot] using h.2.2.1, fun i => ?_⟩
  by_cases e : k = i
  · subst e; rw [Cell.slots_setSlot_self v hk, if_pos (by omega), hv]
  · rw [Cell.slots_setSlot_ne v e, h.2.2.2 i]
    by_cases q : lo ≤ i ∧ i < k
    · rw [if_pos q, if_pos (by omega)]
    · rw [if_neg q, if_neg (by omega)]
def U16 : String := "java/lang/StringUTF16"
namespace Cmp5
def yN : MethodName := ⟨"java/lang/StringUTF16", "compress", "([CI[BII)I"⟩
abbrev yB : ByteArray := jdk_52_method_21_code
theorem d0 : decode yB 0 = .ok (.iconst 0, 1) := by decide +kernel
theorem d1 : decode yB 1 = .ok (.istore 5, 2) := by decide +kernel
theorem d3 : decode yB 3 = .ok (.iload 5, 2) := by decide +kernel
theorem d5 : decode yB 5 = .ok (.iload 4, 2) := by decide +kernel
theorem d7 : decode yB 7 = .ok (.if_icmp (.ge) 37, 3) := by decide +kernel
theorem d10 : decode yB 10 = .ok (.aload_n 0, 1) := by decide +kernel
theorem d11 : decode yB 11 = .ok (.iload_n 1, 1) := by decide +kernel
theorem d12 : decode yB 12 = .ok (.caload, 1) := by decide +kernel
theorem d13 : decode yB 13 = .ok (.istore 6, 2) := by decide +kernel
theorem d15 : decode yB 15 = .ok (.iload 6, 2) := by decide +kernel
theorem d17 : decode yB 17 = .ok (.sipush 255, 3) := by decide +kernel
theorem d20 : decode yB 20 = .ok (.if_icmp (.le) 6, 3) := by decide +kernel
theorem d26 : decode yB 26 = .ok (.aload_n 2, 1) := by decide +kernel
theorem d27 : decode yB 27 = .ok (.iload_n 3, 1) := by decide +kernel
theorem d28 : decode yB 28 = .ok (.iload 6, 2) := by decide +kernel
theorem d30 : decode yB 30 = .ok (.i2b, 1) := by decide +kernel
theorem d31 : decode yB 31 = .ok (.bastore, 1) := by decide +kernel
theorem d32 : decode yB 32 = .ok (.iinc 1 1, 3) := by decide +kernel
theorem d35 : decode yB 35 = .ok (.iinc 3 1, 3) := by decide +kernel
theorem d38 : decode yB 38 = .ok (.iinc 5 1, 3) := by decide +kernel
theorem d41 : decode yB 41 = .ok (.goto (-38), 3) := by decide +kernel
theorem d44 : decode yB 44 = .ok (.iload 4, 2) := by decide +kernel
theorem d46 : decode yB 46 = .ok (.ireturn, 1) := by decide +kernel
def site : List Cond := []
def tab : Cond := tabOf yN yB 7 (some .int) site
def P (b : Addr) (A : Cell) (d : Addr) (B : Cell) (o q len : Nat) (args : Array Value) (s : State) : Prop := args = #[.ref b, .int (Int32.ofNat o), .ref d, .int (Int32.ofNat q), .int (Int32.ofNat len)] ∧ Ch b A s ∧ Arr .byte d B s ∧ b ≠ d ∧ o + len ≤ A.slots.size ∧ q + len ≤ B.slots.size ∧ ∀ i, i < len → ¬ 255 < cv A (o + i)
def E (b : Addr) (A : Cell) (d : Addr) (B : Cell) (o q len : Nat) (r : Option Value) (s u : State) : Prop := r = some (.int (Int32.ofNat len)) ∧ ∃ B', Put d B' s u ∧ Laid B B' q (q + len) (fun j => Value.int (lo8 (cv A (o + (j - q)))))
/-- no char of the range above 255: len; the places written hold each char's low byte -/
theorem law (l : Launch) (b : Addr) (A : Cell) (d : Addr) (B : Cell) (o q len : Nat) : Law l yN 5 5 0 0 yB 7 (some .int) site (P b A d B o q len) (E b A d B o q len) (copyLocs d q len) 0 0 := by
  refine Law.of_walk (plainFor_of_name (by decide +kernel)) (by decide +kernel) (by decide +kernel) (by decide) (fun _ _ h => by rw [h.1]; rfl) (fun _ U U' hal hh h => ⟨h.1, h.2.1.mv hal hh, h.2.2.1.mv hal hh, h.2.2.2⟩) (fun r U U' V V' h1 hal h2 h => ⟨h.1, h.2.elim fun B' q => ⟨B', q.1.mv h1 h2, q.2⟩⟩) ?_
  intro p e s m args below meth c s₁ X0 hexec hbytes hml hret hlk hnm hown hh0 W hP
  obtain ⟨rfl, hA, hB, hne, l1, l2, hp⟩ := hP
  have c1 : Steps p.tables e below (s₁.setTop (entryFrame m #[.ref b, .int (Int32.ofNat o), .ref d, .int (Int32.ofNat q), .int (Int32.ofNat len)] 7)) (s₁.setTop (mkF m 0 #[.val (.ref b), .val (.int (Int32.ofNat o)), .val (.ref d), .val (.int (Int32.ofNat q)), .val (.int (Int32.ofNat len)), .unset, .unset] [])) := entry rfl
  have hA0 := hA.1.mv X0.warmed.alike hh0
  have hB0 := hB.mv X0.warmed.alike hh0
  have a31 := hA.1.2.2.2
  have c2 : Steps p.tables e below (s₁.setTop (entryFrame m #[.ref b, .int (Int32.ofNat o), .ref d, .int (Int32.ofNat q), .int (Int32.ofNat len)] 7)) (s₁.setTop (mkF m 3 #[.val (.ref b), .val (.int (Int32.ofNat o)), .val (.ref d), .val (.int (Int32.ofNat q)), .val (.int (Int32.ofNat len)), .val (.int 0), .unset] [])) := c1.trans (by
    refine iconstV X0.here hexec rfl 0 (hb hbytes d0) (by decide) ?_
    refine XS.istore X0.here hexec rfl (hb hbytes d1) rfl rfl ?_
    exact Steps.refl _)
  have loop : ∀ (r i : Nat), i + r = len → ∀ (z : Slot), (z = .unset ∨ ∃ w, z = .val w ∧ w.category = 1) → ∀ (Tl : State) (Bk : Cell), Stand p l e { frames := 0, locals := 0, cells := 0, slots := 0 } s m #[.ref b, .int (Int32.ofNat o), .ref d, .int (Int32.ofNat q), .int (Int32.ofNat len)] below meth c Tl ([] ++ copyLocs d q i) 0 0 → Put d Bk s₁ Tl → Laid B Bk q (q + i) (fun j => Value.int (lo8 (cv A (o + (j - q))))) →
      Steps p.tables e below (s₁.setTop (entryFrame m #[.ref b, .int (Int32.ofNat o), .ref d, .int (Int32.ofNat q), .int (Int32.ofNat len)] 7)) (Tl.setTop (mkF m 3 #[.val (.ref b), .val (.int (Int32.ofNat (o + i))), .val (.ref d), .val (.int (Int32.ofNat (q + i))), .val (.int (Int32.ofNat len)), .val (.int (Int32.ofNat i)), z] [])) → ∃ (T' : State) (B' : Cell) (z' : Slot), Stand p l e { frames := 0, locals := 0, cells := 0, slots := 0 } s m #[.ref b, .int (Int32.ofNat o), .ref d, .int (Int32.ofNat q), .int (Int32.ofNat len)] below meth c T' ([] ++ copyLocs d q len) 0 0 ∧ Put d B' s₁ T' ∧ Laid B B' q (q + len) (fun j => Value.int (lo8 (cv A (o + (j - q))))) ∧
      Steps p.tables e below (s₁.setTop (entryFrame m #[.ref b, .int (Int32.ofNat o), .ref d, .int (Int32.ofNat q), .int (Int32.ofNat len)] 7)) (T'.setTop (mkF m 3 #[.val (.ref b), .val (.int (Int32.ofNat (o + len))), .val (.ref d), .val (.int (Int32.ofNat (q + len))), .val (.int (Int32.ofNat len)), .val (.int (Int32.ofNat len)), z'] [])) := by
    intro r
    induction r with
    | zero =>
      intro i hi z hz Tl Bk Xl pl fl cl
      have hil : i = len := by omega
      rw [hil] at Xl fl cl
      exact ⟨Tl, Bk, z, Xl, pl, fl, cl⟩
    | succ r ih =>
      intro i hi z hz Tl Bk Xl pl fl cl
      have all := X0.warmed.alike.symm.trans Xl.warmed.alike
      have hAl := hA0.keep all (pl.other hne hA0.1)
      have hBk := hB0.like all pl.1 fl.1 fl.2.1 fl.2.2.1
      have hlt : q + i < Bk.slots.size := by rw [fl.2.2.1]; omega
      have c3 : Steps p.tables e below (s₁.setTop (entryFrame m #[.ref b, .int (Int32.ofNat o), .ref d, .int (Int32.ofNat q), .int (Int32.ofNat len)] 7)) (Tl.setTop (mkF m 12 #[.val (.ref b), .val (.int (Int32.ofNat (o + i))), .val (.ref d), .val (.int (Int32.ofNat (q + i))), .val (.int (Int32.ofNat len)), .val (.int (Int32.ofNat i)), z] [.int (Int32.ofNat (o + i)), .ref b])) := cl.trans (by
        refine XS.iload Xl.here hexec rfl (hb hbytes d3) rfl ?_
        refine XS.iload Xl.here hexec rfl (hb hbytes d5) rfl ?_
        refine XS.icmpNo Xl.here hexec rfl (hb hbytes d7) rfl (ii_ge_f (lt32 (by omega) (by omega))) ?_
        refine XS.aloadN Xl.here hexec rfl (hb hbytes d10) rfl rfl ?_
        refine XS.iloadN Xl.here hexec rfl (hb hbytes d11) rfl ?_
        exact Steps.refl _)
      have c4 : Steps p.tables e below (s₁.setTop (entryFrame m #[.ref b, .int (Int32.ofNat o), .ref d, .int (Int32.ofNat q), .int (Int32.ofNat len)] 7)) (Tl.setTop (mkF m 13 #[.val (.ref b), .val (.int (Int32.ofNat (o + i))), .val (.ref d), .val (.int (Int32.ofNat (q + i))), .val (.int (Int32.ofNat len)), .val (.int (Int32.ofNat i)), z] [.int (cv A (o + i))])) := c3.trans (by
        refine Xl.aget hexec hAl rfl (hA.get (i := o + i) (by omega)) rfl rfl (hb hbytes d12) ?_
        exact Steps.refl _)
      have c5 : Steps p.tables e below (s₁.setTop (entryFrame m #[.ref b, .int (Int32.ofNat o), .ref d, .int (Int32.ofNat q), .int (Int32.ofNat len)] 7)) (Tl.setTop (mkF m 15 #[.val (.ref b), .val (.int (Int32.ofNat (o + i))), .val (.ref d), .val (.int (Int32.ofNat (q + i))), .val (.int (Int32.ofNat len)), .val (.int (Int32.ofNat i)), .val (.int (cv A (o + i)))] [])) := c4.trans (by
        refine XS.istoreS Xl.here hexec rfl (hb hbytes d13) rfl rfl hz ?_
        exact Steps.refl _)
      have c6 : Steps p.tables e below (s₁.setTop (entryFrame m #[.ref b, .int (Int32.ofNat o), .ref d, .int (Int32.ofNat q), .int (Int32.ofNat len)] 7)) (Tl.setTop (mkF m 31 #[.val (.ref b), .val (.int (Int32.ofNat (o + i))), .val (.ref d), .val (.int (Int32.ofNat (q + i))), .val (.int (Int32.ofNat len)), .val (.int (Int32.ofNat i)), .val (.int (cv A (o + i)))] [.int (lo8 (cv A (o + i))), .int (Int32.ofNat (q + i)), .ref d])) := c5.trans (by
        refine XS.iload Xl.here hexec rfl (hb hbytes d15) rfl ?_
        refine sipushV Xl.here hexec rfl 255 (hb hbytes d17) (by decide) ?_
        refine XS.icmpYes Xl.here hexec rfl (pc0 := 20) rfl (hb hbytes d20) rfl (ii_le_t (hp i (by omega))) (by decide) rfl ?_
        refine XS.aloadN Xl.here hexec rfl (hb hbytes d26) rfl rfl ?_
        refine XS.iloadN Xl.here hexec rfl (hb hbytes d27) rfl ?_
        refine XS.iload Xl.here hexec rfl (hb hbytes d28) rfl ?_
        refine i2b Xl.here hexec rfl (hb hbytes d30) rfl ?_
        exact Steps.refl _)
      obtain ⟨T7, X7, p7, st7⟩ := Xl.aput hexec hBk rfl hlt rfl (fits_lo8 (cv A (o + i))) (g := (mkF m 31 #[.val (.ref b), .val (.int (Int32.ofNat (o + i))), .val (.ref d), .val (.int (Int32.ofNat (q + i))), .val (.int (Int32.ofNat len)), .val (.int (Int32.ofNat i)), .val (.int (cv A (o + i)))] [.int (lo8 (cv A (o + i))), .int (Int32.ofNat (q + i)), .ref d])) rfl (rest := []) rfl (hb hbytes d31)
      have c8 : Steps p.tables e below (s₁.setTop (entryFrame m #[.ref b, .int (Int32.ofNat o), .ref d, .int (Int32.ofNat q), .int (Int32.ofNat len)] 7)) (T7.setTop (mkF m 32 #[.val (.ref b), .val (.int (Int32.ofNat (o + i))), .val (.ref d), .val (.int (Int32.ofNat (q + i))), .val (.int (Int32.ofNat len)), .val (.int (Int32.ofNat i)), .val (.int (cv A (o + i)))] [])) := c6.trans (st7 _ (Steps.refl _))
      have c9 : Steps p.tables e below (s₁.setTop (entryFrame m #[.ref b, .int (Int32.ofNat o), .ref d, .int (Int32.ofNat q), .int (Int32.ofNat len)] 7)) (T7.setTop (mkF m 3 #[.val (.ref b), .val (.int (Int32.ofNat (o + i) + 1)), .val (.ref d), .val (.int (Int32.ofNat (q + i) + 1)), .val (.int (Int32.ofNat len)), .val (.int (Int32.ofNat i + 1)), .val (.int (cv A (o + i)))] [])) := c8.trans (by
        refine iincV X7.here hexec rfl 1 (hb hbytes d32) (by decide) rfl rfl ?_
        refine iincV X7.here hexec rfl 1 (hb hbytes d35) (by decide) rfl rfl ?_
        refine iincV X7.here hexec rfl 1 (hb hbytes d38) (by decide) rfl rfl ?_
        refine XS.goto X7.here hexec rfl (pc0 := 41) rfl (hb hbytes d41) (by decide) rfl ?_
        exact Steps.refl _)
      have c10 : Steps p.tables e below (s₁.setTop (entryFrame m #[.ref b, .int (Int32.ofNat o), .ref d, .int (Int32.ofNat q), .int (Int32.ofNat len)] 7)) (T7.setTop (mkF m 3 #[.val (.ref b), .val (.int (Int32.ofNat (o + (i + 1)))), .val (.ref d), .val (.int (Int32.ofNat (q + (i + 1)))), .val (.int (Int32.ofNat len)), .val (.int (Int32.ofNat (i + 1))), .val (.int (cv A (o + i)))] [])) := by
        have := c9
        rw [succ32, succ32, succ32] at this
        exact this
      exact ih (i + 1) (by omega) _ (Or.inr ⟨_, rfl, rfl⟩) T7 _ (by rw [copyLocs_step, ← List.append_assoc]; exact X7) (pl.trans p7) (fl.step (by omega) hlt (by simp)) c10
  obtain ⟨T9, B9, z9, X9, p9, f9, g9⟩ := loop len 0 (by omega) .unset (Or.inl rfl) s₁ B (by simpa [copyLocs] using X0) ⟨hB0.1, fun _ _ => rfl, rfl⟩ (Laid.zero _ _ _) c2
  have c11 : Steps p.tables e below (s₁.setTop (entryFrame m #[.ref b, .int (Int32.ofNat o), .ref d, .int (Int32.ofNat q), .int (Int32.ofNat len)] 7)) (T9.setTop (mkF m 46 #[.val (.ref b), .val (.int (Int32.ofNat (o + len))), .val (.ref d), .val (.int (Int32.ofNat (q + len))), .val (.int (Int32.ofNat len)), .val (.int (Int32.ofNat len)), z9] [.int (Int32.ofNat len)])) := g9.trans (by
    refine XS.iload X9.here hexec rfl (hb hbytes d3) rfl ?_
    refine XS.iload X9.here hexec rfl (hb hbytes d5) rfl ?_
    refine XS.icmpYes X9.here hexec rfl (pc0 := 7) rfl (hb hbytes d7) rfl (ii_ge_t (nlt32 (by omega) (Nat.le_refl _))) (by decide) rfl ?_
    refine XS.iload X9.here hexec rfl (hb hbytes d44) rfl ?_
    exact Steps.refl _)
  exact ⟨T9, some (.int (Int32.ofNat len)), _, _, _, X9, by simp, rfl, rfl, (fun h => by cases h), ⟨rfl, B9, p9.from hh0, f9⟩, fun fs hl => c11.trans (X9.ireturnOut hexec hret rfl (Or.inl rfl) (hb hbytes d46) hl)⟩
end Cmp5
namespace Cmp3
def yN : MethodName := ⟨"java/lang/StringUTF16", "compress", "([CII)[B"⟩
abbrev yB : ByteArray := jdk_52_method_16_code
theorem d0 : decode yB 0 = .ok (.iload_n 2, 1) := by decide +kernel
theorem d1 : decode yB 1 = .ok (.newarray .byte, 2) := by decide +kernel
theorem d3 : decode yB 3 = .ok (.astore_n 3, 1) := by decide +kernel
theorem d4 : decode yB 4 = .ok (.aload_n 0, 1) := by decide +kernel
theorem d5 : decode yB 5 = .ok (.iload_n 1, 1) := by decide +kernel
theorem d6 : decode yB 6 = .ok (.aload_n 3, 1) := by decide +kernel
theorem d7 : decode yB 7 = .ok (.iconst 0, 1) := by decide +kernel
theorem d8 : decode yB 8 = .ok (.iload_n 2, 1) := by decide +kernel
theorem d9 : decode yB 9 = .ok (.invokestatic 115, 3) := by decide +kernel
theorem d12 : decode yB 12 = .ok (.istore 4, 2) := by decide +kernel
theorem d14 : decode yB 14 = .ok (.iload 4, 2) := by decide +kernel
theorem d16 : decode yB 16 = .ok (.iload_n 2, 1) := by decide +kernel
theorem d17 : decode yB 17 = .ok (.if_icmp (.eq) 40, 3) := by decide +kernel
theorem d57 : decode yB 57 = .ok (.aload_n 3, 1) := by decide +kernel
theorem d58 : decode yB 58 = .ok (.areturn, 1) := by decide +kernel
def site : List Cond := [.arrayClass .byte, Cmp5.tab] ++ staticW U16 115 Cmp5.yN
def tab : Cond := tabOf yN yB 6 (some (.array .byte)) site
def P (b : Addr) (A : Cell) (o len : Nat) (args : Array Value) (s : State) : Prop := args = #[.ref b, .int (Int32.ofNat o), .int (Int32.ofNat len)] ∧ Ch b A s ∧ o + len ≤ A.slots.size ∧ len ≤ 536870912 ∧ ∀ i, i < len → ¬ 255 < cv A (o + i)
def E (b : Addr) (A : Cell) (o len : Nat) (r : Option Value) (s u : State) : Prop := NewArr .byte "[B" len (fun j => .int (lo8 (cv A (o + j)))) r s u ∧ u.heap.size = s.heap.size + 1
/-- no char of the range above 255: a new byte[] of their low bytes -/
theorem law (l : Launch) (b : Addr) (A : Cell) (o len : Nat) : Law l yN 3 3 1 18 yB 6 (some (.array .byte)) site (P b A o len) (E b A o len) [] 1 len := by
  refine Law.of_walk (plainFor_of_name (by decide +kernel)) (by decide +kernel) (by decide +kernel) (by decide) (fun _ _ h => by rw [h.1]; rfl) (fun _ U U' hal hh h => ⟨h.1, h.2.1.mv hal hh, h.2.2⟩) (fun r U U' V V' h1 hal h2 h => ⟨NewArr.mv r U U' V V' h1 hal h2 h.1, by rw [h1, h2]; exact h.2⟩) ?_
  intro p e s m args below meth c s₁ X0 hexec hbytes hml hret hlk hnm hown hh0 W hP
  obtain ⟨rfl, hA, l1, l2, hp⟩ := hP
  have a31 := hA.1.2.2.2
  have c1 : Steps p.tables e below (s₁.setTop (entryFrame m #[.ref b, .int (Int32.ofNat o), .int (Int32.ofNat len)] 6)) (s₁.setTop (mkF m 0 #[.val (.ref b), .val (.int (Int32.ofNat o)), .val (.int (Int32.ofNat len)), .unset, .unset, .unset] [])) := entry rfl
  have c2 : Steps p.tables e below (s₁.setTop (entryFrame m #[.ref b, .int (Int32.ofNat o), .int (Int32.ofNat len)] 6)) (s₁.setTop (mkF m 1 #[.val (.ref b), .val (.int (Int32.ofNat o)), .val (.int (Int32.ofNat len)), .unset, .unset, .unset] [.int (Int32.ofNat len)])) := c1.trans (by
    refine XS.iloadN X0.here hexec rfl (hb hbytes d0) rfl ?_
    exact Steps.refl _)
  obtain ⟨T3, B3, X3, ba3, bs3, bv3, bh3, bf3, st3⟩ := X0.anew hexec (atype := .byte) (wk W (.arrayClass .byte)) rfl (by show len * 1 ≤ _; omega) (by omega) (g := (mkF m 1 #[.val (.ref b), .val (.int (Int32.ofNat o)), .val (.int (Int32.ofNat len)), .unset, .unset, .unset] [.int (Int32.ofNat len)])) rfl (hb hbytes d1) (rest := []) rfl (Nat.le_refl _) (by show 0 + len ≤ len; omega)
  rw [hh0] at ba3 st3
  have kp3 : XT.Kept s T3 := (XT.Kept.of_eq hh0).push bh3
  have hA3 := hA.keep X3.warmed.alike (kp3 _ _ hA.1.1)
  have hne : b ≠ s.heap.size := hA.1.ne
  have c4 : Steps p.tables e below (s₁.setTop (entryFrame m #[.ref b, .int (Int32.ofNat o), .int (Int32.ofNat len)] 6)) (T3.setTop (mkF m 3 #[.val (.ref b), .val (.int (Int32.ofNat o)), .val (.int (Int32.ofNat len)), .unset, .unset, .unset] [.ref s.heap.size])) := c2.trans (st3 _ (Steps.refl _))
  have c5 : Steps p.tables e below (s₁.setTop (entryFrame m #[.ref b, .int (Int32.ofNat o), .int (Int32.ofNat len)] 6)) (T3.setTop (mkF m 9 #[.val (.ref b), .val (.int (Int32.ofNat o)), .val (.int (Int32.ofNat len)), .val (.ref s.heap.size), .unset, .unset] [.int (Int32.ofNat len), .int 0, .ref s.heap.size, .int (Int32.ofNat o), .ref b])) := c4.trans (by
    refine XS.astoreN X3.here hexec rfl (hb hbytes d3) rfl rfl rfl ?_
    refine XS.aloadN X3.here hexec rfl (hb hbytes d4) rfl rfl ?_
    refine XS.iloadN X3.here hexec rfl (hb hbytes d5) rfl ?_
    refine XS.aloadN X3.here hexec rfl (hb hbytes d6) rfl rfl ?_
    refine iconstV X3.here hexec rfl 0 (hb hbytes d7) (by decide) ?_
    refine XS.iloadN X3.here hexec rfl (hb hbytes d8) rfl ?_
    exact Steps.refl _)
  obtain ⟨v6, T6, X6, E6, g6⟩ := X3.callS hexec (Cmp5.law l b A s.heap.size B3 o 0 len) hown (wks W (staticW U16 115 Cmp5.yN)) (wk W Cmp5.tab) (W := 0) (Nat.le_of_ble_eq_true rfl) (Nat.le_of_ble_eq_true rfl) (Nat.le_refl _) (by show 0 + len + 0 ≤ len; omega) (g := (mkF m 9 #[.val (.ref b), .val (.int (Int32.ofNat o)), .val (.int (Int32.ofNat len)), .val (.ref s.heap.size), .unset, .unset] [.int (Int32.ofNat len), .int (Int32.ofNat 0), .ref s.heap.size, .int (Int32.ofNat o), .ref b])) rfl (by rw [hml]; rfl) c5 (argsL := [.ref b, .int (Int32.ofNat o), .ref s.heap.size, .int (Int32.ofNat 0), .int (Int32.ofNat len)]) (rest := []) rfl rfl (by show 2 * 0 + 0 ≤ _; decide) (hb hbytes d9) (⟨rfl, hA3, ba3, hne, l1, by rw [bs3]; simp, hp⟩)
  obtain ⟨rfl, B6, p6, f6⟩ := E6
  have c7 : Steps p.tables e below (s₁.setTop (entryFrame m #[.ref b, .int (Int32.ofNat o), .int (Int32.ofNat len)] 6)) (T6.setTop (mkF m 12 #[.val (.ref b), .val (.int (Int32.ofNat o)), .val (.int (Int32.ofNat len)), .val (.ref s.heap.size), .unset, .unset] [.int (Int32.ofNat len)])) := g6
  have c8 : Steps p.tables e below (s₁.setTop (entryFrame m #[.ref b, .int (Int32.ofNat o), .int (Int32.ofNat len)] 6)) (T6.setTop (mkF m 58 #[.val (.ref b), .val (.int (Int32.ofNat o)), .val (.int (Int32.ofNat len)), .val (.ref s.heap.size), .val (.int (Int32.ofNat len)), .unset] [.ref s.heap.size])) := c7.trans (by
    refine XS.istore X6.here hexec rfl (hb hbytes d12) rfl rfl ?_
    refine XS.iload X6.here hexec rfl (hb hbytes d14) rfl ?_
    refine XS.iloadN X6.here hexec rfl (hb hbytes d16) rfl ?_
    refine XS.icmpYes X6.here hexec rfl (pc0 := 17) rfl (hb hbytes d17) rfl (ii_eq_t rfl) (by decide) rfl ?_
    refine XS.aloadN X6.here hexec rfl (hb hbytes d57) rfl rfl ?_
    exact Steps.refl _)
  have X8 := X6.wide (L' := []) (cells' := 1) (slots' := len) (fun x hx hlt => by
    simp only [List.nil_append, copyLocs, List.mem_map, List.mem_range] at hx
    obtain ⟨i, -, rfl⟩ := hx
    exact absurd hlt (Nat.lt_irrefl _)) (Nat.le_refl _) (by omega)
  exact ⟨T6, some (.ref s.heap.size), _, _, _, X8, rfl, rfl, rfl, (fun h => by cases h), ⟨⟨rfl, B6, ba3.like (X3.warmed.alike.symm.trans X6.warmed.alike) p6.1 f6.1 f6.2.1 f6.2.2.1, f6.2.1.trans bv3, by rw [X6.warmed.alike.findClass, f6.1]; exact bf3, by rw [f6.2.2.1, bs3]; simp, fun j hj => by rw [f6.2.2.2 j, if_pos (by omega)]; rfl, kp3.put p6 (Nat.le_refl _)⟩, by rw [p6.2.2, bh3, hh0]; simp⟩, fun fs hl => c8.trans (X8.areturnOut hexec rfl hret rfl (hb hbytes d58) hl)⟩
end Cmp3
namespace CodL
def yN : MethodName := ⟨"java/lang/StringUTF16", "coderFromArrayLen", "([BI)B"⟩
abbrev yB : ByteArray := jdk_52_method_15_code
theorem d0 : decode yB 0 = .ok (.iload_n 1, 1) := by decide +kernel
theorem d1 : decode yB 1 = .ok (.aload_n 0, 1) := by decide +kernel
theorem d2 : decode yB 2 = .ok (.arraylength, 1) := by decide +kernel
theorem d3 : decode yB 3 = .ok (.isub, 1) := by decide +kernel
theorem d4 : decode yB 4 = .ok (.bipush 31, 2) := by decide +kernel
theorem d6 : decode yB 6 = .ok (.iushr, 1) := by decide +kernel
theorem d7 : decode yB 7 = .ok (.i2b, 1) := by decide +kernel
theorem d8 : decode yB 8 = .ok (.ireturn, 1) := by decide +kernel
def site : List Cond := []
def tab : Cond := tabOf yN yB 2 (some .byte) site
def P (d : Addr) (B : Cell) (args : Array Value) (s : State) : Prop := args = #[.ref d, .int (Int32.ofNat B.slots.size)] ∧ Arr .byte d B s
def E (r : Option Value) (s u : State) : Prop := XT.PureE (some (.int 0)) r s u
/-- an array as long as the number of chars: LATIN1 -/
theorem law (l : Launch) (d : Addr) (B : Cell) : Law l yN 2 2 0 0 yB 2 (some .byte) site (P d B) E [] 0 0 := by
  refine Law.of_walk (plainFor_of_name (by decide +kernel)) (by decide +kernel) (by decide +kernel) (by decide) (fun _ _ h => by rw [h.1]; rfl) (fun _ U U' hal hh h => ⟨h.1, h.2.mv hal hh⟩) (fun r U U' V V' h1 hal h2 h => XT.PureE.mv r U U' V V' h1 hal h2 h) ?_
  intro p e s m args below meth c s₁ X0 hexec hbytes hml hret hlk hnm hown hh0 W hP
  obtain ⟨rfl, hB⟩ := hP
  have hB0 := hB.mv X0.warmed.alike hh0
  have c1 : Steps p.tables e below (s₁.setTop (entryFrame m #[.ref d, .int (Int32.ofNat B.slots.size)] 2)) (s₁.setTop (mkF m 0 #[.val (.ref d), .val (.int (Int32.ofNat B.slots.size))] [])) := entry rfl
  have c2 : Steps p.tables e below (s₁.setTop (entryFrame m #[.ref d, .int (Int32.ofNat B.slots.size)] 2)) (s₁.setTop (mkF m 2 #[.val (.ref d), .val (.int (Int32.ofNat B.slots.size))] [.ref d, .int (Int32.ofNat B.slots.size)])) := c1.trans (by
    refine XS.iloadN X0.here hexec rfl (hb hbytes d0) rfl ?_
    refine XS.aloadN X0.here hexec rfl (hb hbytes d1) rfl rfl ?_
    exact Steps.refl _)
  have c3 : Steps p.tables e below (s₁.setTop (entryFrame m #[.ref d, .int (Int32.ofNat B.slots.size)] 2)) (s₁.setTop (mkF m 8 #[.val (.ref d), .val (.int (Int32.ofNat B.slots.size))] [.int (lo8 (ushr (Int32.ofNat B.slots.size - Int32.ofNat B.slots.size) 31))])) := c2.trans (by
    refine X0.alen hexec hB0 rfl rfl (hb hbytes d2) ?_
    refine XS.isub X0.here hexec rfl (hb hbytes d3) rfl ?_
    refine bipushV X0.here hexec rfl 31 (hb hbytes d4) (by decide) ?_
    refine iushr X0.here hexec rfl (hb hbytes d6) rfl ?_
    refine i2b X0.here hexec rfl (hb hbytes d7) rfl ?_
    exact Steps.refl _)
  have e0 : lo8 (ushr (Int32.ofNat B.slots.size - Int32.ofNat B.slots.size) 31) = 0 := by rw [Int32.sub_self]; decide
  rw [e0] at c3
  exact ⟨s₁, some (.int 0), _, _, _, X0, rfl, rfl, rfl, (fun h => by cases h), ⟨rfl, hh0⟩, fun fs hl => c3.trans (X0.ireturnOut hexec hret rfl (Or.inr (Or.inr (Or.inl rfl))) (hb hbytes d8) hl)⟩
end CodL
/-- the String at a is Latin-1 over a new byte[] (the heap's one new cell): the low bytes of the len chars of A from o on; every cell but a is kept -/
def Got (a : Addr) (D : Cell) (fV fC : Field) (A : Cell) (o len : Nat) (r : Option Value) (s u : State) : Prop := r = none ∧ ∃ D' V : Cell, Blank "java/lang/String" a D' u ∧ Same D D' [fV.slot, fC.slot] ∧ D'.slots[fV.slot]? = some (.ref s.heap.size) ∧ D'.slots[fC.slot]? = some (.int 0) ∧ Arr .byte s.heap.size V u ∧ V.vm = .none ∧ u.vm.findClass "[B" = some V.cls ∧ V.slots.size = len ∧ (∀ j, j < len → V.slots[j]? = some (.int (lo8 (cv A (o + j))))) ∧ (∀ (y : Addr) (c : Cell), y ≠ a → s.heap[y]? = some c → u.heap[y]? = some c) ∧ u.heap.size = s.heap.size + 1
theorem Got.mv {a : Addr} {D A : Cell} {fV fC : Field} {o len : Nat} : ∀ r (U U' V V' : State), U'.heap = U.heap → V.vm.Alike V'.vm → V'.heap = V.heap → Got a D fV fC A o len r U V → Got a D fV fC A o len r U' V' :=
  fun r U U' V V' h1 hal h2 ⟨e0, D', X, a1, a2, a3, a4, a5, a6, a7, a8, a9, a10, a11⟩ => ⟨e0, D', X, a1.mv hal h2, a2, by rw [h1]; exact a3, a4, by rw [h1]; exact a5.mv hal h2, a6, by rw [hal.findClass]; exact a7, a8, a9, by rw [h1, h2]; exact a10, by rw [h1, h2]; exact a11⟩
namespace New4
def yN : MethodName := ⟨"java/lang/String", "<init>", "([CIILjava/lang/Void;)V"⟩
abbrev yB : ByteArray := jdk_42_method_149_code
theorem d0 : decode yB 0 = .ok (.aload_n 0, 1) := by decide +kernel
theorem d1 : decode yB 1 = .ok (.invokespecial 1, 3) := by decide +kernel
theorem d4 : decode yB 4 = .ok (.iload_n 3, 1) := by decide +kernel
theorem d5 : decode yB 5 = .ok (.ifCond (.ne) 22, 3) := by decide +kernel
theorem d27 : decode yB 27 = .ok (.getstatic 38, 3) := by decide +kernel
theorem d30 : decode yB 30 = .ok (.ifCond (.eq) 28, 3) := by decide +kernel
theorem d33 : decode yB 33 = .ok (.aload_n 1, 1) := by decide +kernel
theorem d34 : decode yB 34 = .ok (.iload_n 2, 1) := by decide +kernel
theorem d35 : decode yB 35 = .ok (.iload_n 3, 1) := by decide +kernel
theorem d36 : decode yB 36 = .ok (.invokestatic 177, 3) := by decide +kernel
theorem d39 : decode yB 39 = .ok (.astore 5, 2) := by decide +kernel
theorem d41 : decode yB 41 = .ok (.aload_n 0, 1) := by decide +kernel
theorem d42 : decode yB 42 = .ok (.aload 5, 2) := by decide +kernel
theorem d44 : decode yB 44 = .ok (.iload_n 3, 1) := by decide +kernel
theorem d45 : decode yB 45 = .ok (.invokestatic 47, 3) := by decide +kernel
theorem d48 : decode yB 48 = .ok (.putfield 15, 3) := by decide +kernel
theorem d51 : decode yB 51 = .ok (.aload_n 0, 1) := by decide +kernel
theorem d52 : decode yB 52 = .ok (.aload 5, 2) := by decide +kernel
theorem d54 : decode yB 54 = .ok (.putfield 9, 3) := by decide +kernel
theorem d57 : decode yB 57 = .ok (.return_, 1) := by decide +kernel
def site : List Cond := [.fieldLink "java/lang/String" 38 "java/lang/String" "COMPACT_STRINGS" "Z", Cmp3.tab, CodL.tab, .laysFinal "java/lang/String" "java/lang/String" "value" "[B", .fieldLink "java/lang/String" 9 "java/lang/String" "value" "[B", .laysFinal "java/lang/String" "java/lang/String" "coder" "B", .fieldLink "java/lang/String" 15 "java/lang/String" "coder" "B"] ++ objW "java/lang/String" 1 ++ staticW "java/lang/String" 177 Cmp3.yN ++ staticW "java/lang/String" 47 CodL.yN
def tab : Cond := tabOf yN yB 6 none site
def P (a : Addr) (D : Cell) (fV fC : Field) (b : Addr) (A : Cell) (z : Int32) (o len : Nat) (args : Array Value) (s : State) : Prop := args = #[.ref a, .ref b, .int (Int32.ofNat o), .int (Int32.ofNat len), .null] ∧ Blank "java/lang/String" a D s ∧ Found "java/lang/String" "value" "[B" fV s ∧ Found "java/lang/String" "coder" "B" fC s ∧ Ch b A s ∧ StaticIs s "java/lang/String" "COMPACT_STRINGS" "Z" (.int z) ∧ ¬ z = 0 ∧ 0 < len ∧ o + len ≤ A.slots.size ∧ len ≤ 536870912 ∧ ∀ i, i < len → ¬ 255 < cv A (o + i)
def E (a : Addr) (D : Cell) (fV fC : Field) (A : Cell) (o len : Nat) (r : Option Value) (s u : State) : Prop := Got a D fV fC A o len r s u
/-- len > 0, no char of the range above 255: a Latin-1 String of their low bytes -/
theorem law (l : Launch) (a : Addr) (D : Cell) (fV fC : Field) (b : Addr) (A : Cell) (z : Int32) (o len : Nat) : Law l yN 5 4 2 35 yB 6 none site (P a D fV fC b A z o len) (E a D fV fC A o len) [⟨a, fC.slot⟩, ⟨a, fV.slot⟩] 1 len := by
  refine Law.of_walk (plainFor_of_name (by decide +kernel)) (by decide +kernel) (by decide +kernel) (by decide) (fun _ _ h => by rw [h.1]; rfl) (fun _ U U' hal hh h => ⟨h.1, h.2.1.mv hal hh, h.2.2.1.al hal, h.2.2.2.1.al hal, h.2.2.2.2.1.mv hal hh, h.2.2.2.2.2.1.there hal hh, h.2.2.2.2.2.2⟩) (fun r U U' V V' h1 hal h2 h => Got.mv r U U' V V' h1 hal h2 h) ?_
  intro p e s m args below meth c s₁ X0 hexec hbytes hml hret hlk hnm hown hh0 W hP
  obtain ⟨rfl, hB, f1, f2, hA, s1, hz, l0, l1, l2, hp⟩ := hP
  have a31 := hA.1.2.2.2
  have c1 : Steps p.tables e below (s₁.setTop (entryFrame m #[.ref a, .ref b, .int (Int32.ofNat o), .int (Int32.ofNat len), .null] 6)) (s₁.setTop (mkF m 0 #[.val (.ref a), .val (.ref b), .val (.int (Int32.ofNat o)), .val (.int (Int32.ofNat len)), .val .null, .unset] [])) := entry rfl
  have c2 : Steps p.tables e below (s₁.setTop (entryFrame m #[.ref a, .ref b, .int (Int32.ofNat o), .int (Int32.ofNat len), .null] 6)) (s₁.setTop (mkF m 1 #[.val (.ref a), .val (.ref b), .val (.int (Int32.ofNat o)), .val (.int (Int32.ofNat len)), .val .null, .unset] [.ref a])) := c1.trans (by
    refine XS.aloadN X0.here hexec rfl (hb hbytes d0) rfl rfl ?_
    exact Steps.refl _)
  obtain ⟨T3, X3, q3, st3⟩ := X0.oinit hexec hown (wks W (objW "java/lang/String" 1)) (g := (mkF m 1 #[.val (.ref a), .val (.ref b), .val (.int (Int32.ofNat o)), .val (.int (Int32.ofNat len)), .val .null, .unset] [.ref a])) rfl (by rw [hml]; rfl) (rest := []) rfl (hb hbytes d1) (W := 0) (by show 2 * 0 + 0 ≤ _; decide) (Nat.le_of_ble_eq_true rfl) (Nat.le_of_ble_eq_true rfl)
  have hh3 := q3.trans hh0
  have c4 : Steps p.tables e below (s₁.setTop (entryFrame m #[.ref a, .ref b, .int (Int32.ofNat o), .int (Int32.ofNat len), .null] 6)) (T3.setTop (mkF m 27 #[.val (.ref a), .val (.ref b), .val (.int (Int32.ofNat o)), .val (.int (Int32.ofNat len)), .val .null, .unset] [])) := (c2.trans (st3 _ (Steps.refl _))).trans (by
    refine XS.iloadN X3.here hexec rfl (hb hbytes d4) rfl ?_
    refine XS.ifYes X3.here hexec rfl (pc0 := 5) rfl (hb hbytes d5) rfl (i0_ne_t (nz32 (by omega) l0)) (by decide) rfl ?_
    exact Steps.refl _)
  obtain ⟨T5, X5, q5, st5⟩ := X3.sget hexec hown (wk W (.fieldLink "java/lang/String" 38 "java/lang/String" "COMPACT_STRINGS" "Z")) s1 (fun _ _ h => by rw [hh3]; exact h) (g := (mkF m 27 #[.val (.ref a), .val (.ref b), .val (.int (Int32.ofNat o)), .val (.int (Int32.ofNat len)), .val .null, .unset] [])) rfl (hb hbytes d27)
  have hh5 := q5.trans hh3
  have c6 : Steps p.tables e below (s₁.setTop (entryFrame m #[.ref a, .ref b, .int (Int32.ofNat o), .int (Int32.ofNat len), .null] 6)) (T5.setTop (mkF m 30 #[.val (.ref a), .val (.ref b), .val (.int (Int32.ofNat o)), .val (.int (Int32.ofNat len)), .val .null, .unset] [.int z])) := c4.trans (st5 _ (Steps.refl _))
  have c7 : Steps p.tables e below (s₁.setTop (entryFrame m #[.ref a, .ref b, .int (Int32.ofNat o), .int (Int32.ofNat len), .null] 6)) (T5.setTop (mkF m 36 #[.val (.ref a), .val (.ref b), .val (.int (Int32.ofNat o)), .val (.int (Int32.ofNat len)), .val .null, .unset] [.int (Int32.ofNat len), .int (Int32.ofNat o), .ref b])) := c6.trans (by
    refine XS.ifNo X5.here hexec rfl (hb hbytes d30) rfl (i0_eq_f hz) ?_
    refine XS.aloadN X5.here hexec rfl (hb hbytes d33) rfl rfl ?_
    refine XS.iloadN X5.here hexec rfl (hb hbytes d34) rfl ?_
    refine XS.iloadN X5.here hexec rfl (hb hbytes d35) rfl ?_
    exact Steps.refl _)
  obtain ⟨v8, T8, X8, E8, g8⟩ := X5.callS hexec (Cmp3.law l b A o len) hown (wks W (staticW "java/lang/String" 177 Cmp3.yN)) (wk W Cmp3.tab) (W := 0) (Nat.le_of_ble_eq_true rfl) (Nat.le_of_ble_eq_true rfl) (Nat.le_refl _) (by show 0 + len ≤ len; omega) (g := (mkF m 36 #[.val (.ref a), .val (.ref b), .val (.int (Int32.ofNat o)), .val (.int (Int32.ofNat len)), .val .null, .unset] [.int (Int32.ofNat len), .int (Int32.ofNat o), .ref b])) rfl (by rw [hml]; rfl) c7 (argsL := [.ref b, .int (Int32.ofNat o), .int (Int32.ofNat len)]) (rest := []) rfl rfl (by show 2 * 0 + 0 ≤ _; decide) (hb hbytes d36) (⟨rfl, hA.mv X5.warmed.alike hh5, l1, l2, hp⟩)
  obtain ⟨e8, z8⟩ := E8
  obtain ⟨rfl, N, n1, n2, n3, n4, n5, n6⟩ := NewArr.mv _ T5 s _ _ hh5.symm (Vm.Alike.refl _) rfl e8
  rw [hh5] at z8
  have hB1 := hB.keep X8.warmed.alike (n6 _ _ hB.1)
  have hne : s.heap.size ≠ a := (Nat.ne_of_lt (Array.getElem?_eq_some_iff.mp hB.1).1).symm
  have c9 : Steps p.tables e below (s₁.setTop (entryFrame m #[.ref a, .ref b, .int (Int32.ofNat o), .int (Int32.ofNat len), .null] 6)) (T8.setTop (mkF m 39 #[.val (.ref a), .val (.ref b), .val (.int (Int32.ofNat o)), .val (.int (Int32.ofNat len)), .val .null, .unset] [.ref s.heap.size])) := g8
  have c10 : Steps p.tables e below (s₁.setTop (entryFrame m #[.ref a, .ref b, .int (Int32.ofNat o), .int (Int32.ofNat len), .null] 6)) (T8.setTop (mkF m 45 #[.val (.ref a), .val (.ref b), .val (.int (Int32.ofNat o)), .val (.int (Int32.ofNat len)), .val .null, .val (.ref s.heap.size)] [.int (Int32.ofNat N.slots.size), .ref s.heap.size, .ref a])) := by
    have hc : Steps p.tables e below (s₁.setTop (entryFrame m #[.ref a, .ref b, .int (Int32.ofNat o), .int (Int32.ofNat len), .null] 6)) (T8.setTop (mkF m 45 #[.val (.ref a), .val (.ref b), .val (.int (Int32.ofNat o)), .val (.int (Int32.ofNat len)), .val .null, .val (.ref s.heap.size)] [.int (Int32.ofNat len), .ref s.heap.size, .ref a])) := c9.trans (by
      refine XS.astore X8.here hexec rfl (hb hbytes d39) rfl rfl rfl ?_
      refine XS.aloadN X8.here hexec rfl (hb hbytes d41) rfl rfl ?_
      refine XS.aload X8.here hexec rfl (hb hbytes d42) rfl rfl ?_
      refine XS.iloadN X8.here hexec rfl (hb hbytes d44) rfl ?_
      exact Steps.refl _)
    rw [n4]; exact hc
  obtain ⟨v11, T11, X11, E11, g11⟩ := X8.callS hexec (CodL.law l s.heap.size N) hown (wks W (staticW "java/lang/String" 47 CodL.yN)) (wk W CodL.tab) (W := 1) (Nat.le_of_ble_eq_true rfl) (Nat.le_of_ble_eq_true rfl) (Nat.le_refl _) (by show 0 + len + 0 ≤ len; omega) (g := (mkF m 45 #[.val (.ref a), .val (.ref b), .val (.int (Int32.ofNat o)), .val (.int (Int32.ofNat len)), .val .null, .val (.ref s.heap.size)] [.int (Int32.ofNat N.slots.size), .ref s.heap.size, .ref a])) rfl (by rw [hml]; rfl) c10 (argsL := [.ref s.heap.size, .int (Int32.ofNat N.slots.size)]) (rest := [.ref a]) rfl rfl (by show 2 * 0 + (1 + 0) ≤ _; decide) (hb hbytes d45) (⟨rfl, n1⟩)
  obtain ⟨rfl, q11⟩ := E11
  have hB11 := hB1.mv (X8.warmed.alike.symm.trans X11.warmed.alike) q11
  have c12 : Steps p.tables e below (s₁.setTop (entryFrame m #[.ref a, .ref b, .int (Int32.ofNat o), .int (Int32.ofNat len), .null] 6)) (T11.setTop (mkF m 48 #[.val (.ref a), .val (.ref b), .val (.int (Int32.ofNat o)), .val (.int (Int32.ofNat len)), .val .null, .val (.ref s.heap.size)] [.int 0, .ref a])) := g11
  obtain ⟨T13, X13, p13, bl13, sl13, st13⟩ := X11.finit hexec hown (wk W (.fieldLink "java/lang/String" 15 "java/lang/String" "coder" "B")) (Or.inr ⟨_, (wk W (.laysFinal "java/lang/String" "java/lang/String" "coder" "B"))⟩) (Or.inl ⟨rfl, hnm⟩) f2 (Or.inl rfl) hB11 (t := .byte) (by decide +kernel) rfl (g := (mkF m 48 #[.val (.ref a), .val (.ref b), .val (.int (Int32.ofNat o)), .val (.int (Int32.ofNat len)), .val .null, .val (.ref s.heap.size)] [.int 0, .ref a])) rfl (rest := []) rfl (hb hbytes d48)
  have c14 : Steps p.tables e below (s₁.setTop (entryFrame m #[.ref a, .ref b, .int (Int32.ofNat o), .int (Int32.ofNat len), .null] 6)) (T13.setTop (mkF m 54 #[.val (.ref a), .val (.ref b), .val (.int (Int32.ofNat o)), .val (.int (Int32.ofNat len)), .val .null, .val (.ref s.heap.size)] [.ref s.heap.size, .ref a])) := (c12.trans (st13 _ (Steps.refl _))).trans (by
    refine XS.aloadN X13.here hexec rfl (hb hbytes d51) rfl rfl ?_
    refine XS.aload X13.here hexec rfl (hb hbytes d52) rfl rfl ?_
    exact Steps.refl _)
  obtain ⟨T15, X15, p15, bl15, sl15, st15⟩ := X13.finit hexec hown (wk W (.fieldLink "java/lang/String" 9 "java/lang/String" "value" "[B")) (Or.inr ⟨_, (wk W (.laysFinal "java/lang/String" "java/lang/String" "value" "[B"))⟩) (Or.inl ⟨rfl, hnm⟩) f1 (Or.inl rfl) bl13 (t := (.array .byte)) (by decide +kernel) rfl (g := (mkF m 54 #[.val (.ref a), .val (.ref b), .val (.int (Int32.ofNat o)), .val (.int (Int32.ofNat len)), .val .null, .val (.ref s.heap.size)] [.ref s.heap.size, .ref a])) rfl (rest := []) rfl (hb hbytes d54)
  have c16 : Steps p.tables e below (s₁.setTop (entryFrame m #[.ref a, .ref b, .int (Int32.ofNat o), .int (Int32.ofNat len), .null] 6)) (T15.setTop (mkF m 57 #[.val (.ref a), .val (.ref b), .val (.int (Int32.ofNat o)), .val (.int (Int32.ofNat len)), .val .null, .val (.ref s.heap.size)] [])) := c14.trans (st15 _ (Steps.refl _))
  have ap := apart (Or.inr ⟨_, (wk W (.laysFinal "java/lang/String" "java/lang/String" "value" "[B"))⟩) (Or.inr ⟨_, (wk W (.laysFinal "java/lang/String" "java/lang/String" "coder" "B"))⟩) f1 f2 (t₁ := .array .byte) (t₂ := .byte) (by decide +kernel) (by decide +kernel) (by decide)
  have al := X8.warmed.alike.symm.trans X15.warmed.alike
  have n7 : T11.heap[s.heap.size]? = some N := by rw [q11]; exact n1.1
  exact ⟨T15, none, _, _, _, X15, by simp, rfl, by omega, (fun _ => rfl), ⟨rfl, _, N, bl15, ((Same.refl D _).set _ (by simp)).set _ (by simp), sl15, (Cell.slots_setSlot_ne _ ap).trans sl13, n1.keep al (p15.other hne (p13.other hne n7)), n2, by rw [al.findClass]; exact n3, n4, n5, fun y c h1 h2 => p15.other h1 (p13.other h1 (by rw [q11]; exact n6 y c h2)), by rw [p15.2.2, p13.2.2, q11]; exact z8⟩, fun fs hl => c16.trans (X15.returnOut hexec hret (hb hbytes d57) hl)⟩
end New4
namespace New1
def yN : MethodName := ⟨"java/lang/String", "<init>", "([C)V"⟩
abbrev yB : ByteArray := jdk_42_method_3_code
theorem d0 : decode yB 0 = .ok (.aload_n 0, 1) := by decide +kernel
theorem d1 : decode yB 1 = .ok (.aload_n 1, 1) := by decide +kernel
theorem d2 : decode yB 2 = .ok (.iconst 0, 1) := by decide +kernel
theorem d3 : decode yB 3 = .ok (.aload_n 1, 1) := by decide +kernel
theorem d4 : decode yB 4 = .ok (.arraylength, 1) := by decide +kernel
theorem d5 : decode yB 5 = .ok (.aconst_null, 1) := by decide +kernel
theorem d6 : decode yB 6 = .ok (.invokespecial 27, 3) := by decide +kernel
theorem d9 : decode yB 9 = .ok (.return_, 1) := by decide +kernel
def site : List Cond := [New4.tab] ++ initW "java/lang/String" 27 New4.yN
def tab : Cond := tabOf yN yB 2 none site
def P (a : Addr) (D : Cell) (fV fC : Field) (b : Addr) (A : Cell) (z : Int32) (args : Array Value) (s : State) : Prop := args = #[.ref a, .ref b] ∧ Blank "java/lang/String" a D s ∧ Found "java/lang/String" "value" "[B" fV s ∧ Found "java/lang/String" "coder" "B" fC s ∧ Ch b A s ∧ StaticIs s "java/lang/String" "COMPACT_STRINGS" "Z" (.int z) ∧ ¬ z = 0 ∧ 0 < A.slots.size ∧ A.slots.size ≤ 536870912 ∧ ∀ i, i < A.slots.size → ¬ 255 < cv A i
def E (a : Addr) (D : Cell) (fV fC : Field) (A : Cell) (r : Option Value) (s u : State) : Prop := Got a D fV fC A 0 A.slots.size r s u
/-- new String(chars), not empty, no char above 255: a Latin-1 String of their low bytes -/
theorem law (l : Launch) (a : Addr) (D : Cell) (fV fC : Field) (b : Addr) (A : Cell) (z : Int32) : Law l yN 2 1 3 52 yB 2 none site (P a D fV fC b A z) (E a D fV fC A) [⟨a, fC.slot⟩, ⟨a, fV.slot⟩] 1 A.slots.size := by
  refine Law.of_walk (plainFor_of_name (by decide +kernel)) (by decide +kernel) (by decide +kernel) (by decide) (fun _ _ h => by rw [h.1]; rfl) (fun _ U U' hal hh h => ⟨h.1, h.2.1.mv hal hh, h.2.2.1.al hal, h.2.2.2.1.al hal, h.2.2.2.2.1.mv hal hh, h.2.2.2.2.2.1.there hal hh, h.2.2.2.2.2.2⟩) (fun r U U' V V' h1 hal h2 h => Got.mv r U U' V V' h1 hal h2 h) ?_
  intro p e s m args below meth c s₁ X0 hexec hbytes hml hret hlk hnm hown hh0 W hP
  obtain ⟨rfl, hB, f1, f2, hA, s1, hz, l0, l2, hp⟩ := hP
  have c1 : Steps p.tables e below (s₁.setTop (entryFrame m #[.ref a, .ref b] 2)) (s₁.setTop (mkF m 0 #[.val (.ref a), .val (.ref b)] [])) := entry rfl
  have c2 : Steps p.tables e below (s₁.setTop (entryFrame m #[.ref a, .ref b] 2)) (s₁.setTop (mkF m 6 #[.val (.ref a), .val (.ref b)] [.null, .int (Int32.ofNat A.slots.size), .int 0, .ref b, .ref a])) := c1.trans (by
    refine XS.aloadN X0.here hexec rfl (hb hbytes d0) rfl rfl ?_
    refine XS.aloadN X0.here hexec rfl (hb hbytes d1) rfl rfl ?_
    refine iconstV X0.here hexec rfl 0 (hb hbytes d2) (by decide) ?_
    refine XS.aloadN X0.here hexec rfl (hb hbytes d3) rfl rfl ?_
    refine X0.alen hexec (hA.1.mv X0.warmed.alike hh0) rfl rfl (hb hbytes d4) ?_
    refine XS.aconstNull X0.here hexec rfl (hb hbytes d5) ?_
    exact Steps.refl _)
  obtain ⟨v3, T3, X3, E3, g3⟩ := X0.callN hexec (New4.law l a D fV fC b A z 0 A.slots.size) rfl hown (wks W (initW "java/lang/String" 27 New4.yN)) (W New4.tab (by simp only [site, List.mem_cons, List.mem_append, true_or, or_true])) (W := 0) (Nat.le_of_ble_eq_true rfl) (Nat.le_of_ble_eq_true rfl) (Nat.le_refl _) (by show 0 + A.slots.size ≤ A.slots.size; omega) (g := (mkF m 6 #[.val (.ref a), .val (.ref b)] [.null, .int (Int32.ofNat A.slots.size), .int (Int32.ofNat 0), .ref b, .ref a])) rfl (by rw [hml]; rfl) c2 (argsL := [.ref b, .int (Int32.ofNat 0), .int (Int32.ofNat A.slots.size), .null]) (rest := []) rfl rfl (by show 2 * 0 + 0 ≤ _; decide) (hb hbytes d6) (⟨rfl, hB.mv X0.warmed.alike hh0, f1.al X0.warmed.alike, f2.al X0.warmed.alike, hA.mv X0.warmed.alike hh0, s1.there X0.warmed.alike hh0, hz, l0, by omega, l2, fun i hi => by rw [Nat.zero_add]; exact hp i hi⟩)
  have e0 := Got.mv _ s₁ s _ _ hh0.symm (Vm.Alike.refl _) rfl E3
  obtain rfl := e0.1
  have c4 : Steps p.tables e below (s₁.setTop (entryFrame m #[.ref a, .ref b] 2)) (T3.setTop (mkF m 9 #[.val (.ref a), .val (.ref b)] [])) := g3
  exact ⟨T3, none, _, _, _, X3, by simp, rfl, by omega, (fun _ => rfl), e0, fun fs hl => c4.trans (X3.returnOut hexec hret (hb hbytes d9) hl)⟩
theorem pays {l : Launch} {R : Room} {p : Program} {e : Env} {below : List Frame} {s : State} {sargs : Array Value} {len W : Nat} (a : Addr) (D : Cell) (fV fC : Field) (b : Addr) (A : Cell) (z : Int32) (htab : tab.before sargs s = true) (hfr : 4 ≤ R.frames) (hlo : W + 65 ≤ R.locals) :
    Back l R p e below s sargs yN len W (fun A₁ a₁ => A₁.cells + 1 ≤ R.cells ∧ A₁.slots + A.slots.size ≤ R.slots ∧ P a D fV fC b A z a₁ A₁.U) (fun A₁ _ v₁ B₁ => E a D fV fC A v₁ A₁.U B₁.U ∧ B₁.locs = A₁.locs ++ [⟨a, fC.slot⟩, ⟨a, fV.slot⟩] ∧ B₁.cells = A₁.cells + 1 ∧ B₁.slots = A₁.slots + A.slots.size) :=
  (law l a D fV fC b A z).pays htab hfr (by omega)
end New1
/-- the byte, read back as charAt reads it, is the char -/
theorem lo8_mask {x : Int32} (h0 : ¬ x < 0) (h1 : ¬ 255 < x) : lo8 x &&& 255 = x := by
  have t : ∀ k : Fin 256, lo8 (Int32.ofNat k.val) &&& 255 = Int32.ofNat k.val := by decide +kernel
  rw [Int32.lt_iff_toInt_lt] at h0 h1
  have e0 : (0 : Int32).toInt = 0 := rfl
  have e1 : (255 : Int32).toInt = 255 := rfl
  obtain ⟨k, hk⟩ : ∃ k : Nat, x.toInt = k := ⟨x.toInt.toNat, by omega⟩
  have hx : x = Int32.ofNat k := Int32.toInt_inj.mp (by rw [hk, Int32.toInt_ofNat_small (by omega)])
  rw [hx]
  exact t ⟨k, by omega⟩
end StrChars
namespace StrChars.Road
open Jvm Sem ClassFile Op Lib Jvm.Stand Jvm.Free Jvm.Free.XT
open Jvm.Lib.Cold (StaticIs)
abbrev ST : String := "java/lang/String"
/-- every table word that New1's law asks, flat -/
abbrev words : List Jvm.Cond := [.code New1.yN New1.yB 2 none, .initialized ST, .methodLink ST 27 New4.yN, .instanceMethod New4.yN,
  .code New4.yN New4.yB 6 none, .fieldLink ST 38 ST "COMPACT_STRINGS" "Z", .laysFinal ST ST "value" "[B", .fieldLink ST 9 ST "value" "[B", .laysFinal ST ST "coder" "B", .fieldLink ST 15 ST "coder" "B",
  .methodLink ST 1 Lib.objectInit, .instanceMethod Lib.objectInit, .code Lib.objectInit ⟨#[0xb1]⟩ 1 none, .methodLink ST 177 Cmp3.yN, .static Cmp3.yN, .methodLink ST 47 CodL.yN, .static CodL.yN,
  .code Cmp3.yN Cmp3.yB 6 (some (.array .byte)), .initialized U16, .arrayClass .byte, .methodLink U16 115 Cmp5.yN, .static Cmp5.yN, .code Cmp5.yN Cmp5.yB 7 (some .int), .code CodL.yN CodL.yB 2 (some .byte)]
theorem tab_of {a : Array Value} {s : State} (h : ∀ w ∈ words, w.before a s = true) : New1.tab.before a s = true := by
  have h5 : Cmp5.tab.before a s = true := unparts (wk h (.code Cmp5.yN Cmp5.yB 7 (some .int))) (wks h (.initialized Cmp5.yN.cls :: Cmp5.site))
  have hc : CodL.tab.before a s = true := unparts (wk h (.code CodL.yN CodL.yB 2 (some .byte))) (wks h (.initialized CodL.yN.cls :: CodL.site))
  have q5 : ∀ w ∈ Cmp5.tab :: words, w.before a s = true := fun w hw => (List.mem_cons.mp hw).elim (fun e => e ▸ h5) (h w)
  have h3 : Cmp3.tab.before a s = true := unparts (wk q5 (.code Cmp3.yN Cmp3.yB 6 (some (.array .byte)))) (wks q5 (.initialized Cmp3.yN.cls :: Cmp3.site))
  have q3 : ∀ w ∈ Cmp3.tab :: CodL.tab :: words, w.before a s = true := fun w hw => (List.mem_cons.mp hw).elim (fun e => e ▸ h3) fun hw => (List.mem_cons.mp hw).elim (fun e => e ▸ hc) (h w)
  have h4 : New4.tab.before a s = true := unparts (wk q3 (.code New4.yN New4.yB 6 none)) (wks q3 (.initialized New4.yN.cls :: New4.site))
  have q4 : ∀ w ∈ New4.tab :: words, w.before a s = true := fun w hw => (List.mem_cons.mp hw).elim (fun e => e ▸ h4) (h w)
  exact unparts (wk q4 (.code New1.yN New1.yB 2 none)) (wks q4 (.initialized New1.yN.cls :: New1.site))
/-- the words ride from the start Z to the walk's own state -/
theorem moved {Z s : State} {a0 args : Array Value} (hZ : Z.Warmed39 s.vm) (hw : ∀ d ∈ words, d.before a0 Z = true) : ∀ d ∈ words, d.before args s = true := fun d hd => by
  have q := hw d hd
  have t : ∀ d ∈ words, d = .arrayClass .byte ∨ (d.onTables && d.keepsFace) = true := by decide +kernel
  rcases t d hd with rfl | t
  · exact RoadKit.mvA hZ q
  · exact RoadKit.mv hZ q t
/-- WHAT COMES BACK, over the tables of the start Z: h the heap at the call, h' behind it -/
def Q (Z : State) (x : Addr) (A : Cell) (h : Heap) (v : Option Value) (h' : Heap) (L : List Loc) : Prop := v = none ∧ (∀ y ∈ L, y.base = x) ∧ RoadKit.Keep h h' [x] ∧ h'.size = h.size + 1 ∧ RoadKit.Exa Z h' x ST ∧ RoadKit.Fld Z h' x ST "value" "[B" (.ref h.size) ∧ RoadKit.Fld Z h' x ST "coder" "B" (.int 0) ∧
  (∃ V : Cell, RoadKit.Arr Z h' h.size V .byte ∧ V.vm = .none ∧ Z.vm.findClass "[B" = some V.cls ∧ V.slots.size = A.slots.size ∧ ∀ j, j < A.slots.size → V.slots[j]? = some (.int (lo8 (cv A j)))) ∧
  ∀ (O n d : String) (w : Value), RoadKit.Fld Z h x O n d w → RoadKit.slotOf Z O n d ≠ RoadKit.slotOf Z ST "value" "[B" → RoadKit.slotOf Z O n d ≠ RoadKit.slotOf Z ST "coder" "B" → RoadKit.Fld Z h' x O n d w
/-- **new String(chars) AT A CALL, IN THE ROAD'S FORM**: for specialBack behind newO: x the fresh String, b the char[] with the cell A -/
theorem back {p : Program} {l : Launch} {e : Env} {R : Room} {s : State} {args : Array Value} {below : List Frame} {len W : Nat} {Z : State} {a0 : Array Value} {h : Heap} (hZ : Z.Warmed39 s.vm) (hw : ∀ d ∈ words, d.before a0 Z = true) {kI : Nat} (wi : (Jvm.Cond.instantiable ST kI).before a0 Z = true)
    {x b : Addr} {A : Cell} {z : Int32} {v0 c0 : Value} (E : RoadKit.Exa Z h x ST) (V : RoadKit.Fld Z h x ST "value" "[B" v0) (C : RoadKit.Fld Z h x ST "coder" "B" c0) (K : RoadKit.Arr Z h b A .char) (hty : Typed .char A) (S : RoadKit.Sta Z h ST "COMPACT_STRINGS" "Z" (.int z)) (hz : ¬ z = 0)
    (l0 : 0 < A.slots.size) (l2 : A.slots.size ≤ 536870912) (hp : ∀ i, i < A.slots.size → ¬ 255 < cv A i) (hfr : 4 ≤ R.frames) (hlo : W + 65 ≤ R.locals) :
    Back l R p e below s args New1.yN len W (fun P a => a = #[.ref x, .ref b] ∧ P.U.heap = h ∧ P.cells + 1 ≤ R.cells ∧ P.slots + A.slots.size ≤ R.slots)
      (fun P _ v B => ∃ L, Q Z x A h v B.U.heap L ∧ B.locs = P.locs ++ L ∧ B.cells = P.cells + 1 ∧ B.slots = P.slots + A.slots.size) := by
  intro m meth c P g ig mk a X hg hsize hdg hW hn hp'
  obtain ⟨rfl, rfl, r1, r2⟩ := hp'
  have al : Z.vm.Alike P.U.vm := hZ.alike.trans X.warmed.alike
  obtain ⟨D, cfV, kV, iV, fV, hD, gV, stV, knV, obV, asV, slV⟩ := id V
  obtain ⟨D', cfC, kC, iC, fC, hD', gC, stC, -, -, asC, slC⟩ := id C
  cases hD.symm.trans hD'
  obtain ⟨D2, kD, e1, e2, e3, e4, e5⟩ := id E
  cases hD.symm.trans e1
  obtain ⟨c2, k2, i1, i2, i3, -⟩ := Cond.instantiable_spec wi
  cases e2.symm.trans i1
  cases e3.symm.trans i2
  obtain ⟨kU, u1, u2⟩ := al.2.2 _ _ e3
  have hB : Blank ST x D P.U := ⟨hD, ⟨knV, fun q hq => by rw [hq] at obV; cases obV⟩, by rw [al.findClass]; exact e2, kU, u1, by rw [u2]; exact i3, by rw [u2]; exact e5 i3⟩
  have F1 : Found ST "value" "[B" fV P.U := ⟨SBG.found_only al ⟨cfV, kV, iV, gV⟩, stV⟩
  have F2 : Found ST "coder" "B" fC P.U := ⟨SBG.found_only al ⟨cfC, kC, iC, gC⟩, stC⟩
  have hA : Ch b A P.U := ⟨⟨K.1, State.isArrayOf_alike al K.2.1, K.2.2, by omega⟩, hty⟩
  have hS : StaticIs P.U ST "COMPACT_STRINGS" "Z" (.int z) := by
    obtain ⟨cfS, iS, kS, fS, st, cS, t1, t2, t3, t4, t5, t6, t7⟩ := S
    exact StaticIs.there (s := { Z with heap := P.U.heap }) ⟨cfS, iS, kS, fS, st, cS, t1, t2, t3, t4, t5, (fun q => by rw [q] at t6; cases t6), t7⟩ al rfl
  obtain ⟨v, B, X', ⟨⟨hv, E', V', q1, q2, q3, q4, q5, q6, q7, q8, q9, q10, q11⟩, hl, hc, hs⟩, st⟩ := New1.pays x D fV fC b A z (tab_of (moved hZ hw)) hfr hlo m meth c P g ig mk _ X hg hsize hdg hW hn ⟨r1, r2, rfl, hB, F1, F2, hA, hS, hz, l0, l2, hp⟩
  have al' : Z.vm.Alike B.U.vm := hZ.alike.trans X'.warmed.alike
  have hsz : E'.slots.size = D.slots.size := by
    obtain ⟨-, -, -, kB, w1, w2, w3⟩ := q1
    obtain ⟨kB', y1, y2⟩ := al'.2.2 _ _ e3
    rw [q2.2.1] at w1
    cases w1.symm.trans y1
    rw [w3, e5 i3, y2]
  refine ⟨v, B, X', ⟨_, ⟨hv, ?_, ⟨by omega, fun y cy hy hn' => q10 y cy (by simpa using hn') hy, fun y cy hy => ?_⟩, q11, ⟨E', _, q1.1, by rw [q2.2.1]; exact e2, by rw [q2.2.1]; exact e3, by rw [q2.1]; exact obV, fun _ => by rw [hsz]; exact e5 i3⟩,
    ⟨E', cfV, kV, iV, fV, q1.1, gV, stV, by rw [q2.1]; exact knV, by rw [q2.1]; exact obV, by rw [q2.2.1]; exact asV, q3⟩, ⟨E', cfC, kC, iC, fC, q1.1, gC, stC, by rw [q2.1]; exact knV, by rw [q2.1]; exact obV, by rw [q2.2.1]; exact asC, q4⟩,
    ⟨V', ⟨q5.1, State.isArrayOf_alike al'.symm q5.2.1, q5.2.2.1⟩, q6, by rw [← al'.findClass]; exact q7, q8, fun j hj => by have := q9 j hj; rwa [Nat.zero_add] at this⟩, fun O n d w F n1 n2 => ?_⟩, hl, hc, hs⟩, st⟩
  · intro y hy
    simp only [List.mem_cons, List.not_mem_nil, or_false] at hy
    rcases hy with rfl | rfl <;> rfl
  · by_cases q : y = x
    · subst q
      cases hD.symm.trans hy
      exact ⟨E', q1.1, q2.2.1, q2.1, hsz⟩
    · exact ⟨cy, q10 y cy q hy, rfl, rfl, rfl⟩
  · obtain ⟨D3, cf, k, i, f, g1, g2, g3, g4, g5, g6, g7⟩ := F
    cases hD.symm.trans g1
    simp only [RoadKit.slotOf, g2, gV, gC, Option.map_some, Option.getD_some] at n1 n2
    exact ⟨E', cf, k, i, f, q1.1, g2, g3, by rw [q2.1]; exact g4, by rw [q2.1]; exact g5, by rw [q2.2.1]; exact g6, by rw [q2.2.2 f.slot (by simp [n1, n2])]; exact g7⟩
end StrChars.Road
namespace StrChars.Road
open Jvm Sem ClassFile Op Lib Jvm.Stand Jvm.Free Jvm.Free.XT
/-- WHAT COMES BACK, the byte[] as a list of values -/
def QA (Z : State) (x : Addr) (zn : Int32) (cs : List Int32) (h : Heap) (v : Option Value) (h' : Heap) (L : List Loc) : Prop := v = none ∧ (∀ y ∈ L, y.base = x) ∧ RoadKit.Keep h h' [x] ∧ h'.size = h.size + 1 ∧ RoadKit.Exa Z h' x ST ∧ RoadKit.Fld Z h' x ST "value" "[B" (.ref h.size) ∧ RoadKit.Fld Z h' x ST "coder" "B" (.int 0) ∧
  (∃ kb, Z.vm.findClass "[B" = some kb ∧ RoadKit.Arv Z h' h.size kb .byte zn (cs.map fun c => .int (lo8 c)) (.int 0)) ∧
  ∀ (O n d : String) (w : Value), RoadKit.Fld Z h x O n d w → RoadKit.slotOf Z O n d ≠ RoadKit.slotOf Z ST "value" "[B" → RoadKit.slotOf Z O n d ≠ RoadKit.slotOf Z ST "coder" "B" → RoadKit.Fld Z h' x O n d w
/-- **new String(chars) AT A CALL, THE ARRAYS AS LISTS**: the char[] at b holds cs, not empty, no char above 255 -/
theorem backArv {p : Program} {l : Launch} {e : Env} {R : Room} {s : State} {args : Array Value} {below : List Frame} {len W : Nat} {Z : State} {a0 : Array Value} {h : Heap} (hZ : Z.Warmed39 s.vm) (hw : ∀ d ∈ words, d.before a0 Z = true) {kI : Nat} (wi : (Jvm.Cond.instantiable ST kI).before a0 Z = true)
    {x b : Addr} {k : ClassId} {zn z : Int32} {cs : List Int32} {dv v0 c0 : Value} (E : RoadKit.Exa Z h x ST) (V : RoadKit.Fld Z h x ST "value" "[B" v0) (C : RoadKit.Fld Z h x ST "coder" "B" c0) (K : RoadKit.Arv Z h b k .char zn (cs.map Value.int) dv) (S : RoadKit.Sta Z h ST "COMPACT_STRINGS" "Z" (.int z)) (hz : ¬ z = 0)
    (hlen : zn.toNatClampNeg = cs.length) (h0 : 0 < cs.length) (hbig : cs.length ≤ 536870912) (hall : ∀ c ∈ cs, ¬ 255 < c) (hfr : 4 ≤ R.frames) (hlo : W + 65 ≤ R.locals) :
    Back l R p e below s args New1.yN len W (fun P a => a = #[.ref x, .ref b] ∧ P.U.heap = h ∧ P.cells + 1 ≤ R.cells ∧ P.slots + cs.length ≤ R.slots)
      (fun P _ v B => ∃ L, QA Z x zn cs h v B.U.heap L ∧ B.locs = P.locs ++ L ∧ B.cells = P.cells + 1 ∧ B.slots = P.slots + cs.length) := by
  obtain ⟨A, K1, K2, K3, K4, K5, K6⟩ := K
  have e : A.slots.size = cs.length := K3.trans hlen
  have hat : ∀ (i : Nat) (hi : i < cs.length), A.slots[i]? = some (.int cs[i]) := fun i hi => by rw [K5 i (by omega)]; simp [List.getD_eq_getElem?_getD, hi]
  have hcv : ∀ (i : Nat) (hi : i < cs.length), cv A i = cs[i] := fun i hi => by unfold cv; rw [hat i hi]
  have hty : Typed .char A := fun i v hv => by
    have hi : i < A.slots.size := (Array.getElem?_eq_some_iff.mp hv).1
    have q := K5 i hi
    rw [hv] at q
    rw [Option.some.inj q]
    exact K6 i hi
  refine Back.mono (back hZ hw wi E V C K1 hty S hz (by omega) (by omega) (fun i hi => by rw [hcv i (by omega)]; exact hall _ (List.getElem_mem _)) hfr hlo) (fun P a hp => ⟨hp.1, hp.2.1, hp.2.2.1, by rw [e]; exact hp.2.2.2⟩) (fun P a v B hp hq => ?_)
  obtain ⟨L, ⟨q1, q2, q3, q4, q5, q6, q7, ⟨V', v1, v2, v3, v4, v5⟩, q9⟩, hl, hc, hs⟩ := hq
  refine ⟨L, ⟨q1, q2, q3, q4, q5, q6, q7, ⟨V'.cls, v3, V', v1, rfl, by rw [v4, e, hlen], K4, fun i hi => ?_, fun i hi => ?_⟩, q9⟩, hl, hc, by rw [hs, e]⟩
  · have hi' : i < cs.length := by omega
    rw [v5 i (by omega), hcv i hi']; simp [List.getD_eq_getElem?_getD, hi']
  · have hi' : i < cs.length := by omega
    simp only [List.getD_eq_getElem?_getD, List.getElem?_map, List.getElem?_eq_getElem hi', Option.map_some, Option.getD_some]
    exact fits_lo8 _
end StrChars.Road
namespace StrChars.Road
open Jvm Sem ClassFile Op Lib Jvm.Stand Jvm.Free Jvm.Free.XT
/-- WHAT COMES BACK, in the writer's own shape -/
def QV (Z : State) (x : Addr) (N : Int32) (bs : List Int32) (h : Heap) (n0 : Nat) (v : Option Value) (h' : Heap) (L : List Loc) : Prop := v = none ∧ RoadKit.Fr n0 L ∧ RoadKit.Keep h h' [x] ∧ RoadKit.Exa Z h' x ST ∧ RoadKit.Fld Z h' x ST "coder" "B" (.int 0) ∧
  ∃ (t : Addr) (kb : ClassId), n0 ≤ t ∧ h.size ≤ t ∧ ¬ t = x ∧ RoadKit.Fld Z h' x ST "value" "[B" (.ref t) ∧ RoadKit.Arv Z h' t kb .byte N (bs.map Value.int) (.int 0)
/-- **new String(chars) AT A CALL, FOR THE WRITER**: a char[] of n known ints, each 0 to 255 -/
theorem backV {p : Program} {l : Launch} {e : Env} {R : Room} {s : State} {args : Array Value} {below : List Frame} {len W : Nat} {Z : State} {a0 : Array Value} {h : Heap} (hZ : Z.Warmed39 s.vm) (hw : ∀ d ∈ words, d.before a0 Z = true) {kI : Nat} (wi : (Jvm.Cond.instantiable ST kI).before a0 Z = true)
    {x b : Addr} {kC : ClassId} {cs bs : List Int32} {d v0 c0 : Value} {z N : Int32} {n n0 : Nat} (hx0 : n0 ≤ x) (hh0 : n0 ≤ h.size) (E : RoadKit.Exa Z h x ST) (V : RoadKit.Fld Z h x ST "value" "[B" v0) (C : RoadKit.Fld Z h x ST "coder" "B" c0) (K : RoadKit.Arv Z h b kC .char N (cs.map Value.int) d) (S : RoadKit.Sta Z h ST "COMPACT_STRINGS" "Z" (.int z)) (hz : ¬ z = 0)
    (hn : cs.length = n) (hN : N = Int32.ofNat n) (l0 : 0 < n) (l2 : n ≤ 4000) (hp : ∀ c ∈ cs, ¬ c < 0 ∧ ¬ (255 : Int32) < c) (hb : bs = cs.map (fun c => c.toInt8.toInt32)) (hfr : 4 ≤ R.frames) (hlo : W + 65 ≤ R.locals) :
    Back l R p e below s args (⟨"java/lang/String", "<init>", "([C)V"⟩ : MethodName) len W (fun P a => a = #[.ref x, .ref b] ∧ P.U.heap = h ∧ P.cells + 1 ≤ R.cells ∧ P.slots + n ≤ R.slots)
      (fun P _ v B => ∃ L, QV Z x N bs h n0 v B.U.heap L ∧ B.locs = P.locs ++ L ∧ B.cells = P.cells + 1 ∧ B.slots = P.slots + n) := by
  subst hn hN hb
  refine Back.mono (backArv hZ hw wi E V C K S hz (n32 (by omega)) l0 (by omega) (fun c hc => (hp c hc).2) hfr hlo) (fun P a hp => hp) (fun P a v B hp hq => ?_)
  obtain ⟨L, ⟨q1, q2, q3, q4, q5, q6, q7, ⟨kb, v1, v2⟩, q9⟩, hl, hc, hs⟩ := hq
  exact ⟨L, ⟨q1, fun y hy => by rw [q2 y hy]; exact hx0, q3, q5, q7, h.size, kb, hh0, Nat.le_refl _, Nat.ne_of_gt E.lt, q6, by rw [List.map_map]; exact v2⟩, hl, hc, hs⟩
end StrChars.Road
namespace StrChars
open Jvm Sem ClassFile Op Lib Jvm.Stand Jvm.Free.XT Jvm.Free.ALB Jvm.Free.JM Jvm.Free
open Jvm.Lib.Cold (StaticIs)
def hi8 (x : Int32) : Int32 := lo8 (x >>> ((8 : Int32) &&& 31))
/-- what StringUTF16.getChar makes of two bytes -/
def pairCh (u v : Int32) : Int32 := (((u &&& 255) <<< ((0 : Int32) &&& 31)) ||| ((v &&& 255) <<< ((8 : Int32) &&& 31))).toUInt32.toUInt16.toUInt32.toInt32
theorem shr0 (c : Int32) : c >>> ((0 : Int32) &&& 31) = c := by
  have e : ((0 : Int32) &&& 31) = 0 := by decide
  rw [e]
  apply Int32.toBitVec_inj.mp
  rw [Int32.toBitVec_shiftRight]
  have e1 : ((0 : Int32).toBitVec.smod 32) = 0#32 := by decide
  rw [e1, BitVec.sshiftRight_eq']
  exact BitVec.sshiftRight_zero
theorem lo8_and (x : Int32) : (lo8 x &&& 255).toBitVec.toNat = x.toBitVec.toNat % 256 := by
  have h : (lo8 x).toBitVec = (x.toBitVec.signExtend 8).signExtend 32 := by rw [lo8, Int8.toBitVec_toInt32, Int32.toBitVec_toInt8]
  rw [Int32.toBitVec_and, BitVec.toNat_and, h]
  have e : ((x.toBitVec.signExtend 8).signExtend 32).toNat % 256 = x.toBitVec.toNat % 256 := by
    rw [BitVec.toNat_signExtend]
    have hlt := x.toBitVec.isLt
    simp only [BitVec.toNat_setWidth, BitVec.toNat_signExtend]
    split <;> split <;> omega
  rw [← e]
  exact Nat.and_two_pow_sub_one_eq_mod _ 8
theorem pair_says {c : Int32} (h0 : ¬ c < 0) (h1 : ¬ 65535 < c) : pairCh (lo8 c) (hi8 c) = c := by
  rw [Int32.lt_iff_toInt_lt] at h0 h1
  have e0 : (0 : Int32).toInt = 0 := rfl
  have e1 : (65535 : Int32).toInt = 65535 := rfl
  have hc : c.toInt = c.toBitVec.toNat := by
    have := c.toBitVec.isLt
    have e : c.toInt = c.toBitVec.toInt := rfl
    rw [e] at h0 h1
    rw [e]
    rw [BitVec.toInt_eq_toNat_cond] at h0 h1 ⊢
    split at h0 <;> split <;> omega
  have hn : c.toBitVec.toNat < 65536 := by omega
  have a1 := lo8_and c
  have a2 : (hi8 c &&& 255).toBitVec.toNat = c.toBitVec.toNat / 256 := by
    rw [hi8, lo8_and]
    have e : ((8 : Int32) &&& 31) = 8 := by decide
    rw [e, Int32.toBitVec_shiftRight]
    have e2 : ((8 : Int32).toBitVec.smod 32) = 8#32 := by decide
    rw [e2, BitVec.sshiftRight_eq', BitVec.toNat_sshiftRight_of_msb_false (by rw [BitVec.msb_eq_false_iff_two_mul_lt]; omega)]
    show c.toBitVec.toNat >>> 8 % 256 = _
    rw [Nat.shiftRight_eq_div_pow]
    omega
  unfold pairCh
  apply Int32.toBitVec_inj.mp
  apply BitVec.eq_of_toNat_eq
  have f0 : ((0 : Int32) &&& 31) = 0 := by decide
  have f8 : ((8 : Int32) &&& 31) = 8 := by decide
  rw [f0, f8]
  have g : (((lo8 c &&& 255) <<< (0 : Int32)) ||| ((hi8 c &&& 255) <<< (8 : Int32))).toBitVec.toNat = c.toBitVec.toNat := by
    rw [Int32.toBitVec_or, Int32.toBitVec_shiftLeft, Int32.toBitVec_shiftLeft]
    have s0 : ((0 : Int32).toBitVec.smod 32) = 0#32 := by decide
    have s8 : ((8 : Int32).toBitVec.smod 32) = 8#32 := by decide
    rw [s0, s8, BitVec.toNat_or]
    simp only [BitVec.shiftLeft_eq', BitVec.toNat_shiftLeft, a1, a2]
    show (c.toBitVec.toNat % 256) <<< 0 % 2 ^ 32 ||| (c.toBitVec.toNat / 256) <<< 8 % 2 ^ 32 = _
    rw [Nat.shiftLeft_zero, Nat.mod_eq_of_lt (show c.toBitVec.toNat % 256 < 2 ^ 32 by omega), Nat.mod_eq_of_lt (show (c.toBitVec.toNat / 256) <<< 8 < 2 ^ 32 by rw [Nat.shiftLeft_eq]; omega), Nat.or_comm, ← Nat.shiftLeft_add_eq_or_of_lt (by omega), Nat.shiftLeft_eq]
    omega
  show BitVec.toNat (((((lo8 c &&& 255) <<< (0 : Int32)) ||| ((hi8 c &&& 255) <<< (8 : Int32))).toBitVec.setWidth 16).setWidth 32) = _
  rw [BitVec.toNat_setWidth, BitVec.toNat_setWidth, g]
  omega
end StrChars
namespace StrChars
open Jvm Sem ClassFile Op Lib Jvm.Stand Jvm.Free.XT Jvm.Free.ALB Jvm.Free.JM Jvm.Free
open Jvm.Lib.Cold (StaticIs)
theorem shr1 {n : Nat} (h : 2 * n < 2 ^ 31) : Int32.ofNat (2 * n) >>> ((1 : Int32) &&& 31) = Int32.ofNat n := by
  have e : ((1 : Int32) &&& 31) = 1 := by decide
  rw [e]
  apply Int32.toBitVec_inj.mp
  rw [Int32.toBitVec_shiftRight]
  have e1 : ((1 : Int32).toBitVec.smod 32) = 1#32 := by decide
  have hm : (BitVec.ofNat 32 (2 * n)).toNat = 2 * n := by rw [BitVec.toNat_ofNat, Nat.mod_eq_of_lt (by omega)]
  rw [e1, BitVec.sshiftRight_eq']
  apply BitVec.eq_of_toNat_eq
  show ((BitVec.ofNat 32 (2 * n)).sshiftRight 1).toNat = (BitVec.ofNat 32 n).toNat
  rw [BitVec.toNat_sshiftRight_of_msb_false (by rw [BitVec.msb_eq_false_iff_two_mul_lt, hm]; omega), hm, BitVec.toNat_ofNat, Nat.shiftRight_eq_div_pow]
  omega
/-- charAt's cast of a byte read back -/
def chr8 (u : Int32) : Int32 := (u &&& 255).toUInt32.toUInt16.toUInt32.toInt32
theorem chr8_lo8 {c : Int32} (h0 : ¬ c < 0) (h1 : ¬ 255 < c) : chr8 (lo8 c) = c := by
  have t : ∀ k : Fin 256, (Int32.ofNat k.val).toUInt32.toUInt16.toUInt32.toInt32 = Int32.ofNat k.val := by decide +kernel
  unfold chr8
  rw [lo8_mask h0 h1]
  rw [Int32.lt_iff_toInt_lt] at h0 h1
  have e0 : (0 : Int32).toInt = 0 := rfl
  have e1 : (255 : Int32).toInt = 255 := rfl
  obtain ⟨k, hk⟩ : ∃ k : Nat, c.toInt = k := ⟨c.toInt.toNat, by omega⟩
  have hx : c = Int32.ofNat k := Int32.toInt_inj.mp (by rw [hk, Int32.toInt_ofNat_small (by omega)])
  rw [hx]
  exact t ⟨k, by omega⟩
theorem narrow_ch {c : Int32} (h0 : ¬ c < 0) (h1 : ¬ 65535 < c) : narrow .char (.int c) = .int c := by
  have q : narrow .char (.int (pairCh (lo8 c) (hi8 c))) = .int (pairCh (lo8 c) (hi8 c)) := narrow_c _
  rwa [pair_says h0 h1] at q
/-- the array's cell V codes the n chars f 0 .. f (n - 1) by the coder cd, as the JDK does: coder 1 just where some char is above 255 -/
def Cod (cd : Int32) (n : Nat) (f : Nat → Int32) (V : Cell) : Prop := (cd = 0 ∧ V.slots.size = n ∧ ∀ j, j < n → V.slots[j]? = some (.int (lo8 (f j))) ∧ ¬ 255 < f j) ∨ (cd = 1 ∧ V.slots.size = 2 * n ∧ (∀ j, j < n → V.slots[2 * j]? = some (.int (lo8 (f j))) ∧ V.slots[2 * j + 1]? = some (.int (hi8 (f j)))) ∧ ∃ j, j < n ∧ 255 < f j)
theorem Cod.cd {cd : Int32} {n : Nat} {f : Nat → Int32} {V : Cell} (h : Cod cd n f V) : cd = 0 ∨ cd = 1 := h.imp (fun q => q.1) fun q => q.1
theorem Cod.len {cd : Int32} {n : Nat} {f : Nat → Int32} {V : Cell} (h : Cod cd n f V) (hs : V.slots.size < 2 ^ 31) : Int32.ofNat V.slots.size >>> (cd &&& 31) = Int32.ofNat n := by
  rcases h with ⟨rfl, h, -⟩ | ⟨rfl, h, -⟩
  · rw [shr0, h]
  · rw [h, shr1 (by omega)]
/-- **x is a String of the n chars f 0 .. f (n - 1)**, Latin-1 or UTF-16; its array at t has the cell V -/
def Txt (x t : Addr) (V : Cell) (cd : Int32) (n : Nat) (f : Nat → Int32) (U : State) : Prop := Exact "java/lang/String" x U ∧ Has x "java/lang/String" "value" "[B" (.ref t) U ∧ Has x "java/lang/String" "coder" "B" (.int cd) U ∧ XT.Arr .byte t V U ∧ Cod cd n f V ∧ ∀ j, j < n → ¬ f j < 0 ∧ ¬ 65535 < f j
theorem Txt.mv {x t : Addr} {V : Cell} {cd : Int32} {n : Nat} {f : Nat → Int32} {U U' : State} (h : Txt x t V cd n f U) (hal : U.vm.Alike U'.vm) (hh : U'.heap = U.heap) : Txt x t V cd n f U' := ⟨h.1.mv hal hh, h.2.1.mv hal hh, h.2.2.1.mv hal hh, h.2.2.2.1.mv hal hh, h.2.2.2.2⟩
namespace Cdr
def yN : MethodName := ⟨"java/lang/String", "coder", "()B"⟩
abbrev yB : ByteArray := jdk_42_method_152_code
theorem d0 : decode yB 0 = .ok (.getstatic 38, 3) := by decide +kernel
theorem d3 : decode yB 3 = .ok (.ifCond (.eq) 10, 3) := by decide +kernel
theorem d6 : decode yB 6 = .ok (.aload_n 0, 1) := by decide +kernel
theorem d7 : decode yB 7 = .ok (.getfield 15, 3) := by decide +kernel
theorem d10 : decode yB 10 = .ok (.goto 4, 3) := by decide +kernel
theorem d14 : decode yB 14 = .ok (.ireturn, 1) := by decide +kernel
def site : List Cond := [.fieldLink "java/lang/String" 38 "java/lang/String" "COMPACT_STRINGS" "Z", .fieldLink "java/lang/String" 15 "java/lang/String" "coder" "B"]
def tab : Cond := tabOf yN yB 1 (some .byte) site
def P (x : Addr) (cd z : Int32) (args : Array Value) (s : State) : Prop := args = #[.ref x] ∧ Has x "java/lang/String" "coder" "B" (.int cd) s ∧ (cd = 0 ∨ cd = 1) ∧ StaticIs s "java/lang/String" "COMPACT_STRINGS" "Z" (.int z) ∧ ¬ z = 0
def E (cd : Int32) (r : Option Value) (s u : State) : Prop := XT.PureE (some (.int cd)) r s u
theorem law (l : Launch) (x : Addr) (cd z : Int32) : Law l yN 1 0 0 0 yB 1 (some .byte) site (P x cd z) (E cd) [] 0 0 := by
  refine Law.of_walk (plainFor_of_name (by decide +kernel)) (by decide +kernel) (by decide +kernel) (by decide) (fun _ _ h => by rw [h.1]; rfl) (fun _ U U' hal hh h => ⟨h.1, h.2.1.mv hal hh, h.2.2.1, h.2.2.2.1.there hal hh, h.2.2.2.2⟩) (fun r U U' V V' h1 hal h2 h => XT.PureE.mv r U U' V V' h1 hal h2 h) ?_
  intro p e s m args below meth c s₁ X0 hexec hbytes hml hret hlk hnm hown hh0 W hP
  obtain ⟨rfl, hx, hc, s1, hz⟩ := hP
  have c1 : Steps p.tables e below (s₁.setTop (entryFrame m #[.ref x] 1)) (s₁.setTop (mkF m 0 #[.val (.ref x)] [])) := entry rfl
  obtain ⟨T2, X2, q2, st2⟩ := X0.sget hexec hown (wk W (.fieldLink "java/lang/String" 38 "java/lang/String" "COMPACT_STRINGS" "Z")) s1 (fun _ _ h => by rw [hh0]; exact h) (g := (mkF m 0 #[.val (.ref x)] [])) rfl (hb hbytes d0)
  have hh2 := q2.trans hh0
  have c3 : Steps p.tables e below (s₁.setTop (entryFrame m #[.ref x] 1)) (T2.setTop (mkF m 7 #[.val (.ref x)] [.ref x])) := (c1.trans (st2 _ (Steps.refl _))).trans (by
    refine XS.ifNo X2.here hexec rfl (hb hbytes d3) rfl (i0_eq_f hz) ?_
    refine XS.aloadN X2.here hexec rfl (hb hbytes d6) rfl rfl ?_
    exact Steps.refl _)
  obtain ⟨T4, X4, q4, st4⟩ := X2.hget hexec hown (wk W (.fieldLink "java/lang/String" 15 "java/lang/String" "coder" "B")) (hx.mv X2.warmed.alike hh2) (g := (mkF m 7 #[.val (.ref x)] [.ref x])) rfl (rest := []) rfl (hb hbytes d7)
  have c5 : Steps p.tables e below (s₁.setTop (entryFrame m #[.ref x] 1)) (T4.setTop (mkF m 14 #[.val (.ref x)] [.int cd])) := (c3.trans (st4 _ (Steps.refl _))).trans (by
    refine XS.goto X4.here hexec rfl (pc0 := 10) rfl (hb hbytes d10) (by decide) rfl ?_
    exact Steps.refl _)
  exact ⟨T4, some (.int cd), _, _, _, X4, rfl, rfl, rfl, (fun h => by cases h), ⟨rfl, q4.trans hh2⟩, fun fs hl => c5.trans (X4.ireturnOut hexec hret (by rcases hc with rfl | rfl <;> rfl) (Or.inr (Or.inr (Or.inl rfl))) (hb hbytes d14) hl)⟩
end Cdr
namespace Len
def yN : MethodName := ⟨"java/lang/String", "length", "()I"⟩
abbrev yB : ByteArray := jdk_42_method_54_code
theorem d0 : decode yB 0 = .ok (.aload_n 0, 1) := by decide +kernel
theorem d1 : decode yB 1 = .ok (.getfield 9, 3) := by decide +kernel
theorem d4 : decode yB 4 = .ok (.arraylength, 1) := by decide +kernel
theorem d5 : decode yB 5 = .ok (.aload_n 0, 1) := by decide +kernel
theorem d6 : decode yB 6 = .ok (.invokevirtual 335, 3) := by decide +kernel
theorem d9 : decode yB 9 = .ok (.ishr, 1) := by decide +kernel
theorem d10 : decode yB 10 = .ok (.ireturn, 1) := by decide +kernel
def site : List Cond := [.fieldLink "java/lang/String" 9 "java/lang/String" "value" "[B", Cdr.tab] ++ virtW "java/lang/String" 335 "java/lang/String" Cdr.yN Cdr.yN
def tab : Cond := tabOf yN yB 1 (some .int) site
def P (x t : Addr) (V : Cell) (cd : Int32) (n : Nat) (f : Nat → Int32) (z : Int32) (args : Array Value) (s : State) : Prop := args = #[.ref x] ∧ Txt x t V cd n f s ∧ StaticIs s "java/lang/String" "COMPACT_STRINGS" "Z" (.int z) ∧ ¬ z = 0
def E (n : Nat) (r : Option Value) (s u : State) : Prop := XT.PureE (some (.int (Int32.ofNat n))) r s u
/-- length() of a String of n chars, in either coding -/
theorem law (l : Launch) (x t : Addr) (V : Cell) (cd : Int32) (n : Nat) (f : Nat → Int32) (z : Int32) : Law l yN 1 0 1 13 yB 1 (some .int) site (P x t V cd n f z) (E n) [] 0 0 := by
  refine Law.of_walk (plainFor_of_name (by decide +kernel)) (by decide +kernel) (by decide +kernel) (by decide) (fun _ _ h => by rw [h.1]; rfl) (fun _ U U' hal hh h => ⟨h.1, h.2.1.mv hal hh, h.2.2.1.there hal hh, h.2.2.2⟩) (fun r U U' V V' h1 hal h2 h => XT.PureE.mv r U U' V V' h1 hal h2 h) ?_
  intro p e s m args below meth c s₁ X0 hexec hbytes hml hret hlk hnm hown hh0 W hP
  obtain ⟨rfl, hx, s1, hz⟩ := hP
  have v31 := hx.2.2.2.1.2.2.2
  have c1 : Steps p.tables e below (s₁.setTop (entryFrame m #[.ref x] 1)) (s₁.setTop (mkF m 1 #[.val (.ref x)] [.ref x])) := Steps.trans (entry rfl) (by
    show Steps p.tables e below (s₁.setTop (mkF m 0 #[.val (.ref x)] [])) _
    refine XS.aloadN X0.here hexec rfl (hb hbytes d0) rfl rfl ?_
    exact Steps.refl _)
  obtain ⟨T2, X2, q2, st2⟩ := X0.hget hexec hown (wk W (.fieldLink "java/lang/String" 9 "java/lang/String" "value" "[B")) (hx.mv X0.warmed.alike hh0).2.1 (g := (mkF m 1 #[.val (.ref x)] [.ref x])) rfl (rest := []) rfl (hb hbytes d1)
  have hh2 := q2.trans hh0
  have hx2 := hx.mv X2.warmed.alike hh2
  have c3 : Steps p.tables e below (s₁.setTop (entryFrame m #[.ref x] 1)) (T2.setTop (mkF m 6 #[.val (.ref x)] [.ref x, .int (Int32.ofNat V.slots.size)])) := (c1.trans (st2 _ (Steps.refl _))).trans (by
    refine X2.alen hexec hx2.2.2.2.1 rfl rfl (hb hbytes d4) ?_
    refine XS.aloadN X2.here hexec rfl (hb hbytes d5) rfl rfl ?_
    exact Steps.refl _)
  obtain ⟨v4, T4, X4, E4, g4⟩ := X2.callV hexec (Cdr.law l x cd z) hown (wks W (virtW "java/lang/String" 335 "java/lang/String" Cdr.yN Cdr.yN)) rfl (by decide) (wk W Cdr.tab) (W := 1) (Nat.le_of_ble_eq_true rfl) (Nat.le_of_ble_eq_true rfl) (Nat.le_refl _) (Nat.le_refl _) (hx2.1.fc X2.warmed.alike) hx2.1.is (g := (mkF m 6 #[.val (.ref x)] [.ref x, .int (Int32.ofNat V.slots.size)])) rfl (by rw [hml]; rfl) c3 (argsL := []) (rest := [.int (Int32.ofNat V.slots.size)]) rfl rfl (by show 2 * 0 + (1 + 0) ≤ _; decide) (hb hbytes d6) (⟨rfl, hx2.2.2.1, hx.2.2.2.2.1.cd, s1.there X2.warmed.alike hh2, hz⟩)
  obtain ⟨rfl, q4⟩ := E4
  have c5 : Steps p.tables e below (s₁.setTop (entryFrame m #[.ref x] 1)) (T4.setTop (mkF m 10 #[.val (.ref x)] [.int (Int32.ofNat V.slots.size >>> (cd &&& 31))])) := Steps.trans g4 (by
    refine ishr X4.here hexec rfl (hb hbytes d9) rfl ?_
    exact Steps.refl _)
  rw [hx.2.2.2.2.1.len v31] at c5
  exact ⟨T4, some (.int (Int32.ofNat n)), _, _, _, X4, rfl, rfl, rfl, (fun h => by cases h), ⟨rfl, q4.trans hh2⟩, fun fs hl => c5.trans (X4.ireturnOut hexec hret rfl (Or.inl rfl) (hb hbytes d10) hl)⟩
theorem pays {l : Launch} {R : Room} {p : Program} {e : Env} {below : List Frame} {s : State} {sargs : Array Value} {len W : Nat} (x t : Addr) (V : Cell) (cd : Int32) (n : Nat) (f : Nat → Int32) (z : Int32) (htab : tab.before sargs s = true) (hfr : 2 ≤ R.frames) (hlo : W + 25 ≤ R.locals) :
    Back l R p e below s sargs yN len W (fun A₁ a₁ => A₁.cells + 0 ≤ R.cells ∧ A₁.slots + 0 ≤ R.slots ∧ P x t V cd n f z a₁ A₁.U) (fun A₁ _ v₁ B₁ => E n v₁ A₁.U B₁.U ∧ B₁.locs = A₁.locs ++ [] ∧ B₁.cells = A₁.cells + 0 ∧ B₁.slots = A₁.slots + 0) :=
  (law l x t V cd n f z).pays htab hfr (by omega)
end Len
namespace IsL
def yN : MethodName := ⟨"java/lang/String", "isLatin1", "()Z"⟩
abbrev yB : ByteArray := jdk_42_method_154_code
theorem d0 : decode yB 0 = .ok (.getstatic 38, 3) := by decide +kernel
theorem d3 : decode yB 3 = .ok (.ifCond (.eq) 14, 3) := by decide +kernel
theorem d6 : decode yB 6 = .ok (.aload_n 0, 1) := by decide +kernel
theorem d7 : decode yB 7 = .ok (.getfield 15, 3) := by decide +kernel
theorem d10 : decode yB 10 = .ok (.ifCond (.ne) 7, 3) := by decide +kernel
theorem d13 : decode yB 13 = .ok (.iconst 1, 1) := by decide +kernel
theorem d14 : decode yB 14 = .ok (.goto 4, 3) := by decide +kernel
theorem d17 : decode yB 17 = .ok (.iconst 0, 1) := by decide +kernel
theorem d18 : decode yB 18 = .ok (.ireturn, 1) := by decide +kernel
def site : List Cond := [.fieldLink "java/lang/String" 38 "java/lang/String" "COMPACT_STRINGS" "Z", .fieldLink "java/lang/String" 15 "java/lang/String" "coder" "B"]
def tab : Cond := tabOf yN yB 1 (some .boolean) site
def P (x : Addr) (cd z : Int32) (args : Array Value) (s : State) : Prop := args = #[.ref x] ∧ Has x "java/lang/String" "coder" "B" (.int cd) s ∧ (cd = 0 ∨ cd = 1) ∧ StaticIs s "java/lang/String" "COMPACT_STRINGS" "Z" (.int z) ∧ ¬ z = 0
def E (cd : Int32) (r : Option Value) (s u : State) : Prop := XT.PureE (some (.int (1 - cd))) r s u
theorem law (l : Launch) (x : Addr) (cd z : Int32) : Law l yN 1 0 0 0 yB 1 (some .boolean) site (P x cd z) (E cd) [] 0 0 := by
  refine Law.of_walk (plainFor_of_name (by decide +kernel)) (by decide +kernel) (by decide +kernel) (by decide) (fun _ _ h => by rw [h.1]; rfl) (fun _ U U' hal hh h => ⟨h.1, h.2.1.mv hal hh, h.2.2.1, h.2.2.2.1.there hal hh, h.2.2.2.2⟩) (fun r U U' V V' h1 hal h2 h => XT.PureE.mv r U U' V V' h1 hal h2 h) ?_
  intro p e s m args below meth c s₁ X0 hexec hbytes hml hret hlk hnm hown hh0 W hP
  obtain ⟨rfl, hx, hc, s1, hz⟩ := hP
  have c1 : Steps p.tables e below (s₁.setTop (entryFrame m #[.ref x] 1)) (s₁.setTop (mkF m 0 #[.val (.ref x)] [])) := entry rfl
  obtain ⟨T2, X2, q2, st2⟩ := X0.sget hexec hown (wk W (.fieldLink "java/lang/String" 38 "java/lang/String" "COMPACT_STRINGS" "Z")) s1 (fun _ _ h => by rw [hh0]; exact h) (g := (mkF m 0 #[.val (.ref x)] [])) rfl (hb hbytes d0)
  have hh2 := q2.trans hh0
  have c3 : Steps p.tables e below (s₁.setTop (entryFrame m #[.ref x] 1)) (T2.setTop (mkF m 7 #[.val (.ref x)] [.ref x])) := (c1.trans (st2 _ (Steps.refl _))).trans (by
    refine XS.ifNo X2.here hexec rfl (hb hbytes d3) rfl (i0_eq_f hz) ?_
    refine XS.aloadN X2.here hexec rfl (hb hbytes d6) rfl rfl ?_
    exact Steps.refl _)
  obtain ⟨T4, X4, q4, st4⟩ := X2.hget hexec hown (wk W (.fieldLink "java/lang/String" 15 "java/lang/String" "coder" "B")) (hx.mv X2.warmed.alike hh2) (g := (mkF m 7 #[.val (.ref x)] [.ref x])) rfl (rest := []) rfl (hb hbytes d7)
  have c5 : Steps p.tables e below (s₁.setTop (entryFrame m #[.ref x] 1)) (T4.setTop (mkF m 10 #[.val (.ref x)] [.int cd])) := c3.trans (st4 _ (Steps.refl _))
  have c6 : Steps p.tables e below (s₁.setTop (entryFrame m #[.ref x] 1)) (T4.setTop (mkF m 18 #[.val (.ref x)] [.int (1 - cd)])) := by
    rcases hc with rfl | rfl
    · exact c5.trans (by
        refine XS.ifNo X4.here hexec rfl (hb hbytes d10) rfl (i0_ne_f rfl) ?_
        refine iconstV X4.here hexec rfl 1 (hb hbytes d13) (by decide) ?_
        refine XS.goto X4.here hexec rfl (pc0 := 14) rfl (hb hbytes d14) (by decide) rfl ?_
        exact Steps.refl _)
    · exact c5.trans (by
        refine XS.ifYes X4.here hexec rfl (pc0 := 10) rfl (hb hbytes d10) rfl (i0_ne_t (by decide)) (by decide) rfl ?_
        refine iconstV X4.here hexec rfl 0 (hb hbytes d17) (by decide) ?_
        exact Steps.refl _)
  exact ⟨T4, some (.int (1 - cd)), _, _, _, X4, rfl, rfl, rfl, (fun h => by cases h), ⟨rfl, q4.trans hh2⟩, fun fs hl => c6.trans (X4.ireturnOut hexec hret (by rcases hc with rfl | rfl <;> rfl) (Or.inr (Or.inl rfl)) (hb hbytes d18) hl)⟩
end IsL
namespace LChA
def yN : MethodName := ⟨"java/lang/StringLatin1", "charAt", "([BI)C"⟩
abbrev yB : ByteArray := jdk_43_method_2_code
theorem d0 : decode yB 0 = .ok (.iload_n 1, 1) := by decide +kernel
theorem d1 : decode yB 1 = .ok (.aload_n 0, 1) := by decide +kernel
theorem d2 : decode yB 2 = .ok (.arraylength, 1) := by decide +kernel
theorem d3 : decode yB 3 = .ok (.invokestatic 9, 3) := by decide +kernel
theorem d6 : decode yB 6 = .ok (.aload_n 0, 1) := by decide +kernel
theorem d7 : decode yB 7 = .ok (.iload_n 1, 1) := by decide +kernel
theorem d8 : decode yB 8 = .ok (.baload, 1) := by decide +kernel
theorem d9 : decode yB 9 = .ok (.sipush 255, 3) := by decide +kernel
theorem d12 : decode yB 12 = .ok (.iand, 1) := by decide +kernel
theorem d13 : decode yB 13 = .ok (.i2c, 1) := by decide +kernel
theorem d14 : decode yB 14 = .ok (.ireturn, 1) := by decide +kernel
def site : List Cond := [JO.Str_checkIndex.tab] ++ staticW "java/lang/StringLatin1" 9 JO.Str_checkIndex.yN
def tab : Cond := tabOf yN yB 2 (some .char) site
def P (t : Addr) (V : Cell) (i : Nat) (u : Int32) (fm : Value) (args : Array Value) (s : State) : Prop := args = #[.ref t, .int (Int32.ofNat i)] ∧ XT.Arr .byte t V s ∧ V.slots[i]? = some (.int u) ∧ (StaticIs s "jdk/internal/util/Preconditions" "SIOOBE_FORMATTER" "Ljava/util/function/BiFunction;" fm ∧ fm.isRef = true)
def E (u : Int32) (r : Option Value) (s w : State) : Prop := XT.PureE (some (.int (chr8 u))) r s w
theorem law (l : Launch) (t : Addr) (V : Cell) (i : Nat) (u : Int32) (fm : Value) : Law l yN 2 2 2 27 yB 2 (some .char) site (P t V i u fm) (E u) [] 0 0 := by
  refine Law.of_walk (plainFor_of_name (by decide +kernel)) (by decide +kernel) (by decide +kernel) (by decide) (fun _ _ h => by rw [h.1]; rfl) (fun _ U U' hal hh h => ⟨h.1, h.2.1.mv hal hh, h.2.2.1, h.2.2.2.1.there hal hh, h.2.2.2.2⟩) (fun r U U' V V' h1 hal h2 h => XT.PureE.mv r U U' V V' h1 hal h2 h) ?_
  intro p e s m args below meth c s₁ X0 hexec hbytes hml hret hlk hnm hown hh0 W hP
  obtain ⟨rfl, hV, hu, s1, rf⟩ := hP
  have v31 := hV.2.2.2
  have hi : i < V.slots.size := (Array.getElem?_eq_some_iff.mp hu).1
  have c1 : Steps p.tables e below (s₁.setTop (entryFrame m #[.ref t, .int (Int32.ofNat i)] 2)) (s₁.setTop (mkF m 0 #[.val (.ref t), .val (.int (Int32.ofNat i))] [])) := entry rfl
  have c2 : Steps p.tables e below (s₁.setTop (entryFrame m #[.ref t, .int (Int32.ofNat i)] 2)) (s₁.setTop (mkF m 3 #[.val (.ref t), .val (.int (Int32.ofNat i))] [.int (Int32.ofNat V.slots.size), .int (Int32.ofNat i)])) := c1.trans (by
    refine XS.iloadN X0.here hexec rfl (hb hbytes d0) rfl ?_
    refine XS.aloadN X0.here hexec rfl (hb hbytes d1) rfl rfl ?_
    refine X0.alen hexec (hV.mv X0.warmed.alike hh0) rfl rfl (hb hbytes d2) ?_
    exact Steps.refl _)
  obtain ⟨v3, T3, X3, E3, g3⟩ := X0.callS hexec (JO.Str_checkIndex.law l (Int32.ofNat i) (Int32.ofNat V.slots.size) fm) hown (wks W (staticW "java/lang/StringLatin1" 9 JO.Str_checkIndex.yN)) (wk W JO.Str_checkIndex.tab) (W := 0) (Nat.le_of_ble_eq_true rfl) (Nat.le_of_ble_eq_true rfl) (Nat.le_refl _) (Nat.le_refl _) (g := (mkF m 3 #[.val (.ref t), .val (.int (Int32.ofNat i))] [.int (Int32.ofNat V.slots.size), .int (Int32.ofNat i)])) rfl (by rw [hml]; rfl) c2 (argsL := [.int (Int32.ofNat i), .int (Int32.ofNat V.slots.size)]) (rest := []) rfl rfl (by show 2 * 0 + 0 ≤ _; decide) (hb hbytes d3) (⟨rfl, rf, s1.there X0.warmed.alike hh0, Int32.ofNat_not_neg (by omega), lt32 v31 hi⟩)
  obtain ⟨rfl, q3⟩ := E3
  have hh3 := q3.trans hh0
  have c4 : Steps p.tables e below (s₁.setTop (entryFrame m #[.ref t, .int (Int32.ofNat i)] 2)) (T3.setTop (mkF m 14 #[.val (.ref t), .val (.int (Int32.ofNat i))] [.int (chr8 u)])) := Steps.trans g3 (by
    refine XS.aloadN X3.here hexec rfl (hb hbytes d6) rfl rfl ?_
    refine XS.iloadN X3.here hexec rfl (hb hbytes d7) rfl ?_
    refine X3.aget hexec (hV.mv X3.warmed.alike hh3) rfl hu rfl rfl (hb hbytes d8) ?_
    refine sipushV X3.here hexec rfl 255 (hb hbytes d9) (by decide) ?_
    refine XS.iand X3.here hexec rfl (hb hbytes d12) rfl ?_
    refine i2c X3.here hexec rfl (hb hbytes d13) rfl ?_
    exact Steps.refl _)
  exact ⟨T3, some (.int (chr8 u)), _, _, _, X3, rfl, rfl, rfl, (fun h => by cases h), ⟨rfl, hh3⟩, fun fs hl => c4.trans (X3.ireturnOut hexec hret (narrow_c _) (Or.inr (Or.inr (Or.inr (Or.inl rfl)))) (hb hbytes d14) hl)⟩
end LChA
end StrChars
namespace StrChars.Road
open Jvm Sem ClassFile Op Lib Jvm.Stand Jvm.Free Jvm.Free.XT
open Jvm.Lib.Cold (StaticIs)
theorem consq {a : Array Value} {s : State} {c : Jvm.Cond} {L : List Jvm.Cond} (h0 : c.before a s = true) (h : ∀ w ∈ L, w.before a s = true) : ∀ w ∈ c :: L, w.before a s = true := fun w hw => (List.mem_cons.mp hw).elim (fun e => e ▸ h0) (h w)
/-- the words of String.length(), either coding -/
abbrev wordsLen : List Jvm.Cond := [.code Len.yN Len.yB 1 (some .int), .initialized ST, .fieldLink ST 9 ST "value" "[B", .fieldLink ST 38 ST "COMPACT_STRINGS" "Z", .fieldLink ST 15 ST "coder" "B", .code Cdr.yN Cdr.yB 1 (some .byte), .methodLink ST 335 Cdr.yN, .declares Cdr.yN, .selects ST Cdr.yN Cdr.yN, .instanceMethod Cdr.yN]
theorem tabLen_of {a : Array Value} {s : State} (h : ∀ w ∈ wordsLen, w.before a s = true) : Len.tab.before a s = true := by
  have hc : Cdr.tab.before a s = true := unparts (wk h (.code Cdr.yN Cdr.yB 1 (some .byte))) (wks h (.initialized Cdr.yN.cls :: Cdr.site))
  have q := consq hc h
  exact unparts (wk q (.code Len.yN Len.yB 1 (some .int))) (wks q (.initialized Len.yN.cls :: Len.site))
theorem movedLen {Z s : State} {a0 args : Array Value} (hZ : Z.Warmed39 s.vm) (hw : ∀ d ∈ wordsLen, d.before a0 Z = true) : ∀ d ∈ wordsLen, d.before args s = true := fun d hd => by
  have q := hw d hd
  have t : ∀ d ∈ wordsLen, d = .arrayClass .byte ∨ (d.onTables && d.keepsFace) = true := by decide +kernel
  rcases t d hd with rfl | t
  · exact RoadKit.mvA hZ q
  · exact RoadKit.mv hZ q t
/-- the bytes of the chars cs, low before high -/
def wideBytes : List Int32 → List Value
  | [] => []
  | c :: cs => .int (lo8 c) :: .int (hi8 c) :: wideBytes cs
theorem wide_lo (d : Value) : ∀ (cs : List Int32) (j : Nat), j < cs.length → (wideBytes cs).getD (2 * j) d = .int (lo8 (cs.getD j 0))
  | [], j, h => absurd h (Nat.not_lt_zero j)
  | c :: cs, 0, _ => rfl
  | c :: cs, j + 1, h => by
    have q := wide_lo d cs j (by simpa using h)
    rw [show 2 * (j + 1) = 2 * j + 1 + 1 from by omega]
    simpa [wideBytes] using q
theorem wide_hi (d : Value) : ∀ (cs : List Int32) (j : Nat), j < cs.length → (wideBytes cs).getD (2 * j + 1) d = .int (hi8 (cs.getD j 0))
  | [], j, h => absurd h (Nat.not_lt_zero j)
  | c :: cs, 0, _ => rfl
  | c :: cs, j + 1, h => by
    have q := wide_hi d cs j (by simpa using h)
    rw [show 2 * (j + 1) + 1 = 2 * j + 1 + 1 + 1 from by omega]
    simpa [wideBytes] using q
theorem low_at (d : Value) (cs : List Int32) (j : Nat) (h : j < cs.length) : (cs.map fun c => Value.int (lo8 c)).getD j d = .int (lo8 (cs.getD j 0)) := by
  simp [List.getD_eq_getElem?_getD, h]
/-- an array of N2 bytes vs codes the chars cs by the coder cd -/
def CodA (cs : List Int32) (cd N2 : Int32) (vs : List Value) : Prop := (cd = 0 ∧ N2 = Int32.ofNat cs.length ∧ vs = (cs.map fun c => Value.int (lo8 c)) ∧ ∀ c ∈ cs, ¬ 255 < c) ∨ (cd = 1 ∧ N2 = Int32.ofNat (2 * cs.length) ∧ vs = wideBytes cs ∧ ∃ c ∈ cs, 255 < c)
theorem CodA.cod {cs : List Int32} {cd N2 : Int32} {vs : List Value} {V : Cell} (h : CodA cs cd N2 vs) (hn : 2 * cs.length < 2 ^ 31) (hs : V.slots.size = N2.toNatClampNeg) (hv : RoadKit.Has V vs (.int 0)) : Cod cd cs.length (fun j => cs.getD j 0) V := by
  rcases h with ⟨rfl, rfl, rfl, h⟩ | ⟨rfl, rfl, rfl, c, hc, hw⟩
  · rw [n32 (by omega)] at hs
    exact Or.inl ⟨rfl, hs, fun j hj => ⟨by rw [hv j (by omega), low_at _ _ _ hj], by
      have e : cs.getD j 0 = cs[j] := by simp [List.getD_eq_getElem?_getD, hj]
      show ¬ 255 < cs.getD j 0
      rw [e]; exact h _ (List.getElem_mem _)⟩⟩
  · rw [n32 (by omega)] at hs
    obtain ⟨j, hj, rfl⟩ := List.getElem_of_mem hc
    exact Or.inr ⟨rfl, hs, fun j hj => ⟨by rw [hv _ (by omega), wide_lo _ _ _ hj], by rw [hv _ (by omega), wide_hi _ _ _ hj]⟩, j, hj, by
      have e : cs.getD j 0 = cs[j] := by simp [List.getD_eq_getElem?_getD, hj]
      show 255 < cs.getD j 0
      rw [e]; exact hw⟩
/-- an object of exactly java/lang/String, its two fields found: as the laws ask it -/
theorem strObj {Z U : State} {a0 : Array Value} {kI : Nat} (wi : (Jvm.Cond.instantiable ST kI).before a0 Z = true) (al : Z.vm.Alike U.vm) {x : Addr} {v0 c0 : Value} (E : RoadKit.Exa Z U.heap x ST) (V : RoadKit.Fld Z U.heap x ST "value" "[B" v0) (C : RoadKit.Fld Z U.heap x ST "coder" "B" c0) :
    ∃ (D : Cell) (fV fC : Field), Blank ST x D U ∧ Found ST "value" "[B" fV U ∧ Found ST "coder" "B" fC U ∧ D.slots[fV.slot]? = some v0 ∧ D.slots[fC.slot]? = some c0 ∧ RoadKit.slotOf Z ST "value" "[B" = fV.slot ∧ RoadKit.slotOf Z ST "coder" "B" = fC.slot := by
  obtain ⟨D, cfV, kV, iV, fV, hD, gV, stV, knV, obV, asV, slV⟩ := V
  obtain ⟨D', cfC, kC, iC, fC, hD', gC, stC, -, -, asC, slC⟩ := C
  cases hD.symm.trans hD'
  obtain ⟨D2, kD, e1, e2, e3, e4, e5⟩ := E
  cases hD.symm.trans e1
  obtain ⟨c2, k2, i1, i2, i3, -⟩ := Cond.instantiable_spec wi
  cases e2.symm.trans i1
  cases e3.symm.trans i2
  obtain ⟨kU, u1, u2⟩ := al.2.2 _ _ e3
  exact ⟨D, fV, fC, ⟨hD, ⟨knV, fun q hq => by rw [hq] at obV; cases obV⟩, by rw [al.findClass]; exact e2, kU, u1, by rw [u2]; exact i3, by rw [u2]; exact e5 i3⟩, ⟨SBG.found_only al ⟨cfV, kV, iV, gV⟩, stV⟩, ⟨SBG.found_only al ⟨cfC, kC, iC, gC⟩, stC⟩, slV, slC, by simp [RoadKit.slotOf, gV], by simp [RoadKit.slotOf, gC]⟩
theorem sta_is {Z U : State} (al : Z.vm.Alike U.vm) {C n d : String} {v : Value} (S : RoadKit.Sta Z U.heap C n d v) : StaticIs U C n d v := by
  obtain ⟨cfS, iS, kS, fS, st, cS, t1, t2, t3, t4, t5, t6, t7⟩ := S
  exact StaticIs.there (s := { Z with heap := U.heap }) ⟨cfS, iS, kS, fS, st, cS, t1, t2, t3, t4, t5, (fun q => by rw [q] at t6; cases t6), t7⟩ al rfl
/-- **length() OF SUCH A STRING** -/
theorem lenW {p : Program} {l : Launch} {e : Env} {R : Room} {s : State} {args : Array Value} {below : List Frame} {len W : Nat} {Z : State} {a0 : Array Value} {h : Heap} (hZ : Z.Warmed39 s.vm) (hw : ∀ d ∈ wordsLen, d.before a0 Z = true) {kI : Nat} (wi : (Jvm.Cond.instantiable ST kI).before a0 Z = true)
    {x t : Addr} {kb : ClassId} {cs : List Int32} {cd N2 z : Int32} {vs : List Value} (E : RoadKit.Exa Z h x ST) (V : RoadKit.Fld Z h x ST "value" "[B" (.ref t)) (C : RoadKit.Fld Z h x ST "coder" "B" (.int cd)) (K : RoadKit.Arv Z h t kb .byte N2 vs (.int 0)) (hc : CodA cs cd N2 vs) (hb : ∀ c ∈ cs, ¬ c < 0 ∧ ¬ (65535 : Int32) < c)
    (S : RoadKit.Sta Z h ST "COMPACT_STRINGS" "Z" (.int z)) (hz : ¬ z = 0) (l2 : cs.length ≤ 4000) (hfr : 2 ≤ R.frames) (hlo : W + 25 ≤ R.locals) :
    Back l R p e below s args (⟨"java/lang/String", "length", "()I"⟩ : MethodName) len W (fun P a => a = #[.ref x] ∧ P.U.heap = h ∧ P.cells + 0 ≤ R.cells ∧ P.slots + 0 ≤ R.slots)
      (fun P _ v B => ∃ L, (v = some (.int (Int32.ofNat cs.length)) ∧ L = [] ∧ B.U.heap = h) ∧ B.locs = P.locs ++ L ∧ B.cells = P.cells + 0 ∧ B.slots = P.slots + 0) := by
  obtain ⟨A, K1, K2, K3, K4, K5, K6⟩ := K
  have hcod := hc.cod (by omega) K3 K5
  intro m meth c P g ig mk a X hg hsize hdg hW hn hp'
  obtain ⟨rfl, rfl, r1, r2⟩ := hp'
  have al : Z.vm.Alike P.U.vm := hZ.alike.trans X.warmed.alike
  obtain ⟨D, fV, fC, hB, F1, F2, g1, g2, -, -⟩ := strObj wi al E V C
  have hx : Txt x t A cd cs.length (fun j => cs.getD j 0) P.U := ⟨⟨_, hB.2.2.1, D, hB.1, rfl, by cases q : D.vm <;> first | rfl | exact absurd q (hB.2.1.2 _)⟩, Has.of hB F1 g1, Has.of hB F2 g2, ⟨K1.1, State.isArrayOf_alike al K1.2.1, K1.2.2, by rcases hcod with ⟨-, q, -⟩ | ⟨-, q, -⟩ <;> omega⟩, hcod, fun j hj => by
    have e : cs.getD j 0 = cs[j] := by simp [List.getD_eq_getElem?_getD, hj]
    show ¬ cs.getD j 0 < 0 ∧ ¬ 65535 < cs.getD j 0
    rw [e]; exact hb _ (List.getElem_mem _)⟩
  obtain ⟨v, B, X', ⟨⟨hv, hh⟩, hl, hk, hs⟩, st⟩ := Len.pays x t A cd cs.length (fun j => cs.getD j 0) z (tabLen_of (movedLen hZ hw)) hfr hlo m meth c P g ig mk _ X hg hsize hdg hW hn ⟨r1, r2, rfl, hx, sta_is al S, hz⟩
  exact ⟨v, B, X', ⟨[], ⟨hv, rfl, hh⟩, hl, hk, hs⟩, st⟩
end StrChars.Road
namespace StrChars
open Jvm Sem ClassFile Op Lib Jvm.Stand Jvm.Free.XT Jvm.Free.ALB Jvm.Free.JM Jvm.Free
open Jvm.Lib.Cold (StaticIs)
/-- what place i of a byte[]'s cell holds -/
def yv (A : Cell) (i : Nat) : Int32 := match A.slots[i]? with | some (.int x) => x | _ => 0
theorem yv_get {a : Addr} {A : Cell} {U : State} (h : XT.Arr .byte a A U) (ht : Typed .byte A) {i : Nat} (hi : i < A.slots.size) : A.slots[i]? = some (.int (yv A i)) := by
  have e := Array.getElem?_eq_getElem hi
  have f := ht i _ e
  unfold yv; rw [e]
  generalize A.slots[i] = v at f
  cases v <;> simp [fits] at f ⊢
/-- the two arrays are equal, place for place -/
def EqC (A B : Cell) : Prop := A.slots.size = B.slots.size ∧ ∀ i, i < A.slots.size → yv A i = yv B i
/-- a boolean that says whether p -/
def Says01 (q : Prop) (r : Option Value) (s u : State) : Prop := ∃ v : Int32, r = some (.int v) ∧ u.heap = s.heap ∧ ((v = 1 ∧ q) ∨ (v = 0 ∧ ¬ q))
theorem Says01.mv {q : Prop} : ∀ r (U U' V V' : State), U'.heap = U.heap → V.vm.Alike V'.vm → V'.heap = V.heap → Says01 q r U V → Says01 q r U' V' :=
  fun r U U' V V' h1 _ h2 ⟨v, a, b, c⟩ => ⟨v, a, by rw [h1, h2]; exact b, c⟩
namespace LEq
def yN : MethodName := ⟨"java/lang/StringLatin1", "equals", "([B[B)Z"⟩
abbrev yB : ByteArray := jdk_43_method_13_code
theorem d0 : decode yB 0 = .ok (.aload_n 0, 1) := by decide +kernel
theorem d1 : decode yB 1 = .ok (.arraylength, 1) := by decide +kernel
theorem d2 : decode yB 2 = .ok (.aload_n 1, 1) := by decide +kernel
theorem d3 : decode yB 3 = .ok (.arraylength, 1) := by decide +kernel
theorem d4 : decode yB 4 = .ok (.if_icmp (.ne) 30, 3) := by decide +kernel
theorem d7 : decode yB 7 = .ok (.iconst 0, 1) := by decide +kernel
theorem d8 : decode yB 8 = .ok (.istore_n 2, 1) := by decide +kernel
theorem d9 : decode yB 9 = .ok (.iload_n 2, 1) := by decide +kernel
theorem d10 : decode yB 10 = .ok (.aload_n 0, 1) := by decide +kernel
theorem d11 : decode yB 11 = .ok (.arraylength, 1) := by decide +kernel
theorem d12 : decode yB 12 = .ok (.if_icmp (.ge) 20, 3) := by decide +kernel
theorem d15 : decode yB 15 = .ok (.aload_n 0, 1) := by decide +kernel
theorem d16 : decode yB 16 = .ok (.iload_n 2, 1) := by decide +kernel
theorem d17 : decode yB 17 = .ok (.baload, 1) := by decide +kernel
theorem d18 : decode yB 18 = .ok (.aload_n 1, 1) := by decide +kernel
theorem d19 : decode yB 19 = .ok (.iload_n 2, 1) := by decide +kernel
theorem d20 : decode yB 20 = .ok (.baload, 1) := by decide +kernel
theorem d21 : decode yB 21 = .ok (.if_icmp (.eq) 5, 3) := by decide +kernel
theorem d24 : decode yB 24 = .ok (.iconst 0, 1) := by decide +kernel
theorem d25 : decode yB 25 = .ok (.ireturn, 1) := by decide +kernel
theorem d26 : decode yB 26 = .ok (.iinc 2 1, 3) := by decide +kernel
theorem d29 : decode yB 29 = .ok (.goto (-20), 3) := by decide +kernel
theorem d32 : decode yB 32 = .ok (.iconst 1, 1) := by decide +kernel
theorem d33 : decode yB 33 = .ok (.ireturn, 1) := by decide +kernel
theorem d34 : decode yB 34 = .ok (.iconst 0, 1) := by decide +kernel
theorem d35 : decode yB 35 = .ok (.ireturn, 1) := by decide +kernel
def site : List Cond := []
def tab : Cond := tabOf yN yB 3 (some .boolean) site
def P (a : Addr) (A : Cell) (b : Addr) (B : Cell) (args : Array Value) (s : State) : Prop := args = #[.ref a, .ref b] ∧ XT.Arr .byte a A s ∧ Typed .byte A ∧ XT.Arr .byte b B s ∧ Typed .byte B
/-- whether two byte[] are equal, place for place -/
theorem law (l : Launch) (a : Addr) (A : Cell) (b : Addr) (B : Cell) : Law l yN 2 2 0 0 yB 3 (some .boolean) site (P a A b B) (Says01 (EqC A B)) [] 0 0 := by
  refine Law.of_walk (plainFor_of_name (by decide +kernel)) (by decide +kernel) (by decide +kernel) (by decide) (fun _ _ h => by rw [h.1]; rfl) (fun _ U U' hal hh h => ⟨h.1, h.2.1.mv hal hh, h.2.2.1, h.2.2.2.1.mv hal hh, h.2.2.2.2⟩) (fun r U U' V V' h1 hal h2 h => Says01.mv r U U' V V' h1 hal h2 h) ?_
  intro p e s m args below meth c s₁ X0 hexec hbytes hml hret hlk hnm hown hh0 W hP
  obtain ⟨rfl, hA, tA, hB, tB⟩ := hP
  have a31 := hA.2.2.2
  have b31 := hB.2.2.2
  have hA0 := hA.mv X0.warmed.alike hh0
  have hB0 := hB.mv X0.warmed.alike hh0
  have c1 : Steps p.tables e below (s₁.setTop (entryFrame m #[.ref a, .ref b] 3)) (s₁.setTop (mkF m 0 #[.val (.ref a), .val (.ref b), .unset] [])) := entry rfl
  have c2 : Steps p.tables e below (s₁.setTop (entryFrame m #[.ref a, .ref b] 3)) (s₁.setTop (mkF m 4 #[.val (.ref a), .val (.ref b), .unset] [.int (Int32.ofNat B.slots.size), .int (Int32.ofNat A.slots.size)])) := c1.trans (by
    refine XS.aloadN X0.here hexec rfl (hb hbytes d0) rfl rfl ?_
    refine X0.alen hexec hA0 rfl rfl (hb hbytes d1) ?_
    refine XS.aloadN X0.here hexec rfl (hb hbytes d2) rfl rfl ?_
    refine X0.alen hexec hB0 rfl rfl (hb hbytes d3) ?_
    exact Steps.refl _)
  by_cases hs : A.slots.size = B.slots.size
  · have c3 : Steps p.tables e below (s₁.setTop (entryFrame m #[.ref a, .ref b] 3)) (s₁.setTop (mkF m 9 #[.val (.ref a), .val (.ref b), .val (.int 0)] [])) := c2.trans (by
      refine XS.icmpNo X0.here hexec rfl (hb hbytes d4) rfl (ii_ne_f (by rw [hs])) ?_
      refine iconstV X0.here hexec rfl 0 (hb hbytes d7) (by decide) ?_
      refine XS.istoreN X0.here hexec rfl (hb hbytes d8) rfl rfl ?_
      exact Steps.refl _)
    have loop : ∀ (r i : Nat), i + r = A.slots.size → (∀ j, j < i → yv A j = yv B j) → Steps p.tables e below (s₁.setTop (entryFrame m #[.ref a, .ref b] 3)) (s₁.setTop (mkF m 9 #[.val (.ref a), .val (.ref b), .val (.int (Int32.ofNat i))] [])) → ∃ (pc : Nat) (Ls : Array Slot) (v : Int32), (pc = 25 ∨ pc = 33) ∧ ((v = 1 ∧ EqC A B) ∨ (v = 0 ∧ ¬ EqC A B)) ∧ Steps p.tables e below (s₁.setTop (entryFrame m #[.ref a, .ref b] 3)) (s₁.setTop (mkF m pc Ls [.int v])) := by
      intro r
      induction r with
      | zero =>
        intro i hi he cl
        exact ⟨33, _, 1, Or.inr rfl, Or.inl ⟨rfl, hs, fun j hj => he j (by omega)⟩, cl.trans (by
          refine XS.iloadN X0.here hexec rfl (hb hbytes d9) rfl ?_
          refine XS.aloadN X0.here hexec rfl (hb hbytes d10) rfl rfl ?_
          refine X0.alen hexec hA0 rfl rfl (hb hbytes d11) ?_
          refine XS.icmpYes X0.here hexec rfl (pc0 := 12) rfl (hb hbytes d12) rfl (ii_ge_t (nlt32 (by omega) (by omega))) (by decide) rfl ?_
          refine iconstV X0.here hexec rfl 1 (hb hbytes d32) (by decide) ?_
          exact Steps.refl _)⟩
      | succ r ih =>
        intro i hi he cl
        have c4 : Steps p.tables e below (s₁.setTop (entryFrame m #[.ref a, .ref b] 3)) (s₁.setTop (mkF m 21 #[.val (.ref a), .val (.ref b), .val (.int (Int32.ofNat i))] [.int (yv B i), .int (yv A i)])) := cl.trans (by
          refine XS.iloadN X0.here hexec rfl (hb hbytes d9) rfl ?_
          refine XS.aloadN X0.here hexec rfl (hb hbytes d10) rfl rfl ?_
          refine X0.alen hexec hA0 rfl rfl (hb hbytes d11) ?_
          refine XS.icmpNo X0.here hexec rfl (hb hbytes d12) rfl (ii_ge_f (lt32 (by omega) (by omega))) ?_
          refine XS.aloadN X0.here hexec rfl (hb hbytes d15) rfl rfl ?_
          refine XS.iloadN X0.here hexec rfl (hb hbytes d16) rfl ?_
          refine X0.aget hexec hA0 rfl (yv_get hA tA (i := i) (by omega)) rfl rfl (hb hbytes d17) ?_
          refine XS.aloadN X0.here hexec rfl (hb hbytes d18) rfl rfl ?_
          refine XS.iloadN X0.here hexec rfl (hb hbytes d19) rfl ?_
          refine X0.aget hexec hB0 rfl (yv_get hB tB (i := i) (by omega)) rfl rfl (hb hbytes d20) ?_
          exact Steps.refl _)
        by_cases hv : yv A i = yv B i
        · have c5 : Steps p.tables e below (s₁.setTop (entryFrame m #[.ref a, .ref b] 3)) (s₁.setTop (mkF m 9 #[.val (.ref a), .val (.ref b), .val (.int (Int32.ofNat i + 1))] [])) := c4.trans (by
            refine XS.icmpYes X0.here hexec rfl (pc0 := 21) rfl (hb hbytes d21) rfl (ii_eq_t hv) (by decide) rfl ?_
            refine iincV X0.here hexec rfl 1 (hb hbytes d26) (by decide) rfl rfl ?_
            refine XS.goto X0.here hexec rfl (pc0 := 29) rfl (hb hbytes d29) (by decide) rfl ?_
            exact Steps.refl _)
          rw [succ32] at c5
          exact ih (i + 1) (by omega) (fun j hj => by
            by_cases e : j = i
            · rw [e]; exact hv
            · exact he j (by omega)) c5
        · exact ⟨25, _, 0, Or.inl rfl, Or.inr ⟨rfl, fun q => hv (q.2 i (by omega))⟩, c4.trans (by
            refine XS.icmpNo X0.here hexec rfl (hb hbytes d21) rfl (ii_eq_f hv) ?_
            refine iconstV X0.here hexec rfl 0 (hb hbytes d24) (by decide) ?_
            exact Steps.refl _)⟩
    obtain ⟨pc, Ls, v, hpc, hv, cz⟩ := loop A.slots.size 0 (by omega) (fun j hj => absurd hj (Nat.not_lt_zero j)) c3
    have nv : narrow .boolean (.int v) = .int v := by rcases hv with ⟨rfl, -⟩ | ⟨rfl, -⟩ <;> rfl
    rcases hpc with rfl | rfl
    · exact ⟨s₁, some (.int v), _, _, _, X0, rfl, rfl, rfl, (fun h => by cases h), ⟨v, rfl, hh0, hv⟩, fun fs hl => cz.trans (X0.ireturnOut hexec hret nv (Or.inr (Or.inl rfl)) (hb hbytes d25) hl)⟩
    · exact ⟨s₁, some (.int v), _, _, _, X0, rfl, rfl, rfl, (fun h => by cases h), ⟨v, rfl, hh0, hv⟩, fun fs hl => cz.trans (X0.ireturnOut hexec hret nv (Or.inr (Or.inl rfl)) (hb hbytes d33) hl)⟩
  · have c3 : Steps p.tables e below (s₁.setTop (entryFrame m #[.ref a, .ref b] 3)) (s₁.setTop (mkF m 35 #[.val (.ref a), .val (.ref b), .unset] [.int 0])) := c2.trans (by
      refine XS.icmpYes X0.here hexec rfl (pc0 := 4) rfl (hb hbytes d4) rfl (ii_ne_t (ne32 a31 b31 hs)) (by decide) rfl ?_
      refine iconstV X0.here hexec rfl 0 (hb hbytes d34) (by decide) ?_
      exact Steps.refl _)
    exact ⟨s₁, some (.int 0), _, _, _, X0, rfl, rfl, rfl, (fun h => by cases h), ⟨0, rfl, hh0, Or.inr ⟨rfl, fun q => hs q.1⟩⟩, fun fs hl => c3.trans (X0.ireturnOut hexec hret rfl (Or.inr (Or.inl rfl)) (hb hbytes d35) hl)⟩
end LEq
theorem Cod.ty {cd : Int32} {n : Nat} {f : Nat → Int32} {V : Cell} (h : Cod cd n f V) : Typed .byte V := fun i v hv => by
  have hi : i < V.slots.size := (Array.getElem?_eq_some_iff.mp hv).1
  rcases h with ⟨-, k1, k2⟩ | ⟨-, k1, k2, -⟩
  · rw [(k2 i (by omega)).1] at hv; cases hv; exact fits_lo8 _
  · rcases Nat.mod_two_eq_zero_or_one i with e | e
    · obtain ⟨j, rfl⟩ : ∃ j, i = 2 * j := ⟨i / 2, by omega⟩
      rw [(k2 j (by omega)).1] at hv; cases hv; exact fits_lo8 _
    · obtain ⟨j, rfl⟩ : ∃ j, i = 2 * j + 1 := ⟨i / 2, by omega⟩
      rw [(k2 j (by omega)).2] at hv; cases hv; exact fits_lo8 _
/-- the same text -/
def SameT (n : Nat) (f : Nat → Int32) (k : Nat) (g : Nat → Int32) : Prop := n = k ∧ ∀ j, j < n → f j = g j
theorem lo8_inj {x y : Int32} (h0 : ¬ x < 0) (h1 : ¬ 255 < x) (k0 : ¬ y < 0) (k1 : ¬ 255 < y) (h : lo8 x = lo8 y) : x = y := by
  rw [← lo8_mask h0 h1, ← lo8_mask k0 k1, h]
/-- arrays coded by one coder are equal just where the texts are -/
theorem Cod.eqv {cd : Int32} {n k : Nat} {f g : Nat → Int32} {V V' : Cell} (h : Cod cd n f V) (h' : Cod cd k g V') (hf : ∀ j, j < n → ¬ f j < 0 ∧ ¬ 65535 < f j) (hg : ∀ j, j < k → ¬ g j < 0 ∧ ¬ 65535 < g j) : EqC V V' ↔ SameT n f k g := by
  have yvv : ∀ {W : Cell} {i : Nat} {x : Int32}, W.slots[i]? = some (.int x) → yv W i = x := fun q => by unfold yv; rw [q]
  rcases h with ⟨rfl, k1, k2⟩ | ⟨rfl, k1, k2, -⟩
  · rcases h' with ⟨-, m1, m2⟩ | ⟨e, -⟩
    · constructor
      · rintro ⟨e1, e2⟩
        refine ⟨by omega, fun j hj => ?_⟩
        have q := e2 j (by omega)
        rw [yvv (k2 j hj).1, yvv (m2 j (by omega)).1] at q
        exact lo8_inj (hf j hj).1 (k2 j hj).2 (hg j (by omega)).1 (m2 j (by omega)).2 q
      · rintro ⟨rfl, e2⟩
        refine ⟨by omega, fun j hj => ?_⟩
        rw [yvv (k2 j (by omega)).1, yvv (m2 j (by omega)).1, e2 j (by omega)]
    · exact absurd e (by decide)
  · rcases h' with ⟨e, -⟩ | ⟨-, m1, m2, -⟩
    · exact absurd e (by decide)
    · constructor
      · rintro ⟨e1, e2⟩
        refine ⟨by omega, fun j hj => ?_⟩
        have q1 := e2 (2 * j) (by omega)
        have q2 := e2 (2 * j + 1) (by omega)
        rw [yvv (k2 j hj).1, yvv (m2 j (by omega)).1] at q1
        rw [yvv (k2 j hj).2, yvv (m2 j (by omega)).2] at q2
        rw [← pair_says (hf j hj).1 (hf j hj).2, ← pair_says (hg j (by omega)).1 (hg j (by omega)).2, q1, q2]
      · rintro ⟨rfl, e2⟩
        refine ⟨by omega, fun i hi => ?_⟩
        rcases Nat.mod_two_eq_zero_or_one i with e | e
        · obtain ⟨j, rfl⟩ : ∃ j, i = 2 * j := ⟨i / 2, by omega⟩
          rw [yvv (k2 j (by omega)).1, yvv (m2 j (by omega)).1, e2 j (by omega)]
        · obtain ⟨j, rfl⟩ : ∃ j, i = 2 * j + 1 := ⟨i / 2, by omega⟩
          rw [yvv (k2 j (by omega)).2, yvv (m2 j (by omega)).2, e2 j (by omega)]
/-- two codings differ: so do the texts -/
theorem Cod.dif {cd cd' : Int32} {n k : Nat} {f g : Nat → Int32} {V V' : Cell} (h : Cod cd n f V) (h' : Cod cd' k g V') (hne : ¬ cd = cd') : ¬ SameT n f k g := by
  rintro ⟨rfl, e⟩
  rcases h with ⟨rfl, -, k2⟩ | ⟨rfl, -, -, j, hj, hw⟩
  · rcases h' with ⟨rfl, -⟩ | ⟨-, -, -, j, hj, hw⟩
    · exact hne rfl
    · exact (k2 j hj).2 (by rw [e j hj]; exact hw)
  · rcases h' with ⟨-, -, m2⟩ | ⟨rfl, -⟩
    · exact (m2 j hj).2 (by rw [← e j hj]; exact hw)
    · exact hne rfl
/-- an object of exactly C is an instance of C -/
theorem cinst {p : Program} {l : Launch} {e : Env} {R : Room} {s : State} {m : MethodId} {args : Array Value} {below : List Frame} {meth : Method} {c : Code} {T : State} {locs : List Loc} {cells slots : Nat} (X : Stand p l e R s m args below meth c T locs cells slots) (hexec : p.tables.exec = Jvm.exec) {own C : String} {index : Nat} (hown : s.vm.findClass own = some m.cls) (hlink : (Cond.classLink own index C).before args s = true) {a : Addr} (hE : Exact C a T)
    {g : JFrame} (hg : g.method = m) {rest : List Value} (hstack : g.stack = .ref a :: rest) (hdg : decode c.code g.pc = .ok (.instanceof index, 3)) :
    ∃ T', Stand p l e R s m args below meth c T' locs cells slots ∧ T'.heap = T.heap ∧ ∀ target, Steps p.tables e below (T'.setTop { g with pc := g.pc + 3, stack := .int 1 :: rest }) target → Steps p.tables e below (T.setTop g) target := by
  obtain ⟨cB, h1, D, h2, h3, h4⟩ := hE
  have h1' : s.vm.findClass C = some cB := by rw [← X.warmed.alike.findClass]; exact h1
  obtain ⟨vm', X', st⟩ := X.instanceofYes hexec hown hlink h2 h4 h1' (by rw [h3]; exact Jvm.Free.SB.assignable_self _ _) hg hstack hdg
  exact ⟨_, X', rfl, st⟩
theorem cself {p : Program} {l : Launch} {e : Env} {R : Room} {s : State} {m : MethodId} {args : Array Value} {below : List Frame} {meth : Method} {c : Code} {T : State} {locs : List Loc} {cells slots : Nat} (X : Stand p l e R s m args below meth c T locs cells slots) (hexec : p.tables.exec = Jvm.exec) {own C : String} {index : Nat} (hown : s.vm.findClass own = some m.cls) (hlink : (Cond.classLink own index C).before args s = true) {a : Addr} (hE : Exact C a T)
    {g : JFrame} (hg : g.method = m) {rest : List Value} (hstack : g.stack = .ref a :: rest) (hdg : decode c.code g.pc = .ok (.checkcast index, 3)) :
    ∃ T', Stand p l e R s m args below meth c T' locs cells slots ∧ T'.heap = T.heap ∧ ∀ target, Steps p.tables e below (T'.setTop { g with pc := g.pc + 3, stack := .ref a :: rest }) target → Steps p.tables e below (T.setTop g) target := by
  obtain ⟨cB, h1, D, h2, h3, h4⟩ := hE
  have h1' : s.vm.findClass C = some cB := by rw [← X.warmed.alike.findClass]; exact h1
  obtain ⟨vm', X', st⟩ := X.checkcastYes hexec hown hlink h2 h4 h1' (by rw [h3]; exact Jvm.Free.SB.assignable_self _ _) hg hstack hdg
  exact ⟨_, X', rfl, fun t h => st t (by rw [← hstack] at h; exact h)⟩
namespace SEq
def yN : MethodName := ⟨"java/lang/String", "equals", "(Ljava/lang/Object;)Z"⟩
abbrev yB : ByteArray := jdk_42_method_66_code
theorem d0 : decode yB 0 = .ok (.aload_n 0, 1) := by decide +kernel
theorem d1 : decode yB 1 = .ok (.aload_n 1, 1) := by decide +kernel
theorem d2 : decode yB 2 = .ok (.if_acmp (.ne) 5, 3) := by decide +kernel
theorem d5 : decode yB 5 = .ok (.iconst 1, 1) := by decide +kernel
theorem d6 : decode yB 6 = .ok (.ireturn, 1) := by decide +kernel
theorem d7 : decode yB 7 = .ok (.aload_n 1, 1) := by decide +kernel
theorem d8 : decode yB 8 = .ok (.instanceof 10, 3) := by decide +kernel
theorem d11 : decode yB 11 = .ok (.ifCond (.eq) 43, 3) := by decide +kernel
theorem d14 : decode yB 14 = .ok (.aload_n 1, 1) := by decide +kernel
theorem d15 : decode yB 15 = .ok (.checkcast 10, 3) := by decide +kernel
theorem d18 : decode yB 18 = .ok (.astore_n 2, 1) := by decide +kernel
theorem d19 : decode yB 19 = .ok (.getstatic 38, 3) := by decide +kernel
theorem d22 : decode yB 22 = .ok (.ifCond (.eq) 14, 3) := by decide +kernel
theorem d25 : decode yB 25 = .ok (.aload_n 0, 1) := by decide +kernel
theorem d26 : decode yB 26 = .ok (.getfield 15, 3) := by decide +kernel
theorem d29 : decode yB 29 = .ok (.aload_n 2, 1) := by decide +kernel
theorem d30 : decode yB 30 = .ok (.getfield 15, 3) := by decide +kernel
theorem d33 : decode yB 33 = .ok (.if_icmp (.ne) 21, 3) := by decide +kernel
theorem d36 : decode yB 36 = .ok (.aload_n 0, 1) := by decide +kernel
theorem d37 : decode yB 37 = .ok (.getfield 9, 3) := by decide +kernel
theorem d40 : decode yB 40 = .ok (.aload_n 2, 1) := by decide +kernel
theorem d41 : decode yB 41 = .ok (.getfield 9, 3) := by decide +kernel
theorem d44 : decode yB 44 = .ok (.invokestatic 541, 3) := by decide +kernel
theorem d47 : decode yB 47 = .ok (.ifCond (.eq) 7, 3) := by decide +kernel
theorem d50 : decode yB 50 = .ok (.iconst 1, 1) := by decide +kernel
theorem d51 : decode yB 51 = .ok (.goto 4, 3) := by decide +kernel
theorem d54 : decode yB 54 = .ok (.iconst 0, 1) := by decide +kernel
theorem d55 : decode yB 55 = .ok (.ireturn, 1) := by decide +kernel
def site : List Cond := [.classLink "java/lang/String" 10 "java/lang/String", .fieldLink "java/lang/String" 38 "java/lang/String" "COMPACT_STRINGS" "Z", .fieldLink "java/lang/String" 15 "java/lang/String" "coder" "B", .fieldLink "java/lang/String" 9 "java/lang/String" "value" "[B", LEq.tab] ++ staticW "java/lang/String" 541 LEq.yN
def tab : Cond := tabOf yN yB 3 (some .boolean) site
def P (x t : Addr) (V : Cell) (cd : Int32) (n : Nat) (f : Nat → Int32) (y t' : Addr) (V' : Cell) (cd' : Int32) (k : Nat) (g : Nat → Int32) (z : Int32) (args : Array Value) (s : State) : Prop := args = #[.ref x, .ref y] ∧ Txt x t V cd n f s ∧ Txt y t' V' cd' k g s ∧ StaticIs s "java/lang/String" "COMPACT_STRINGS" "Z" (.int z) ∧ ¬ z = 0
/-- equals(Object) of two Strings: whether the texts are the same -/
theorem law (l : Launch) (x t : Addr) (V : Cell) (cd : Int32) (n : Nat) (f : Nat → Int32) (y t' : Addr) (V' : Cell) (cd' : Int32) (k : Nat) (g : Nat → Int32) (z : Int32) : Law l yN 2 1 1 14 yB 3 (some .boolean) site (P x t V cd n f y t' V' cd' k g z) (Says01 (SameT n f k g)) [] 0 0 := by
  refine Law.of_walk (plainFor_of_name (by decide +kernel)) (by decide +kernel) (by decide +kernel) (by decide) (fun _ _ h => by rw [h.1]; rfl) (fun _ U U' hal hh h => ⟨h.1, h.2.1.mv hal hh, h.2.2.1.mv hal hh, h.2.2.2.1.there hal hh, h.2.2.2.2⟩) (fun r U U' V V' h1 hal h2 h => Says01.mv r U U' V V' h1 hal h2 h) ?_
  intro p e s m args below meth c s₁ X0 hexec hbytes hml hret hlk hnm hown hh0 W hP
  obtain ⟨rfl, hx, hy, s1, hz⟩ := hP
  have c1 : Steps p.tables e below (s₁.setTop (entryFrame m #[.ref x, .ref y] 3)) (s₁.setTop (mkF m 2 #[.val (.ref x), .val (.ref y), .unset] [.ref y, .ref x])) := Steps.trans (entry rfl) (by
    show Steps p.tables e below (s₁.setTop (mkF m 0 #[.val (.ref x), .val (.ref y), .unset] [])) _
    refine XS.aloadN X0.here hexec rfl (hb hbytes d0) rfl rfl ?_
    refine XS.aloadN X0.here hexec rfl (hb hbytes d1) rfl rfl ?_
    exact Steps.refl _)
  by_cases hxy : x = y
  · have c2 : Steps p.tables e below (s₁.setTop (entryFrame m #[.ref x, .ref y] 3)) (s₁.setTop (mkF m 6 #[.val (.ref x), .val (.ref y), .unset] [.int 1])) := c1.trans (by
      refine acmpNo X0.here hexec rfl (hb hbytes d2) rfl rfl rfl (by simp [acmp, hxy]) ?_
      refine iconstV X0.here hexec rfl 1 (hb hbytes d5) (by decide) ?_
      exact Steps.refl _)
    subst hxy
    have ec : cd = cd' := by
      obtain ⟨D, fd, a1, a2, a3⟩ := hx.2.2.1
      obtain ⟨D', fd', b1, b2, b3⟩ := hy.2.2.1
      cases a1.symm.trans b1
      obtain ⟨q1, q2, q3, q4⟩ := a2.1
      obtain ⟨r1, r2, r3, r4⟩ := b2.1
      cases q4.symm.trans r4
      cases a3.symm.trans b3; rfl
    have et : t = t' := by
      obtain ⟨D, fd, a1, a2, a3⟩ := hx.2.1
      obtain ⟨D', fd', b1, b2, b3⟩ := hy.2.1
      cases a1.symm.trans b1
      obtain ⟨q1, q2, q3, q4⟩ := a2.1
      obtain ⟨r1, r2, r3, r4⟩ := b2.1
      cases q4.symm.trans r4
      cases a3.symm.trans b3; rfl
    subst ec et
    have ev : V = V' := by cases hx.2.2.2.1.1.symm.trans hy.2.2.2.1.1; rfl
    subst ev
    have hs : SameT n f k g := (Cod.eqv hx.2.2.2.2.1 hy.2.2.2.2.1 hx.2.2.2.2.2 hy.2.2.2.2.2).mp ⟨rfl, fun _ _ => rfl⟩
    exact ⟨s₁, some (.int 1), _, _, _, X0, rfl, rfl, rfl, (fun h => by cases h), ⟨1, rfl, hh0, Or.inl ⟨rfl, hs⟩⟩, fun fs hl => c2.trans (X0.ireturnOut hexec hret rfl (Or.inr (Or.inl rfl)) (hb hbytes d6) hl)⟩
  · have c2 : Steps p.tables e below (s₁.setTop (entryFrame m #[.ref x, .ref y] 3)) (s₁.setTop (mkF m 8 #[.val (.ref x), .val (.ref y), .unset] [.ref y])) := c1.trans (by
      refine acmpYes X0.here hexec rfl (pc0 := 2) rfl (hb hbytes d2) rfl rfl rfl (by simp [acmp, hxy]) (by decide) rfl ?_
      refine XS.aloadN X0.here hexec rfl (hb hbytes d7) rfl rfl ?_
      exact Steps.refl _)
    obtain ⟨T3, X3, q3, st3⟩ := cinst X0 hexec hown (wk W (.classLink "java/lang/String" 10 "java/lang/String")) (hy.mv X0.warmed.alike hh0).1 (g := (mkF m 8 #[.val (.ref x), .val (.ref y), .unset] [.ref y])) rfl (rest := []) rfl (hb hbytes d8)
    have hh3 := q3.trans hh0
    have c4 : Steps p.tables e below (s₁.setTop (entryFrame m #[.ref x, .ref y] 3)) (T3.setTop (mkF m 15 #[.val (.ref x), .val (.ref y), .unset] [.ref y])) := (c2.trans (st3 _ (Steps.refl _))).trans (by
      refine XS.ifNo X3.here hexec rfl (hb hbytes d11) rfl (i0_eq_f (by decide)) ?_
      refine XS.aloadN X3.here hexec rfl (hb hbytes d14) rfl rfl ?_
      exact Steps.refl _)
    obtain ⟨T5, X5, q5, st5⟩ := cself X3 hexec hown (wk W (.classLink "java/lang/String" 10 "java/lang/String")) (hy.mv X3.warmed.alike hh3).1 (g := (mkF m 15 #[.val (.ref x), .val (.ref y), .unset] [.ref y])) rfl (rest := []) rfl (hb hbytes d15)
    have hh5 := q5.trans hh3
    have c6 : Steps p.tables e below (s₁.setTop (entryFrame m #[.ref x, .ref y] 3)) (T5.setTop (mkF m 19 #[.val (.ref x), .val (.ref y), .val (.ref y)] [])) := (c4.trans (st5 _ (Steps.refl _))).trans (by
      refine XS.astoreN X5.here hexec rfl (hb hbytes d18) rfl rfl rfl ?_
      exact Steps.refl _)
    obtain ⟨T7, X7, q7, st7⟩ := X5.sget hexec hown (wk W (.fieldLink "java/lang/String" 38 "java/lang/String" "COMPACT_STRINGS" "Z")) s1 (fun _ _ h => by rw [hh5]; exact h) (g := (mkF m 19 #[.val (.ref x), .val (.ref y), .val (.ref y)] [])) rfl (hb hbytes d19)
    have hh7 := q7.trans hh5
    have c8 : Steps p.tables e below (s₁.setTop (entryFrame m #[.ref x, .ref y] 3)) (T7.setTop (mkF m 26 #[.val (.ref x), .val (.ref y), .val (.ref y)] [.ref x])) := (c6.trans (st7 _ (Steps.refl _))).trans (by
      refine XS.ifNo X7.here hexec rfl (hb hbytes d22) rfl (i0_eq_f hz) ?_
      refine XS.aloadN X7.here hexec rfl (hb hbytes d25) rfl rfl ?_
      exact Steps.refl _)
    obtain ⟨T9, X9, q9, st9⟩ := X7.hget hexec hown (wk W (.fieldLink "java/lang/String" 15 "java/lang/String" "coder" "B")) (hx.mv X7.warmed.alike hh7).2.2.1 (g := (mkF m 26 #[.val (.ref x), .val (.ref y), .val (.ref y)] [.ref x])) rfl (rest := []) rfl (hb hbytes d26)
    have hh9 := q9.trans hh7
    have c10 : Steps p.tables e below (s₁.setTop (entryFrame m #[.ref x, .ref y] 3)) (T9.setTop (mkF m 30 #[.val (.ref x), .val (.ref y), .val (.ref y)] [.ref y, .int cd])) := (c8.trans (st9 _ (Steps.refl _))).trans (by
      refine XS.aloadN X9.here hexec rfl (hb hbytes d29) rfl rfl ?_
      exact Steps.refl _)
    obtain ⟨T11, X11, q11, st11⟩ := X9.hget hexec hown (wk W (.fieldLink "java/lang/String" 15 "java/lang/String" "coder" "B")) (hy.mv X9.warmed.alike hh9).2.2.1 (g := (mkF m 30 #[.val (.ref x), .val (.ref y), .val (.ref y)] [.ref y, .int cd])) rfl (rest := [.int cd]) rfl (hb hbytes d30)
    have hh11 := q11.trans hh9
    have c12 : Steps p.tables e below (s₁.setTop (entryFrame m #[.ref x, .ref y] 3)) (T11.setTop (mkF m 33 #[.val (.ref x), .val (.ref y), .val (.ref y)] [.int cd', .int cd])) := c10.trans (st11 _ (Steps.refl _))
    by_cases hcd : cd = cd'
    · subst hcd
      have c13 : Steps p.tables e below (s₁.setTop (entryFrame m #[.ref x, .ref y] 3)) (T11.setTop (mkF m 37 #[.val (.ref x), .val (.ref y), .val (.ref y)] [.ref x])) := c12.trans (by
        refine XS.icmpNo X11.here hexec rfl (hb hbytes d33) rfl (ii_ne_f rfl) ?_
        refine XS.aloadN X11.here hexec rfl (hb hbytes d36) rfl rfl ?_
        exact Steps.refl _)
      obtain ⟨T14, X14, q14, st14⟩ := X11.hget hexec hown (wk W (.fieldLink "java/lang/String" 9 "java/lang/String" "value" "[B")) (hx.mv X11.warmed.alike hh11).2.1 (g := (mkF m 37 #[.val (.ref x), .val (.ref y), .val (.ref y)] [.ref x])) rfl (rest := []) rfl (hb hbytes d37)
      have hh14 := q14.trans hh11
      have c15 : Steps p.tables e below (s₁.setTop (entryFrame m #[.ref x, .ref y] 3)) (T14.setTop (mkF m 41 #[.val (.ref x), .val (.ref y), .val (.ref y)] [.ref y, .ref t])) := (c13.trans (st14 _ (Steps.refl _))).trans (by
        refine XS.aloadN X14.here hexec rfl (hb hbytes d40) rfl rfl ?_
        exact Steps.refl _)
      obtain ⟨T16, X16, q16, st16⟩ := X14.hget hexec hown (wk W (.fieldLink "java/lang/String" 9 "java/lang/String" "value" "[B")) (hy.mv X14.warmed.alike hh14).2.1 (g := (mkF m 41 #[.val (.ref x), .val (.ref y), .val (.ref y)] [.ref y, .ref t])) rfl (rest := [.ref t]) rfl (hb hbytes d41)
      have hh16 := q16.trans hh14
      have c17 : Steps p.tables e below (s₁.setTop (entryFrame m #[.ref x, .ref y] 3)) (T16.setTop (mkF m 44 #[.val (.ref x), .val (.ref y), .val (.ref y)] [.ref t', .ref t])) := c15.trans (st16 _ (Steps.refl _))
      obtain ⟨v18, T18, X18, E18, g18⟩ := X16.callS hexec (LEq.law l t V t' V') hown (wks W (staticW "java/lang/String" 541 LEq.yN)) (wk W LEq.tab) (W := 0) (Nat.le_of_ble_eq_true rfl) (Nat.le_of_ble_eq_true rfl) (Nat.le_refl _) (Nat.le_refl _) (g := (mkF m 44 #[.val (.ref x), .val (.ref y), .val (.ref y)] [.ref t', .ref t])) rfl (by rw [hml]; rfl) c17 (argsL := [.ref t, .ref t']) (rest := []) rfl rfl (by show 2 * 0 + 0 ≤ _; decide) (hb hbytes d44) (⟨rfl, hx.2.2.2.1.mv X16.warmed.alike hh16, hx.2.2.2.2.1.ty, hy.2.2.2.1.mv X16.warmed.alike hh16, hy.2.2.2.2.1.ty⟩)
      obtain ⟨v, rfl, q18, hv⟩ := E18
      have iff := Cod.eqv hx.2.2.2.2.1 hy.2.2.2.2.1 hx.2.2.2.2.2 hy.2.2.2.2.2
      rcases hv with ⟨rfl, he⟩ | ⟨rfl, he⟩
      · have c19 : Steps p.tables e below (s₁.setTop (entryFrame m #[.ref x, .ref y] 3)) (T18.setTop (mkF m 55 #[.val (.ref x), .val (.ref y), .val (.ref y)] [.int 1])) := Steps.trans g18 (by
          refine XS.ifNo X18.here hexec rfl (hb hbytes d47) rfl (i0_eq_f (by decide)) ?_
          refine iconstV X18.here hexec rfl 1 (hb hbytes d50) (by decide) ?_
          refine XS.goto X18.here hexec rfl (pc0 := 51) rfl (hb hbytes d51) (by decide) rfl ?_
          exact Steps.refl _)
        exact ⟨T18, some (.int 1), _, _, _, X18, rfl, rfl, rfl, (fun h => by cases h), ⟨1, rfl, q18.trans hh16, Or.inl ⟨rfl, iff.mp he⟩⟩, fun fs hl => c19.trans (X18.ireturnOut hexec hret rfl (Or.inr (Or.inl rfl)) (hb hbytes d55) hl)⟩
      · have c19 : Steps p.tables e below (s₁.setTop (entryFrame m #[.ref x, .ref y] 3)) (T18.setTop (mkF m 55 #[.val (.ref x), .val (.ref y), .val (.ref y)] [.int 0])) := Steps.trans g18 (by
          refine XS.ifYes X18.here hexec rfl (pc0 := 47) rfl (hb hbytes d47) rfl (i0_eq_t rfl) (by decide) rfl ?_
          refine iconstV X18.here hexec rfl 0 (hb hbytes d54) (by decide) ?_
          exact Steps.refl _)
        exact ⟨T18, some (.int 0), _, _, _, X18, rfl, rfl, rfl, (fun h => by cases h), ⟨0, rfl, q18.trans hh16, Or.inr ⟨rfl, fun q => he (iff.mpr q)⟩⟩, fun fs hl => c19.trans (X18.ireturnOut hexec hret rfl (Or.inr (Or.inl rfl)) (hb hbytes d55) hl)⟩
    · have c13 : Steps p.tables e below (s₁.setTop (entryFrame m #[.ref x, .ref y] 3)) (T11.setTop (mkF m 55 #[.val (.ref x), .val (.ref y), .val (.ref y)] [.int 0])) := c12.trans (by
        refine XS.icmpYes X11.here hexec rfl (pc0 := 33) rfl (hb hbytes d33) rfl (ii_ne_t hcd) (by decide) rfl ?_
        refine iconstV X11.here hexec rfl 0 (hb hbytes d54) (by decide) ?_
        exact Steps.refl _)
      exact ⟨T11, some (.int 0), _, _, _, X11, rfl, rfl, rfl, (fun h => by cases h), ⟨0, rfl, hh11, Or.inr ⟨rfl, Cod.dif hx.2.2.2.2.1 hy.2.2.2.2.1 hcd⟩⟩, fun fs hl => c13.trans (X11.ireturnOut hexec hret rfl (Or.inr (Or.inl rfl)) (hb hbytes d55) hl)⟩
theorem pays {l : Launch} {R : Room} {p : Program} {e : Env} {below : List Frame} {s : State} {sargs : Array Value} {len W : Nat} (x t : Addr) (V : Cell) (cd : Int32) (n : Nat) (f : Nat → Int32) (y t' : Addr) (V' : Cell) (cd' : Int32) (k : Nat) (g : Nat → Int32) (z : Int32) (htab : tab.before sargs s = true) (hfr : 2 ≤ R.frames) (hlo : W + 28 ≤ R.locals) :
    Back l R p e below s sargs yN len W (fun A₁ a₁ => A₁.cells + 0 ≤ R.cells ∧ A₁.slots + 0 ≤ R.slots ∧ P x t V cd n f y t' V' cd' k g z a₁ A₁.U) (fun A₁ _ v₁ B₁ => Says01 (SameT n f k g) v₁ A₁.U B₁.U ∧ B₁.locs = A₁.locs ++ [] ∧ B₁.cells = A₁.cells + 0 ∧ B₁.slots = A₁.slots + 0) :=
  (law l x t V cd n f y t' V' cd' k g z).pays htab hfr (by omega)
end SEq
end StrChars
namespace StrChars.Road
open Jvm Sem ClassFile Op Lib Jvm.Stand Jvm.Free Jvm.Free.XT
open Jvm.Lib.Cold (StaticIs)
/-- the words of String.equals(Object) -/
abbrev wordsEq : List Jvm.Cond := [.code SEq.yN SEq.yB 3 (some .boolean), .initialized ST, .classLink ST 10 ST, .fieldLink ST 38 ST "COMPACT_STRINGS" "Z", .fieldLink ST 15 ST "coder" "B", .fieldLink ST 9 ST "value" "[B", .methodLink ST 541 LEq.yN, .static LEq.yN, .code LEq.yN LEq.yB 3 (some .boolean), .initialized "java/lang/StringLatin1"]
theorem tabEq_of {a : Array Value} {s : State} (h : ∀ w ∈ wordsEq, w.before a s = true) : SEq.tab.before a s = true := by
  have hl : LEq.tab.before a s = true := unparts (wk h (.code LEq.yN LEq.yB 3 (some .boolean))) (wks h (.initialized LEq.yN.cls :: LEq.site))
  have q := consq hl h
  exact unparts (wk q (.code SEq.yN SEq.yB 3 (some .boolean))) (wks q (.initialized SEq.yN.cls :: SEq.site))
theorem movedEq {Z s : State} {a0 args : Array Value} (hZ : Z.Warmed39 s.vm) (hw : ∀ d ∈ wordsEq, d.before a0 Z = true) : ∀ d ∈ wordsEq, d.before args s = true := fun d hd => by
  have t : ∀ d ∈ wordsEq, (d.onTables && d.keepsFace) = true := by decide +kernel
  exact RoadKit.mv hZ (hw d hd) (t d hd)
/-- the road's facts of a String, as the laws ask it -/
theorem txt_of {Z U : State} {a0 : Array Value} {kI : Nat} (wi : (Jvm.Cond.instantiable ST kI).before a0 Z = true) (al : Z.vm.Alike U.vm) {x t : Addr} {kb : ClassId} {cs : List Int32} {cd N2 : Int32} {vs : List Value} (E : RoadKit.Exa Z U.heap x ST) (V : RoadKit.Fld Z U.heap x ST "value" "[B" (.ref t)) (C : RoadKit.Fld Z U.heap x ST "coder" "B" (.int cd)) (K : RoadKit.Arv Z U.heap t kb .byte N2 vs (.int 0)) (hc : CodA cs cd N2 vs) (hb : ∀ c ∈ cs, ¬ c < 0 ∧ ¬ (65535 : Int32) < c) (l2 : cs.length ≤ 4000) :
    ∃ A, Txt x t A cd cs.length (fun j => cs.getD j 0) U := by
  obtain ⟨A, K1, K2, K3, K4, K5, K6⟩ := K
  have hcod := hc.cod (by omega) K3 K5
  obtain ⟨D, fV, fC, hB, F1, F2, g1, g2, -, -⟩ := strObj wi al E V C
  exact ⟨A, ⟨_, hB.2.2.1, D, hB.1, rfl, by cases q : D.vm <;> first | rfl | exact absurd q (hB.2.1.2 _)⟩, Has.of hB F1 g1, Has.of hB F2 g2, ⟨K1.1, State.isArrayOf_alike al K1.2.1, K1.2.2, by rcases hcod with ⟨-, q, -⟩ | ⟨-, q, -⟩ <;> omega⟩, hcod, fun j hj => by
    have e : cs.getD j 0 = cs[j] := by simp [List.getD_eq_getElem?_getD, hj]
    show ¬ cs.getD j 0 < 0 ∧ ¬ 65535 < cs.getD j 0
    rw [e]; exact hb _ (List.getElem_mem _)⟩
theorem same_list (cs ds : List Int32) : SameT cs.length (fun j => cs.getD j 0) ds.length (fun j => ds.getD j 0) ↔ cs = ds := by
  constructor
  · rintro ⟨e, q⟩
    refine List.ext_getElem e fun j h1 h2 => ?_
    have := q j h1
    simpa [List.getD_eq_getElem?_getD, h1, h2] using this
  · rintro rfl
    exact ⟨rfl, fun _ _ => rfl⟩
/-- **equals(Object) OF TWO SUCH STRINGS**: 1 just where the chars are the same -/
theorem eqW {p : Program} {l : Launch} {e : Env} {R : Room} {s : State} {args : Array Value} {below : List Frame} {len W : Nat} {Z : State} {a0 : Array Value} {h : Heap} (hZ : Z.Warmed39 s.vm) (hw : ∀ d ∈ wordsEq, d.before a0 Z = true) {kI : Nat} (wi : (Jvm.Cond.instantiable ST kI).before a0 Z = true)
    {x t : Addr} {kb : ClassId} {cs : List Int32} {cd N2 : Int32} {vs : List Value} (E : RoadKit.Exa Z h x ST) (V : RoadKit.Fld Z h x ST "value" "[B" (.ref t)) (C : RoadKit.Fld Z h x ST "coder" "B" (.int cd)) (K : RoadKit.Arv Z h t kb .byte N2 vs (.int 0)) (hc : CodA cs cd N2 vs) (hb : ∀ c ∈ cs, ¬ c < 0 ∧ ¬ (65535 : Int32) < c) (l2 : cs.length ≤ 4000)
    {y t' : Addr} {kb' : ClassId} {ds : List Int32} {cd' N2' : Int32} {vs' : List Value} (E' : RoadKit.Exa Z h y ST) (V' : RoadKit.Fld Z h y ST "value" "[B" (.ref t')) (C' : RoadKit.Fld Z h y ST "coder" "B" (.int cd')) (K' : RoadKit.Arv Z h t' kb' .byte N2' vs' (.int 0)) (hc' : CodA ds cd' N2' vs') (hb' : ∀ c ∈ ds, ¬ c < 0 ∧ ¬ (65535 : Int32) < c) (l2' : ds.length ≤ 4000)
    {z : Int32} (S : RoadKit.Sta Z h ST "COMPACT_STRINGS" "Z" (.int z)) (hz : ¬ z = 0) (hfr : 2 ≤ R.frames) (hlo : W + 28 ≤ R.locals) :
    Back l R p e below s args (⟨"java/lang/String", "equals", "(Ljava/lang/Object;)Z"⟩ : MethodName) len W (fun P a => a = #[.ref x, .ref y] ∧ P.U.heap = h ∧ P.cells + 0 ≤ R.cells ∧ P.slots + 0 ≤ R.slots)
      (fun P _ v B => ∃ L, (((v = some (.int 1) ∧ cs = ds) ∨ (v = some (.int 0) ∧ ¬ cs = ds)) ∧ L = [] ∧ B.U.heap = h) ∧ B.locs = P.locs ++ L ∧ B.cells = P.cells + 0 ∧ B.slots = P.slots + 0) := by
  intro m meth c P g ig mk a X hg hsize hdg hW hn hp'
  obtain ⟨rfl, rfl, r1, r2⟩ := hp'
  have al : Z.vm.Alike P.U.vm := hZ.alike.trans X.warmed.alike
  obtain ⟨A, hx⟩ := txt_of wi al E V C K hc hb l2
  obtain ⟨A', hy⟩ := txt_of wi al E' V' C' K' hc' hb' l2'
  obtain ⟨v, B, X', ⟨⟨w, hv, hh, hq⟩, hl, hk, hs⟩, st⟩ := SEq.pays x t A cd cs.length (fun j => cs.getD j 0) y t' A' cd' ds.length (fun j => ds.getD j 0) z (tabEq_of (movedEq hZ hw)) hfr hlo m meth c P g ig mk _ X hg hsize hdg hW hn ⟨r1, r2, rfl, hx, hy, sta_is al S, hz⟩
  refine ⟨v, B, X', ⟨[], ⟨?_, rfl, hh⟩, hl, hk, hs⟩, st⟩
  rcases hq with ⟨rfl, q⟩ | ⟨rfl, q⟩
  · exact Or.inl ⟨hv, (same_list cs ds).mp q⟩
  · exact Or.inr ⟨hv, fun e => q ((same_list cs ds).mpr e)⟩
end StrChars.Road
namespace StrChars
open Jvm Sem ClassFile Op Lib Jvm.Stand Jvm.Free.XT Jvm.Free.ALB Jvm.Free.JM Jvm.Free
open Jvm.Lib.Cold (StaticIs)
namespace ChN
def yN : MethodName := ⟨"java/lang/String", "charAt", "(I)C"⟩
abbrev yB : ByteArray := jdk_42_method_56_code
theorem d0 : decode yB 0 = .ok (.aload_n 0, 1) := by decide +kernel
theorem d1 : decode yB 1 = .ok (.invokevirtual 492, 3) := by decide +kernel
theorem d4 : decode yB 4 = .ok (.ifCond (.eq) 12, 3) := by decide +kernel
theorem d7 : decode yB 7 = .ok (.aload_n 0, 1) := by decide +kernel
theorem d8 : decode yB 8 = .ok (.getfield 9, 3) := by decide +kernel
theorem d11 : decode yB 11 = .ok (.iload_n 1, 1) := by decide +kernel
theorem d12 : decode yB 12 = .ok (.invokestatic 495, 3) := by decide +kernel
theorem d15 : decode yB 15 = .ok (.ireturn, 1) := by decide +kernel
def site : List Cond := [.fieldLink "java/lang/String" 9 "java/lang/String" "value" "[B", IsL.tab, LChA.tab] ++ virtW "java/lang/String" 492 "java/lang/String" IsL.yN IsL.yN ++ staticW "java/lang/String" 495 LChA.yN
def tab : Cond := tabOf yN yB 2 (some .char) site
def P (x t : Addr) (V : Cell) (n : Nat) (f : Nat → Int32) (z : Int32) (fm : Value) (i : Nat) (args : Array Value) (s : State) : Prop := args = #[.ref x, .int (Int32.ofNat i)] ∧ Txt x t V 0 n f s ∧ i < n ∧ StaticIs s "java/lang/String" "COMPACT_STRINGS" "Z" (.int z) ∧ ¬ z = 0 ∧ StaticIs s "jdk/internal/util/Preconditions" "SIOOBE_FORMATTER" "Ljava/util/function/BiFunction;" fm ∧ fm.isRef = true
def E (f : Nat → Int32) (i : Nat) (r : Option Value) (s u : State) : Prop := XT.PureE (some (.int (f i))) r s u
/-- charAt(i) of a Latin-1 String of n chars, i < n: f i -/
theorem law (l : Launch) (x t : Addr) (V : Cell) (n : Nat) (f : Nat → Int32) (z : Int32) (fm : Value) (i : Nat) : Law l yN 2 1 3 40 yB 2 (some .char) site (P x t V n f z fm i) (E f i) [] 0 0 := by
  refine Law.of_walk (plainFor_of_name (by decide +kernel)) (by decide +kernel) (by decide +kernel) (by decide) (fun _ _ h => by rw [h.1]; rfl) (fun _ U U' hal hh h => ⟨h.1, h.2.1.mv hal hh, h.2.2.1, h.2.2.2.1.there hal hh, h.2.2.2.2.1, h.2.2.2.2.2.1.there hal hh, h.2.2.2.2.2.2⟩) (fun r U U' V V' h1 hal h2 h => XT.PureE.mv r U U' V V' h1 hal h2 h) ?_
  intro p e s m args below meth c s₁ X0 hexec hbytes hml hret hlk hnm hown hh0 W hP
  obtain ⟨rfl, hx, hi, s1, hz, s3, rf⟩ := hP
  have v31 := hx.2.2.2.1.2.2.2
  have hr := hx.2.2.2.2.2 i hi
  have hx0 := hx.mv X0.warmed.alike hh0
  have c1 : Steps p.tables e below (s₁.setTop (entryFrame m #[.ref x, .int (Int32.ofNat i)] 2)) (s₁.setTop (mkF m 1 #[.val (.ref x), .val (.int (Int32.ofNat i))] [.ref x])) := Steps.trans (entry rfl) (by
    show Steps p.tables e below (s₁.setTop (mkF m 0 #[.val (.ref x), .val (.int (Int32.ofNat i))] [])) _
    refine XS.aloadN X0.here hexec rfl (hb hbytes d0) rfl rfl ?_
    exact Steps.refl _)
  obtain ⟨v2, T2, X2, E2, g2⟩ := X0.callV hexec (IsL.law l x 0 z) hown (wks W (virtW "java/lang/String" 492 "java/lang/String" IsL.yN IsL.yN)) rfl (by decide) (wk W IsL.tab) (W := 0) (Nat.le_of_ble_eq_true rfl) (Nat.le_of_ble_eq_true rfl) (Nat.le_refl _) (Nat.le_refl _) (hx0.1.fc X0.warmed.alike) hx0.1.is (g := (mkF m 1 #[.val (.ref x), .val (.int (Int32.ofNat i))] [.ref x])) rfl (by rw [hml]; rfl) c1 (argsL := []) (rest := []) rfl rfl (by show 2 * 0 + 0 ≤ _; decide) (hb hbytes d1) (⟨rfl, hx0.2.2.1, hx.2.2.2.2.1.cd, s1.there X0.warmed.alike hh0, hz⟩)
  obtain ⟨rfl, q2⟩ := E2
  have hh2 := q2.trans hh0
  have hx2 := hx.mv X2.warmed.alike hh2
  obtain ⟨-, k1, k2⟩ | ⟨k0, -⟩ := hx.2.2.2.2.1
  · have c3 : Steps p.tables e below (s₁.setTop (entryFrame m #[.ref x, .int (Int32.ofNat i)] 2)) (T2.setTop (mkF m 8 #[.val (.ref x), .val (.int (Int32.ofNat i))] [.ref x])) := Steps.trans g2 (by
      refine XS.ifNo X2.here hexec rfl (hb hbytes d4) rfl (i0_eq_f (by decide)) ?_
      refine XS.aloadN X2.here hexec rfl (hb hbytes d7) rfl rfl ?_
      exact Steps.refl _)
    obtain ⟨T4, X4, q4, st4⟩ := X2.hget hexec hown (wk W (.fieldLink "java/lang/String" 9 "java/lang/String" "value" "[B")) hx2.2.1 (g := (mkF m 8 #[.val (.ref x), .val (.int (Int32.ofNat i))] [.ref x])) rfl (rest := []) rfl (hb hbytes d8)
    have hh4 := q4.trans hh2
    have c5 : Steps p.tables e below (s₁.setTop (entryFrame m #[.ref x, .int (Int32.ofNat i)] 2)) (T4.setTop (mkF m 12 #[.val (.ref x), .val (.int (Int32.ofNat i))] [.int (Int32.ofNat i), .ref t])) := (c3.trans (st4 _ (Steps.refl _))).trans (by
      refine XS.iloadN X4.here hexec rfl (hb hbytes d11) rfl ?_
      exact Steps.refl _)
    obtain ⟨v6, T6, X6, E6, g6⟩ := X4.callS hexec (LChA.law l t V i (lo8 (f i)) fm) hown (wks W (staticW "java/lang/String" 495 LChA.yN)) (wk W LChA.tab) (W := 0) (Nat.le_of_ble_eq_true rfl) (Nat.le_of_ble_eq_true rfl) (Nat.le_refl _) (Nat.le_refl _) (g := (mkF m 12 #[.val (.ref x), .val (.int (Int32.ofNat i))] [.int (Int32.ofNat i), .ref t])) rfl (by rw [hml]; rfl) c5 (argsL := [.ref t, .int (Int32.ofNat i)]) (rest := []) rfl rfl (by show 2 * 0 + 0 ≤ _; decide) (hb hbytes d12) (⟨rfl, hx.2.2.2.1.mv X4.warmed.alike hh4, (k2 i hi).1, s3.there X4.warmed.alike hh4, rf⟩)
    obtain ⟨rfl, q6⟩ := E6
    rw [chr8_lo8 hr.1 (k2 i hi).2] at g6
    exact ⟨T6, some (.int (f i)), _, _, _, X6, rfl, rfl, rfl, (fun h => by cases h), ⟨rfl, q6.trans hh4⟩, fun fs hl => Steps.trans g6 (X6.ireturnOut hexec hret (narrow_ch hr.1 hr.2) (Or.inr (Or.inr (Or.inr (Or.inl rfl)))) (hb hbytes d15) hl)⟩
  · exact absurd k0 (by decide)
theorem pays {l : Launch} {R : Room} {p : Program} {e : Env} {below : List Frame} {s : State} {sargs : Array Value} {len W : Nat} (x t : Addr) (V : Cell) (n : Nat) (f : Nat → Int32) (z : Int32) (fm : Value) (i : Nat) (htab : tab.before sargs s = true) (hfr : 4 ≤ R.frames) (hlo : W + 53 ≤ R.locals) :
    Back l R p e below s sargs yN len W (fun A₁ a₁ => A₁.cells + 0 ≤ R.cells ∧ A₁.slots + 0 ≤ R.slots ∧ P x t V n f z fm i a₁ A₁.U) (fun A₁ _ v₁ B₁ => E f i v₁ A₁.U B₁.U ∧ B₁.locs = A₁.locs ++ [] ∧ B₁.cells = A₁.cells + 0 ∧ B₁.slots = A₁.slots + 0) :=
  (law l x t V n f z fm i).pays htab hfr (by omega)
end ChN
end StrChars
namespace StrChars.Road
open Jvm Sem ClassFile Op Lib Jvm.Stand Jvm.Free Jvm.Free.XT
open Jvm.Lib.Cold (StaticIs)
/-- the words of String.charAt(int), the Latin-1 road alone -/
abbrev wordsChN : List Jvm.Cond := [.code ChN.yN ChN.yB 2 (some .char), .initialized ST, .fieldLink ST 9 ST "value" "[B", .fieldLink ST 38 ST "COMPACT_STRINGS" "Z", .fieldLink ST 15 ST "coder" "B", .code IsL.yN IsL.yB 1 (some .boolean), .methodLink ST 492 IsL.yN, .declares IsL.yN, .selects ST IsL.yN IsL.yN, .instanceMethod IsL.yN,
  .methodLink ST 495 LChA.yN, .static LChA.yN, .code LChA.yN LChA.yB 2 (some .char), .initialized "java/lang/StringLatin1", .methodLink "java/lang/StringLatin1" 9 JO.Str_checkIndex.yN, .static JO.Str_checkIndex.yN, .code JO.Str_checkIndex.yN JO.Str_checkIndex.yB 2 none,
  .fieldLink ST 1053 "jdk/internal/util/Preconditions" "SIOOBE_FORMATTER" "Ljava/util/function/BiFunction;", .methodLink ST 1059 JC.PreCheck.yN, .static JC.PreCheck.yN, .code JC.PreCheck.yN JC.PreCheck.yB 3 (some .int), .initialized "jdk/internal/util/Preconditions"]
theorem tabChN_of {a : Array Value} {s : State} (h : ∀ w ∈ wordsChN, w.before a s = true) : ChN.tab.before a s = true := by
  have hp : JC.PreCheck.tab.before a s = true := unparts (wk h (.code JC.PreCheck.yN JC.PreCheck.yB 3 (some .int))) (wks h (.initialized JC.PreCheck.yN.cls :: JC.PreCheck.site))
  have qk := consq hp h
  have hk : JO.Str_checkIndex.tab.before a s = true := unparts (wk qk (.code JO.Str_checkIndex.yN JO.Str_checkIndex.yB 2 none)) (wks qk (.initialized JO.Str_checkIndex.yN.cls :: JO.Str_checkIndex.site))
  have ql := consq hk h
  have hl : LChA.tab.before a s = true := unparts (wk ql (.code LChA.yN LChA.yB 2 (some .char))) (wks ql (.initialized LChA.yN.cls :: LChA.site))
  have hi : IsL.tab.before a s = true := unparts (wk h (.code IsL.yN IsL.yB 1 (some .boolean))) (wks h (.initialized IsL.yN.cls :: IsL.site))
  have q := consq hi (consq hl h)
  exact unparts (wk q (.code ChN.yN ChN.yB 2 (some .char))) (wks q (.initialized ChN.yN.cls :: ChN.site))
theorem movedChN {Z s : State} {a0 args : Array Value} (hZ : Z.Warmed39 s.vm) (hw : ∀ d ∈ wordsChN, d.before a0 Z = true) : ∀ d ∈ wordsChN, d.before args s = true := fun d hd => by
  have t : ∀ d ∈ wordsChN, (d.onTables && d.keepsFace) = true := by decide +kernel
  exact RoadKit.mv hZ (hw d hd) (t d hd)
/-- **charAt(i) OF A LATIN-1 STRING**, i < n: the char -/
theorem chN {p : Program} {l : Launch} {e : Env} {R : Room} {s : State} {args : Array Value} {below : List Frame} {len W : Nat} {Z : State} {a0 : Array Value} {h : Heap} (hZ : Z.Warmed39 s.vm) (hw : ∀ d ∈ wordsChN, d.before a0 Z = true) {kI : Nat} (wi : (Jvm.Cond.instantiable ST kI).before a0 Z = true)
    {x t : Addr} {kb : ClassId} {cs : List Int32} {N2 z : Int32} {vs : List Value} {fm : Value} {i : Nat} {j : Int32} (E : RoadKit.Exa Z h x ST) (V : RoadKit.Fld Z h x ST "value" "[B" (.ref t)) (C : RoadKit.Fld Z h x ST "coder" "B" (.int 0)) (K : RoadKit.Arv Z h t kb .byte N2 vs (.int 0)) (hc : CodA cs 0 N2 vs) (hb : ∀ c ∈ cs, ¬ c < 0 ∧ ¬ (65535 : Int32) < c)
    (S : RoadKit.Sta Z h ST "COMPACT_STRINGS" "Z" (.int z)) (hz : ¬ z = 0) (F : RoadKit.Sta Z h "jdk/internal/util/Preconditions" "SIOOBE_FORMATTER" "Ljava/util/function/BiFunction;" fm) (rf : fm.isRef = true) (l2 : cs.length ≤ 4000) (hi : i < cs.length) (hj : j = Int32.ofNat i) (hfr : 4 ≤ R.frames) (hlo : W + 53 ≤ R.locals) :
    Back l R p e below s args (⟨"java/lang/String", "charAt", "(I)C"⟩ : MethodName) len W (fun P a => a = #[.ref x, .int j] ∧ P.U.heap = h ∧ P.cells + 0 ≤ R.cells ∧ P.slots + 0 ≤ R.slots)
      (fun P _ v B => ∃ L, (v = some (.int (cs.getD i 0)) ∧ L = [] ∧ B.U.heap = h) ∧ B.locs = P.locs ++ L ∧ B.cells = P.cells + 0 ∧ B.slots = P.slots + 0) := by
  subst hj
  intro m meth c P g ig mk a X hg hsize hdg hW hn hp'
  obtain ⟨rfl, rfl, r1, r2⟩ := hp'
  have al : Z.vm.Alike P.U.vm := hZ.alike.trans X.warmed.alike
  obtain ⟨A, hx⟩ := txt_of wi al E V C K hc hb l2
  obtain ⟨v, B, X', ⟨⟨hv, hh⟩, hl, hk, hs⟩, st⟩ := ChN.pays x t A cs.length (fun j => cs.getD j 0) z fm i (tabChN_of (movedChN hZ hw)) hfr hlo m meth c P g ig mk _ X hg hsize hdg hW hn ⟨r1, r2, rfl, hx, hi, sta_is al S, hz, sta_is al F, rf⟩
  exact ⟨v, B, X', ⟨[], ⟨hv, rfl, hh⟩, hl, hk, hs⟩, st⟩
/-- what backV says of its String, as the contracts of this text ask it: cs's low bytes, coder 0 -/
theorem codOf {cs : List Int32} {n : Nat} (hn : cs.length = n) (hb : ∀ c ∈ cs, ¬ 255 < c) : CodA cs 0 (Int32.ofNat n) ((cs.map lo8).map Value.int) := Or.inl ⟨rfl, by rw [hn], by simp [List.map_map, Function.comp_def], hb⟩
end StrChars.Road
end Jvm.Pilot.@@N@@
namespace Jvm.Pilot.@@N@@
open Jvm Jvm.ClassFile Sem Op Lib Jvm.Free Jvm.Stand Jvm.LawKit Jvm.RoadKit Bundle Jvm.Pilot.@@N@@.Jvm.D
section OwnKit
variable {p : Program} {l : Launch} {e : Env} {R : Room} {s : State} {m : MethodId} {args : Array Value} {below : List Frame} {meth : Method} {c : Code} {Z : State} {a0 : Array Value} {EL : List (String × Nat)} {own : String} {n0 : Nat} {T : State} {vm0 : Vm} {h : Heap} {cells slots : Nat} {Q : Option Value → Heap → Prop}
theorem own_extRefl (h : Heap) : Ext h h := ⟨Nat.le_refl _, fun _ _ q => q⟩
theorem own_extTrans {h h1 h2 : Heap} (A : Ext h h1) (B : Ext h1 h2) : Ext h h2 := ⟨Nat.le_trans A.1 B.1, fun a c q => B.2 _ _ (A.2 _ _ q)⟩
theorem own_extKeep {h h1 : Heap} (K : Keep h h1 []) : Ext h h1 := ⟨K.1, fun a c q => K.2.1 a c q nin0⟩
theorem own_keepExt {h h1 : Heap} {ws : List Addr} (E : Ext h h1) : Keep h h1 ws := (Keep.refl h ws).ext E
theorem own_extWr {h h1 h2 : Heap} {a : Addr} {sl : Nat} {v : Value} (E : Ext h h1) (W : Wr h1 h2 a sl v) (q : h.size ≤ a) : Ext h h2 := own_extKeep ((own_keepExt E).wr W (Or.inr q))
theorem own_extK {h h1 h2 : Heap} {ws : List Addr} (E : Ext h h1) (K : Keep h1 h2 ws) (q : ∀ x ∈ ws, h.size ≤ x) : Ext h h2 := own_extKeep ((own_keepExt E).trans K (fun x hx => Or.inr (q x hx)))
/-- the walk stands at T: its base tables vm0, its heap h -/
def own_Wk (p : Program) (l : Launch) (e : Env) (R : Room) (s : State) (m : MethodId) (args : Array Value) (below : List Frame) (meth : Method) (c : Code) (Z : State) (EL : List (String × Nat)) (own : String) (n0 : Nat) (T : State) (vm0 : Vm) (h : Heap) (cells slots : Nat) : Prop :=
  ∃ (locs : List Loc) (k0 : Nat), Stand p l e R (s.setVm vm0) m args below meth c T locs cells slots ∧ T.heap = h ∧ s.Since vm0 k0 ∧ k0 ≤ h.size ∧ Z.Warmed39 vm0 ∧ vm0.findClass own = some m.cls ∧ Fr n0 locs ∧ Old Z n0 h ∧ CHr Z EL s.vm s.heap vm0 h
/-- from T with the frame g the run comes to the method's end, with Q -/
def own_WP (p : Program) (e : Env) (R : Room) (below : List Frame) (s : State) (Z : State) (EL : List (String × Nat)) (n0 : Nat) (Q : Option Value → Heap → Prop) (T : State) (g : JFrame) : Prop :=
  ∃ s₂ o, Steps p.tables e below (T.setTop g) s₂ ∧ s₂.status = .running ∧ Ended s₂ below o ∧ ∃ v L, o = Outcome.returned v ∧ (Q v s₂.heap ∧ Fr n0 L ∧ Old Z n0 s₂.heap) ∧ CHr Z EL s.vm s.heap s₂.vm s₂.heap ∧ ReturnedEndW s o s₂ L R.cells R.slots
/-- a method's contract at given arguments and a given heap -/
def own_Ct (l : Launch) (y : MethodName) (bytes : ByteArray) (maxL : Nat) (ret : Option FieldType) (rm : Room) (Z : State) (EL : List (String × Nat)) (n0 : Nat) (as' : Array Value) (h : Heap) (sf : List Addr) (Q : Option Value → Heap → Prop) : Prop :=
  ∀ ws : List Jvm.Cond, MetFree l y (head1 (Jvm.Cond.code y bytes maxL ret :: ws) rm) (fun a U => a = as' ∧ Z.Warmed39 U.vm ∧ U.heap = h ∧ CHv Z EL U.vm h ∧ ∀ x ∈ sf, Safe Z EL U.vm h x) (fun _ _ _ _ _ => True) (fun _ U o U' => ∃ v L, o = Outcome.returned v ∧ (Q v U'.heap ∧ Fr n0 L ∧ Old Z n0 U'.heap) ∧ CHr Z EL U.vm U.heap U'.vm U'.heap ∧ ReturnedEndW U o U' L rm.cells rm.slots)
/-- what pays a call -/
def own_Pay (l : Launch) (R : Room) (p : Program) (e : Env) (below : List Frame) (s : State) (args : Array Value) (y : MethodName) (len W : Nat) (Z : State) (EL : List (String × Nat)) (n0 : Nat) (vm0 : Vm) (h : Heap) (as' : Array Value) (kc ks : Nat) (Q : Option Value → Heap → Prop) : Prop :=
  BackS l R p e below (s.setVm vm0) args y len W (fun A a => a = as' ∧ A.U.heap = h ∧ A.cells + kc ≤ R.cells ∧ A.slots + ks ≤ R.slots) (fun A _ v B => ∃ L, (Q v B.U.heap ∧ Fr n0 L ∧ Old Z n0 B.U.heap) ∧ B.locs = A.locs ++ L ∧ B.cells = A.cells + kc ∧ B.slots = A.slots + ks ∧ CHr Z EL vm0 h B.U.vm B.U.heap)
theorem own_by {T' : State} {g g' : JFrame} (st : ∀ t, Steps p.tables e below (T'.setTop g') t → Steps p.tables e below (T.setTop g) t) (k : own_WP p e R below s Z EL n0 Q T' g') : own_WP p e R below s Z EL n0 Q T g := by
  obtain ⟨s2, o, h1, r⟩ := k
  exact ⟨s2, o, st _ h1, r⟩
theorem own_at (w : own_Wk p l e R s m args below meth c Z EL own n0 T vm0 h cells slots) : Jvm.At T m c below := by
  obtain ⟨_, _, X, _⟩ := w
  exact X.here
theorem own_hZ (w : own_Wk p l e R s m args below meth c Z EL own n0 T vm0 h cells slots) : Z.Warmed39 vm0 := by
  obtain ⟨_, _, _, _, _, _, hZ, _⟩ := w
  exact hZ
theorem own_old (w : own_Wk p l e R s m args below meth c Z EL own n0 T vm0 h cells slots) : Old Z n0 h := by
  obtain ⟨_, _, _, _, _, _, _, _, _, O, _⟩ := w
  exact O
theorem own_chv (w : own_Wk p l e R s m args below meth c Z EL own n0 T vm0 h cells slots) : CHv Z EL vm0 h := by
  obtain ⟨_, _, _, _, _, _, _, _, _, _, C⟩ := w
  exact C.1
theorem own_n0 (w : own_Wk p l e R s m args below meth c Z EL own n0 T vm0 h cells slots) : n0 ≤ h.size := by
  have O := own_old w
  exact O.1 ▸ O.2.1
theorem own_mono {c' s' : Nat} (w : own_Wk p l e R s m args below meth c Z EL own n0 T vm0 h cells slots) (hc : cells ≤ c') (hs : slots ≤ s') : own_Wk p l e R s m args below meth c Z EL own n0 T vm0 h c' s' := by
  obtain ⟨locs, k0, X, r⟩ := w
  exact ⟨locs, k0, X.mono hc hs, r⟩
theorem own_leave (w : own_Wk p l e R s m args below meth c Z EL own n0 T vm0 h cells slots) (hEL : EW Z a0 EL) (hlk : meth.locks = false) {v : Option Value} (hv : meth.sig.returnType = none → v = none) (hc : cells ≤ R.cells) (hs : slots ≤ R.slots) (q : Q v h) {g : JFrame}
    (st : ∀ (locs : List Loc) (fs : List Frame), Stand p l e R (s.setVm vm0) m args below meth c T locs cells slots → (∀ (f : JFrame) (acts : List Action), f.method = m → f.locked = none → f.entered = [] → (doReturn e (T.setTop f) acts v).1 = T.setFrames fs) → Steps p.tables e below (T.setTop g) (T.setFrames fs)) : own_WP p e R below s Z EL n0 Q T g := by
  obtain ⟨locs, k0, X, rfl, hS, hk, hZ, hown, N, O, C⟩ := w
  obtain ⟨fs, hr, hrun, hended, h1, h2, h3, h4⟩ := X.leaveW hS hk hv hlk
  have D := CHv.at X hZ hEL C.1
  exact ⟨_, _, st locs fs X hr, hrun, hended, v, locs, rfl, ⟨q, N, O⟩, C.trans D, h1, h2, h3, h4.mono hc hs⟩
theorem own_ret (w : own_Wk p l e R s m args below meth c Z EL own n0 T vm0 h cells slots) (hx : p.tables.exec = Jvm.exec) (hEL : EW Z a0 EL) (hlk : meth.locks = false) {t : FieldType} {v : Value} {i : Instr} {pc : Nat} {Ls : Array Slot} {rest : List Value} (hret : meth.sig.returnType = some t) (hn : narrow t v = v)
    (hi : (i = .ireturn ∧ (t = .int ∨ t = .boolean ∨ t = .byte ∨ t = .char ∨ t = .short) ∧ ∃ z, v = .int z) ∨ (i = .lreturn ∧ t = .long ∧ ∃ z, v = .long z) ∨ (i = .dreturn ∧ t = .double ∧ ∃ z, v = .double z) ∨ (i = .freturn ∧ t = .float ∧ ∃ z, v = .float z) ∨ (i = .areturn ∧ t.isReference = true ∧ v.isRef = true))
    (hd : decode c.code pc = .ok (i, 1)) (hc : cells ≤ R.cells) (hs : slots ≤ R.slots) (q : Q (some v) h) : own_WP p e R below s Z EL n0 Q T (mkF m pc Ls (v :: rest)) :=
  own_leave w hEL hlk (fun h => by rw [hret] at h; cases h) hc hs q (fun locs fs X hr => retOut X hx hret hn hi hd hr)
theorem own_retI (w : own_Wk p l e R s m args below meth c Z EL own n0 T vm0 h cells slots) (hx : p.tables.exec = Jvm.exec) (hEL : EW Z a0 EL) (hlk : meth.locks = false) {z : Int32} {pc : Nat} {Ls : Array Slot} {rest : List Value} (hret : meth.sig.returnType = some .int)
    (hd : decode c.code pc = .ok (.ireturn, 1)) (hc : cells ≤ R.cells) (hs : slots ≤ R.slots) (q : Q (some (.int z)) h) : own_WP p e R below s Z EL n0 Q T (mkF m pc Ls (.int z :: rest)) :=
  own_ret w hx hEL hlk hret rfl (Or.inl ⟨rfl, Or.inl rfl, z, rfl⟩) hd hc hs q
theorem own_retZ (w : own_Wk p l e R s m args below meth c Z EL own n0 T vm0 h cells slots) (hx : p.tables.exec = Jvm.exec) (hEL : EW Z a0 EL) (hlk : meth.locks = false) {z : Int32} {pc : Nat} {Ls : Array Slot} {rest : List Value} (hret : meth.sig.returnType = some .boolean) (hz : z = 0 ∨ z = 1)
    (hd : decode c.code pc = .ok (.ireturn, 1)) (hc : cells ≤ R.cells) (hs : slots ≤ R.slots) (q : Q (some (.int z)) h) : own_WP p e R below s Z EL n0 Q T (mkF m pc Ls (.int z :: rest)) :=
  own_ret w hx hEL hlk hret (by rcases hz with rfl | rfl <;> rfl) (Or.inl ⟨rfl, Or.inr (Or.inl rfl), z, rfl⟩) hd hc hs q
theorem own_narC {z : Int32} (h0 : ¬ z < 0) (h1 : ¬ (65535 : Int32) < z) : z.toUInt32.toUInt16.toUInt32.toInt32 = z := by
  rw [Int32.lt_iff_toInt_lt] at h0 h1
  have e1 : (65535 : Int32).toInt = 65535 := rfl
  have e0 : (0 : Int32).toInt = 0 := rfl
  apply Int32.toInt_inj.mp
  have hb : z.toBitVec.toInt = z.toInt := rfl
  rw [e1] at h1
  rw [e0] at h0
  show ((z.toBitVec.setWidth 16).setWidth 32).toInt = z.toBitVec.toInt
  have hlt := z.toBitVec.isLt
  have h2 : z.toBitVec.toInt = z.toBitVec.toNat := by
    rw [BitVec.toInt_eq_toNat_cond] at hb ⊢
    split
    · rfl
    · rename_i q; rw [if_neg q] at hb; omega
  have h3 : z.toBitVec.toNat < 65536 := by omega
  rw [h2, BitVec.toInt_eq_toNat_cond]
  simp only [BitVec.toNat_setWidth]
  rw [Nat.mod_eq_of_lt (show z.toBitVec.toNat < 2 ^ 16 from h3), Nat.mod_eq_of_lt (show z.toBitVec.toNat < 2 ^ 32 by omega)]
  split <;> omega
theorem own_retC (w : own_Wk p l e R s m args below meth c Z EL own n0 T vm0 h cells slots) (hx : p.tables.exec = Jvm.exec) (hEL : EW Z a0 EL) (hlk : meth.locks = false) {z : Int32} {pc : Nat} {Ls : Array Slot} {rest : List Value} (hret : meth.sig.returnType = some .char) (hz : ¬ z < 0 ∧ ¬ (65535 : Int32) < z)
    (hd : decode c.code pc = .ok (.ireturn, 1)) (hc : cells ≤ R.cells) (hs : slots ≤ R.slots) (q : Q (some (.int z)) h) : own_WP p e R below s Z EL n0 Q T (mkF m pc Ls (.int z :: rest)) :=
  own_ret w hx hEL hlk hret (by show Value.int _ = Value.int _; rw [own_narC hz.1 hz.2]) (Or.inl ⟨rfl, Or.inr (Or.inr (Or.inr (Or.inl rfl))), z, rfl⟩) hd hc hs q
theorem own_retB (w : own_Wk p l e R s m args below meth c Z EL own n0 T vm0 h cells slots) (hx : p.tables.exec = Jvm.exec) (hEL : EW Z a0 EL) (hlk : meth.locks = false) {z : Int32} {pc : Nat} {Ls : Array Slot} {rest : List Value} (hret : meth.sig.returnType = some .byte) (hz : narrow .byte (.int z) = .int z)
    (hd : decode c.code pc = .ok (.ireturn, 1)) (hc : cells ≤ R.cells) (hs : slots ≤ R.slots) (q : Q (some (.int z)) h) : own_WP p e R below s Z EL n0 Q T (mkF m pc Ls (.int z :: rest)) :=
  own_ret w hx hEL hlk hret hz (Or.inl ⟨rfl, Or.inr (Or.inr (Or.inl rfl)), z, rfl⟩) hd hc hs q
theorem own_retJ (w : own_Wk p l e R s m args below meth c Z EL own n0 T vm0 h cells slots) (hx : p.tables.exec = Jvm.exec) (hEL : EW Z a0 EL) (hlk : meth.locks = false) {z : Int64} {pc : Nat} {Ls : Array Slot} {rest : List Value} (hret : meth.sig.returnType = some .long)
    (hd : decode c.code pc = .ok (.lreturn, 1)) (hc : cells ≤ R.cells) (hs : slots ≤ R.slots) (q : Q (some (.long z)) h) : own_WP p e R below s Z EL n0 Q T (mkF m pc Ls (.long z :: rest)) :=
  own_ret w hx hEL hlk hret rfl (Or.inr (Or.inl ⟨rfl, rfl, z, rfl⟩)) hd hc hs q
theorem own_retF (w : own_Wk p l e R s m args below meth c Z EL own n0 T vm0 h cells slots) (hx : p.tables.exec = Jvm.exec) (hEL : EW Z a0 EL) (hlk : meth.locks = false) {z : UInt32} {pc : Nat} {Ls : Array Slot} {rest : List Value} (hret : meth.sig.returnType = some .float)
    (hd : decode c.code pc = .ok (.freturn, 1)) (hc : cells ≤ R.cells) (hs : slots ≤ R.slots) (q : Q (some (.float z)) h) : own_WP p e R below s Z EL n0 Q T (mkF m pc Ls (.float z :: rest)) :=
  own_ret w hx hEL hlk hret rfl (Or.inr (Or.inr (Or.inr (Or.inl ⟨rfl, rfl, z, rfl⟩)))) hd hc hs q
theorem own_retA (w : own_Wk p l e R s m args below meth c Z EL own n0 T vm0 h cells slots) (hx : p.tables.exec = Jvm.exec) (hEL : EW Z a0 EL) (hlk : meth.locks = false) {t : FieldType} {v : Value} {pc : Nat} {Ls : Array Slot} {rest : List Value} (hret : meth.sig.returnType = some t) (ht : t.isReference = true) (hv : v.isRef = true)
    (hd : decode c.code pc = .ok (.areturn, 1)) (hc : cells ≤ R.cells) (hs : slots ≤ R.slots) (q : Q (some v) h) : own_WP p e R below s Z EL n0 Q T (mkF m pc Ls (v :: rest)) :=
  own_ret w hx hEL hlk hret (by rcases ref_cases hv with rfl | ⟨a, rfl⟩ <;> cases t <;> first | rfl | (simp [FieldType.isReference] at ht)) (Or.inr (Or.inr (Or.inr (Or.inr ⟨rfl, ht, hv⟩)))) hd hc hs q
theorem own_retV (w : own_Wk p l e R s m args below meth c Z EL own n0 T vm0 h cells slots) (hx : p.tables.exec = Jvm.exec) (hEL : EW Z a0 EL) (hlk : meth.locks = false) {pc : Nat} {Ls : Array Slot} (hret : meth.sig.returnType = none)
    (hd : decode c.code pc = .ok (.return_, 1)) (hc : cells ≤ R.cells) (hs : slots ≤ R.slots) (q : Q none h) : own_WP p e R below s Z EL n0 Q T (mkF m pc Ls []) :=
  own_leave w hEL hlk (fun _ => rfl) hc hs q (fun locs fs X hr => X.returnOut hx hret hd hr)
theorem own_body {y : MethodName} {bytes : ByteArray} {maxL : Nat} {ret : Option FieldType} {rm : Room} {as' : Array Value} {sf : List Addr} (hpl : plainFor y = true) (hO : Old Z n0 h)
    (body : ∀ (p : Program) (e : Env) (s : State) (m : MethodId) (below : List Frame) (meth : Method) (c : Code) (T : State) (vm0 : Vm), p.tables.exec = Jvm.exec → c.code = bytes → c.maxLocals = maxL → meth.sig.returnType = ret → meth.locks = false → meth.name = y.name → (∀ x ∈ sf, Safe Z EL vm0 h x) → own_Wk p l e rm s m as' below meth c Z EL y.cls n0 T vm0 h 0 0 → own_WP p e rm below s Z EL n0 Q T (entryFrame m as' maxL)) :
    own_Ct l y bytes maxL ret rm Z EL n0 as' h sf Q := by
  intro ws
  refine MetFree.of_bodySF hpl hisR ?_
  intro p e s m args below meth c s₁ Bd hml hP hK
  obtain ⟨rfl, hZ, rfl, hC, hSf⟩ := hP
  have hown : s.vm.findClass y.cls = some m.cls := findClass_of_methodNamed Bd.named
  have hnm := (name_of_methodNamed Bd.named Bd.method).1
  have X0 : Stand p l e rm s m args below meth c s₁ [] 0 0 := Stand.of_body Bd
  have e0 : s₁.heap = s.heap := by rw [Bd.state]; rfl
  exact body p e s m below meth c s₁ s.vm Bd.exec Bd.bytes hml Bd.returns Bd.notSynchronized hnm hSf ⟨[], 0, X0, e0, (State.WarmedH.refl s).since _, Nat.zero_le _, hZ, hown, Fr.nil _, hO, CHr.refl hC⟩
theorem own_entry {as' : Array Value} {maxL : Nat} {g : JFrame} (q : entryFrame m as' maxL = g) (k : own_WP p e R below s Z EL n0 Q T g) : own_WP p e R below s Z EL n0 Q T (entryFrame m as' maxL) := q ▸ k
theorem own_payCt {y : MethodName} {bytes : ByteArray} {maxL : Nat} {ret : Option FieldType} {rm : Room} {len W : Nat} {as' : Array Value} {sf : List Addr} (K : own_Ct l y bytes maxL ret rm Z EL n0 as' h sf Q) (w : own_Wk p l e R s m args below meth c Z EL own n0 T vm0 h cells slots) (wc : (Jvm.Cond.code y bytes maxL ret).before a0 Z = true) (wz : (Jvm.Cond.initialized y.cls).before a0 Z = true)
    (hEL : EW Z a0 EL) (hf : rm.frames + 1 ≤ R.frames) (hl : W + (maxL + 11) + rm.locals ≤ R.locals) (hsf : ∀ x ∈ sf, x < h.size ∧ Safe Z EL vm0 h x := by intro x hx; cases hx) : own_Pay l R p e below s args y len W Z EL n0 vm0 h as' rm.cells rm.slots Q := by
  have hZ := own_hZ w
  have H := own_chv w
  exact BackS.of_freeW (bytes := bytes) (maxL := maxL) (ret := ret) (E := fun _ first o t L k n => k = rm.cells ∧ n = rm.slots ∧ (∃ v, o = Outcome.returned v ∧ (Q v t.heap ∧ Fr n0 L ∧ Old Z n0 t.heap)) ∧ CHr Z EL first.vm first.heap t.vm t.heap) (K []) hf hl
    (fun m meth c A a Y hp => have hU : Z.Warmed39 A.U.vm := wtrans (s := s.setVm vm0) hZ Y.warmed
      ⟨by show (Jvm.Cond.and _ .tt).before a A.U = true; rw [Cond.before_and, mv hU wc]; rfl, mv hU wc, mv hU wz, hp.2.2.1, hp.2.2.2⟩)
    (fun m meth c A a g mk Y hp => ⟨hp.1, wtrans (s := s.setVm vm0) hZ Y.warmed, hp.2.1, (CHv.at Y hZ hEL H).1, fun x hx => (CHv.at Y hZ hEL H).safe (hsf x hx).1 (hsf x hx).2⟩) (fun _ _ _ _ _ _ _ _ _ => trivial)
    (fun _ _ _ _ ⟨v, L, h1, h2, h3, h4⟩ => ⟨L, _, _, h4, rfl, rfl, ⟨v, h1, h2⟩, h3⟩)
    (fun m meth c A a g mk v t L k n Y hp _ _ ⟨e1, e2, ⟨v', e3, e4⟩, e5⟩ => by
      cases e3; subst e1 e2
      refine ⟨L, e4, rfl, rfl, rfl, (CHv.at Y hZ hEL H).trans ?_⟩
      rw [← hp.2.1]; exact e5)
theorem own_payBack {y : MethodName} {len W : Nat} {as' : Array Value} {kc ks : Nat} {Q0 : Option Value → Heap → List Loc → Prop} (w : own_Wk p l e R s m args below meth c Z EL own n0 T vm0 h cells slots) (hEL : EW Z a0 EL) {ws : List Addr}
    (K : Back l R p e below (s.setVm vm0) args y len W (fun A a => a = as' ∧ A.U.heap = h ∧ A.cells + kc ≤ R.cells ∧ A.slots + ks ≤ R.slots) (fun A _ v B => ∃ L, Q0 v B.U.heap L ∧ B.locs = A.locs ++ L ∧ B.cells = A.cells + kc ∧ B.slots = A.slots + ks))
    (hq : ∀ v h' L, Q0 v h' L → Q v h' ∧ Fr n0 L ∧ Keep h h' ws) (hn : ∀ x ∈ ws, n0 ≤ x) (hs : ∀ x ∈ ws, Safe Z EL vm0 h x) : own_Pay l R p e below s args y len W Z EL n0 vm0 h as' kc ks Q := by
  intro m' meth' c' A g ig mk a X hg hsize hdg hW hn' hp
  obtain ⟨v, B, X', ⟨L, q, e1, e2, e3⟩, hsteps⟩ := K m' meth' c' A g ig mk a X hg hsize hdg hW hn' hp
  obtain ⟨q1, q2, q3⟩ := hq _ _ _ q
  have H := own_chv w
  have C := CHr.keep q3 hs H
  exact ⟨v, B, X'.retabled X'.warmed.wide, X'.warmed.since _, by rw [hp.2.1]; exact q3.1, ⟨L, ⟨q1, q2, (own_old w).keep q3 hn⟩, e1, e2, e3, C.trans (CHv.at X' (own_hZ w) hEL C.1)⟩, hsteps⟩
theorem own_callS (w : own_Wk p l e R s m args below meth c Z EL own n0 T vm0 h cells slots) (hx : p.tables.exec = Jvm.exec) {index : Nat} {y : MethodName} {bytes : ByteArray} {maxL : Nat} {ret : Option FieldType}
    (w1 : (Jvm.Cond.methodLink own index y).before a0 Z = true) (w2 : (Jvm.Cond.static y).before a0 Z = true) (w3 : (Jvm.Cond.initialized y.cls).before a0 Z = true) (w4 : (Jvm.Cond.code y bytes maxL ret).before a0 Z = true) (hy : y.cls ≠ "java/lang/invoke/MethodHandle" ∧ y.cls ≠ "java/lang/invoke/VarHandle")
    {W kc ks : Nat} {argsL rest : List Value} {Q' : Option Value → Heap → Prop} (K : own_Pay l R p e below s args y 3 W Z EL n0 vm0 h argsL.toArray kc ks Q') {g : JFrame} (hg : g.method = m) (hsize : g.locals.size = c.maxLocals)
    (hlen : ∀ sig, parseMethodDescriptor y.desc = some sig → argsL.length = sig.parameters.length) (hstack : g.stack = argsL.reverse ++ rest) (hW : 2 * g.monitorRoom + (rest.map fun v => v.category).sum ≤ W) (hd : decode c.code g.pc = .ok (.invokestatic index, 3)) (hc : cells + kc ≤ R.cells) (hs : slots + ks ≤ R.slots)
    (k : ∀ (v : Option Value) (T' : State) (vm1 : Vm) (h' : Heap), Q' v h' → CHr Z EL vm0 h vm1 h' → own_Wk p l e R s m args below meth c Z EL own n0 T' vm1 h' (cells + kc) (slots + ks) → own_WP p e R below s Z EL n0 Q T' { g with pc := g.pc + 3, stack := v.toList ++ rest }) : own_WP p e R below s Z EL n0 Q T g := by
  obtain ⟨locs, k0, X, e0, hS, hk, hZ, hown, N, O, C⟩ := w
  obtain ⟨v, vm₁, ⟨U, L', c', s'⟩, hW1, X', hS', hg', ⟨L, ⟨q, N', O'⟩, e1, e2, e3, C'⟩, st⟩ := callSS X hx (own := own) hown (mvT hZ w1) (mvT hZ w2) (mvT hZ w3) (mvT hZ w4) hy K hg hsize hlen hstack hW hd (fun _ _ => ⟨rfl, e0, hc, hs⟩)
  dsimp only [Pt.U, Pt.locs, Pt.cells, Pt.slots] at X' hS' hg' q O' e1 e2 e3 C' st
  subst e1 e2 e3
  rw [e0] at hg'
  exact own_by (fun t => st.trans) (k v U U.vm U.heap q C' ⟨_, U.heap.size, X', rfl, hS.trans hS' (Nat.le_trans hk hg'), Nat.le_refl _, State.Warmed39.trans (t := s.setVm vm0) hZ hS'.1, (hS'.1.alike.findClass _ _).trans hown, N.app N', O', C.trans C'⟩)
theorem own_callC (w : own_Wk p l e R s m args below meth c Z EL own n0 T vm0 h cells slots) (hx : p.tables.exec = Jvm.exec) {index : Nat} {y : MethodName} {bytes : ByteArray} {maxL : Nat}
    (hy1 : y.name = "<init>") (w1 : (Jvm.Cond.methodLink own index y).before a0 Z = true) (w2 : (Jvm.Cond.instanceMethod y).before a0 Z = true) (w4 : (Jvm.Cond.code y bytes maxL none).before a0 Z = true) (hy : y.cls ≠ "java/lang/invoke/MethodHandle" ∧ y.cls ≠ "java/lang/invoke/VarHandle")
    {W kc ks : Nat} {a : Addr} {argsL rest : List Value} {Q' : Option Value → Heap → Prop} (K : own_Pay l R p e below s args y 3 W Z EL n0 vm0 h (.ref a :: argsL).toArray kc ks Q') {g : JFrame} (hg : g.method = m) (hsize : g.locals.size = c.maxLocals)
    (hlen : ∀ sig, parseMethodDescriptor y.desc = some sig → argsL.length = sig.parameters.length) (hstack : g.stack = argsL.reverse ++ .ref a :: rest) (hW : 2 * g.monitorRoom + (rest.map fun v => v.category).sum ≤ W) (hd : decode c.code g.pc = .ok (.invokespecial index, 3)) (hc : cells + kc ≤ R.cells) (hs : slots + ks ≤ R.slots)
    (k : ∀ (v : Option Value) (T' : State) (vm1 : Vm) (h' : Heap), Q' v h' → CHr Z EL vm0 h vm1 h' → own_Wk p l e R s m args below meth c Z EL own n0 T' vm1 h' (cells + kc) (slots + ks) → own_WP p e R below s Z EL n0 Q T' { g with pc := g.pc + 3, stack := v.toList ++ rest }) : own_WP p e R below s Z EL n0 Q T g := by
  obtain ⟨locs, k0, X, e0, hS, hk, hZ, hown, N, O, C⟩ := w
  obtain ⟨v, vm₁, ⟨U, L', c', s'⟩, hW1, X', hS', hg', ⟨L, ⟨q, N', O'⟩, e1, e2, e3, C'⟩, st⟩ := X.specialBackS hx (own := own) hy1 hown (mvT hZ w1) (mvT hZ w2) (mvT hZ w4) hy K hg hsize (Steps.refl _) hlen hstack hW hd (fun _ _ => ⟨rfl, e0, hc, hs⟩)
  dsimp only [Pt.U, Pt.locs, Pt.cells, Pt.slots] at X' hS' hg' q O' e1 e2 e3 C' st
  subst e1 e2 e3
  rw [e0] at hg'
  exact own_by (fun t => st.trans) (k v U U.vm U.heap q C' ⟨_, U.heap.size, X', rfl, hS.trans hS' (Nat.le_trans hk hg'), Nat.le_refl _, State.Warmed39.trans (t := s.setVm vm0) hZ hS'.1, (hS'.1.alike.findClass _ _).trans hown, N.app N', O', C.trans C'⟩)
theorem own_callV (w : own_Wk p l e R s m args below meth c Z EL own n0 T vm0 h cells slots) (hx : p.tables.exec = Jvm.exec) {index : Nat} {y z : MethodName} {Cn : String}
    (w1 : (Jvm.Cond.methodLink own index y).before a0 Z = true) (w2 : (Jvm.Cond.declares y).before a0 Z = true) (nf : ∀ u : State, Z.Warmed39 u.vm → NotFace u y) (w3 : (Jvm.Cond.selects Cn y z).before a0 Z = true) (w4 : (Jvm.Cond.instanceMethod z).before a0 Z = true) (hy : y.cls ≠ "java/lang/invoke/MethodHandle" ∧ y.cls ≠ "java/lang/invoke/VarHandle")
    {W kc ks : Nat} {a : Addr} {argsL rest : List Value} {Q' : Option Value → Heap → Prop} (K : own_Pay l R p e below s args z 3 W Z EL n0 vm0 h (.ref a :: argsL).toArray kc ks Q') (E : Exa Z h a Cn) {g : JFrame} (hg : g.method = m) (hsize : g.locals.size = c.maxLocals)
    (hlen : ∀ sig, parseMethodDescriptor y.desc = some sig → argsL.length = sig.parameters.length) (hstack : g.stack = argsL.reverse ++ .ref a :: rest) (hW : 2 * g.monitorRoom + (rest.map fun v => v.category).sum ≤ W) (hd : decode c.code g.pc = .ok (.invokevirtual index, 3)) (hc : cells + kc ≤ R.cells) (hs : slots + ks ≤ R.slots)
    (k : ∀ (v : Option Value) (T' : State) (vm1 : Vm) (h' : Heap), Q' v h' → CHr Z EL vm0 h vm1 h' → own_Wk p l e R s m args below meth c Z EL own n0 T' vm1 h' (cells + kc) (slots + ks) → own_WP p e R below s Z EL n0 Q T' { g with pc := g.pc + 3, stack := v.toList ++ rest }) : own_WP p e R below s Z EL n0 Q T g := by
  obtain ⟨locs, k0, X, e0, hS, hk, hZ, hown, N, O, C⟩ := w
  obtain ⟨cq, kq, qa, qb, qc⟩ := isOf (s := s.setVm vm0) hZ e0 E
  obtain ⟨v, vm₁, ⟨U, L', c', s'⟩, hW1, X', hS', hg', ⟨L, ⟨q, N', O'⟩, e1, e2, e3, C'⟩, st⟩ := X.virtualBackS hx (own := own) (y := y) (z := z) hown (mvT hZ w1) (mvT hZ w2) (nf _ hZ) (mvT hZ w3) (mvT hZ w4) hy K qa qc hg hsize (Steps.refl _) hlen hstack hW hd (fun _ _ => ⟨rfl, e0, hc, hs⟩)
  dsimp only [Pt.U, Pt.locs, Pt.cells, Pt.slots] at X' hS' hg' q O' e1 e2 e3 C' st
  subst e1 e2 e3
  rw [e0] at hg'
  exact own_by (fun t => st.trans) (k v U U.vm U.heap q C' ⟨_, U.heap.size, X', rfl, hS.trans hS' (Nat.le_trans hk hg'), Nat.le_refl _, State.Warmed39.trans (t := s.setVm vm0) hZ hS'.1, (hS'.1.alike.findClass _ _).trans hown, N.app N', O', C.trans C'⟩)
theorem own_irem {target : State} {g : JFrame} (A : Jvm.At T m c below) (hx : p.tables.exec = Jvm.exec) (hg : g.method = m) {x y : Int32} {rest : List Value} (hd : decode c.code g.pc = .ok (.irem, 1)) (hs : g.stack = .int y :: .int x :: rest) (hy : y ≠ 0)
    (hr : Steps p.tables e below (T.setTop { g with pc := g.pc + 1, stack := .int (x % y) :: rest }) target) : Steps p.tables e below (T.setTop g) target := by
  have q : x - x / y * y = x % y := irem_eq_mod x y
  exact XS.irem A hx hg hd hs hy (by rw [q]; exact hr)
/-- a step that moves neither the heap nor the base -/
theorem own_stay {T' : State} {g g' : JFrame} (w : own_Wk p l e R s m args below meth c Z EL own n0 T vm0 h cells slots)
    (st : ∀ locs, Stand p l e R (s.setVm vm0) m args below meth c T locs cells slots → T.heap = h → Z.Warmed39 (s.setVm vm0).vm → (s.setVm vm0).vm.findClass own = some m.cls → ∃ T', Stand p l e R (s.setVm vm0) m args below meth c T' locs cells slots ∧ T'.heap = h ∧ ∀ target, Steps p.tables e below (T'.setTop g') target → Steps p.tables e below (T.setTop g) target)
    (k : ∀ T', own_Wk p l e R s m args below meth c Z EL own n0 T' vm0 h cells slots → own_WP p e R below s Z EL n0 Q T' g') : own_WP p e R below s Z EL n0 Q T g := by
  obtain ⟨locs, k0, X, e0, hS, hk, hZ, hown, r⟩ := w
  obtain ⟨T', X', e1, st'⟩ := st locs X e0 hZ hown
  exact own_by st' (k T' ⟨locs, k0, X', e1, hS, hk, hZ, hown, r⟩)
/-- a step that makes a cell -/
theorem own_grow {g g' : JFrame} {kc ks : Nat} {P : Heap → Prop} (w : own_Wk p l e R s m args below meth c Z EL own n0 T vm0 h cells slots)
    (st : ∀ locs, Stand p l e R (s.setVm vm0) m args below meth c T locs cells slots → T.heap = h → Z.Warmed39 (s.setVm vm0).vm → (s.setVm vm0).vm.findClass own = some m.cls → ∃ T' h', Stand p l e R (s.setVm vm0) m args below meth c T' locs (cells + kc) (slots + ks) ∧ T'.heap = h' ∧ Ext h h' ∧ P h' ∧ ∀ target, Steps p.tables e below (T'.setTop g') target → Steps p.tables e below (T.setTop g) target)
    (k : ∀ T' h', Ext h h' → P h' → own_Wk p l e R s m args below meth c Z EL own n0 T' vm0 h' (cells + kc) (slots + ks) → own_WP p e R below s Z EL n0 Q T' g') : own_WP p e R below s Z EL n0 Q T g := by
  obtain ⟨locs, k0, X, e0, hS, hk, hZ, hown, N, O, C⟩ := w
  obtain ⟨T', h', X', e1, E, q, st'⟩ := st locs X e0 hZ hown
  exact own_by st' (k T' h' E q ⟨locs, k0, X', e1, hS, Nat.le_trans hk E.1, hZ, hown, N, O.ext E, C.trans (CHr.ext E C.1)⟩)
/-- a step that writes one place of a cell made since the start -/
theorem own_wrote {g g' : JFrame} {a : Addr} {sl : Nat} {v : Value} (w : own_Wk p l e R s m args below meth c Z EL own n0 T vm0 h cells slots) (ha : n0 ≤ a) (hsf : Safe Z EL vm0 h a)
    (st : ∀ locs, Stand p l e R (s.setVm vm0) m args below meth c T locs cells slots → T.heap = h → Z.Warmed39 (s.setVm vm0).vm → (s.setVm vm0).vm.findClass own = some m.cls → ∃ T' h', Stand p l e R (s.setVm vm0) m args below meth c T' (locs ++ [⟨a, sl⟩]) cells slots ∧ T'.heap = h' ∧ Wr h h' a sl v ∧ ∀ target, Steps p.tables e below (T'.setTop g') target → Steps p.tables e below (T.setTop g) target)
    (k : ∀ T' h', Wr h h' a sl v → own_Wk p l e R s m args below meth c Z EL own n0 T' vm0 h' cells slots → own_WP p e R below s Z EL n0 Q T' g') : own_WP p e R below s Z EL n0 Q T g := by
  obtain ⟨locs, k0, X, e0, hS, hk, hZ, hown, N, O, C⟩ := w
  obtain ⟨T', h', X', e1, W, st'⟩ := st locs X e0 hZ hown
  exact own_by st' (k T' h' W ⟨_, k0, X', e1, hS, by rw [W.size]; exact hk, hZ, hown, Fr.snoc X' N ha, O.wr W ha, C.trans (CHr.wr W hsf C.1)⟩)
theorem own_getF (w : own_Wk p l e R s m args below meth c Z EL own n0 T vm0 h cells slots) (hx : p.tables.exec = Jvm.exec) {O f d : String} {index : Nat} (w1 : (Jvm.Cond.fieldLink own index O f d).before a0 Z = true) {a : Addr} {v : Value} (F : Fld Z h a O f d v) {g : JFrame} (hg : g.method = m) {rest : List Value} (hs : g.stack = .ref a :: rest) (hd : decode c.code g.pc = .ok (.getfield index, 3))
    (k : ∀ T', own_Wk p l e R s m args below meth c Z EL own n0 T' vm0 h cells slots → own_WP p e R below s Z EL n0 Q T' { g with pc := g.pc + 3, stack := v :: rest }) : own_WP p e R below s Z EL n0 Q T g :=
  own_stay (T' := T) w (fun locs X e0 hZ hown => getF X hx hZ hown (host := "") (Or.inl w1) Via.refl e0 F hg hs hd) k
theorem own_getS (w : own_Wk p l e R s m args below meth c Z EL own n0 T vm0 h cells slots) (hx : p.tables.exec = Jvm.exec) {O f d : String} {index : Nat} (w1 : (Jvm.Cond.fieldLink own index O f d).before a0 Z = true) {v : Value} (F : Sta Z h O f d v) {g : JFrame} (hg : g.method = m) (hd : decode c.code g.pc = .ok (.getstatic index, 3))
    (k : ∀ T', own_Wk p l e R s m args below meth c Z EL own n0 T' vm0 h cells slots → own_WP p e R below s Z EL n0 Q T' { g with pc := g.pc + 3, stack := v :: g.stack }) : own_WP p e R below s Z EL n0 Q T g :=
  own_stay (T' := T) w (fun locs X e0 hZ hown => getS (host := "") X hx hZ hown w1 Via.refl e0 F hg hd) k
theorem own_cast (w : own_Wk p l e R s m args below meth c Z EL own n0 T vm0 h cells slots) (hx : p.tables.exec = Jvm.exec) {K : String} {index : Nat} (w1 : (Jvm.Cond.classLink own index K).before a0 Z = true) {a : Addr} (F : Ins Z h a K true) {g : JFrame} (hg : g.method = m) {rest : List Value} (hs : g.stack = .ref a :: rest) (hd : decode c.code g.pc = .ok (.checkcast index, 3))
    (k : ∀ T', own_Wk p l e R s m args below meth c Z EL own n0 T' vm0 h cells slots → own_WP p e R below s Z EL n0 Q T' { g with pc := g.pc + 3 }) : own_WP p e R below s Z EL n0 Q T g :=
  own_stay (T' := T) w (fun locs X e0 hZ hown => castY X hx hZ hown w1 e0 F hg hs hd) k
theorem own_instY (w : own_Wk p l e R s m args below meth c Z EL own n0 T vm0 h cells slots) (hx : p.tables.exec = Jvm.exec) {K : String} {index : Nat} (w1 : (Jvm.Cond.classLink own index K).before a0 Z = true) {a : Addr} (F : Ins Z h a K true) {g : JFrame} (hg : g.method = m) {rest : List Value} (hs : g.stack = .ref a :: rest) (hd : decode c.code g.pc = .ok (.instanceof index, 3))
    (k : ∀ T', own_Wk p l e R s m args below meth c Z EL own n0 T' vm0 h cells slots → own_WP p e R below s Z EL n0 Q T' { g with pc := g.pc + 3, stack := .int 1 :: rest }) : own_WP p e R below s Z EL n0 Q T g :=
  own_stay (T' := T) w (fun locs X e0 hZ hown => instY X hx hZ hown w1 e0 F hg hs hd) k
theorem own_initO (w : own_Wk p l e R s m args below meth c Z EL own n0 T vm0 h cells slots) (hx : p.tables.exec = Jvm.exec) {index : Nat} (w1 : (Jvm.Cond.methodLink own index Lib.objectInit).before a0 Z = true) (w2 : (Jvm.Cond.instanceMethod Lib.objectInit).before a0 Z = true) (w3 : (Jvm.Cond.code Lib.objectInit ⟨#[0xb1]⟩ 1 none).before a0 Z = true)
    {a : Addr} {g : JFrame} (hg : g.method = m) (hsize : g.locals.size = c.maxLocals) {rest : List Value} (hs : g.stack = .ref a :: rest) (hd : decode c.code g.pc = .ok (.invokespecial index, 3)) (hf : 1 ≤ R.frames) {W : Nat} (hW : 2 * g.monitorRoom + (rest.map fun v => v.category).sum ≤ W) (hl : W + 12 ≤ R.locals)
    (k : ∀ T', own_Wk p l e R s m args below meth c Z EL own n0 T' vm0 h cells slots → own_WP p e R below s Z EL n0 Q T' { g with pc := g.pc + 3, stack := rest }) : own_WP p e R below s Z EL n0 Q T g :=
  own_stay (T' := T) w (fun locs X e0 hZ hown => initO X hx hZ hown w1 w2 w3 e0 hg hsize hs hd hf hW hl) k
theorem own_new (w : own_Wk p l e R s m args below meth c Z EL own n0 T vm0 h cells slots) (hx : p.tables.exec = Jvm.exec) {Cn : String} {index n : Nat} (w1 : (Jvm.Cond.classLink own index Cn).before a0 Z = true) (w2 : (Jvm.Cond.instantiable Cn n).before a0 Z = true) (w3 : (Jvm.Cond.initialized Cn).before a0 Z = true) {g : JFrame} (hg : g.method = m) (hd : decode c.code g.pc = .ok (.new index, 3)) (hc : cells + 1 ≤ R.cells) (hl : slots + n ≤ R.slots)
    (k : ∀ T' h' a, a = h.size → Ext h h' → (Exa Z h' a Cn ∧ ∀ {O nm d : String} {ty : FieldType}, Laid Z a0 Cn O nm d → parseFieldDescriptor d = some ty → Fld Z h' a O nm d (defaultValue ty)) → own_Wk p l e R s m args below meth c Z EL own n0 T' vm0 h' (cells + 1) (slots + n) → own_WP p e R below s Z EL n0 Q T' { g with pc := g.pc + 3, stack := .ref a :: g.stack }) : own_WP p e R below s Z EL n0 Q T g :=
  own_grow (P := fun h' => Exa Z h' h.size Cn ∧ ∀ {O nm d : String} {ty : FieldType}, Laid Z a0 Cn O nm d → parseFieldDescriptor d = some ty → Fld Z h' h.size O nm d (defaultValue ty)) w (fun locs X e0 hZ hown => by
    obtain ⟨T', h', X', e1, E, A, D, -, st⟩ := newO X hx hZ hown w1 w2 w3 e0 hg hd hc hl
    exact ⟨T', h', X', e1, E, ⟨A, D⟩, st⟩) (fun T' h' E q w' => k T' h' h.size rfl E q w')
theorem own_newP (w : own_Wk p l e R s m args below meth c Z EL own n0 T vm0 h cells slots) (hx : p.tables.exec = Jvm.exec) {aty : ArrayType} (w1 : (Jvm.Cond.arrayClass (newarray.typeOf aty)).before a0 Z = true) {g : JFrame} (hg : g.method = m) (hd : decode c.code g.pc = .ok (.newarray aty, 2)) {n : Int32} {rest : List Value} (hs : g.stack = .int n :: rest)
    (hn : ¬ n < 0) {cap : Nat} (hcap : n.toNatClampNeg ≤ cap) (hb : cap * 8 ≤ 536870912) (hc : cells + 1 ≤ R.cells) (hl : slots + cap ≤ R.slots)
    (k : ∀ T' h' a cA, a = h.size → Ext h h' → Arv Z h' a cA (newarray.typeOf aty) n [] (defaultValue (newarray.typeOf aty)) → own_Wk p l e R s m args below meth c Z EL own n0 T' vm0 h' (cells + 1) (slots + cap) → own_WP p e R below s Z EL n0 Q T' { g with pc := g.pc + 2, stack := .ref a :: rest }) : own_WP p e R below s Z EL n0 Q T g :=
  own_grow (P := fun h' => ∃ cA, Arr Z h' h.size (newA cA (newarray.typeOf aty) n) (newarray.typeOf aty)) w (fun locs X e0 hZ hown => by
    obtain ⟨T', h', cA, X', e1, E, A, st⟩ := newP X hx hZ w1 e0 hg hd hs hn hcap hb hc hl
    exact ⟨T', h', X', e1, E, ⟨cA, A⟩, st⟩) (fun T' h' E ⟨cA, A⟩ w' => k T' h' h.size cA rfl E (Arv.new A hn) w')
theorem own_putF (w : own_Wk p l e R s m args below meth c Z EL own n0 T vm0 h cells slots) (hx : p.tables.exec = Jvm.exec) {O f d Cn : String} {index kk : Nat} {ty : FieldType} (w1 : (Jvm.Cond.fieldLink own index O f d).before a0 Z = true) {a : Addr} {v old : Value} (F : Fld Z h a O f d old) (E : Exa Z h a Cn)
    (L : (Jvm.Cond.lays Cn O f d).before a0 Z = true ∨ ((Jvm.Cond.laysFinal Cn O f d).before a0 Z = true ∧ own = O ∧ meth.name = "<init>")) (wi : (Jvm.Cond.instantiable Cn kk).before a0 Z = true) (hty : parseFieldDescriptor d = some ty) (hn : narrow ty v = v) (hf : fits ty v = true) (ha : n0 ≤ a) (hsf : Safe Z EL vm0 h a)
    {g : JFrame} (hg : g.method = m) {rest : List Value} (hs : g.stack = v :: .ref a :: rest) (hd : decode c.code g.pc = .ok (.putfield index, 3))
    (k : ∀ T' h', Wr h h' a (Jvm.RoadKit.slotOf Z O f d) v → own_Wk p l e R s m args below meth c Z EL own n0 T' vm0 h' cells slots → own_WP p e R below s Z EL n0 Q T' { g with pc := g.pc + 3, stack := rest }) : own_WP p e R below s Z EL n0 Q T g :=
  own_wrote w ha hsf (fun locs X e0 hZ hown => putF X hx hZ hown (host := "") (Or.inl w1) Via.refl e0 F E L wi hty hn hf hg hs hd) k
theorem own_castore (w : own_Wk p l e R s m args below meth c Z EL own n0 T vm0 h cells slots) (hx : p.tables.exec = Jvm.exec) {a : Addr} {kA : ClassId} {z j x : Int32} {vs : List Value} {dv : Value} (V : Arv Z h a kA .char z vs dv) (hj : ¬ j < 0 ∧ j < z) (hx0 : ¬ x < 0 ∧ ¬ (65535 : Int32) < x) {i : Nat} (hi : j.toNatClampNeg = i) (hl : i < vs.length) (ha : n0 ≤ a)
    {g : JFrame} (hg : g.method = m) {rest : List Value} (hs : g.stack = .int x :: .int j :: .ref a :: rest) (hd : decode c.code g.pc = .ok (.castore, 1))
    (k : ∀ T' h', Wr h h' a i (.int x) → Arv Z h' a kA .char z (vs.set i (.int x)) dv → own_Wk p l e R s m args below meth c Z EL own n0 T' vm0 h' cells slots → own_WP p e R below s Z EL n0 Q T' { g with pc := g.pc + 1, stack := rest }) : own_WP p e R below s Z EL n0 Q T g := by
  subst hi
  have hal : Z.vm.Alike vm0 := (own_hZ w).alike
  obtain ⟨cl, A, q, S, N, H, G⟩ := V
  have hnar : nar .char x = x := own_narC hx0.1 hx0.2
  refine own_wrote (v := .int x) w ha (Safe.arr hal A (by decide)) (fun locs X e0 hZ hown => ?_) (fun T' h' W w' => k T' h' W (Arv.set A q S N H G (by have := fits_nar_char x; rw [hnar] at this; exact this) W _ rfl hl) w')
  have := stC X hx hZ e0 A (j := j) (x := x) (inb_of S hj) hg hs hd
  rw [hnar] at this
  exact this
end OwnKit
section OwnKit2
variable {p : Program} {l : Launch} {e : Env} {R : Room} {s : State} {m : MethodId} {args : Array Value} {below : List Frame} {meth : Method} {c : Code} {Z : State} {a0 : Array Value} {EL : List (String × Nat)} {own : String} {n0 : Nat} {T : State} {vm0 : Vm} {h : Heap} {cells slots : Nat} {Q : Option Value → Heap → Prop}
/-- a step at the same state -/
theorem own_via {g g' : JFrame} (w : own_Wk p l e R s m args below meth c Z EL own n0 T vm0 h cells slots)
    (st : ∀ locs, Stand p l e R (s.setVm vm0) m args below meth c T locs cells slots → T.heap = h → Z.Warmed39 (s.setVm vm0).vm → (s.setVm vm0).vm.findClass own = some m.cls → ∀ t, Steps p.tables e below (T.setTop g') t → Steps p.tables e below (T.setTop g) t)
    (k : own_WP p e R below s Z EL n0 Q T g') : own_WP p e R below s Z EL n0 Q T g := by
  obtain ⟨locs, k0, X, e0, hS, hk, hZ, hown, r⟩ := w
  exact own_by (st locs X e0 hZ hown) k
theorem own_ldc2 (w : own_Wk p l e R s m args below meth c Z EL own n0 T vm0 h cells slots) (hx : p.tables.exec = Jvm.exec) {index : Nat} {v : Int64} (w1 : (Jvm.Cond.constantLong own index v).before a0 Z = true) {g : JFrame} (hg : g.method = m) (hd : decode c.code g.pc = .ok (.ldc2_w index, 3))
    (k : own_WP p e R below s Z EL n0 Q T { g with pc := g.pc + 3, stack := .long v :: g.stack }) : own_WP p e R below s Z EL n0 Q T g :=
  own_via w (fun locs X e0 hZ hown => X.ldc2Long hx hown (mvT hZ w1) hg hd) k
theorem own_ldcI (w : own_Wk p l e R s m args below meth c Z EL own n0 T vm0 h cells slots) (hx : p.tables.exec = Jvm.exec) {index : Nat} {v : Int32} (w1 : (Jvm.Cond.constant own index v).before a0 Z = true) {g : JFrame} (hg : g.method = m) (hd : decode c.code g.pc = .ok (.ldc index, 2))
    (k : own_WP p e R below s Z EL n0 Q T { g with pc := g.pc + 2, stack := .int v :: g.stack }) : own_WP p e R below s Z EL n0 Q T g :=
  own_via w (fun locs X e0 hZ hown => X.ldcInt hx hown (mvT hZ w1) hg hd) k
theorem own_acmp (w : own_Wk p l e R s m args below meth c Z EL own n0 T vm0 h cells slots) (hx : p.tables.exec = Jvm.exec) {g g' : JFrame} (hg : g.method = m) {cd : ACond} {x y : Value} {rest : List Value} (hs : g.stack = y :: x :: rest) (h1 : x.isRef = true) (h2 : y.isRef = true) {o : Int} {pc0 pc' : Nat} {same : Bool} (hpc : g.pc = pc0)
    (hd : decode c.code g.pc = .ok (.if_acmp cd o, 3)) (hq : decide (x = y) = same) (ho : 0 ≤ (pc0 : Int) + o) (hp : pc' = if acV cd same = true then ((pc0 : Int) + o).toNat else pc0 + 3) (hg' : g' = { g with pc := pc', stack := rest })
    (k : own_WP p e R below s Z EL n0 Q T g') : own_WP p e R below s Z EL n0 Q T g := by
  subst hg'
  exact own_via w (fun locs X e0 hZ hown t kk => Jvm.RoadKit.acmp X hx hg h1 h2 hpc hd hs hq ho hp kk) k
theorem own_caload (w : own_Wk p l e R s m args below meth c Z EL own n0 T vm0 h cells slots) (hx : p.tables.exec = Jvm.exec) {a : Addr} {kA : ClassId} {z j x : Int32} {vs : List Value} {dv : Value} (V : Arv Z h a kA .char z vs dv) (hj : ¬ j < 0 ∧ j < z) {g : JFrame} (hg : g.method = m) {rest : List Value} (hs : g.stack = .int j :: .ref a :: rest) (hd : decode c.code g.pc = .ok (.caload, 1)) (hv : vs.getD j.toNatClampNeg dv = .int x)
    (k : own_WP p e R below s Z EL n0 Q T { g with pc := g.pc + 1, stack := .int x :: rest }) : own_WP p e R below s Z EL n0 Q T g := by
  obtain ⟨cl, A, q, S, N, H, G⟩ := V
  exact own_via w (fun locs X e0 hZ hown t kk => X.caload hx (by rw [e0]; exact A.1) (State.isArrayOf_alike (T := s.setVm vm0) hZ.alike A.2.1) A.2.2 (inb_of S hj) (H.at (inb_of S hj) hv) hg hs hd t kk) k
theorem own_baload (w : own_Wk p l e R s m args below meth c Z EL own n0 T vm0 h cells slots) (hx : p.tables.exec = Jvm.exec) {a : Addr} {kA : ClassId} {z j x : Int32} {vs : List Value} {dv : Value} (V : Arv Z h a kA .byte z vs dv) (hj : ¬ j < 0 ∧ j < z) {g : JFrame} (hg : g.method = m) {rest : List Value} (hs : g.stack = .int j :: .ref a :: rest) (hd : decode c.code g.pc = .ok (.baload, 1)) (hv : vs.getD j.toNatClampNeg dv = .int x)
    (k : own_WP p e R below s Z EL n0 Q T { g with pc := g.pc + 1, stack := .int x :: rest }) : own_WP p e R below s Z EL n0 Q T g := by
  obtain ⟨cl, A, q, S, N, H, G⟩ := V
  exact own_via w (fun locs X e0 hZ hown t kk => X.baloadBytes hx (by rw [e0]; exact A.1) (State.isArrayOf_alike (T := s.setVm vm0) hZ.alike A.2.1) A.2.2 (inb_of S hj) (H.at (inb_of S hj) hv) hg hs hd t kk) k
theorem own_bastore (w : own_Wk p l e R s m args below meth c Z EL own n0 T vm0 h cells slots) (hx : p.tables.exec = Jvm.exec) {a : Addr} {kA : ClassId} {z j x : Int32} {vs : List Value} {dv : Value} (V : Arv Z h a kA .byte z vs dv) (hj : ¬ j < 0 ∧ j < z) (hx0 : x.toInt8.toInt32 = x) (hsf : Safe Z EL vm0 h a) {i : Nat} (hi : j.toNatClampNeg = i) (hl : i < vs.length) (ha : n0 ≤ a)
    {g : JFrame} (hg : g.method = m) {rest : List Value} (hs : g.stack = .int x :: .int j :: .ref a :: rest) (hd : decode c.code g.pc = .ok (.bastore, 1))
    (k : ∀ T' h', Wr h h' a i (.int x) → Arv Z h' a kA .byte z (vs.set i (.int x)) dv → own_Wk p l e R s m args below meth c Z EL own n0 T' vm0 h' cells slots → own_WP p e R below s Z EL n0 Q T' { g with pc := g.pc + 1, stack := rest }) : own_WP p e R below s Z EL n0 Q T g := by
  subst hi
  have hal : Z.vm.Alike vm0 := (own_hZ w).alike
  obtain ⟨cl, A, q, S, N, H, G⟩ := V
  have hnar : nar .byte x = x := hx0
  refine own_wrote (v := .int x) w ha hsf (fun locs X e0 hZ hown => ?_) (fun T' h' W w' => k T' h' W (Arv.set A q S N H G (by have := fits_nar_byte x; rw [hx0] at this; exact this) W _ rfl hl) w')
  have := stB X hx hZ e0 A (j := j) (x := x) (inb_of S hj) hg hs hd
  rw [hnar] at this
  exact this
theorem own_instNull (w : own_Wk p l e R s m args below meth c Z EL own n0 T vm0 h cells slots) (hx : p.tables.exec = Jvm.exec) {index : Nat} {g : JFrame} (hg : g.method = m) {rest : List Value} (hs : g.stack = .null :: rest) (hd : decode c.code g.pc = .ok (.instanceof index, 3))
    (k : own_WP p e R below s Z EL n0 Q T { g with pc := g.pc + 3, stack := .int 0 :: rest }) : own_WP p e R below s Z EL n0 Q T g :=
  own_via w (fun locs X e0 hZ hown t kk => X.instanceofNull hx hg hs hd t kk) k
theorem own_instN (w : own_Wk p l e R s m args below meth c Z EL own n0 T vm0 h cells slots) (hx : p.tables.exec = Jvm.exec) {K C : String} {index : Nat} (w1 : (Jvm.Cond.classLink own index K).before a0 Z = true) {a : Addr} (F : Ins Z s.heap a K false) (E : Exa Z s.heap a C) {g : JFrame} (hg : g.method = m) {rest : List Value} (hs : g.stack = .ref a :: rest) (hd : decode c.code g.pc = .ok (.instanceof index, 3))
    (k : ∀ T', own_Wk p l e R s m args below meth c Z EL own n0 T' vm0 h cells slots → own_WP p e R below s Z EL n0 Q T' { g with pc := g.pc + 3, stack := .int 0 :: rest }) : own_WP p e R below s Z EL n0 Q T g :=
  own_stay (T' := T) w (fun locs X e0 hZ hown => instN X hx hZ hown w1 e0 F E hg hs hd) k
theorem own_notInst {C K : String} {n : Nat} (w : (Jvm.Cond.superclass C "java/lang/Object").before a0 Z = true) (w0 : (Jvm.Cond.noSuperclass "java/lang/Object").before a0 Z = true) (wk : (Jvm.Cond.instantiable K n).before a0 Z = true) (hn : C ≠ K) (hn2 : "java/lang/Object" ≠ K) : ∃ c t, Z.vm.findClass C = some c ∧ Z.vm.findClass K = some t ∧ Z.vm.assignable c t = false := by
  obtain ⟨t, kt, g0, g2, g5, g7, -⟩ := Cond.instantiable_spec wk
  obtain ⟨o, ko, o1, o2, o3, -, -⟩ := Cond.noSuperclass_spec w0
  obtain ⟨c, h0⟩ := found_sup w
  obtain ⟨q, k, kp, h1, h2, h3, h4, h5, -, h7⟩ := Cond.superclass_spec h0 w
  cases o1.symm.trans h1
  have ne := ids_ne h0 g0 hn
  have ne2 := ids_ne o1 g0 hn2
  have nr : ∀ fuel, Z.vm.isSubclassAux fuel o t = false := fun fuel => by
    cases fuel with
    | zero => rfl
    | succ f => simp [Vm.isSubclassAux, ne2, o2, o3]
  have ns : ∀ fuel, Z.vm.isSubclassAux fuel c t = false := fun fuel => by
    cases fuel with
    | zero => rfl
    | succ f => simp [Vm.isSubclassAux, ne, h2, h4, nr]
  have g8 : kt.isInterface = false := by
    cases hh : kt.isInterface with
    | false => rfl
    | true => rw [hh] at g7; simp at g7
  refine ⟨c, t, h0, g0, ?_⟩
  show Z.vm.assignableAux (255 + 1) c t = false
  simp [Vm.assignableAux, ne, h2, g2, h5, g5, g8, Vm.isSubclass, ns]
theorem own_instNo (w : own_Wk p l e R s m args below meth c Z EL own n0 T vm0 h cells slots) (hx : p.tables.exec = Jvm.exec) {K C : String} {index : Nat} (w1 : (Jvm.Cond.classLink own index K).before a0 Z = true) {a : Addr} (E : Exa Z h a C) (F : ∃ c t, Z.vm.findClass C = some c ∧ Z.vm.findClass K = some t ∧ Z.vm.assignable c t = false) {g : JFrame} (hg : g.method = m) {rest : List Value} (hs : g.stack = .ref a :: rest) (hd : decode c.code g.pc = .ok (.instanceof index, 3))
    (k : ∀ T', own_Wk p l e R s m args below meth c Z EL own n0 T' vm0 h cells slots → own_WP p e R below s Z EL n0 Q T' { g with pc := g.pc + 3, stack := .int 0 :: rest }) : own_WP p e R below s Z EL n0 Q T g :=
  own_stay (T' := T) w (fun locs X e0 hZ hown => instNo X hx hZ hown w1 e0 E F hg hs hd) k
end OwnKit2
section OwnNum
theorem own_toInt_nn {k : Int32} (hk : ¬ k < 0) : k.toInt = (k.toBitVec.toNat : Int) ∧ k.toBitVec.toNat < 2147483648 := by
  rw [Int32.lt_iff_toInt_lt] at hk
  have e0 : (0 : Int32).toInt = 0 := rfl
  have hb : k.toInt = k.toBitVec.toInt := rfl
  have hl := k.toBitVec.isLt
  rw [e0, hb, BitVec.toInt_eq_toNat_cond] at hk
  rw [hb, BitVec.toInt_eq_toNat_cond]
  split at hk
  · rename_i q; rw [if_pos q]; exact ⟨rfl, by omega⟩
  · omega
theorem own_of_nat {k : Int32} {n : Nat} (h : k.toBitVec.toNat ≤ n) (hn : n < 2147483648) : k.toInt = (k.toBitVec.toNat : Int) := by
  have hb : k.toInt = k.toBitVec.toInt := rfl
  rw [hb, BitVec.toInt_eq_toNat_cond, if_pos (by omega)]
theorem own_mask (x k : Int32) (hk : ¬ k < 0) : ¬ (x &&& k) < 0 ∧ ¬ k < (x &&& k) := by
  obtain ⟨e1, l1⟩ := own_toInt_nn hk
  have h : (x &&& k).toBitVec.toNat ≤ k.toBitVec.toNat := by
    rw [Int32.toBitVec_and, BitVec.toNat_and]; exact Nat.and_le_right
  have e2 := own_of_nat h l1
  rw [Int32.lt_iff_toInt_lt, Int32.lt_iff_toInt_lt, e1, e2]
  have e0 : (0 : Int32).toInt = 0 := rfl
  omega
theorem own_rng255 {x : Int32} (h : ¬ x < 0 ∧ ¬ (255 : Int32) < x) : ¬ x < 0 ∧ ¬ (65535 : Int32) < x := by
  refine ⟨h.1, ?_⟩
  have h2 := h.2
  rw [Int32.lt_iff_toInt_lt] at h2 ⊢
  have e1 : (255 : Int32).toInt = 255 := rfl
  have e2 : (65535 : Int32).toInt = 65535 := rfl
  omega
theorem own_eqInt {x y : Int32} (h : x.toInt = y.toInt) : x = y := Int32.toInt_inj.mp h
theorem own_cases8 {n : Int32} (h : ¬ n < 0 ∧ ¬ (7 : Int32) < n) : n = 0 ∨ n = 1 ∨ n = 2 ∨ n = 3 ∨ n = 4 ∨ n = 5 ∨ n = 6 ∨ n = 7 := by
  obtain ⟨h0, h1⟩ := h
  rw [Int32.lt_iff_toInt_lt] at h0 h1
  have e0 : (0 : Int32).toInt = 0 := rfl
  have e7 : (7 : Int32).toInt = 7 := rfl
  rw [e0] at h0; rw [e7] at h1
  have q : n.toInt = 0 ∨ n.toInt = 1 ∨ n.toInt = 2 ∨ n.toInt = 3 ∨ n.toInt = 4 ∨ n.toInt = 5 ∨ n.toInt = 6 ∨ n.toInt = 7 := by omega
  rcases q with q | q | q | q | q | q | q | q
  · exact Or.inl (own_eqInt q)
  · exact Or.inr (Or.inl (own_eqInt q))
  · exact Or.inr (Or.inr (Or.inl (own_eqInt q)))
  · exact Or.inr (Or.inr (Or.inr (Or.inl (own_eqInt q))))
  · exact Or.inr (Or.inr (Or.inr (Or.inr (Or.inl (own_eqInt q)))))
  · exact Or.inr (Or.inr (Or.inr (Or.inr (Or.inr (Or.inl (own_eqInt q))))))
  · exact Or.inr (Or.inr (Or.inr (Or.inr (Or.inr (Or.inr (Or.inl (own_eqInt q)))))))
  · exact Or.inr (Or.inr (Or.inr (Or.inr (Or.inr (Or.inr (Or.inr (own_eqInt q)))))))
theorem own_cases4 {n : Int32} (h : ¬ n < 0 ∧ ¬ (3 : Int32) < n) : n = 0 ∨ n = 1 ∨ n = 2 ∨ n = 3 := by
  obtain ⟨h0, h1⟩ := h
  rw [Int32.lt_iff_toInt_lt] at h0 h1
  have e0 : (0 : Int32).toInt = 0 := rfl
  have e7 : (3 : Int32).toInt = 3 := rfl
  rw [e0] at h0; rw [e7] at h1
  have q : n.toInt = 0 ∨ n.toInt = 1 ∨ n.toInt = 2 ∨ n.toInt = 3 := by omega
  rcases q with q | q | q | q
  · exact Or.inl (own_eqInt q)
  · exact Or.inr (Or.inl (own_eqInt q))
  · exact Or.inr (Or.inr (Or.inl (own_eqInt q)))
  · exact Or.inr (Or.inr (Or.inr (own_eqInt q)))
/-- (char) (x & 255) -/
theorem own_ch255 (x : Int32) : (x &&& (255 : Int32)).toUInt32.toUInt16.toUInt32.toInt32 = x &&& 255 := i2c_mask x
theorem own_r255 (x : Int32) : ¬ (x &&& (255 : Int32)) < 0 ∧ ¬ (255 : Int32) < (x &&& (255 : Int32)) := own_mask x 255 (by decide)
theorem own_l255 (x : Int64) : (x &&& (255 : Int64)).toInt32 = x.toInt32 &&& (255 : Int32) := by
  apply Int32.toBitVec_inj.mp
  rw [Int32.toBitVec_and, Int64.toBitVec_toInt32, Int64.toBitVec_toInt32, Int64.toBitVec_and]
  apply BitVec.eq_of_getLsbD_eq
  intro i hi
  simp [BitVec.getLsbD_signExtend, BitVec.getLsbD_and, hi]
theorem own_cl255 (x : Int64) : ¬ ((x &&& (255 : Int64)).toInt32.toUInt32.toUInt16.toUInt32.toInt32) < 0 ∧ ¬ (255 : Int32) < ((x &&& (255 : Int64)).toInt32.toUInt32.toUInt16.toUInt32.toInt32) := by
  rw [own_l255, own_ch255]; exact own_r255 _
theorem own_rem {x k : Int32} (h : ¬ x < 0) (hk : (0 : Int32) < k) : ¬ (x % k) < 0 ∧ (x % k) < k := by
  rw [Int32.lt_iff_toInt_lt] at h hk
  have e0 : (0 : Int32).toInt = 0 := rfl
  rw [e0] at h hk
  have q : (x % k).toInt = x.toInt.tmod k.toInt := Int32.toInt_mod x k
  have q2 : x.toInt.tmod k.toInt = x.toInt % k.toInt := Int.tmod_eq_emod_of_nonneg (by omega)
  have q3 := Int.emod_nonneg x.toInt (show k.toInt ≠ 0 by omega)
  have q4 := Int.emod_lt_of_pos x.toInt hk
  rw [Int32.lt_iff_toInt_lt, Int32.lt_iff_toInt_lt, q, q2, e0]
  omega
theorem own_cases5 {n : Int32} (h : ¬ n < 0 ∧ n < (5 : Int32)) : n = 0 ∨ n = 1 ∨ n = 2 ∨ n = 3 ∨ n = 4 := by
  obtain ⟨h0, h1⟩ := h
  rw [Int32.lt_iff_toInt_lt] at h0 h1
  have e0 : (0 : Int32).toInt = 0 := rfl
  have e7 : (5 : Int32).toInt = 5 := rfl
  rw [e0] at h0; rw [e7] at h1
  have q : n.toInt = 0 ∨ n.toInt = 1 ∨ n.toInt = 2 ∨ n.toInt = 3 ∨ n.toInt = 4 := by omega
  rcases q with q | q | q | q | q
  · exact Or.inl (own_eqInt q)
  · exact Or.inr (Or.inl (own_eqInt q))
  · exact Or.inr (Or.inr (Or.inl (own_eqInt q)))
  · exact Or.inr (Or.inr (Or.inr (Or.inl (own_eqInt q))))
  · exact Or.inr (Or.inr (Or.inr (Or.inr (own_eqInt q))))
theorem own_cases6 {n : Int32} (h : ¬ n < 0 ∧ n < (6 : Int32)) : n = 0 ∨ n = 1 ∨ n = 2 ∨ n = 3 ∨ n = 4 ∨ n = 5 := by
  obtain ⟨h0, h1⟩ := h
  rw [Int32.lt_iff_toInt_lt] at h0 h1
  have e0 : (0 : Int32).toInt = 0 := rfl
  have e7 : (6 : Int32).toInt = 6 := rfl
  rw [e0] at h0; rw [e7] at h1
  have q : n.toInt = 0 ∨ n.toInt = 1 ∨ n.toInt = 2 ∨ n.toInt = 3 ∨ n.toInt = 4 ∨ n.toInt = 5 := by omega
  rcases q with q | q | q | q | q | q
  · exact Or.inl (own_eqInt q)
  · exact Or.inr (Or.inl (own_eqInt q))
  · exact Or.inr (Or.inr (Or.inl (own_eqInt q)))
  · exact Or.inr (Or.inr (Or.inr (Or.inl (own_eqInt q))))
  · exact Or.inr (Or.inr (Or.inr (Or.inr (Or.inl (own_eqInt q)))))
  · exact Or.inr (Or.inr (Or.inr (Or.inr (Or.inr (own_eqInt q)))))
theorem own_lo8lo8 (x : Int32) : x.toInt8.toInt32.toInt8.toInt32 = x.toInt8.toInt32 := by rw [Int8.toInt8_toInt32]
end OwnNum
section OwnIdx
theorem own_oi {a : Nat} (ha : a ≤ 4000) : (Int32.ofNat a).toInt = (a : Int) := Int32.toInt_ofNat_of_lt (by omega)
theorem own_olt {a b : Nat} (ha : a ≤ 4000) (hb : b ≤ 4000) : Int32.ofNat a < Int32.ofNat b ↔ a < b := by
  rw [Int32.lt_iff_toInt_lt, own_oi ha, own_oi hb]; omega
theorem own_oeq {a b : Nat} (ha : a ≤ 4000) (hb : b ≤ 4000) : Int32.ofNat a = Int32.ofNat b ↔ a = b := by
  rw [← Int32.toInt_inj, own_oi ha, own_oi hb]; omega
theorem own_osucc (a : Nat) : Int32.ofNat a + (1 : Int32) = Int32.ofNat (a + 1) := by
  rw [Int32.ofNat_add]; rfl
theorem own_oadd (a b : Nat) : Int32.ofNat a + Int32.ofNat b = Int32.ofNat (a + b) := by rw [Int32.ofNat_add]
theorem own_osub {a b : Nat} (h : b ≤ a) : Int32.ofNat a - Int32.ofNat b = Int32.ofNat (a - b) := by
  have q : Int32.ofNat a = Int32.ofNat (a - b) + Int32.ofNat b := by rw [← Int32.ofNat_add]; congr 1; omega
  rw [q, Int32.add_sub_cancel]
theorem own_o0 {a : Nat} (ha : a ≤ 4000) : ¬ Int32.ofNat a < 0 := by
  rw [Int32.lt_iff_toInt_lt, own_oi ha]
  show ¬ ((a : Int) < 0)
  omega
theorem own_on {a : Nat} (ha : a ≤ 4000) : (Int32.ofNat a).toNatClampNeg = a := Int32.toNatClampNeg_ofNat_of_lt (by omega)
/-- the place of a sign in a list, counted from i; -1 where it isn't there -/
def own_find (ch : Int32) : List Int32 → Nat → Int32
  | [], _ => -1
  | c :: cs, i => if c = ch then Int32.ofNat i else own_find ch cs (i + 1)
theorem own_lo8_inj {x y : Int32} (h0 : ¬ x < 0 ∧ ¬ (255 : Int32) < x) (k0 : ¬ y < 0 ∧ ¬ (255 : Int32) < y) (h : x.toInt8.toInt32 = y.toInt8.toInt32) : x = y := by
  have r : ∀ {z : Int32}, ¬ z < 0 ∧ ¬ (255 : Int32) < z → z.toInt8.toInt32 &&& 255 = z := fun {z} q => by
    obtain ⟨q0, q1⟩ := q
    rw [Int32.lt_iff_toInt_lt] at q0 q1
    have e0 : (0 : Int32).toInt = 0 := rfl
    have e1 : (255 : Int32).toInt = 255 := rfl
    have hz : z = Int32.ofNat z.toInt.toNat := by
      apply Int32.toInt_inj.mp
      rw [Int32.toInt_ofNat_of_lt (by omega)]; omega
    have t : ∀ k : Fin 256, (Int32.ofNat k.val).toInt8.toInt32 &&& 255 = Int32.ofNat k.val := by decide +kernel
    rw [hz]
    exact t ⟨z.toInt.toNat, by omega⟩
  rw [← r h0, ← r k0, h]
theorem own_find_tw (ch : Int32) : ∀ (cs : List Int32) (i : Nat), (own_find ch cs i = -1 ∧ cs.takeWhile (fun c => !decide (c = ch)) = cs) ∨ ∃ j, j < cs.length ∧ own_find ch cs i = Int32.ofNat (i + j) ∧ cs.takeWhile (fun c => !decide (c = ch)) = cs.take j
  | [], i => Or.inl ⟨rfl, rfl⟩
  | c :: cs, i => by
    by_cases q : c = ch
    · exact Or.inr ⟨0, by simp, by rw [own_find, if_pos q]; rfl, by simp [q]⟩
    · rcases own_find_tw ch cs (i + 1) with ⟨h1, h2⟩ | ⟨j, h1, h2, h3⟩
      · exact Or.inl ⟨by rw [own_find, if_neg q]; exact h1, by rw [List.takeWhile_cons, if_pos (by simp [q]), h2]⟩
      · refine Or.inr ⟨j + 1, by simp; omega, ?_, ?_⟩
        · rw [own_find, if_neg q, h2]; congr 1; omega
        · rw [List.takeWhile_cons, if_pos (by simp [q]), h3]; rfl
theorem own_opred {a : Nat} (h : 1 ≤ a) : Int32.ofNat a - (1 : Int32) = Int32.ofNat (a - 1) := own_osub (b := 1) h
theorem own_opred' {a : Nat} (h : 1 ≤ a) : Int32.ofNat a + (-1 : Int32) = Int32.ofNat (a - 1) := by
  rw [← own_opred h, Int32.sub_eq_add_neg]
end OwnIdx
section OwnStr
variable {p : Program} {l : Launch} {e : Env} {R : Room} {s : State} {m : MethodId} {args : Array Value} {below : List Frame} {meth : Method} {c : Code} {Z : State} {a0 : Array Value} {EL : List (String × Nat)} {own : String} {n0 : Nat} {T : State} {vm0 : Vm} {h h' : Heap} {cells slots : Nat} {Q : Option Value → Heap → Prop} {x a b : Addr} {cs ds : List Int32}
/-- a Latin-1 String that spells cs -/
def own_Str (Z : State) (h : Heap) (a : Addr) (cs : List Int32) : Prop :=
  Exa Z h a "java/lang/String" ∧ Fld Z h a "java/lang/String" "coder" "B" (.int 0) ∧ (∃ (t : Addr) (k : ClassId), Fld Z h a "java/lang/String" "value" "[B" (.ref t) ∧ Arv Z h t k .byte (Int32.ofNat cs.length) ((cs.map fun c => c.toInt8.toInt32).map Value.int) (.int 0)) ∧ (∀ c ∈ cs, ¬ c < 0 ∧ ¬ (255 : Int32) < c) ∧ cs.length ≤ 4000
theorem own_Str.ext (E : Ext h h') (F : own_Str Z h a cs) : own_Str Z h' a cs := by
  obtain ⟨h1, h2, ⟨t, k, h3, h4⟩, r⟩ := F
  exact ⟨h1.ext E, h2.ext E, ⟨t, k, h3.ext E, h4.ext E⟩, r⟩
/-- a String stays where an object of another class alone is written -/
theorem own_strKeep {C : String} {n : Nat} {y : Addr} (F : own_Str Z h a cs) (X : Exa Z h y C) (K : Keep h h' [y]) (wi : (Jvm.Cond.instantiable C n).before a0 Z = true) (hn : C ≠ "java/lang/String") : own_Str Z h' a cs := by
  obtain ⟨h1, h2, ⟨t, k, h3, h4⟩, r⟩ := F
  have n1 : a ≠ y := Exa.ne h1 X (Ne.symm hn)
  have n2 : t ≠ y := Ne.symm (X.neArv h4 wi)
  exact ⟨h1.keep K, h2.keep K (ninS n1 nin0), ⟨t, k, h3.keep K (ninS n1 nin0), h4.keep K (ninS n2 nin0)⟩, r⟩
theorem own_Str.exa (F : own_Str Z h a cs) : Exa Z h a "java/lang/String" := F.1
theorem own_Str.lt (F : own_Str Z h a cs) : a < h.size := F.1.lt
theorem own_Str.rng (F : own_Str Z h a cs) : ∀ c ∈ cs, ¬ c < 0 ∧ ¬ (255 : Int32) < c := F.2.2.2.1
theorem own_Str.len (F : own_Str Z h a cs) : cs.length ≤ 4000 := F.2.2.2.2
/-- a String that its constructor hasn't filled yet -/
def own_Raw (Z : State) (h : Heap) (x : Addr) : Prop := Exa Z h x "java/lang/String" ∧ Fld Z h x "java/lang/String" "value" "[B" .null ∧ Fld Z h x "java/lang/String" "coder" "B" (.int 0)
theorem own_Raw.ext (E : Ext h h') (F : own_Raw Z h x) : own_Raw Z h' x := ⟨F.1.ext E, F.2.1.ext E, F.2.2.ext E⟩
theorem own_Raw.wr {sl : Nat} {v : Value} (W : Wr h h' b sl v) (hne : x ≠ b) (F : own_Raw Z h x) : own_Raw Z h' x := ⟨F.1.wr W, F.2.1.other W (Or.inl hne), F.2.2.other W (Or.inl hne)⟩
theorem own_Raw.lt (F : own_Raw Z h x) : x < h.size := F.1.lt
theorem own_Raw.safe (hal : Z.vm.Alike vm0) (F : own_Raw Z h x) : Safe Z EL vm0 h x := fun B => by
  obtain ⟨⟨cell, k, e1, e2, e3, -, -⟩, ⟨cell2, cf, kf, i, f, f1, f2, f3, f4, f5, f6, f7⟩, -⟩ := F
  cases e1.symm.trans f1
  obtain ⟨p, -, u, a, -, q, -, F, rfl | rfl⟩ := B
  · cases (show h[q.sa]? = some q.sC from F.ha).symm.trans e1
    obtain ⟨cS, ⟨⟨s1, s2, s3, ⟨cv, kv, iv, s4, s4'⟩, s5, s6, s7, s8, -⟩, -, -⟩, -⟩ := F
    obtain ⟨kv', z4⟩ := ff_back (U := Wst Z vm0 h) hal s4
    cases f2.symm.trans z4
    rw [s8] at f7
    cases f7
  · cases (show h[q.sd]? = some q.SA from F.hd).symm.trans e1
    obtain ⟨cS, -, -, ff, -⟩ := F
    have ff' : Z.vm.findClass "[B" = some q.SA.cls := by rw [← hal.findClass]; exact ff
    obtain ⟨k1, q1, q2⟩ := Vm.findClass_spec ff'
    obtain ⟨k2, q3, q4⟩ := Vm.findClass_spec e2
    cases q1.symm.trans q3
    exact absurd (q2.symm.trans q4) (by decide)
theorem own_up {x : Int32} (h : ¬ (255 : Int32) < x) : ¬ (65535 : Int32) < x := by
  rw [Int32.lt_iff_toInt_lt] at h ⊢
  have e1 : (255 : Int32).toInt = 255 := rfl
  have e2 : (65535 : Int32).toInt = 65535 := rfl
  omega
theorem own_rng (F : ∀ c ∈ cs, ¬ c < 0 ∧ ¬ (255 : Int32) < c) : ∀ c ∈ cs, ¬ c < 0 ∧ ¬ (65535 : Int32) < c := fun c hc => ⟨(F c hc).1, own_up (F c hc).2⟩
theorem own_nneg {n : Nat} (hn : n ≤ 4000) : ¬ Int32.ofNat n < 0 := by
  rw [Int32.lt_iff_toInt_lt, Int32.toInt_ofNat_of_lt (by omega)]
  show ¬ ((n : Int) < 0)
  omega
theorem own_nat {n : Nat} (hn : n ≤ 4000) : (Int32.ofNat n).toNatClampNeg = n := Int32.toNatClampNeg_ofNat_of_lt (by omega)
/-- compact strings are on; the formatter is a reference: at the start -/
def own_SC (Z : State) : Prop := ∃ z : Int32, Sta Z Z.heap "java/lang/String" "COMPACT_STRINGS" "Z" (.int z) ∧ ¬ z = 0
def own_SF (Z : State) : Prop := ∃ fm : Value, Sta Z Z.heap "jdk/internal/util/Preconditions" "SIOOBE_FORMATTER" "Ljava/util/function/BiFunction;" fm ∧ fm.isRef = true
theorem own_ldc (w : own_Wk p l e R s m args below meth c Z EL own n0 T vm0 h cells slots) (hx : p.tables.exec = Jvm.exec) {text : String} {index : Nat} (w1 : (Jvm.Cond.stringLink own index text).before a0 Z = true) (wS : ∀ d ∈ Bundle.stringAtoms, d.before a0 Z = true) (hEL : EW Z a0 EL) (hmem : (own, index) ∈ EL) (cs : List Int32)
    (ht : (∀ c ∈ text.toList, c.toNat < 256) ∧ text.toList.map (fun c => Value.int (Jvm.Lit.byteI c.toNat.toUInt16)) = (cs.map fun c => c.toInt8.toInt32).map Value.int) (hcs : ∀ c ∈ cs, ¬ c < 0 ∧ ¬ (255 : Int32) < c) (hlen : cs.length ≤ 4000) {g : JFrame} (hg : g.method = m) (hd : decode c.code g.pc = .ok (.ldc index, 2)) {n : Nat} (hn : 4 * text.toList.length ≤ n) (hbig : n ≤ 536870912) (hc : cells + 2 ≤ R.cells) (hl : slots + (n + 4) ≤ R.slots)
    (k : ∀ (a : Addr) (T' : State) (vm1 : Vm) (h' : Heap), own_Str Z h' a cs → Ext h h' → CHr Z EL vm0 h vm1 h' → own_Wk p l e R s m args below meth c Z EL own n0 T' vm1 h' (cells + 2) (slots + (n + 4)) → own_WP p e R below s Z EL n0 Q T' { g with pc := g.pc + 2, stack := .ref a :: g.stack }) : own_WP p e R below s Z EL n0 Q T g := by
  obtain ⟨locs, k0, X, e0, hS, hk, hZ, hown, N, O, C⟩ := w
  obtain ⟨a, T', h', k1, b, kk, X', e1, E, hS', hk', hZ', hown', x1, x2, x3, x4, -, -, C', -, -, st⟩ := ldcCH X hx hZ hown w1 wS e0 hS hk hEL hmem C.1 (z := Int32.ofNat cs.length) ht (own_nneg hlen) (by rw [own_nat hlen]; simp) hg hd hn hbig hc hl
  exact own_by st (k a T' T'.vm h' ⟨x1, x2, ⟨b, kk, x3, x4⟩, hcs, hlen⟩ E C' ⟨locs, k1, X', e1, hS', hk', hZ', hown', N, O.ext E, C.trans C'⟩)
theorem own_alen (w : own_Wk p l e R s m args below meth c Z EL own n0 T vm0 h cells slots) (hx : p.tables.exec = Jvm.exec) {kA : ClassId} {ty : FieldType} {z : Int32} {vs : List Value} {dv : Value} (V : Arv Z h a kA ty z vs dv) {g : JFrame} (hg : g.method = m) {rest : List Value} (hs : g.stack = .ref a :: rest) (hd : decode c.code g.pc = .ok (.arraylength, 1))
    (k : own_WP p e R below s Z EL n0 Q T { g with pc := g.pc + 1, stack := .int z :: rest }) : own_WP p e R below s Z EL n0 Q T g := by
  obtain ⟨locs, k0, X, e0, hS, hk, hZ, hown, N, O, C⟩ := w
  obtain ⟨cl, A, q, S, N, H, G⟩ := V
  refine own_by (fun t kk => X.arraylength hx (by rw [e0]; exact A.1) (State.isArrayOf_alike (T := s.setVm vm0) hZ.alike A.2.1) hg hs hd _ ?_) k
  rw [len_of S N]
  exact kk
theorem own_payNew {kC : ClassId} {d : Value} {W kI : Nat} (w : own_Wk p l e R s m args below meth c Z EL own n0 T vm0 h cells slots) (hEL : EW Z a0 EL) (hws : ∀ d ∈ StrChars.Road.words, d.before a0 Z = true) (wi : (Jvm.Cond.instantiable "java/lang/String" kI).before a0 Z = true) (SC : own_SC Z) (F : own_Raw Z h x) (K : Arv Z h b kC .char (Int32.ofNat cs.length) (cs.map Value.int) d) (hx0 : n0 ≤ x)
    (h0 : 0 < cs.length) (hl : cs.length ≤ 4000) (hp : ∀ c ∈ cs, ¬ c < 0 ∧ ¬ (255 : Int32) < c) (hfr : 4 ≤ R.frames) (hlo : W + 65 ≤ R.locals) : own_Pay l R p e below s args (⟨"java/lang/String", "<init>", "([C)V"⟩ : MethodName) 3 W Z EL n0 vm0 h #[.ref x, .ref b] 1 cs.length (fun v h' => v = none ∧ Keep h h' [x] ∧ own_Str Z h' x cs) := by
  obtain ⟨z, S, hz⟩ := SC
  refine own_payBack (ws := [x]) (Q0 := StrChars.Road.QV Z x (Int32.ofNat cs.length) (cs.map fun c => c.toInt8.toInt32) h n0) w hEL (StrChars.Road.backV (s := s.setVm vm0) (own_hZ w) hws wi hx0 (own_n0 w) F.1 F.2.1 F.2.2 K (S.ext (own_old w).2) hz rfl rfl h0 hl hp rfl hfr hlo) (fun v h' L q => ?_) (allS hx0 all0) (sfS (F.safe (own_hZ w).alike) sf0)
  obtain ⟨q1, q2, q3, q4, q5, t, kb, q6, q7, q8, q9, q10⟩ := q
  exact ⟨⟨q1, q3, q4, q5, ⟨t, kb, q9, q10⟩, hp, hl⟩, q2, q3⟩
/-- a Back that leaves the heap as it was -/
theorem own_payPure {y : MethodName} {len W : Nat} {as' : Array Value} {P : Option Value → Prop} (w : own_Wk p l e R s m args below meth c Z EL own n0 T vm0 h cells slots) (hEL : EW Z a0 EL)
    (K : Back l R p e below (s.setVm vm0) args y len W (fun A a => a = as' ∧ A.U.heap = h ∧ A.cells + 0 ≤ R.cells ∧ A.slots + 0 ≤ R.slots) (fun A _ v B => ∃ L, (P v ∧ L = [] ∧ B.U.heap = h) ∧ B.locs = A.locs ++ L ∧ B.cells = A.cells + 0 ∧ B.slots = A.slots + 0)) :
    own_Pay l R p e below s args y len W Z EL n0 vm0 h as' 0 0 (fun v h' => P v ∧ h = h') :=
  own_payBack (ws := []) (Q0 := fun v h' L => P v ∧ L = [] ∧ h' = h) w hEL K (fun v h' L q => ⟨⟨q.1, q.2.2.symm⟩, by rw [q.2.1]; exact Fr.nil _, by rw [q.2.2]; exact Keep.refl _ _⟩) all0 sf0
end OwnStr
section OwnLen
variable {p : Program} {l : Launch} {e : Env} {R : Room} {s : State} {m : MethodId} {args : Array Value} {below : List Frame} {meth : Method} {c : Code} {Z : State} {a0 : Array Value} {EL : List (String × Nat)} {own : String} {n0 : Nat} {T : State} {vm0 : Vm} {h h' : Heap} {cells slots : Nat} {x a b : Addr} {cs ds : List Int32}
theorem own_payLen {len W kI : Nat} (w : own_Wk p l e R s m args below meth c Z EL own n0 T vm0 h cells slots) (hEL : EW Z a0 EL) (hws : ∀ d ∈ StrChars.Road.wordsLen, d.before a0 Z = true) (wi : (Jvm.Cond.instantiable "java/lang/String" kI).before a0 Z = true) (SC : own_SC Z) (F : own_Str Z h x cs) (hfr : 2 ≤ R.frames) (hlo : W + 25 ≤ R.locals) :
    own_Pay l R p e below s args (⟨"java/lang/String", "length", "()I"⟩ : MethodName) len W Z EL n0 vm0 h #[.ref x] 0 0 (fun v h' => v = some (.int (Int32.ofNat cs.length)) ∧ h = h') := by
  obtain ⟨z, S, hz⟩ := SC
  obtain ⟨f1, f2, ⟨t, k, f3, f4⟩, f5, f6⟩ := F
  exact own_payPure (P := fun v => v = some (.int (Int32.ofNat cs.length))) w hEL (StrChars.Road.lenW (s := s.setVm vm0) (own_hZ w) hws wi f1 f3 f2 f4 (StrChars.Road.codOf rfl fun c hc => (f5 c hc).2) (own_rng f5) (S.ext (own_old w).2) hz f6 hfr hlo)
end OwnLen
section OwnChN
variable {p : Program} {l : Launch} {e : Env} {R : Room} {s : State} {m : MethodId} {args : Array Value} {below : List Frame} {meth : Method} {c : Code} {Z : State} {a0 : Array Value} {EL : List (String × Nat)} {own : String} {n0 : Nat} {T : State} {vm0 : Vm} {h h' : Heap} {cells slots : Nat} {x a b : Addr} {cs ds : List Int32}
theorem own_payChN {len W kI i : Nat} {j : Int32} (w : own_Wk p l e R s m args below meth c Z EL own n0 T vm0 h cells slots) (hEL : EW Z a0 EL) (hws : ∀ d ∈ StrChars.Road.wordsChN, d.before a0 Z = true) (wi : (Jvm.Cond.instantiable "java/lang/String" kI).before a0 Z = true) (SC : own_SC Z) (SF : own_SF Z) (F : own_Str Z h x cs) (hi : i < cs.length) (hj : j = Int32.ofNat i) (hfr : 4 ≤ R.frames) (hlo : W + 53 ≤ R.locals) :
    own_Pay l R p e below s args (⟨"java/lang/String", "charAt", "(I)C"⟩ : MethodName) len W Z EL n0 vm0 h #[.ref x, .int j] 0 0 (fun v h' => v = some (.int (cs.getD i 0)) ∧ h = h') := by
  obtain ⟨z, S, hz⟩ := SC
  obtain ⟨fm, S2, hf⟩ := SF
  obtain ⟨f1, f2, ⟨t, k, f3, f4⟩, f5, f6⟩ := F
  exact own_payPure (P := fun v => v = some (.int (cs.getD i 0))) w hEL (StrChars.Road.chN (s := s.setVm vm0) (own_hZ w) hws wi f1 f3 f2 f4 (StrChars.Road.codOf rfl fun c hc => (f5 c hc).2) (own_rng f5) (S.ext (own_old w).2) hz (S2.ext (own_old w).2) hf f6 hi hj hfr hlo)
end OwnChN
section OwnEq
variable {p : Program} {l : Launch} {e : Env} {R : Room} {s : State} {m : MethodId} {args : Array Value} {below : List Frame} {meth : Method} {c : Code} {Z : State} {a0 : Array Value} {EL : List (String × Nat)} {own : String} {n0 : Nat} {T : State} {vm0 : Vm} {h h' : Heap} {cells slots : Nat} {x a b y : Addr} {cs ds : List Int32}
theorem own_payEq {len W kI : Nat} (w : own_Wk p l e R s m args below meth c Z EL own n0 T vm0 h cells slots) (hEL : EW Z a0 EL) (hws : ∀ d ∈ StrChars.Road.wordsEq, d.before a0 Z = true) (wi : (Jvm.Cond.instantiable "java/lang/String" kI).before a0 Z = true) (SC : own_SC Z) (F : own_Str Z h x cs) (G : own_Str Z h y ds) (hfr : 2 ≤ R.frames) (hlo : W + 28 ≤ R.locals) :
    own_Pay l R p e below s args (⟨"java/lang/String", "equals", "(Ljava/lang/Object;)Z"⟩ : MethodName) len W Z EL n0 vm0 h #[.ref x, .ref y] 0 0 (fun v h' => ((v = some (.int 1) ∧ cs = ds) ∨ (v = some (.int 0) ∧ ¬ cs = ds)) ∧ h = h') := by
  obtain ⟨z, S, hz⟩ := SC
  obtain ⟨f1, f2, ⟨t, k, f3, f4⟩, f5, f6⟩ := F
  obtain ⟨g1, g2, ⟨t', k', g3, g4⟩, g5, g6⟩ := G
  exact own_payPure (P := fun v => (v = some (.int 1) ∧ cs = ds) ∨ (v = some (.int 0) ∧ ¬ cs = ds)) w hEL (StrChars.Road.eqW (s := s.setVm vm0) (own_hZ w) hws wi f1 f3 f2 f4 (StrChars.Road.codOf rfl fun c hc => (f5 c hc).2) (own_rng f5) f6 g1 g3 g2 g4 (StrChars.Road.codOf rfl fun c hc => (g5 c hc).2) (own_rng g5) g6 (S.ext (own_old w).2) hz hfr hlo)
end OwnEq
theorem own_EL {Z : State} {a0 : Array Value} (hw : ∀ d ∈ tables_1, d.before a0 Z = true) : EW Z a0 consts_1 := (EW.cons (hw _ (List.mem_of_getElem? (i := 36) rfl)) (by decide) EW.nil)
theorem own_txt_0 : (∀ c ∈ "".toList, c.toNat < 256) ∧ "".toList.map (fun c => Value.int (Jvm.Lit.byteI c.toNat.toUInt16)) = (([] : List Int32).map fun c => c.toInt8.toInt32).map Value.int := ⟨by decide, by decide⟩
theorem own_rng_0 : ∀ c ∈ ([] : List Int32), ¬ c < 0 ∧ ¬ (255 : Int32) < c := by decide
theorem own_len_0 : 4 * "".toList.length ≤ 0 := by decide
theorem own_wS {Z : State} {a0 : Array Value} (hw : ∀ d ∈ tables_1, d.before a0 Z = true) : ∀ d ∈ Bundle.stringAtoms, d.before a0 Z = true := fun d hd => hw d ((by decide +kernel : ∀ d ∈ Bundle.stringAtoms, d ∈ tables_1) d hd)
theorem own_wNew {Z : State} {a0 : Array Value} (hw : ∀ d ∈ tables_1, d.before a0 Z = true) : ∀ d ∈ StrChars.Road.words, d.before a0 Z = true := fun d hd => hw d ((by decide +kernel : ∀ d ∈ StrChars.Road.words, d ∈ tables_1) d hd)
theorem own_wLen {Z : State} {a0 : Array Value} (hw : ∀ d ∈ tables_1, d.before a0 Z = true) : ∀ d ∈ StrChars.Road.wordsLen, d.before a0 Z = true := fun d hd => hw d ((by decide +kernel : ∀ d ∈ StrChars.Road.wordsLen, d ∈ tables_1) d hd)
theorem own_wChN {Z : State} {a0 : Array Value} (hw : ∀ d ∈ tables_1, d.before a0 Z = true) : ∀ d ∈ StrChars.Road.wordsChN, d.before a0 Z = true := fun d hd => hw d ((by decide +kernel : ∀ d ∈ StrChars.Road.wordsChN, d ∈ tables_1) d hd)
theorem own_wEq {Z : State} {a0 : Array Value} (hw : ∀ d ∈ tables_1, d.before a0 Z = true) : ∀ d ∈ StrChars.Road.wordsEq, d.before a0 Z = true := fun d hd => hw d ((by decide +kernel : ∀ d ∈ StrChars.Road.wordsEq, d ∈ tables_1) d hd)
theorem d3_0 : decode jdk_42_method_149_code 0 = .ok (.aload_n 0, 1) := by decide +kernel
theorem d3_1 : decode jdk_42_method_149_code 1 = .ok (.invokespecial 1, 3) := by decide +kernel
theorem d3_4 : decode jdk_42_method_149_code 4 = .ok (.iload_n 3, 1) := by decide +kernel
theorem d3_5 : decode jdk_42_method_149_code 5 = .ok (.ifCond .ne 22, 3) := by decide +kernel
theorem d3_8 : decode jdk_42_method_149_code 8 = .ok (.aload_n 0, 1) := by decide +kernel
theorem d3_9 : decode jdk_42_method_149_code 9 = .ok (.ldc 7, 2) := by decide +kernel
theorem d3_11 : decode jdk_42_method_149_code 11 = .ok (.getfield 9, 3) := by decide +kernel
theorem d3_14 : decode jdk_42_method_149_code 14 = .ok (.putfield 9, 3) := by decide +kernel
theorem d3_17 : decode jdk_42_method_149_code 17 = .ok (.aload_n 0, 1) := by decide +kernel
theorem d3_18 : decode jdk_42_method_149_code 18 = .ok (.ldc 7, 2) := by decide +kernel
theorem d3_20 : decode jdk_42_method_149_code 20 = .ok (.getfield 15, 3) := by decide +kernel
theorem d3_23 : decode jdk_42_method_149_code 23 = .ok (.putfield 15, 3) := by decide +kernel
theorem d3_26 : decode jdk_42_method_149_code 26 = .ok (.return_, 1) := by decide +kernel
theorem pn_592151507 : plainFor (⟨"java/lang/String", "<init>", "([CIILjava/lang/Void;)V"⟩ : MethodName) = true := by first | exact plainFor_of_name (by first | (simp [plainName, overriddenIn]; done) | decide +kernel) | decide +kernel
theorem ef_ctNew4e (m : MethodId) (x0 : Addr) (x1 : Addr) (x2 : Int32) (x3 : Int32) : entryFrame m #[(.ref x0), (.ref x1), (.int x2), (.int x3), .null] 6 = mkF m 0 #[.val (.ref x0), .val (.ref x1), .val (.int x2), .val (.int x3), .val .null, .unset] [] := by first | (simp [entryFrame, mkF, argsToLocals, Value.category]; done) | rfl
set_option maxRecDepth 65536 in
set_option maxHeartbeats 40000000 in
theorem ctNew4e (l : Launch) (Z : State) (a0 : Array Value) (hw : ∀ d ∈ tables_1, d.before a0 Z = true) (n0 : Nat) (h0 : Heap) (O0 : Old Z n0 h0) (x b : Addr) (F0 : own_Raw Z h0 x) (gx : n0 ≤ x) :
    own_Ct l (⟨"java/lang/String", "<init>", "([CIILjava/lang/Void;)V"⟩ : MethodName) jdk_42_method_149_code 6 none ({ frames := 1, cells := 4, slots := 8, locals := 12 } : Room) Z consts_1 n0 #[(.ref x), (.ref b), (.int (0 : Int32)), (.int (0 : Int32)), .null] h0 [] (fun v h => v = none ∧ Keep h0 h [x] ∧ own_Str Z h x []) := by
  have hEL := own_EL hw
  refine own_body pn_592151507 O0 (fun p e s m below meth cc_ T0 vm0 hx hby hml0 hret hlk hnm hsf w0 => ?_)
  have hml : cc_.maxLocals = 6 := hml0
  have A_0 := own_at w0
  refine own_entry (ef_ctNew4e m x b (0 : Int32) (0 : Int32)) ?_
  refine own_by (T' := T0) (g' := (mkF m 1 #[.val (.ref x), .val (.ref b), .val (.int (0 : Int32)), .val (.int (0 : Int32)), .val .null, .unset] [(.ref x)])) (fun t_ hr_ => XS.aloadN A_0 hx rfl (Jvm.hb hby d3_0) rfl rfl hr_) ?_
  refine own_initO w0 hx (hw _ (List.mem_of_getElem? (i := 17) rfl)) (hw _ (List.mem_of_getElem? (i := 18) rfl)) (hw _ (List.mem_of_getElem? (i := 19) rfl)) (g := (mkF m 1 #[.val (.ref x), .val (.ref b), .val (.int (0 : Int32)), .val (.int (0 : Int32)), .val .null, .unset] [(.ref x)])) rfl (by rw [hml]; rfl) rfl (Jvm.hb hby d3_1) (by decide) (W := 0) (by show 2 * 0 + _ ≤ _; exact Nat.le_of_eq rfl) (by decide) (fun T1_ w1_ => ?_)
  have A1_ := own_at w1_
  show own_WP p e _ below s Z _ n0 _ T1_ (mkF m 4 #[.val (.ref x), .val (.ref b), .val (.int (0 : Int32)), .val (.int (0 : Int32)), .val .null, .unset] [])
  refine own_by (T' := T1_) (g' := (mkF m 5 #[.val (.ref x), .val (.ref b), .val (.int (0 : Int32)), .val (.int (0 : Int32)), .val .null, .unset] [(.int (0 : Int32))])) (fun t_ hr_ => XS.iloadN A1_ hx rfl (Jvm.hb hby d3_4) rfl hr_) ?_
  refine own_by (T' := T1_) (g' := (mkF m 8 #[.val (.ref x), .val (.ref b), .val (.int (0 : Int32)), .val (.int (0 : Int32)), .val .null, .unset] [])) (fun t_ hr_ => XS.ifNo A1_ hx rfl (Jvm.hb hby d3_5) rfl ((if0 _ _).trans (teq (rfl : (0 : Int32) = 0)).2) hr_) ?_
  refine own_by (T' := T1_) (g' := (mkF m 9 #[.val (.ref x), .val (.ref b), .val (.int (0 : Int32)), .val (.int (0 : Int32)), .val .null, .unset] [(.ref x)])) (fun t_ hr_ => XS.aloadN A1_ hx rfl (Jvm.hb hby d3_8) rfl rfl hr_) ?_
  refine own_ldc w1_ hx (hw _ (List.mem_of_getElem? (i := 36) rfl)) (own_wS hw) hEL (List.mem_of_getElem? (i := 0) rfl) [] own_txt_0 own_rng_0 (by decide) (g := (mkF m 9 #[.val (.ref x), .val (.ref b), .val (.int (0 : Int32)), .val (.int (0 : Int32)), .val .null, .unset] [(.ref x)])) rfl (Jvm.hb hby d3_9) (n := 0) own_len_0 (by decide) (by decide) (by decide) (fun a2_ T2_ vm2_ h2_ S2_ E2_ C2_ w2_ => ?_)
  have A2_ := own_at w2_
  show own_WP p e _ below s Z _ n0 _ T2_ (mkF m 11 #[.val (.ref x), .val (.ref b), .val (.int (0 : Int32)), .val (.int (0 : Int32)), .val .null, .unset] [(.ref a2_), (.ref x)])
  have R2_ := F0.ext E2_
  obtain ⟨b1, b2, ⟨t, kt, b3, b4⟩, b5, b6⟩ := S2_
  refine own_getF w2_ hx (hw _ (List.mem_of_getElem? (i := 34) rfl)) b3 (g := (mkF m 11 #[.val (.ref x), .val (.ref b), .val (.int (0 : Int32)), .val (.int (0 : Int32)), .val .null, .unset] [(.ref a2_), (.ref x)])) rfl rfl (Jvm.hb hby d3_11) (fun T3_ w3_ => ?_)
  have A3_ := own_at w3_
  show own_WP p e _ below s Z _ n0 _ T3_ (mkF m 14 #[.val (.ref x), .val (.ref b), .val (.int (0 : Int32)), .val (.int (0 : Int32)), .val .null, .unset] [(.ref t), (.ref x)])
  have Sf1 : Safe Z consts_1 vm2_ h2_ x := R2_.safe (own_hZ w3_).alike
  have ne1 : x ≠ t := R2_.1.neArv b4 (hw _ (List.mem_of_getElem? (i := 7) rfl))
  refine own_putF w3_ hx (hw _ (List.mem_of_getElem? (i := 34) rfl)) R2_.2.1 R2_.1 (Or.inr ⟨(hw _ (List.mem_of_getElem? (i := 35) rfl)), rfl, hnm⟩) (hw _ (List.mem_of_getElem? (i := 7) rfl)) (ty := (.array .byte)) (by decide) rfl rfl gx Sf1 (g := (mkF m 14 #[.val (.ref x), .val (.ref b), .val (.int (0 : Int32)), .val (.int (0 : Int32)), .val .null, .unset] [(.ref t), (.ref x)])) rfl rfl (Jvm.hb hby d3_14) (fun T4_ h4_ W4_ w4_ => ?_)
  have A4_ := own_at w4_
  show own_WP p e _ below s Z _ n0 _ T4_ (mkF m 17 #[.val (.ref x), .val (.ref b), .val (.int (0 : Int32)), .val (.int (0 : Int32)), .val .null, .unset] [])
  have Sf2 : Safe Z consts_1 vm2_ h4_ x := Safe.wr W4_ Sf1 (own_chv w3_) Sf1
  have X2 := R2_.1.wr W4_
  have V2 := R2_.2.1.same W4_
  have D2 := R2_.2.2.other W4_ (Or.inr (slot_ne (Or.inr (hw _ (List.mem_of_getElem? (i := 33) rfl))) (Or.inr (hw _ (List.mem_of_getElem? (i := 35) rfl))) (by decide) rfl rfl))
  have Y2 := b4.other W4_ (Ne.symm ne1)
  refine own_by (T' := T4_) (g' := (mkF m 18 #[.val (.ref x), .val (.ref b), .val (.int (0 : Int32)), .val (.int (0 : Int32)), .val .null, .unset] [(.ref x)])) (fun t_ hr_ => XS.aloadN A4_ hx rfl (Jvm.hb hby d3_17) rfl rfl hr_) ?_
  refine own_ldc w4_ hx (hw _ (List.mem_of_getElem? (i := 36) rfl)) (own_wS hw) hEL (List.mem_of_getElem? (i := 0) rfl) [] own_txt_0 own_rng_0 (by decide) (g := (mkF m 18 #[.val (.ref x), .val (.ref b), .val (.int (0 : Int32)), .val (.int (0 : Int32)), .val .null, .unset] [(.ref x)])) rfl (Jvm.hb hby d3_18) (n := 0) own_len_0 (by decide) (by decide) (by decide) (fun a5_ T5_ vm5_ h5_ S5_ E5_ C5_ w5_ => ?_)
  have A5_ := own_at w5_
  show own_WP p e _ below s Z _ n0 _ T5_ (mkF m 20 #[.val (.ref x), .val (.ref b), .val (.int (0 : Int32)), .val (.int (0 : Int32)), .val .null, .unset] [(.ref a5_), (.ref x)])
  obtain ⟨c1, c2, -⟩ := S5_
  have Sf3 : Safe Z consts_1 vm5_ h5_ x := C5_.safe X2.lt Sf2
  refine own_getF w5_ hx (hw _ (List.mem_of_getElem? (i := 32) rfl)) c2 (g := (mkF m 20 #[.val (.ref x), .val (.ref b), .val (.int (0 : Int32)), .val (.int (0 : Int32)), .val .null, .unset] [(.ref a5_), (.ref x)])) rfl rfl (Jvm.hb hby d3_20) (fun T6_ w6_ => ?_)
  have A6_ := own_at w6_
  show own_WP p e _ below s Z _ n0 _ T6_ (mkF m 23 #[.val (.ref x), .val (.ref b), .val (.int (0 : Int32)), .val (.int (0 : Int32)), .val .null, .unset] [(.int (0 : Int32)), (.ref x)])
  refine own_putF w6_ hx (hw _ (List.mem_of_getElem? (i := 32) rfl)) (D2.ext E5_) (X2.ext E5_) (Or.inr ⟨(hw _ (List.mem_of_getElem? (i := 33) rfl)), rfl, hnm⟩) (hw _ (List.mem_of_getElem? (i := 7) rfl)) (ty := .byte) (by decide) rfl rfl gx Sf3 (g := (mkF m 23 #[.val (.ref x), .val (.ref b), .val (.int (0 : Int32)), .val (.int (0 : Int32)), .val .null, .unset] [(.int (0 : Int32)), (.ref x)])) rfl rfl (Jvm.hb hby d3_23) (fun T7_ h7_ W7_ w7_ => ?_)
  have A7_ := own_at w7_
  show own_WP p e _ below s Z _ n0 _ T7_ (mkF m 26 #[.val (.ref x), .val (.ref b), .val (.int (0 : Int32)), .val (.int (0 : Int32)), .val .null, .unset] [])
  exact own_retV w7_ hx hEL hlk hret (Jvm.hb hby d3_26) (by decide) (by decide) ⟨rfl, (((((Keep.refl h0 [x]).ext E2_).wr W4_ (Or.inl (List.mem_of_getElem? (i := 0) rfl))).ext E5_).wr W7_ (Or.inl (List.mem_of_getElem? (i := 0) rfl))), (X2.ext E5_).wr W7_, (D2.ext E5_).same W7_, ⟨t, kt, (V2.ext E5_).other W7_ (Or.inr (slot_ne (Or.inr (hw _ (List.mem_of_getElem? (i := 35) rfl))) (Or.inr (hw _ (List.mem_of_getElem? (i := 33) rfl))) (by decide) rfl rfl)), (Y2.ext E5_).other W7_ (Ne.symm ne1)⟩, b5, b6⟩

theorem d2_0 : decode jdk_42_method_3_code 0 = .ok (.aload_n 0, 1) := by decide +kernel
theorem d2_1 : decode jdk_42_method_3_code 1 = .ok (.aload_n 1, 1) := by decide +kernel
theorem d2_2 : decode jdk_42_method_3_code 2 = .ok (.iconst 0, 1) := by decide +kernel
theorem d2_3 : decode jdk_42_method_3_code 3 = .ok (.aload_n 1, 1) := by decide +kernel
theorem d2_4 : decode jdk_42_method_3_code 4 = .ok (.arraylength, 1) := by decide +kernel
theorem d2_5 : decode jdk_42_method_3_code 5 = .ok (.aconst_null, 1) := by decide +kernel
theorem d2_6 : decode jdk_42_method_3_code 6 = .ok (.invokespecial 27, 3) := by decide +kernel
theorem pd_677231080 : parseMethodDescriptor "([CIILjava/lang/Void;)V" = some ⟨[(.array .char), .int, .int, (.object "java/lang/Void")], none⟩ := by decide +kernel
theorem d2_9 : decode jdk_42_method_3_code 9 = .ok (.return_, 1) := by decide +kernel
theorem pn_399269609 : plainFor (⟨"java/lang/String", "<init>", "([C)V"⟩ : MethodName) = true := by first | exact plainFor_of_name (by first | (simp [plainName, overriddenIn]; done) | decide +kernel) | decide +kernel
theorem ef_ctNew1e (m : MethodId) (x0 : Addr) (x1 : Addr) : entryFrame m #[(.ref x0), (.ref x1)] 2 = mkF m 0 #[.val (.ref x0), .val (.ref x1)] [] := by first | (simp [entryFrame, mkF, argsToLocals, Value.category]; done) | rfl
set_option maxRecDepth 65536 in
set_option maxHeartbeats 40000000 in
theorem ctNew1e (l : Launch) (Z : State) (a0 : Array Value) (hw : ∀ d ∈ tables_1, d.before a0 Z = true) (n0 : Nat) (h0 : Heap) (O0 : Old Z n0 h0) (x b : Addr) (kC : ClassId) (vs : List Value) (dv : Value) (F0 : own_Raw Z h0 x) (V0 : Arv Z h0 b kC .char (0 : Int32) vs dv) (gx : n0 ≤ x) :
    own_Ct l (⟨"java/lang/String", "<init>", "([C)V"⟩ : MethodName) jdk_42_method_3_code 2 none ({ frames := 2, cells := 4, slots := 8, locals := 29 } : Room) Z consts_1 n0 #[(.ref x), (.ref b)] h0 [] (fun v h => v = none ∧ Keep h0 h [x] ∧ own_Str Z h x []) := by
  have hEL := own_EL hw
  refine own_body pn_399269609 O0 (fun p e s m below meth cc_ T0 vm0 hx hby hml0 hret hlk hnm hsf w0 => ?_)
  have hml : cc_.maxLocals = 2 := hml0
  have A_0 := own_at w0
  refine own_entry (ef_ctNew1e m x b) ?_
  refine own_by (T' := T0) (g' := (mkF m 1 #[.val (.ref x), .val (.ref b)] [(.ref x)])) (fun t_ hr_ => XS.aloadN A_0 hx rfl (Jvm.hb hby d2_0) rfl rfl hr_) ?_
  refine own_by (T' := T0) (g' := (mkF m 2 #[.val (.ref x), .val (.ref b)] [(.ref b), (.ref x)])) (fun t_ hr_ => XS.aloadN A_0 hx rfl (Jvm.hb hby d2_1) rfl rfl hr_) ?_
  refine own_by (T' := T0) (g' := (mkF m 3 #[.val (.ref x), .val (.ref b)] [(.int (0 : Int32)), (.ref b), (.ref x)])) (fun t_ hr_ => XS.iconst A_0 hx rfl (Jvm.hb hby d2_2) hr_) ?_
  refine own_by (T' := T0) (g' := (mkF m 4 #[.val (.ref x), .val (.ref b)] [(.ref b), (.int (0 : Int32)), (.ref b), (.ref x)])) (fun t_ hr_ => XS.aloadN A_0 hx rfl (Jvm.hb hby d2_3) rfl rfl hr_) ?_
  refine own_alen w0 hx V0 (g := (mkF m 4 #[.val (.ref x), .val (.ref b)] [(.ref b), (.int (0 : Int32)), (.ref b), (.ref x)])) rfl rfl (Jvm.hb hby d2_4) ?_
  show own_WP p e _ below s Z _ n0 _ T0 (mkF m 5 #[.val (.ref x), .val (.ref b)] [(.int (0 : Int32)), (.int (0 : Int32)), (.ref b), (.ref x)])
  refine own_by (T' := T0) (g' := (mkF m 6 #[.val (.ref x), .val (.ref b)] [.null, (.int (0 : Int32)), (.int (0 : Int32)), (.ref b), (.ref x)])) (fun t_ hr_ => XS.aconstNull A_0 hx rfl (Jvm.hb hby d2_5) hr_) ?_
  refine own_callC w0 hx (y := (⟨"java/lang/String", "<init>", "([CIILjava/lang/Void;)V"⟩ : MethodName)) rfl (hw _ (List.mem_of_getElem? (i := 13) rfl)) (hw _ (List.mem_of_getElem? (i := 14) rfl)) (hw _ (List.mem_of_getElem? (i := 16) rfl)) (by decide) (kc := 4) (ks := 8) (a := x) (argsL := [(.ref b), (.int (0 : Int32)), (.int (0 : Int32)), .null]) (rest := []) (own_payCt (W := 0) (ctNew4e l Z a0 hw n0 h0 O0 x b F0 gx) w0 (hw _ (List.mem_of_getElem? (i := 16) rfl)) (hw _ (List.mem_of_getElem? (i := 8) rfl)) hEL (by decide) (by decide)) (g := (mkF m 6 #[.val (.ref x), .val (.ref b)] [.null, (.int (0 : Int32)), (.int (0 : Int32)), (.ref b), (.ref x)])) rfl (by rw [hml]; rfl) (lenOf pd_677231080 rfl) rfl (by show 2 * 0 + _ ≤ _; exact Nat.le_of_eq rfl) (Jvm.hb hby d2_6) (by decide) (by decide) (fun v1_ T1_ vm1_ h1_ q1_ C1_ w1_ => ?_)
  obtain ⟨rfl, K1, S1⟩ := q1_
  have A1_ := own_at w1_
  show own_WP p e _ below s Z _ n0 _ T1_ (mkF m 9 #[.val (.ref x), .val (.ref b)] [])
  exact own_retV w1_ hx hEL hlk hret (Jvm.hb hby d2_9) (by decide) (by decide) ⟨rfl, K1, S1⟩

theorem d1_14 : decode method_2_code 14 = .ok (.lload_n 0, 1) := by decide +kernel
theorem d1_15 : decode method_2_code 15 = .ok (.iconst 2, 1) := by decide +kernel
theorem d1_16 : decode method_2_code 16 = .ok (.lushr, 1) := by decide +kernel
theorem d1_17 : decode method_2_code 17 = .ok (.ldc2_w 9, 3) := by decide +kernel
theorem d1_20 : decode method_2_code 20 = .ok (.land, 1) := by decide +kernel
theorem d1_21 : decode method_2_code 21 = .ok (.l2i, 1) := by decide +kernel
theorem d1_22 : decode method_2_code 22 = .ok (.i2c, 1) := by decide +kernel
theorem d1_23 : decode method_2_code 23 = .ok (.istore_n 3, 1) := by decide +kernel
theorem d1_24 : decode method_2_code 24 = .ok (.lload_n 0, 1) := by decide +kernel
theorem d1_25 : decode method_2_code 25 = .ok (.bipush 10, 2) := by decide +kernel
theorem d1_27 : decode method_2_code 27 = .ok (.lushr, 1) := by decide +kernel
theorem d1_28 : decode method_2_code 28 = .ok (.ldc2_w 9, 3) := by decide +kernel
theorem d1_31 : decode method_2_code 31 = .ok (.land, 1) := by decide +kernel
theorem d1_32 : decode method_2_code 32 = .ok (.l2i, 1) := by decide +kernel
theorem d1_33 : decode method_2_code 33 = .ok (.i2c, 1) := by decide +kernel
theorem d1_34 : decode method_2_code 34 = .ok (.istore 4, 2) := by decide +kernel
theorem d1_36 : decode method_2_code 36 = .ok (.iload_n 2, 1) := by decide +kernel
theorem d1_37 : decode method_2_code 37 = .ok (.ifCond .ne 14, 3) := by decide +kernel
theorem d1_40 : decode method_2_code 40 = .ok (.new 11, 3) := by decide +kernel
theorem d1_43 : decode method_2_code 43 = .ok (.dup, 1) := by decide +kernel
theorem d1_44 : decode method_2_code 44 = .ok (.iconst 0, 1) := by decide +kernel
theorem d1_45 : decode method_2_code 45 = .ok (.newarray .char, 2) := by decide +kernel
theorem d1_47 : decode method_2_code 47 = .ok (.invokespecial 13, 3) := by decide +kernel
theorem pd_985728288 : parseMethodDescriptor "([C)V" = some ⟨[(.array .char)], none⟩ := by decide +kernel
theorem d1_50 : decode method_2_code 50 = .ok (.areturn, 1) := by decide +kernel
theorem d1_51 : decode method_2_code 51 = .ok (.iload_n 2, 1) := by decide +kernel
theorem d1_52 : decode method_2_code 52 = .ok (.iconst 1, 1) := by decide +kernel
theorem d1_53 : decode method_2_code 53 = .ok (.if_icmp .ne 18, 3) := by decide +kernel
theorem d1_56 : decode method_2_code 56 = .ok (.new 11, 3) := by decide +kernel
theorem d1_59 : decode method_2_code 59 = .ok (.dup, 1) := by decide +kernel
theorem d1_60 : decode method_2_code 60 = .ok (.iconst 1, 1) := by decide +kernel
theorem d1_61 : decode method_2_code 61 = .ok (.newarray .char, 2) := by decide +kernel
theorem d1_63 : decode method_2_code 63 = .ok (.dup, 1) := by decide +kernel
theorem d1_64 : decode method_2_code 64 = .ok (.iconst 0, 1) := by decide +kernel
theorem d1_65 : decode method_2_code 65 = .ok (.iload_n 3, 1) := by decide +kernel
theorem d1_66 : decode method_2_code 66 = .ok (.castore, 1) := by decide +kernel
theorem d1_67 : decode method_2_code 67 = .ok (.invokespecial 13, 3) := by decide +kernel
theorem d1_70 : decode method_2_code 70 = .ok (.areturn, 1) := by decide +kernel
theorem d1_71 : decode method_2_code 71 = .ok (.new 11, 3) := by decide +kernel
theorem d1_74 : decode method_2_code 74 = .ok (.dup, 1) := by decide +kernel
theorem d1_75 : decode method_2_code 75 = .ok (.iconst 2, 1) := by decide +kernel
theorem d1_76 : decode method_2_code 76 = .ok (.newarray .char, 2) := by decide +kernel
theorem d1_78 : decode method_2_code 78 = .ok (.dup, 1) := by decide +kernel
theorem d1_79 : decode method_2_code 79 = .ok (.iconst 0, 1) := by decide +kernel
theorem d1_80 : decode method_2_code 80 = .ok (.iload_n 3, 1) := by decide +kernel
theorem d1_81 : decode method_2_code 81 = .ok (.castore, 1) := by decide +kernel
theorem d1_82 : decode method_2_code 82 = .ok (.dup, 1) := by decide +kernel
theorem d1_83 : decode method_2_code 83 = .ok (.iconst 1, 1) := by decide +kernel
theorem d1_84 : decode method_2_code 84 = .ok (.iload 4, 2) := by decide +kernel
theorem d1_86 : decode method_2_code 86 = .ok (.castore, 1) := by decide +kernel
theorem d1_87 : decode method_2_code 87 = .ok (.invokespecial 13, 3) := by decide +kernel
theorem d1_90 : decode method_2_code 90 = .ok (.areturn, 1) := by decide +kernel
set_option maxRecDepth 65536 in
set_option maxHeartbeats 40000000 in
theorem JMK {p : Program} {l : Launch} {e : Env} {s : State} {m : MethodId} {below : List Frame} {meth : Method} {cc_ : Code} {Z : State} {a0 : Array Value} {n0 : Nat} {T0 : State} {vm0 : Vm} {h0 : Heap} (hw : ∀ d ∈ tables_1, d.before a0 Z = true) (SC : own_SC Z) (hx : p.tables.exec = Jvm.exec) (hby : cc_.code = method_2_code) (hml : cc_.maxLocals = 5) (hret : meth.sig.returnType = (some (.object "java/lang/String"))) (hlk : meth.locks = false) (hnm : meth.name = "mk") (b : Int64) (n : Int32) (O0 : Old Z n0 h0) (w0 : own_Wk p l e ({ frames := 5, cells := 6, slots := 16, locals := 100 } : Room) s m #[.long b] below meth cc_ Z consts_1 "com/example/hecate/hecate/identity/VerifiedIdentityEqualsPinLaw" n0 T0 vm0 h0 0 0)  :
    own_WP p e ({ frames := 5, cells := 6, slots := 16, locals := 100 } : Room) below s Z consts_1 n0 (fun v h => ∃ x cs, v = some (.ref x) ∧ Ext h0 h ∧ own_Str Z h x cs ∧ cs.length ≤ 2) T0 (mkF m 14 #[.val (.long b), .second, .val (.int n), .unset, .unset] []) := by
  have hEL := own_EL hw
  have A_0 := own_at w0
  refine own_by (T' := T0) (g' := (mkF m 15 #[.val (.long b), .second, .val (.int n), .unset, .unset] [(.long b)])) (fun t_ hr_ => XS.lloadN A_0 hx rfl (Jvm.hb hby d1_14) rfl hr_) ?_
  refine own_by (T' := T0) (g' := (mkF m 16 #[.val (.long b), .second, .val (.int n), .unset, .unset] [(.int (2 : Int32)), (.long b)])) (fun t_ hr_ => XS.iconst A_0 hx rfl (Jvm.hb hby d1_15) hr_) ?_
  refine own_by (T' := T0) (g' := (mkF m 17 #[.val (.long b), .second, .val (.int n), .unset, .unset] [(.long ((b.toUInt64 >>> ((2 : Int32) &&& 0x3f).toInt64.toUInt64).toInt64))])) (fun t_ hr_ => XS.lushr A_0 hx rfl (Jvm.hb hby d1_16) rfl hr_) ?_
  refine own_ldc2 w0 hx (hw _ (List.mem_of_getElem? (i := 5) rfl)) (g := (mkF m 17 #[.val (.long b), .second, .val (.int n), .unset, .unset] [(.long ((b.toUInt64 >>> ((2 : Int32) &&& 0x3f).toInt64.toUInt64).toInt64))])) rfl (Jvm.hb hby d1_17) ?_
  show own_WP p e _ below s Z _ n0 _ T0 (mkF m 20 #[.val (.long b), .second, .val (.int n), .unset, .unset] [(.long (255 : Int64)), (.long ((b.toUInt64 >>> ((2 : Int32) &&& 0x3f).toInt64.toUInt64).toInt64))])
  refine own_by (T' := T0) (g' := (mkF m 21 #[.val (.long b), .second, .val (.int n), .unset, .unset] [(.long (((b.toUInt64 >>> ((2 : Int32) &&& 0x3f).toInt64.toUInt64).toInt64) &&& (255 : Int64)))])) (fun t_ hr_ => XS.land A_0 hx rfl (Jvm.hb hby d1_20) rfl hr_) ?_
  refine own_by (T' := T0) (g' := (mkF m 22 #[.val (.long b), .second, .val (.int n), .unset, .unset] [(.int ((((b.toUInt64 >>> ((2 : Int32) &&& 0x3f).toInt64.toUInt64).toInt64) &&& (255 : Int64)).toInt32))])) (fun t_ hr_ => XS.l2i A_0 hx rfl (Jvm.hb hby d1_21) rfl hr_) ?_
  refine own_by (T' := T0) (g' := (mkF m 23 #[.val (.long b), .second, .val (.int n), .unset, .unset] [(.int (((((b.toUInt64 >>> ((2 : Int32) &&& 0x3f).toInt64.toUInt64).toInt64) &&& (255 : Int64)).toInt32).toUInt32.toUInt16.toUInt32.toInt32))])) (fun t_ hr_ => XS.i2c A_0 hx rfl (Jvm.hb hby d1_22) rfl hr_) ?_
  obtain ⟨c0, ec0⟩ : ∃ z, z = (((((b.toUInt64 >>> ((2 : Int32) &&& 0x3f).toInt64.toUInt64).toInt64) &&& (255 : Int64)).toInt32).toUInt32.toUInt16.toUInt32.toInt32) := ⟨_, rfl⟩
  have r0 : ¬ c0 < 0 ∧ ¬ (255 : Int32) < c0 := by rw [ec0]; exact own_cl255 _
  rw [← ec0]
  clear ec0
  show own_WP p e _ below s Z _ n0 _ T0 (mkF m 23 #[.val (.long b), .second, .val (.int n), .unset, .unset] [(.int c0)])
  refine own_by (T' := T0) (g' := (mkF m 24 #[.val (.long b), .second, .val (.int n), .val (.int c0), .unset] [])) (fun t_ hr_ => XS.istoreN A_0 hx rfl (Jvm.hb hby d1_23) rfl (l' := #[.val (.long b), .second, .val (.int n), .val (.int c0), .unset]) rfl hr_) ?_
  refine own_by (T' := T0) (g' := (mkF m 25 #[.val (.long b), .second, .val (.int n), .val (.int c0), .unset] [(.long b)])) (fun t_ hr_ => XS.lloadN A_0 hx rfl (Jvm.hb hby d1_24) rfl hr_) ?_
  refine own_by (T' := T0) (g' := (mkF m 27 #[.val (.long b), .second, .val (.int n), .val (.int c0), .unset] [(.int (10 : Int32)), (.long b)])) (fun t_ hr_ => XS.bipush A_0 hx rfl (Jvm.hb hby d1_25) hr_) ?_
  refine own_by (T' := T0) (g' := (mkF m 28 #[.val (.long b), .second, .val (.int n), .val (.int c0), .unset] [(.long ((b.toUInt64 >>> ((10 : Int32) &&& 0x3f).toInt64.toUInt64).toInt64))])) (fun t_ hr_ => XS.lushr A_0 hx rfl (Jvm.hb hby d1_27) rfl hr_) ?_
  refine own_ldc2 w0 hx (hw _ (List.mem_of_getElem? (i := 5) rfl)) (g := (mkF m 28 #[.val (.long b), .second, .val (.int n), .val (.int c0), .unset] [(.long ((b.toUInt64 >>> ((10 : Int32) &&& 0x3f).toInt64.toUInt64).toInt64))])) rfl (Jvm.hb hby d1_28) ?_
  show own_WP p e _ below s Z _ n0 _ T0 (mkF m 31 #[.val (.long b), .second, .val (.int n), .val (.int c0), .unset] [(.long (255 : Int64)), (.long ((b.toUInt64 >>> ((10 : Int32) &&& 0x3f).toInt64.toUInt64).toInt64))])
  refine own_by (T' := T0) (g' := (mkF m 32 #[.val (.long b), .second, .val (.int n), .val (.int c0), .unset] [(.long (((b.toUInt64 >>> ((10 : Int32) &&& 0x3f).toInt64.toUInt64).toInt64) &&& (255 : Int64)))])) (fun t_ hr_ => XS.land A_0 hx rfl (Jvm.hb hby d1_31) rfl hr_) ?_
  refine own_by (T' := T0) (g' := (mkF m 33 #[.val (.long b), .second, .val (.int n), .val (.int c0), .unset] [(.int ((((b.toUInt64 >>> ((10 : Int32) &&& 0x3f).toInt64.toUInt64).toInt64) &&& (255 : Int64)).toInt32))])) (fun t_ hr_ => XS.l2i A_0 hx rfl (Jvm.hb hby d1_32) rfl hr_) ?_
  refine own_by (T' := T0) (g' := (mkF m 34 #[.val (.long b), .second, .val (.int n), .val (.int c0), .unset] [(.int (((((b.toUInt64 >>> ((10 : Int32) &&& 0x3f).toInt64.toUInt64).toInt64) &&& (255 : Int64)).toInt32).toUInt32.toUInt16.toUInt32.toInt32))])) (fun t_ hr_ => XS.i2c A_0 hx rfl (Jvm.hb hby d1_33) rfl hr_) ?_
  obtain ⟨c1, ec1⟩ : ∃ z, z = (((((b.toUInt64 >>> ((10 : Int32) &&& 0x3f).toInt64.toUInt64).toInt64) &&& (255 : Int64)).toInt32).toUInt32.toUInt16.toUInt32.toInt32) := ⟨_, rfl⟩
  have r1 : ¬ c1 < 0 ∧ ¬ (255 : Int32) < c1 := by rw [ec1]; exact own_cl255 _
  rw [← ec1]
  clear ec1
  show own_WP p e _ below s Z _ n0 _ T0 (mkF m 34 #[.val (.long b), .second, .val (.int n), .val (.int c0), .unset] [(.int c1)])
  refine own_by (T' := T0) (g' := (mkF m 36 #[.val (.long b), .second, .val (.int n), .val (.int c0), .val (.int c1)] [])) (fun t_ hr_ => XS.istore A_0 hx rfl (Jvm.hb hby d1_34) rfl (l' := #[.val (.long b), .second, .val (.int n), .val (.int c0), .val (.int c1)]) rfl hr_) ?_
  refine own_by (T' := T0) (g' := (mkF m 37 #[.val (.long b), .second, .val (.int n), .val (.int c0), .val (.int c1)] [(.int n)])) (fun t_ hr_ => XS.iloadN A_0 hx rfl (Jvm.hb hby d1_36) rfl hr_) ?_
  by_cases hb0 : n = (0 : Int32)
  · refine own_by (T' := T0) (g' := (mkF m 40 #[.val (.long b), .second, .val (.int n), .val (.int c0), .val (.int c1)] [])) (fun t_ hr_ => XS.ifNo A_0 hx rfl (Jvm.hb hby d1_37) rfl ((if0 _ _).trans (teq hb0).2) hr_) ?_
    refine own_new w0 hx (hw _ (List.mem_of_getElem? (i := 6) rfl)) (hw _ (List.mem_of_getElem? (i := 7) rfl)) (hw _ (List.mem_of_getElem? (i := 8) rfl)) (g := (mkF m 40 #[.val (.long b), .second, .val (.int n), .val (.int c0), .val (.int c1)] [])) rfl (Jvm.hb hby d1_40) (by decide) (by decide) (fun T1_ h1_ a1_ g1_ E1_ ⟨X1_, D1_⟩ w1_ => ?_)
    have A1_ := own_at w1_
    show own_WP p e _ below s Z _ n0 _ T1_ (mkF m 43 #[.val (.long b), .second, .val (.int n), .val (.int c0), .val (.int c1)] [(.ref a1_)])
    have R1_ : own_Raw Z h1_ a1_ := ⟨X1_, D1_ (Or.inr (hw _ (List.mem_of_getElem? (i := 35) rfl))) (ty := (.array .byte)) (by decide), D1_ (Or.inr (hw _ (List.mem_of_getElem? (i := 33) rfl))) (ty := .byte) (by decide)⟩
    have gn1_ : n0 ≤ a1_ := by rw [g1_]; exact own_n0 w0
    refine own_by (T' := T1_) (g' := (mkF m 44 #[.val (.long b), .second, .val (.int n), .val (.int c0), .val (.int c1)] [(.ref a1_), (.ref a1_)])) (fun t_ hr_ => XS.dup A1_ hx rfl (Jvm.hb hby d1_43) rfl rfl hr_) ?_
    refine own_by (T' := T1_) (g' := (mkF m 45 #[.val (.long b), .second, .val (.int n), .val (.int c0), .val (.int c1)] [(.int (0 : Int32)), (.ref a1_), (.ref a1_)])) (fun t_ hr_ => XS.iconst A1_ hx rfl (Jvm.hb hby d1_44) hr_) ?_
    refine own_newP w1_ hx (hw _ (List.mem_of_getElem? (i := 9) rfl)) (g := (mkF m 45 #[.val (.long b), .second, .val (.int n), .val (.int c0), .val (.int c1)] [(.int (0 : Int32)), (.ref a1_), (.ref a1_)])) rfl (Jvm.hb hby d1_45) rfl (by decide) (cap := 0) (by decide) (by decide) (by decide) (by decide) (fun T2_ h2_ a2_ k2_ g2_ E2_ V2_ w2_ => ?_)
    have A2_ := own_at w2_
    show own_WP p e _ below s Z _ n0 _ T2_ (mkF m 47 #[.val (.long b), .second, .val (.int n), .val (.int c0), .val (.int c1)] [(.ref a2_), (.ref a1_), (.ref a1_)])
    have gn2_ : n0 ≤ a2_ := Nat.le_trans gn1_ (by rw [g1_, g2_]; exact E1_.1)
    have ne2_ : a1_ ≠ a2_ := Nat.ne_of_lt (by rw [g2_]; exact R1_.lt)
    have ge2_ : h0.size ≤ a2_ := by rw [g2_]; exact E1_.1
    have R2_ := R1_.ext E2_
    have E_2_ := own_extTrans E1_ E2_
    refine own_callC w2_ hx (y := (⟨"java/lang/String", "<init>", "([C)V"⟩ : MethodName)) rfl (hw _ (List.mem_of_getElem? (i := 10) rfl)) (hw _ (List.mem_of_getElem? (i := 11) rfl)) (hw _ (List.mem_of_getElem? (i := 12) rfl)) (by decide) (kc := 4) (ks := 8) (a := a1_) (argsL := [(.ref a2_)]) (rest := [(.ref a1_)]) (own_payCt (W := 1) (ctNew1e l Z a0 hw n0 h2_ (own_old w2_) a1_ a2_ k2_ _ _ R2_ V2_ gn1_) w2_ (hw _ (List.mem_of_getElem? (i := 12) rfl)) (hw _ (List.mem_of_getElem? (i := 8) rfl)) hEL (by decide) (by decide)) (g := (mkF m 47 #[.val (.long b), .second, .val (.int n), .val (.int c0), .val (.int c1)] [(.ref a2_), (.ref a1_), (.ref a1_)])) rfl (by rw [hml]; rfl) (lenOf pd_985728288 rfl) rfl (by show 2 * 0 + _ ≤ _; exact Nat.le_of_eq rfl) (Jvm.hb hby d1_47) (by decide) (by decide) (fun v4_ T4_ vm4_ h4_ q4_ C4_ w4_ => ?_)
    obtain ⟨rfl, K3_, S3_⟩ := q4_
    have A4_ := own_at w4_
    show own_WP p e _ below s Z _ n0 _ T4_ (mkF m 50 #[.val (.long b), .second, .val (.int n), .val (.int c0), .val (.int c1)] [(.ref a1_)])
    have F_3_ := own_extK E_2_ K3_ (allS (by rw [g1_]; exact Nat.le_refl _) all0)
    exact own_retA w4_ hx hEL hlk hret rfl rfl (Jvm.hb hby d1_50) (by decide) (by decide) ⟨_, _, rfl, F_3_, S3_, by simp⟩
  · refine own_by (T' := T0) (g' := (mkF m 51 #[.val (.long b), .second, .val (.int n), .val (.int c0), .val (.int c1)] [])) (fun t_ hr_ => XS.ifYes A_0 hx rfl (pc0 := 37) (pc' := 51) rfl (Jvm.hb hby d1_37) rfl ((if0 _ _).trans (feq hb0).2) (by decide) (by decide) hr_) ?_
    refine own_by (T' := T0) (g' := (mkF m 52 #[.val (.long b), .second, .val (.int n), .val (.int c0), .val (.int c1)] [(.int n)])) (fun t_ hr_ => XS.iloadN A_0 hx rfl (Jvm.hb hby d1_51) rfl hr_) ?_
    refine own_by (T' := T0) (g' := (mkF m 53 #[.val (.long b), .second, .val (.int n), .val (.int c0), .val (.int c1)] [(.int (1 : Int32)), (.int n)])) (fun t_ hr_ => XS.iconst A_0 hx rfl (Jvm.hb hby d1_52) hr_) ?_
    by_cases hb1 : n = (1 : Int32)
    · refine own_by (T' := T0) (g' := (mkF m 56 #[.val (.long b), .second, .val (.int n), .val (.int c0), .val (.int c1)] [])) (fun t_ hr_ => XS.icmpNo A_0 hx rfl (Jvm.hb hby d1_53) rfl (teq hb1).2 hr_) ?_
      refine own_new w0 hx (hw _ (List.mem_of_getElem? (i := 6) rfl)) (hw _ (List.mem_of_getElem? (i := 7) rfl)) (hw _ (List.mem_of_getElem? (i := 8) rfl)) (g := (mkF m 56 #[.val (.long b), .second, .val (.int n), .val (.int c0), .val (.int c1)] [])) rfl (Jvm.hb hby d1_56) (by decide) (by decide) (fun T5_ h5_ a5_ g5_ E5_ ⟨X5_, D5_⟩ w5_ => ?_)
      have A5_ := own_at w5_
      show own_WP p e _ below s Z _ n0 _ T5_ (mkF m 59 #[.val (.long b), .second, .val (.int n), .val (.int c0), .val (.int c1)] [(.ref a5_)])
      have R5_ : own_Raw Z h5_ a5_ := ⟨X5_, D5_ (Or.inr (hw _ (List.mem_of_getElem? (i := 35) rfl))) (ty := (.array .byte)) (by decide), D5_ (Or.inr (hw _ (List.mem_of_getElem? (i := 33) rfl))) (ty := .byte) (by decide)⟩
      have gn5_ : n0 ≤ a5_ := by rw [g5_]; exact own_n0 w0
      refine own_by (T' := T5_) (g' := (mkF m 60 #[.val (.long b), .second, .val (.int n), .val (.int c0), .val (.int c1)] [(.ref a5_), (.ref a5_)])) (fun t_ hr_ => XS.dup A5_ hx rfl (Jvm.hb hby d1_59) rfl rfl hr_) ?_
      refine own_by (T' := T5_) (g' := (mkF m 61 #[.val (.long b), .second, .val (.int n), .val (.int c0), .val (.int c1)] [(.int (1 : Int32)), (.ref a5_), (.ref a5_)])) (fun t_ hr_ => XS.iconst A5_ hx rfl (Jvm.hb hby d1_60) hr_) ?_
      refine own_newP w5_ hx (hw _ (List.mem_of_getElem? (i := 9) rfl)) (g := (mkF m 61 #[.val (.long b), .second, .val (.int n), .val (.int c0), .val (.int c1)] [(.int (1 : Int32)), (.ref a5_), (.ref a5_)])) rfl (Jvm.hb hby d1_61) rfl (by decide) (cap := 1) (by decide) (by decide) (by decide) (by decide) (fun T6_ h6_ a6_ k6_ g6_ E6_ V6_ w6_ => ?_)
      have A6_ := own_at w6_
      show own_WP p e _ below s Z _ n0 _ T6_ (mkF m 63 #[.val (.long b), .second, .val (.int n), .val (.int c0), .val (.int c1)] [(.ref a6_), (.ref a5_), (.ref a5_)])
      have gn6_ : n0 ≤ a6_ := Nat.le_trans gn5_ (by rw [g5_, g6_]; exact E5_.1)
      have ne6_ : a5_ ≠ a6_ := Nat.ne_of_lt (by rw [g6_]; exact R5_.lt)
      have ge6_ : h0.size ≤ a6_ := by rw [g6_]; exact E5_.1
      have R6_ := R5_.ext E6_
      have E_6_ := own_extTrans E5_ E6_
      have U6_ : Arv Z h6_ a6_ k6_ .char (1 : Int32) [(.int (0 : Int32))] (.int 0) := V6_.pad (vs' := [(.int (0 : Int32))]) (fun i => pad_rep [] (.int (0 : Int32)) 1 i)
      refine own_by (T' := T6_) (g' := (mkF m 64 #[.val (.long b), .second, .val (.int n), .val (.int c0), .val (.int c1)] [(.ref a6_), (.ref a6_), (.ref a5_), (.ref a5_)])) (fun t_ hr_ => XS.dup A6_ hx rfl (Jvm.hb hby d1_63) rfl rfl hr_) ?_
      refine own_by (T' := T6_) (g' := (mkF m 65 #[.val (.long b), .second, .val (.int n), .val (.int c0), .val (.int c1)] [(.int (0 : Int32)), (.ref a6_), (.ref a6_), (.ref a5_), (.ref a5_)])) (fun t_ hr_ => XS.iconst A6_ hx rfl (Jvm.hb hby d1_64) hr_) ?_
      refine own_by (T' := T6_) (g' := (mkF m 66 #[.val (.long b), .second, .val (.int n), .val (.int c0), .val (.int c1)] [(.int c0), (.int (0 : Int32)), (.ref a6_), (.ref a6_), (.ref a5_), (.ref a5_)])) (fun t_ hr_ => XS.iloadN A6_ hx rfl (Jvm.hb hby d1_65) rfl hr_) ?_
      refine own_castore w6_ hx U6_ (by decide) (own_rng255 r0) (i := 0) rfl (by simp) gn6_ (g := (mkF m 66 #[.val (.long b), .second, .val (.int n), .val (.int c0), .val (.int c1)] [(.int c0), (.int (0 : Int32)), (.ref a6_), (.ref a6_), (.ref a5_), (.ref a5_)])) rfl rfl (Jvm.hb hby d1_66) (fun T7_ h7_ W7_ V7_ w7_ => ?_)
      have A7_ := own_at w7_
      show own_WP p e _ below s Z _ n0 _ T7_ (mkF m 67 #[.val (.long b), .second, .val (.int n), .val (.int c0), .val (.int c1)] [(.ref a6_), (.ref a5_), (.ref a5_)])
      have R7_ := own_Raw.wr W7_ ne6_ R6_
      have E_7_ := own_extWr E_6_ W7_ ge6_
      refine own_callC w7_ hx (y := (⟨"java/lang/String", "<init>", "([C)V"⟩ : MethodName)) rfl (hw _ (List.mem_of_getElem? (i := 10) rfl)) (hw _ (List.mem_of_getElem? (i := 11) rfl)) (hw _ (List.mem_of_getElem? (i := 12) rfl)) (by decide) (kc := 1) (ks := 1) (a := a5_) (argsL := [(.ref a6_)]) (rest := [(.ref a5_)]) (own_payNew (W := 1) (cs := [c0]) w7_ hEL (own_wNew hw) (hw _ (List.mem_of_getElem? (i := 7) rfl)) SC R7_ V7_ gn5_ (by simp) (by simp) (by simp only [List.forall_mem_cons, List.not_mem_nil, false_imp_iff, implies_true, and_true]; exact r0) (by decide) (by decide)) (g := (mkF m 67 #[.val (.long b), .second, .val (.int n), .val (.int c0), .val (.int c1)] [(.ref a6_), (.ref a5_), (.ref a5_)])) rfl (by rw [hml]; rfl) (lenOf pd_985728288 rfl) rfl (by show 2 * 0 + _ ≤ _; exact Nat.le_of_eq rfl) (Jvm.hb hby d1_67) (by decide) (by decide) (fun v9_ T9_ vm9_ h9_ q9_ C9_ w9_ => ?_)
      obtain ⟨rfl, K8_, S8_⟩ := q9_
      have A9_ := own_at w9_
      show own_WP p e _ below s Z _ n0 _ T9_ (mkF m 70 #[.val (.long b), .second, .val (.int n), .val (.int c0), .val (.int c1)] [(.ref a5_)])
      have F_8_ := own_extK E_7_ K8_ (allS (by rw [g5_]; exact Nat.le_refl _) all0)
      exact own_retA w9_ hx hEL hlk hret rfl rfl (Jvm.hb hby d1_70) (by decide) (by decide) ⟨_, _, rfl, F_8_, S8_, by simp⟩
    · refine own_by (T' := T0) (g' := (mkF m 71 #[.val (.long b), .second, .val (.int n), .val (.int c0), .val (.int c1)] [])) (fun t_ hr_ => XS.icmpYes A_0 hx rfl (pc0 := 53) (pc' := 71) rfl (Jvm.hb hby d1_53) rfl (feq hb1).2 (by decide) (by decide) hr_) ?_
      refine own_new w0 hx (hw _ (List.mem_of_getElem? (i := 6) rfl)) (hw _ (List.mem_of_getElem? (i := 7) rfl)) (hw _ (List.mem_of_getElem? (i := 8) rfl)) (g := (mkF m 71 #[.val (.long b), .second, .val (.int n), .val (.int c0), .val (.int c1)] [])) rfl (Jvm.hb hby d1_71) (by decide) (by decide) (fun T10_ h10_ a10_ g10_ E10_ ⟨X10_, D10_⟩ w10_ => ?_)
      have A10_ := own_at w10_
      show own_WP p e _ below s Z _ n0 _ T10_ (mkF m 74 #[.val (.long b), .second, .val (.int n), .val (.int c0), .val (.int c1)] [(.ref a10_)])
      have R10_ : own_Raw Z h10_ a10_ := ⟨X10_, D10_ (Or.inr (hw _ (List.mem_of_getElem? (i := 35) rfl))) (ty := (.array .byte)) (by decide), D10_ (Or.inr (hw _ (List.mem_of_getElem? (i := 33) rfl))) (ty := .byte) (by decide)⟩
      have gn10_ : n0 ≤ a10_ := by rw [g10_]; exact own_n0 w0
      refine own_by (T' := T10_) (g' := (mkF m 75 #[.val (.long b), .second, .val (.int n), .val (.int c0), .val (.int c1)] [(.ref a10_), (.ref a10_)])) (fun t_ hr_ => XS.dup A10_ hx rfl (Jvm.hb hby d1_74) rfl rfl hr_) ?_
      refine own_by (T' := T10_) (g' := (mkF m 76 #[.val (.long b), .second, .val (.int n), .val (.int c0), .val (.int c1)] [(.int (2 : Int32)), (.ref a10_), (.ref a10_)])) (fun t_ hr_ => XS.iconst A10_ hx rfl (Jvm.hb hby d1_75) hr_) ?_
      refine own_newP w10_ hx (hw _ (List.mem_of_getElem? (i := 9) rfl)) (g := (mkF m 76 #[.val (.long b), .second, .val (.int n), .val (.int c0), .val (.int c1)] [(.int (2 : Int32)), (.ref a10_), (.ref a10_)])) rfl (Jvm.hb hby d1_76) rfl (by decide) (cap := 2) (by decide) (by decide) (by decide) (by decide) (fun T11_ h11_ a11_ k11_ g11_ E11_ V11_ w11_ => ?_)
      have A11_ := own_at w11_
      show own_WP p e _ below s Z _ n0 _ T11_ (mkF m 78 #[.val (.long b), .second, .val (.int n), .val (.int c0), .val (.int c1)] [(.ref a11_), (.ref a10_), (.ref a10_)])
      have gn11_ : n0 ≤ a11_ := Nat.le_trans gn10_ (by rw [g10_, g11_]; exact E10_.1)
      have ne11_ : a10_ ≠ a11_ := Nat.ne_of_lt (by rw [g11_]; exact R10_.lt)
      have ge11_ : h0.size ≤ a11_ := by rw [g11_]; exact E10_.1
      have R11_ := R10_.ext E11_
      have E_11_ := own_extTrans E10_ E11_
      have U11_ : Arv Z h11_ a11_ k11_ .char (2 : Int32) [(.int (0 : Int32)), (.int (0 : Int32))] (.int 0) := V11_.pad (vs' := [(.int (0 : Int32)), (.int (0 : Int32))]) (fun i => pad_rep [] (.int (0 : Int32)) 2 i)
      refine own_by (T' := T11_) (g' := (mkF m 79 #[.val (.long b), .second, .val (.int n), .val (.int c0), .val (.int c1)] [(.ref a11_), (.ref a11_), (.ref a10_), (.ref a10_)])) (fun t_ hr_ => XS.dup A11_ hx rfl (Jvm.hb hby d1_78) rfl rfl hr_) ?_
      refine own_by (T' := T11_) (g' := (mkF m 80 #[.val (.long b), .second, .val (.int n), .val (.int c0), .val (.int c1)] [(.int (0 : Int32)), (.ref a11_), (.ref a11_), (.ref a10_), (.ref a10_)])) (fun t_ hr_ => XS.iconst A11_ hx rfl (Jvm.hb hby d1_79) hr_) ?_
      refine own_by (T' := T11_) (g' := (mkF m 81 #[.val (.long b), .second, .val (.int n), .val (.int c0), .val (.int c1)] [(.int c0), (.int (0 : Int32)), (.ref a11_), (.ref a11_), (.ref a10_), (.ref a10_)])) (fun t_ hr_ => XS.iloadN A11_ hx rfl (Jvm.hb hby d1_80) rfl hr_) ?_
      refine own_castore w11_ hx U11_ (by decide) (own_rng255 r0) (i := 0) rfl (by simp) gn11_ (g := (mkF m 81 #[.val (.long b), .second, .val (.int n), .val (.int c0), .val (.int c1)] [(.int c0), (.int (0 : Int32)), (.ref a11_), (.ref a11_), (.ref a10_), (.ref a10_)])) rfl rfl (Jvm.hb hby d1_81) (fun T12_ h12_ W12_ V12_ w12_ => ?_)
      have A12_ := own_at w12_
      show own_WP p e _ below s Z _ n0 _ T12_ (mkF m 82 #[.val (.long b), .second, .val (.int n), .val (.int c0), .val (.int c1)] [(.ref a11_), (.ref a10_), (.ref a10_)])
      have R12_ := own_Raw.wr W12_ ne11_ R11_
      have E_12_ := own_extWr E_11_ W12_ ge11_
      refine own_by (T' := T12_) (g' := (mkF m 83 #[.val (.long b), .second, .val (.int n), .val (.int c0), .val (.int c1)] [(.ref a11_), (.ref a11_), (.ref a10_), (.ref a10_)])) (fun t_ hr_ => XS.dup A12_ hx rfl (Jvm.hb hby d1_82) rfl rfl hr_) ?_
      refine own_by (T' := T12_) (g' := (mkF m 84 #[.val (.long b), .second, .val (.int n), .val (.int c0), .val (.int c1)] [(.int (1 : Int32)), (.ref a11_), (.ref a11_), (.ref a10_), (.ref a10_)])) (fun t_ hr_ => XS.iconst A12_ hx rfl (Jvm.hb hby d1_83) hr_) ?_
      refine own_by (T' := T12_) (g' := (mkF m 86 #[.val (.long b), .second, .val (.int n), .val (.int c0), .val (.int c1)] [(.int c1), (.int (1 : Int32)), (.ref a11_), (.ref a11_), (.ref a10_), (.ref a10_)])) (fun t_ hr_ => XS.iload A12_ hx rfl (Jvm.hb hby d1_84) rfl hr_) ?_
      refine own_castore w12_ hx V12_ (by decide) (own_rng255 r1) (i := 1) rfl (by simp) gn11_ (g := (mkF m 86 #[.val (.long b), .second, .val (.int n), .val (.int c0), .val (.int c1)] [(.int c1), (.int (1 : Int32)), (.ref a11_), (.ref a11_), (.ref a10_), (.ref a10_)])) rfl rfl (Jvm.hb hby d1_86) (fun T13_ h13_ W13_ V13_ w13_ => ?_)
      have A13_ := own_at w13_
      show own_WP p e _ below s Z _ n0 _ T13_ (mkF m 87 #[.val (.long b), .second, .val (.int n), .val (.int c0), .val (.int c1)] [(.ref a11_), (.ref a10_), (.ref a10_)])
      have R13_ := own_Raw.wr W13_ ne11_ R12_
      have E_13_ := own_extWr E_12_ W13_ ge11_
      refine own_callC w13_ hx (y := (⟨"java/lang/String", "<init>", "([C)V"⟩ : MethodName)) rfl (hw _ (List.mem_of_getElem? (i := 10) rfl)) (hw _ (List.mem_of_getElem? (i := 11) rfl)) (hw _ (List.mem_of_getElem? (i := 12) rfl)) (by decide) (kc := 1) (ks := 2) (a := a10_) (argsL := [(.ref a11_)]) (rest := [(.ref a10_)]) (own_payNew (W := 1) (cs := [c0, c1]) w13_ hEL (own_wNew hw) (hw _ (List.mem_of_getElem? (i := 7) rfl)) SC R13_ V13_ gn10_ (by simp) (by simp) (by simp only [List.forall_mem_cons, List.not_mem_nil, false_imp_iff, implies_true, and_true]; exact ⟨r0, r1⟩) (by decide) (by decide)) (g := (mkF m 87 #[.val (.long b), .second, .val (.int n), .val (.int c0), .val (.int c1)] [(.ref a11_), (.ref a10_), (.ref a10_)])) rfl (by rw [hml]; rfl) (lenOf pd_985728288 rfl) rfl (by show 2 * 0 + _ ≤ _; exact Nat.le_of_eq rfl) (Jvm.hb hby d1_87) (by decide) (by decide) (fun v15_ T15_ vm15_ h15_ q15_ C15_ w15_ => ?_)
      obtain ⟨rfl, K14_, S14_⟩ := q15_
      have A15_ := own_at w15_
      show own_WP p e _ below s Z _ n0 _ T15_ (mkF m 90 #[.val (.long b), .second, .val (.int n), .val (.int c0), .val (.int c1)] [(.ref a10_)])
      have F_14_ := own_extK E_13_ K14_ (allS (by rw [g10_]; exact Nat.le_refl _) all0)
      exact own_retA w15_ hx hEL hlk hret rfl rfl (Jvm.hb hby d1_90) (by decide) (by decide) ⟨_, _, rfl, F_14_, S14_, by simp⟩

theorem d1_0 : decode method_2_code 0 = .ok (.lload_n 0, 1) := by decide +kernel
theorem d1_1 : decode method_2_code 1 = .ok (.ldc2_w 7, 3) := by decide +kernel
theorem d1_4 : decode method_2_code 4 = .ok (.land, 1) := by decide +kernel
theorem d1_5 : decode method_2_code 5 = .ok (.l2i, 1) := by decide +kernel
theorem d1_6 : decode method_2_code 6 = .ok (.istore_n 2, 1) := by decide +kernel
theorem d1_7 : decode method_2_code 7 = .ok (.iload_n 2, 1) := by decide +kernel
theorem d1_8 : decode method_2_code 8 = .ok (.iconst 3, 1) := by decide +kernel
theorem d1_9 : decode method_2_code 9 = .ok (.if_icmp .ne 5, 3) := by decide +kernel
theorem d1_12 : decode method_2_code 12 = .ok (.iconst 2, 1) := by decide +kernel
theorem d1_13 : decode method_2_code 13 = .ok (.istore_n 2, 1) := by decide +kernel
theorem pn_945751379 : plainFor (⟨"com/example/hecate/hecate/identity/VerifiedIdentityEqualsPinLaw", "mk", "(J)Ljava/lang/String;"⟩ : MethodName) = true := by first | exact plainFor_of_name (by first | (simp [plainName, overriddenIn]; done) | decide +kernel) | decide +kernel
theorem ef_ct1 (m : MethodId) (x0 : Int64) : entryFrame m #[(.long x0)] 5 = mkF m 0 #[.val (.long x0), .second, .unset, .unset, .unset] [] := by first | (simp [entryFrame, mkF, argsToLocals, Value.category]; done) | rfl
set_option maxRecDepth 65536 in
set_option maxHeartbeats 40000000 in
theorem ct1 (l : Launch) (Z : State) (a0 : Array Value) (hw : ∀ d ∈ tables_1, d.before a0 Z = true) (SC : own_SC Z) (n0 : Nat) (h0 : Heap) (O0 : Old Z n0 h0) (b : Int64)  :
    own_Ct l (⟨"com/example/hecate/hecate/identity/VerifiedIdentityEqualsPinLaw", "mk", "(J)Ljava/lang/String;"⟩ : MethodName) method_2_code 5 (some (.object "java/lang/String")) ({ frames := 5, cells := 6, slots := 16, locals := 100 } : Room) Z consts_1 n0 #[(.long b)] h0 [] (fun v h => ∃ x cs, v = some (.ref x) ∧ Ext h0 h ∧ own_Str Z h x cs ∧ cs.length ≤ 2) := by
  have hEL := own_EL hw
  refine own_body pn_945751379 O0 (fun p e s m below meth cc_ T0 vm0 hx hby hml0 hret hlk hnm hsf w0 => ?_)
  have hml : cc_.maxLocals = 5 := hml0
  have A_0 := own_at w0
  refine own_entry (ef_ct1 m b) ?_
  refine own_by (T' := T0) (g' := (mkF m 1 #[.val (.long b), .second, .unset, .unset, .unset] [(.long b)])) (fun t_ hr_ => XS.lloadN A_0 hx rfl (Jvm.hb hby d1_0) rfl hr_) ?_
  refine own_ldc2 w0 hx (hw _ (List.mem_of_getElem? (i := 4) rfl)) (g := (mkF m 1 #[.val (.long b), .second, .unset, .unset, .unset] [(.long b)])) rfl (Jvm.hb hby d1_1) ?_
  show own_WP p e _ below s Z _ n0 _ T0 (mkF m 4 #[.val (.long b), .second, .unset, .unset, .unset] [(.long (3 : Int64)), (.long b)])
  refine own_by (T' := T0) (g' := (mkF m 5 #[.val (.long b), .second, .unset, .unset, .unset] [(.long (b &&& (3 : Int64)))])) (fun t_ hr_ => XS.land A_0 hx rfl (Jvm.hb hby d1_4) rfl hr_) ?_
  refine own_by (T' := T0) (g' := (mkF m 6 #[.val (.long b), .second, .unset, .unset, .unset] [(.int ((b &&& (3 : Int64)).toInt32))])) (fun t_ hr_ => XS.l2i A_0 hx rfl (Jvm.hb hby d1_5) rfl hr_) ?_
  refine own_by (T' := T0) (g' := (mkF m 7 #[.val (.long b), .second, .val (.int ((b &&& (3 : Int64)).toInt32)), .unset, .unset] [])) (fun t_ hr_ => XS.istoreN A_0 hx rfl (Jvm.hb hby d1_6) rfl (l' := #[.val (.long b), .second, .val (.int ((b &&& (3 : Int64)).toInt32)), .unset, .unset]) rfl hr_) ?_
  refine own_by (T' := T0) (g' := (mkF m 8 #[.val (.long b), .second, .val (.int ((b &&& (3 : Int64)).toInt32)), .unset, .unset] [(.int ((b &&& (3 : Int64)).toInt32))])) (fun t_ hr_ => XS.iloadN A_0 hx rfl (Jvm.hb hby d1_7) rfl hr_) ?_
  refine own_by (T' := T0) (g' := (mkF m 9 #[.val (.long b), .second, .val (.int ((b &&& (3 : Int64)).toInt32)), .unset, .unset] [(.int (3 : Int32)), (.int ((b &&& (3 : Int64)).toInt32))])) (fun t_ hr_ => XS.iconst A_0 hx rfl (Jvm.hb hby d1_8) hr_) ?_
  by_cases hc1_ : ((b &&& (3 : Int64)).toInt32) = (3 : Int32)
  · refine own_by (T' := T0) (g' := (mkF m 12 #[.val (.long b), .second, .val (.int ((b &&& (3 : Int64)).toInt32)), .unset, .unset] [])) (fun t_ hr_ => XS.icmpNo A_0 hx rfl (Jvm.hb hby d1_9) rfl (teq hc1_).2 hr_) ?_
    refine own_by (T' := T0) (g' := (mkF m 13 #[.val (.long b), .second, .val (.int ((b &&& (3 : Int64)).toInt32)), .unset, .unset] [(.int (2 : Int32))])) (fun t_ hr_ => XS.iconst A_0 hx rfl (Jvm.hb hby d1_12) hr_) ?_
    refine own_by (T' := T0) (g' := (mkF m 14 #[.val (.long b), .second, .val (.int (2 : Int32)), .unset, .unset] [])) (fun t_ hr_ => XS.istoreN A_0 hx rfl (Jvm.hb hby d1_13) rfl (l' := #[.val (.long b), .second, .val (.int (2 : Int32)), .unset, .unset]) rfl hr_) ?_
    exact JMK hw SC hx hby hml hret hlk hnm b (2 : Int32) (own_old w0) (own_mono w0 (by decide : 0 ≤ 0) (by decide : 0 ≤ 0)) 
  · refine own_by (T' := T0) (g' := (mkF m 14 #[.val (.long b), .second, .val (.int ((b &&& (3 : Int64)).toInt32)), .unset, .unset] [])) (fun t_ hr_ => XS.icmpYes A_0 hx rfl (pc0 := 9) (pc' := 14) rfl (Jvm.hb hby d1_9) rfl (feq hc1_).2 (by decide) (by decide) hr_) ?_
    exact JMK hw SC hx hby hml hret hlk hnm b ((b &&& (3 : Int64)).toInt32) (own_old w0) (own_mono w0 (by decide : 0 ≤ 0) (by decide : 0 ≤ 0)) 

theorem own_len2 {cs : List Int32} (h : cs.length ≤ 2) : cs = [] ∨ (∃ c0, cs = [c0]) ∨ ∃ c0 c1, cs = [c0, c1] := by
  cases cs with
  | nil => exact Or.inl rfl
  | cons c0 r =>
    cases r with
    | nil => exact Or.inr (Or.inl ⟨c0, rfl⟩)
    | cons c1 r =>
      cases r with
      | nil => exact Or.inr (Or.inr ⟨c0, c1, rfl⟩)
      | cons c2 r =>
        simp only [List.length_cons] at h
        omega
theorem d9_0 : decode method_3_code 0 = .ok (.aload_n 0, 1) := by decide +kernel
theorem d9_1 : decode method_3_code 1 = .ok (.invokevirtual 16, 3) := by decide +kernel
theorem pd_691884 : parseMethodDescriptor "()I" = some ⟨[], some .int⟩ := by decide +kernel
theorem d9_4 : decode method_3_code 4 = .ok (.istore_n 2, 1) := by decide +kernel
theorem d9_5 : decode method_3_code 5 = .ok (.iload_n 2, 1) := by decide +kernel
theorem d9_6 : decode method_3_code 6 = .ok (.aload_n 1, 1) := by decide +kernel
theorem d9_7 : decode method_3_code 7 = .ok (.invokevirtual 16, 3) := by decide +kernel
theorem d9_10 : decode method_3_code 10 = .ok (.if_icmp .eq 5, 3) := by decide +kernel
theorem d9_15 : decode method_3_code 15 = .ok (.iload_n 2, 1) := by decide +kernel
theorem d9_16 : decode method_3_code 16 = .ok (.iconst 1, 1) := by decide +kernel
theorem d9_17 : decode method_3_code 17 = .ok (.if_icmp .lt 18, 3) := by decide +kernel
theorem d9_35 : decode method_3_code 35 = .ok (.iload_n 2, 1) := by decide +kernel
theorem d9_36 : decode method_3_code 36 = .ok (.iconst 2, 1) := by decide +kernel
theorem d9_37 : decode method_3_code 37 = .ok (.if_icmp .lt 18, 3) := by decide +kernel
theorem d9_55 : decode method_3_code 55 = .ok (.iconst 1, 1) := by decide +kernel
theorem d9_56 : decode method_3_code 56 = .ok (.ireturn, 1) := by decide +kernel
theorem d9_20 : decode method_3_code 20 = .ok (.aload_n 0, 1) := by decide +kernel
theorem d9_21 : decode method_3_code 21 = .ok (.iconst 0, 1) := by decide +kernel
theorem d9_22 : decode method_3_code 22 = .ok (.invokevirtual 20, 3) := by decide +kernel
theorem pd_91181831 : parseMethodDescriptor "(I)C" = some ⟨[.int], some .char⟩ := by decide +kernel
theorem d9_25 : decode method_3_code 25 = .ok (.aload_n 1, 1) := by decide +kernel
theorem d9_26 : decode method_3_code 26 = .ok (.iconst 0, 1) := by decide +kernel
theorem d9_27 : decode method_3_code 27 = .ok (.invokevirtual 20, 3) := by decide +kernel
theorem d9_30 : decode method_3_code 30 = .ok (.if_icmp .eq 5, 3) := by decide +kernel
theorem d9_33 : decode method_3_code 33 = .ok (.iconst 0, 1) := by decide +kernel
theorem d9_34 : decode method_3_code 34 = .ok (.ireturn, 1) := by decide +kernel
theorem d9_40 : decode method_3_code 40 = .ok (.aload_n 0, 1) := by decide +kernel
theorem d9_41 : decode method_3_code 41 = .ok (.iconst 1, 1) := by decide +kernel
theorem d9_42 : decode method_3_code 42 = .ok (.invokevirtual 20, 3) := by decide +kernel
theorem d9_45 : decode method_3_code 45 = .ok (.aload_n 1, 1) := by decide +kernel
theorem d9_46 : decode method_3_code 46 = .ok (.iconst 1, 1) := by decide +kernel
theorem d9_47 : decode method_3_code 47 = .ok (.invokevirtual 20, 3) := by decide +kernel
theorem d9_50 : decode method_3_code 50 = .ok (.if_icmp .eq 5, 3) := by decide +kernel
theorem d9_53 : decode method_3_code 53 = .ok (.iconst 0, 1) := by decide +kernel
theorem d9_54 : decode method_3_code 54 = .ok (.ireturn, 1) := by decide +kernel
theorem d9_13 : decode method_3_code 13 = .ok (.iconst 0, 1) := by decide +kernel
theorem d9_14 : decode method_3_code 14 = .ok (.ireturn, 1) := by decide +kernel
theorem pn_432942750 : plainFor (⟨"com/example/hecate/hecate/identity/VerifiedIdentityEqualsPinLaw", "same", "(Ljava/lang/String;Ljava/lang/String;)Z"⟩ : MethodName) = true := by first | exact plainFor_of_name (by first | (simp [plainName, overriddenIn]; done) | decide +kernel) | decide +kernel
theorem ef_ct9 (m : MethodId) (x0 : Addr) (x1 : Addr) : entryFrame m #[(.ref x0), (.ref x1)] 3 = mkF m 0 #[.val (.ref x0), .val (.ref x1), .unset] [] := by first | (simp [entryFrame, mkF, argsToLocals, Value.category]; done) | rfl
set_option maxRecDepth 65536 in
set_option maxHeartbeats 40000000 in
theorem ct9 (l : Launch) (Z : State) (a0 : Array Value) (hw : ∀ d ∈ tables_1, d.before a0 Z = true) (SC : own_SC Z) (SF : own_SF Z) (n0 : Nat) (h0 : Heap) (O0 : Old Z n0 h0) (x y : Addr) (cs ds : List Int32) (S0 : own_Str Z h0 x cs) (S1 : own_Str Z h0 y ds) (h1 : cs.length ≤ 2) (h2 : ds.length ≤ 2) :
    own_Ct l (⟨"com/example/hecate/hecate/identity/VerifiedIdentityEqualsPinLaw", "same", "(Ljava/lang/String;Ljava/lang/String;)Z"⟩ : MethodName) method_3_code 3 (some .boolean) ({ frames := 4, cells := 0, slots := 0, locals := 54 } : Room) Z consts_1 n0 #[(.ref x), (.ref y)] h0 [] (fun v h => ((v = some (.int 1) ∧ cs = ds) ∨ (v = some (.int 0) ∧ ¬ cs = ds)) ∧ h0 = h) := by
  have hEL := own_EL hw
  refine own_body pn_432942750 O0 (fun p e s m below meth cc_ T0 vm0 hx hby hml0 hret hlk hnm hsf w0 => ?_)
  have hml : cc_.maxLocals = 3 := hml0
  have A_0 := own_at w0
  refine own_entry (ef_ct9 m x y) ?_
  refine own_by (T' := T0) (g' := (mkF m 1 #[.val (.ref x), .val (.ref y), .unset] [(.ref x)])) (fun t_ hr_ => XS.aloadN A_0 hx rfl (Jvm.hb hby d9_0) rfl rfl hr_) ?_
  refine own_callV w0 hx (y := (⟨"java/lang/String", "length", "()I"⟩ : MethodName)) (z := (⟨"java/lang/String", "length", "()I"⟩ : MethodName)) (hw _ (List.mem_of_getElem? (i := 57) rfl)) (hw _ (List.mem_of_getElem? (i := 58) rfl)) (fun u hu => notFace_of_selects (args := #[]) (mvT hu (hw _ (List.mem_of_getElem? (i := 60) rfl)))) (hw _ (List.mem_of_getElem? (i := 60) rfl)) (hw _ (List.mem_of_getElem? (i := 59) rfl)) (by decide) (kc := 0) (ks := 0) (a := x) (argsL := []) (rest := []) (own_payLen (W := 0) w0 hEL (own_wLen hw) (hw _ (List.mem_of_getElem? (i := 7) rfl)) SC S0 (by decide) (by decide)) S0.exa (g := (mkF m 1 #[.val (.ref x), .val (.ref y), .unset] [(.ref x)])) rfl (by rw [hml]; rfl) (lenOf pd_691884 rfl) rfl (by show 2 * 0 + _ ≤ _; exact Nat.le_of_eq rfl) (Jvm.hb hby d9_1) (by decide) (by decide) (fun v1_ T1_ vm1_ h1_ q1_ C1_ w1_ => ?_)
  obtain ⟨rfl, rfl⟩ := q1_
  have A1_ := own_at w1_
  show own_WP p e _ below s Z _ n0 _ T1_ (mkF m 4 #[.val (.ref x), .val (.ref y), .unset] [(.int (Int32.ofNat cs.length))])
  refine own_by (T' := T1_) (g' := (mkF m 5 #[.val (.ref x), .val (.ref y), .val (.int (Int32.ofNat cs.length))] [])) (fun t_ hr_ => XS.istoreN A1_ hx rfl (Jvm.hb hby d9_4) rfl (l' := #[.val (.ref x), .val (.ref y), .val (.int (Int32.ofNat cs.length))]) rfl hr_) ?_
  refine own_by (T' := T1_) (g' := (mkF m 6 #[.val (.ref x), .val (.ref y), .val (.int (Int32.ofNat cs.length))] [(.int (Int32.ofNat cs.length))])) (fun t_ hr_ => XS.iloadN A1_ hx rfl (Jvm.hb hby d9_5) rfl hr_) ?_
  refine own_by (T' := T1_) (g' := (mkF m 7 #[.val (.ref x), .val (.ref y), .val (.int (Int32.ofNat cs.length))] [(.ref y), (.int (Int32.ofNat cs.length))])) (fun t_ hr_ => XS.aloadN A1_ hx rfl (Jvm.hb hby d9_6) rfl rfl hr_) ?_
  refine own_callV w1_ hx (y := (⟨"java/lang/String", "length", "()I"⟩ : MethodName)) (z := (⟨"java/lang/String", "length", "()I"⟩ : MethodName)) (hw _ (List.mem_of_getElem? (i := 57) rfl)) (hw _ (List.mem_of_getElem? (i := 58) rfl)) (fun u hu => notFace_of_selects (args := #[]) (mvT hu (hw _ (List.mem_of_getElem? (i := 60) rfl)))) (hw _ (List.mem_of_getElem? (i := 60) rfl)) (hw _ (List.mem_of_getElem? (i := 59) rfl)) (by decide) (kc := 0) (ks := 0) (a := y) (argsL := []) (rest := [(.int (Int32.ofNat cs.length))]) (own_payLen (W := 1) w1_ hEL (own_wLen hw) (hw _ (List.mem_of_getElem? (i := 7) rfl)) SC S1 (by decide) (by decide)) S1.exa (g := (mkF m 7 #[.val (.ref x), .val (.ref y), .val (.int (Int32.ofNat cs.length))] [(.ref y), (.int (Int32.ofNat cs.length))])) rfl (by rw [hml]; rfl) (lenOf pd_691884 rfl) rfl (by show 2 * 0 + _ ≤ _; exact Nat.le_of_eq rfl) (Jvm.hb hby d9_7) (by decide) (by decide) (fun v2_ T2_ vm2_ h2_ q2_ C2_ w2_ => ?_)
  obtain ⟨rfl, rfl⟩ := q2_
  have A2_ := own_at w2_
  show own_WP p e _ below s Z _ n0 _ T2_ (mkF m 10 #[.val (.ref x), .val (.ref y), .val (.int (Int32.ofNat cs.length))] [(.int (Int32.ofNat ds.length)), (.int (Int32.ofNat cs.length))])
  by_cases hc3_ : (Int32.ofNat cs.length) = (Int32.ofNat ds.length)
  · refine own_by (T' := T2_) (g' := (mkF m 15 #[.val (.ref x), .val (.ref y), .val (.int (Int32.ofNat cs.length))] [])) (fun t_ hr_ => XS.icmpYes A2_ hx rfl (pc0 := 10) (pc' := 15) rfl (Jvm.hb hby d9_10) rfl (teq hc3_).1 (by decide) (by decide) hr_) ?_
    have hl : cs.length = ds.length := (own_oeq (by omega) (by omega)).mp hc3_
    rcases own_len2 h1 with rfl | ⟨c0, rfl⟩ | ⟨c0, c1, rfl⟩ <;> rcases own_len2 h2 with rfl | ⟨d0, rfl⟩ | ⟨d0, d1, rfl⟩ <;> first | (simp at hl; done) | skip
    · show own_WP p e _ below s Z _ n0 _ T2_ (mkF m 15 #[.val (.ref x), .val (.ref y), .val (.int (Int32.ofNat ([] : List Int32).length))] [])
      refine own_by (T' := T2_) (g' := (mkF m 16 #[.val (.ref x), .val (.ref y), .val (.int (Int32.ofNat ([] : List Int32).length))] [(.int (Int32.ofNat ([] : List Int32).length))])) (fun t_ hr_ => XS.iloadN A2_ hx rfl (Jvm.hb hby d9_15) rfl hr_) ?_
      refine own_by (T' := T2_) (g' := (mkF m 17 #[.val (.ref x), .val (.ref y), .val (.int (Int32.ofNat ([] : List Int32).length))] [(.int (1 : Int32)), (.int (Int32.ofNat ([] : List Int32).length))])) (fun t_ hr_ => XS.iconst A2_ hx rfl (Jvm.hb hby d9_16) hr_) ?_
      refine own_by (T' := T2_) (g' := (mkF m 35 #[.val (.ref x), .val (.ref y), .val (.int (Int32.ofNat ([] : List Int32).length))] [])) (fun t_ hr_ => XS.icmpYes A2_ hx rfl (pc0 := 17) (pc' := 35) rfl (Jvm.hb hby d9_17) rfl (tlt (by show ((0 : Int32) < (1 : Int32)); decide)).1 (by decide) (by decide) hr_) ?_
      refine own_by (T' := T2_) (g' := (mkF m 36 #[.val (.ref x), .val (.ref y), .val (.int (Int32.ofNat ([] : List Int32).length))] [(.int (Int32.ofNat ([] : List Int32).length))])) (fun t_ hr_ => XS.iloadN A2_ hx rfl (Jvm.hb hby d9_35) rfl hr_) ?_
      refine own_by (T' := T2_) (g' := (mkF m 37 #[.val (.ref x), .val (.ref y), .val (.int (Int32.ofNat ([] : List Int32).length))] [(.int (2 : Int32)), (.int (Int32.ofNat ([] : List Int32).length))])) (fun t_ hr_ => XS.iconst A2_ hx rfl (Jvm.hb hby d9_36) hr_) ?_
      refine own_by (T' := T2_) (g' := (mkF m 55 #[.val (.ref x), .val (.ref y), .val (.int (Int32.ofNat ([] : List Int32).length))] [])) (fun t_ hr_ => XS.icmpYes A2_ hx rfl (pc0 := 37) (pc' := 55) rfl (Jvm.hb hby d9_37) rfl (tlt (by show ((0 : Int32) < (2 : Int32)); decide)).1 (by decide) (by decide) hr_) ?_
      refine own_by (T' := T2_) (g' := (mkF m 56 #[.val (.ref x), .val (.ref y), .val (.int (Int32.ofNat ([] : List Int32).length))] [(.int (1 : Int32))])) (fun t_ hr_ => XS.iconst A2_ hx rfl (Jvm.hb hby d9_55) hr_) ?_
      exact own_retZ w2_ hx hEL hlk hret (Or.inr rfl) (Jvm.hb hby d9_56) (by decide) (by decide) ⟨Or.inl ⟨rfl, rfl⟩, rfl⟩
    · show own_WP p e _ below s Z _ n0 _ T2_ (mkF m 15 #[.val (.ref x), .val (.ref y), .val (.int (Int32.ofNat ([c0] : List Int32).length))] [])
      refine own_by (T' := T2_) (g' := (mkF m 16 #[.val (.ref x), .val (.ref y), .val (.int (Int32.ofNat ([c0] : List Int32).length))] [(.int (Int32.ofNat ([c0] : List Int32).length))])) (fun t_ hr_ => XS.iloadN A2_ hx rfl (Jvm.hb hby d9_15) rfl hr_) ?_
      refine own_by (T' := T2_) (g' := (mkF m 17 #[.val (.ref x), .val (.ref y), .val (.int (Int32.ofNat ([c0] : List Int32).length))] [(.int (1 : Int32)), (.int (Int32.ofNat ([c0] : List Int32).length))])) (fun t_ hr_ => XS.iconst A2_ hx rfl (Jvm.hb hby d9_16) hr_) ?_
      refine own_by (T' := T2_) (g' := (mkF m 20 #[.val (.ref x), .val (.ref y), .val (.int (Int32.ofNat ([c0] : List Int32).length))] [])) (fun t_ hr_ => XS.icmpNo A2_ hx rfl (Jvm.hb hby d9_17) rfl (flt (by show ¬ ((1 : Int32) < (1 : Int32)); decide)).1 hr_) ?_
      refine own_by (T' := T2_) (g' := (mkF m 21 #[.val (.ref x), .val (.ref y), .val (.int (Int32.ofNat ([c0] : List Int32).length))] [(.ref x)])) (fun t_ hr_ => XS.aloadN A2_ hx rfl (Jvm.hb hby d9_20) rfl rfl hr_) ?_
      refine own_by (T' := T2_) (g' := (mkF m 22 #[.val (.ref x), .val (.ref y), .val (.int (Int32.ofNat ([c0] : List Int32).length))] [(.int (0 : Int32)), (.ref x)])) (fun t_ hr_ => XS.iconst A2_ hx rfl (Jvm.hb hby d9_21) hr_) ?_
      refine own_callV w2_ hx (y := (⟨"java/lang/String", "charAt", "(I)C"⟩ : MethodName)) (z := (⟨"java/lang/String", "charAt", "(I)C"⟩ : MethodName)) (hw _ (List.mem_of_getElem? (i := 67) rfl)) (hw _ (List.mem_of_getElem? (i := 68) rfl)) (fun u hu => notFace_of_selects (args := #[]) (mvT hu (hw _ (List.mem_of_getElem? (i := 70) rfl)))) (hw _ (List.mem_of_getElem? (i := 70) rfl)) (hw _ (List.mem_of_getElem? (i := 69) rfl)) (by decide) (kc := 0) (ks := 0) (a := x) (argsL := [(.int (0 : Int32))]) (rest := []) (own_payChN (W := 0) (i := 0) w2_ hEL (own_wChN hw) (hw _ (List.mem_of_getElem? (i := 7) rfl)) SC SF S0 (by simp) rfl (by decide) (by decide)) S0.exa (g := (mkF m 22 #[.val (.ref x), .val (.ref y), .val (.int (Int32.ofNat ([c0] : List Int32).length))] [(.int (0 : Int32)), (.ref x)])) rfl (by rw [hml]; rfl) (lenOf pd_91181831 rfl) rfl (by show 2 * 0 + _ ≤ _; exact Nat.le_of_eq rfl) (Jvm.hb hby d9_22) (by decide) (by decide) (fun v4_ T4_ vm4_ h4_ q4_ C4_ w4_ => ?_)
      obtain ⟨rfl, rfl⟩ := q4_
      have A4_ := own_at w4_
      show own_WP p e _ below s Z _ n0 _ T4_ (mkF m 25 #[.val (.ref x), .val (.ref y), .val (.int (Int32.ofNat ([c0] : List Int32).length))] [(.int (([c0] : List Int32).getD 0 0))])
      refine own_by (T' := T4_) (g' := (mkF m 26 #[.val (.ref x), .val (.ref y), .val (.int (Int32.ofNat ([c0] : List Int32).length))] [(.ref y), (.int (([c0] : List Int32).getD 0 0))])) (fun t_ hr_ => XS.aloadN A4_ hx rfl (Jvm.hb hby d9_25) rfl rfl hr_) ?_
      refine own_by (T' := T4_) (g' := (mkF m 27 #[.val (.ref x), .val (.ref y), .val (.int (Int32.ofNat ([c0] : List Int32).length))] [(.int (0 : Int32)), (.ref y), (.int (([c0] : List Int32).getD 0 0))])) (fun t_ hr_ => XS.iconst A4_ hx rfl (Jvm.hb hby d9_26) hr_) ?_
      refine own_callV w4_ hx (y := (⟨"java/lang/String", "charAt", "(I)C"⟩ : MethodName)) (z := (⟨"java/lang/String", "charAt", "(I)C"⟩ : MethodName)) (hw _ (List.mem_of_getElem? (i := 67) rfl)) (hw _ (List.mem_of_getElem? (i := 68) rfl)) (fun u hu => notFace_of_selects (args := #[]) (mvT hu (hw _ (List.mem_of_getElem? (i := 70) rfl)))) (hw _ (List.mem_of_getElem? (i := 70) rfl)) (hw _ (List.mem_of_getElem? (i := 69) rfl)) (by decide) (kc := 0) (ks := 0) (a := y) (argsL := [(.int (0 : Int32))]) (rest := [(.int (([c0] : List Int32).getD 0 0))]) (own_payChN (W := 1) (i := 0) w4_ hEL (own_wChN hw) (hw _ (List.mem_of_getElem? (i := 7) rfl)) SC SF S1 (by simp) rfl (by decide) (by decide)) S1.exa (g := (mkF m 27 #[.val (.ref x), .val (.ref y), .val (.int (Int32.ofNat ([c0] : List Int32).length))] [(.int (0 : Int32)), (.ref y), (.int (([c0] : List Int32).getD 0 0))])) rfl (by rw [hml]; rfl) (lenOf pd_91181831 rfl) rfl (by show 2 * 0 + _ ≤ _; exact Nat.le_of_eq rfl) (Jvm.hb hby d9_27) (by decide) (by decide) (fun v5_ T5_ vm5_ h5_ q5_ C5_ w5_ => ?_)
      obtain ⟨rfl, rfl⟩ := q5_
      have A5_ := own_at w5_
      show own_WP p e _ below s Z _ n0 _ T5_ (mkF m 30 #[.val (.ref x), .val (.ref y), .val (.int (Int32.ofNat ([c0] : List Int32).length))] [(.int (([d0] : List Int32).getD 0 0)), (.int (([c0] : List Int32).getD 0 0))])
      by_cases hx0 : (([c0] : List Int32).getD 0 0) = (([d0] : List Int32).getD 0 0)
      · refine own_by (T' := T5_) (g' := (mkF m 35 #[.val (.ref x), .val (.ref y), .val (.int (Int32.ofNat ([c0] : List Int32).length))] [])) (fun t_ hr_ => XS.icmpYes A5_ hx rfl (pc0 := 30) (pc' := 35) rfl (Jvm.hb hby d9_30) rfl (teq hx0).1 (by decide) (by decide) hr_) ?_
        refine own_by (T' := T5_) (g' := (mkF m 36 #[.val (.ref x), .val (.ref y), .val (.int (Int32.ofNat ([c0] : List Int32).length))] [(.int (Int32.ofNat ([c0] : List Int32).length))])) (fun t_ hr_ => XS.iloadN A5_ hx rfl (Jvm.hb hby d9_35) rfl hr_) ?_
        refine own_by (T' := T5_) (g' := (mkF m 37 #[.val (.ref x), .val (.ref y), .val (.int (Int32.ofNat ([c0] : List Int32).length))] [(.int (2 : Int32)), (.int (Int32.ofNat ([c0] : List Int32).length))])) (fun t_ hr_ => XS.iconst A5_ hx rfl (Jvm.hb hby d9_36) hr_) ?_
        have he0 : c0 = d0 := hx0
        refine own_by (T' := T5_) (g' := (mkF m 55 #[.val (.ref x), .val (.ref y), .val (.int (Int32.ofNat ([c0] : List Int32).length))] [])) (fun t_ hr_ => XS.icmpYes A5_ hx rfl (pc0 := 37) (pc' := 55) rfl (Jvm.hb hby d9_37) rfl (tlt (by show ((1 : Int32) < (2 : Int32)); decide)).1 (by decide) (by decide) hr_) ?_
        refine own_by (T' := T5_) (g' := (mkF m 56 #[.val (.ref x), .val (.ref y), .val (.int (Int32.ofNat ([c0] : List Int32).length))] [(.int (1 : Int32))])) (fun t_ hr_ => XS.iconst A5_ hx rfl (Jvm.hb hby d9_55) hr_) ?_
        exact own_retZ w5_ hx hEL hlk hret (Or.inr rfl) (Jvm.hb hby d9_56) (by decide) (by decide) ⟨Or.inl ⟨rfl, by subst he0; rfl⟩, rfl⟩
      · refine own_by (T' := T5_) (g' := (mkF m 33 #[.val (.ref x), .val (.ref y), .val (.int (Int32.ofNat ([c0] : List Int32).length))] [])) (fun t_ hr_ => XS.icmpNo A5_ hx rfl (Jvm.hb hby d9_30) rfl (feq hx0).1 hr_) ?_
        refine own_by (T' := T5_) (g' := (mkF m 34 #[.val (.ref x), .val (.ref y), .val (.int (Int32.ofNat ([c0] : List Int32).length))] [(.int (0 : Int32))])) (fun t_ hr_ => XS.iconst A5_ hx rfl (Jvm.hb hby d9_33) hr_) ?_
        exact own_retZ w5_ hx hEL hlk hret (Or.inl rfl) (Jvm.hb hby d9_34) (by decide) (by decide) ⟨Or.inr ⟨rfl, fun q => hx0 (by first | (injection q with q1 q2; exact q1) | (simp at q; exact q) | (simp at q; exact q.1))⟩, rfl⟩
    · show own_WP p e _ below s Z _ n0 _ T2_ (mkF m 15 #[.val (.ref x), .val (.ref y), .val (.int (Int32.ofNat ([c0, c1] : List Int32).length))] [])
      refine own_by (T' := T2_) (g' := (mkF m 16 #[.val (.ref x), .val (.ref y), .val (.int (Int32.ofNat ([c0, c1] : List Int32).length))] [(.int (Int32.ofNat ([c0, c1] : List Int32).length))])) (fun t_ hr_ => XS.iloadN A2_ hx rfl (Jvm.hb hby d9_15) rfl hr_) ?_
      refine own_by (T' := T2_) (g' := (mkF m 17 #[.val (.ref x), .val (.ref y), .val (.int (Int32.ofNat ([c0, c1] : List Int32).length))] [(.int (1 : Int32)), (.int (Int32.ofNat ([c0, c1] : List Int32).length))])) (fun t_ hr_ => XS.iconst A2_ hx rfl (Jvm.hb hby d9_16) hr_) ?_
      refine own_by (T' := T2_) (g' := (mkF m 20 #[.val (.ref x), .val (.ref y), .val (.int (Int32.ofNat ([c0, c1] : List Int32).length))] [])) (fun t_ hr_ => XS.icmpNo A2_ hx rfl (Jvm.hb hby d9_17) rfl (flt (by show ¬ ((2 : Int32) < (1 : Int32)); decide)).1 hr_) ?_
      refine own_by (T' := T2_) (g' := (mkF m 21 #[.val (.ref x), .val (.ref y), .val (.int (Int32.ofNat ([c0, c1] : List Int32).length))] [(.ref x)])) (fun t_ hr_ => XS.aloadN A2_ hx rfl (Jvm.hb hby d9_20) rfl rfl hr_) ?_
      refine own_by (T' := T2_) (g' := (mkF m 22 #[.val (.ref x), .val (.ref y), .val (.int (Int32.ofNat ([c0, c1] : List Int32).length))] [(.int (0 : Int32)), (.ref x)])) (fun t_ hr_ => XS.iconst A2_ hx rfl (Jvm.hb hby d9_21) hr_) ?_
      refine own_callV w2_ hx (y := (⟨"java/lang/String", "charAt", "(I)C"⟩ : MethodName)) (z := (⟨"java/lang/String", "charAt", "(I)C"⟩ : MethodName)) (hw _ (List.mem_of_getElem? (i := 67) rfl)) (hw _ (List.mem_of_getElem? (i := 68) rfl)) (fun u hu => notFace_of_selects (args := #[]) (mvT hu (hw _ (List.mem_of_getElem? (i := 70) rfl)))) (hw _ (List.mem_of_getElem? (i := 70) rfl)) (hw _ (List.mem_of_getElem? (i := 69) rfl)) (by decide) (kc := 0) (ks := 0) (a := x) (argsL := [(.int (0 : Int32))]) (rest := []) (own_payChN (W := 0) (i := 0) w2_ hEL (own_wChN hw) (hw _ (List.mem_of_getElem? (i := 7) rfl)) SC SF S0 (by simp) rfl (by decide) (by decide)) S0.exa (g := (mkF m 22 #[.val (.ref x), .val (.ref y), .val (.int (Int32.ofNat ([c0, c1] : List Int32).length))] [(.int (0 : Int32)), (.ref x)])) rfl (by rw [hml]; rfl) (lenOf pd_91181831 rfl) rfl (by show 2 * 0 + _ ≤ _; exact Nat.le_of_eq rfl) (Jvm.hb hby d9_22) (by decide) (by decide) (fun v6_ T6_ vm6_ h6_ q6_ C6_ w6_ => ?_)
      obtain ⟨rfl, rfl⟩ := q6_
      have A6_ := own_at w6_
      show own_WP p e _ below s Z _ n0 _ T6_ (mkF m 25 #[.val (.ref x), .val (.ref y), .val (.int (Int32.ofNat ([c0, c1] : List Int32).length))] [(.int (([c0, c1] : List Int32).getD 0 0))])
      refine own_by (T' := T6_) (g' := (mkF m 26 #[.val (.ref x), .val (.ref y), .val (.int (Int32.ofNat ([c0, c1] : List Int32).length))] [(.ref y), (.int (([c0, c1] : List Int32).getD 0 0))])) (fun t_ hr_ => XS.aloadN A6_ hx rfl (Jvm.hb hby d9_25) rfl rfl hr_) ?_
      refine own_by (T' := T6_) (g' := (mkF m 27 #[.val (.ref x), .val (.ref y), .val (.int (Int32.ofNat ([c0, c1] : List Int32).length))] [(.int (0 : Int32)), (.ref y), (.int (([c0, c1] : List Int32).getD 0 0))])) (fun t_ hr_ => XS.iconst A6_ hx rfl (Jvm.hb hby d9_26) hr_) ?_
      refine own_callV w6_ hx (y := (⟨"java/lang/String", "charAt", "(I)C"⟩ : MethodName)) (z := (⟨"java/lang/String", "charAt", "(I)C"⟩ : MethodName)) (hw _ (List.mem_of_getElem? (i := 67) rfl)) (hw _ (List.mem_of_getElem? (i := 68) rfl)) (fun u hu => notFace_of_selects (args := #[]) (mvT hu (hw _ (List.mem_of_getElem? (i := 70) rfl)))) (hw _ (List.mem_of_getElem? (i := 70) rfl)) (hw _ (List.mem_of_getElem? (i := 69) rfl)) (by decide) (kc := 0) (ks := 0) (a := y) (argsL := [(.int (0 : Int32))]) (rest := [(.int (([c0, c1] : List Int32).getD 0 0))]) (own_payChN (W := 1) (i := 0) w6_ hEL (own_wChN hw) (hw _ (List.mem_of_getElem? (i := 7) rfl)) SC SF S1 (by simp) rfl (by decide) (by decide)) S1.exa (g := (mkF m 27 #[.val (.ref x), .val (.ref y), .val (.int (Int32.ofNat ([c0, c1] : List Int32).length))] [(.int (0 : Int32)), (.ref y), (.int (([c0, c1] : List Int32).getD 0 0))])) rfl (by rw [hml]; rfl) (lenOf pd_91181831 rfl) rfl (by show 2 * 0 + _ ≤ _; exact Nat.le_of_eq rfl) (Jvm.hb hby d9_27) (by decide) (by decide) (fun v7_ T7_ vm7_ h7_ q7_ C7_ w7_ => ?_)
      obtain ⟨rfl, rfl⟩ := q7_
      have A7_ := own_at w7_
      show own_WP p e _ below s Z _ n0 _ T7_ (mkF m 30 #[.val (.ref x), .val (.ref y), .val (.int (Int32.ofNat ([c0, c1] : List Int32).length))] [(.int (([d0, d1] : List Int32).getD 0 0)), (.int (([c0, c1] : List Int32).getD 0 0))])
      by_cases hx0 : (([c0, c1] : List Int32).getD 0 0) = (([d0, d1] : List Int32).getD 0 0)
      · refine own_by (T' := T7_) (g' := (mkF m 35 #[.val (.ref x), .val (.ref y), .val (.int (Int32.ofNat ([c0, c1] : List Int32).length))] [])) (fun t_ hr_ => XS.icmpYes A7_ hx rfl (pc0 := 30) (pc' := 35) rfl (Jvm.hb hby d9_30) rfl (teq hx0).1 (by decide) (by decide) hr_) ?_
        refine own_by (T' := T7_) (g' := (mkF m 36 #[.val (.ref x), .val (.ref y), .val (.int (Int32.ofNat ([c0, c1] : List Int32).length))] [(.int (Int32.ofNat ([c0, c1] : List Int32).length))])) (fun t_ hr_ => XS.iloadN A7_ hx rfl (Jvm.hb hby d9_35) rfl hr_) ?_
        refine own_by (T' := T7_) (g' := (mkF m 37 #[.val (.ref x), .val (.ref y), .val (.int (Int32.ofNat ([c0, c1] : List Int32).length))] [(.int (2 : Int32)), (.int (Int32.ofNat ([c0, c1] : List Int32).length))])) (fun t_ hr_ => XS.iconst A7_ hx rfl (Jvm.hb hby d9_36) hr_) ?_
        have he0 : c0 = d0 := hx0
        refine own_by (T' := T7_) (g' := (mkF m 40 #[.val (.ref x), .val (.ref y), .val (.int (Int32.ofNat ([c0, c1] : List Int32).length))] [])) (fun t_ hr_ => XS.icmpNo A7_ hx rfl (Jvm.hb hby d9_37) rfl (flt (by show ¬ ((2 : Int32) < (2 : Int32)); decide)).1 hr_) ?_
        refine own_by (T' := T7_) (g' := (mkF m 41 #[.val (.ref x), .val (.ref y), .val (.int (Int32.ofNat ([c0, c1] : List Int32).length))] [(.ref x)])) (fun t_ hr_ => XS.aloadN A7_ hx rfl (Jvm.hb hby d9_40) rfl rfl hr_) ?_
        refine own_by (T' := T7_) (g' := (mkF m 42 #[.val (.ref x), .val (.ref y), .val (.int (Int32.ofNat ([c0, c1] : List Int32).length))] [(.int (1 : Int32)), (.ref x)])) (fun t_ hr_ => XS.iconst A7_ hx rfl (Jvm.hb hby d9_41) hr_) ?_
        refine own_callV w7_ hx (y := (⟨"java/lang/String", "charAt", "(I)C"⟩ : MethodName)) (z := (⟨"java/lang/String", "charAt", "(I)C"⟩ : MethodName)) (hw _ (List.mem_of_getElem? (i := 67) rfl)) (hw _ (List.mem_of_getElem? (i := 68) rfl)) (fun u hu => notFace_of_selects (args := #[]) (mvT hu (hw _ (List.mem_of_getElem? (i := 70) rfl)))) (hw _ (List.mem_of_getElem? (i := 70) rfl)) (hw _ (List.mem_of_getElem? (i := 69) rfl)) (by decide) (kc := 0) (ks := 0) (a := x) (argsL := [(.int (1 : Int32))]) (rest := []) (own_payChN (W := 0) (i := 1) w7_ hEL (own_wChN hw) (hw _ (List.mem_of_getElem? (i := 7) rfl)) SC SF S0 (by simp) rfl (by decide) (by decide)) S0.exa (g := (mkF m 42 #[.val (.ref x), .val (.ref y), .val (.int (Int32.ofNat ([c0, c1] : List Int32).length))] [(.int (1 : Int32)), (.ref x)])) rfl (by rw [hml]; rfl) (lenOf pd_91181831 rfl) rfl (by show 2 * 0 + _ ≤ _; exact Nat.le_of_eq rfl) (Jvm.hb hby d9_42) (by decide) (by decide) (fun v8_ T8_ vm8_ h8_ q8_ C8_ w8_ => ?_)
        obtain ⟨rfl, rfl⟩ := q8_
        have A8_ := own_at w8_
        show own_WP p e _ below s Z _ n0 _ T8_ (mkF m 45 #[.val (.ref x), .val (.ref y), .val (.int (Int32.ofNat ([c0, c1] : List Int32).length))] [(.int (([c0, c1] : List Int32).getD 1 0))])
        refine own_by (T' := T8_) (g' := (mkF m 46 #[.val (.ref x), .val (.ref y), .val (.int (Int32.ofNat ([c0, c1] : List Int32).length))] [(.ref y), (.int (([c0, c1] : List Int32).getD 1 0))])) (fun t_ hr_ => XS.aloadN A8_ hx rfl (Jvm.hb hby d9_45) rfl rfl hr_) ?_
        refine own_by (T' := T8_) (g' := (mkF m 47 #[.val (.ref x), .val (.ref y), .val (.int (Int32.ofNat ([c0, c1] : List Int32).length))] [(.int (1 : Int32)), (.ref y), (.int (([c0, c1] : List Int32).getD 1 0))])) (fun t_ hr_ => XS.iconst A8_ hx rfl (Jvm.hb hby d9_46) hr_) ?_
        refine own_callV w8_ hx (y := (⟨"java/lang/String", "charAt", "(I)C"⟩ : MethodName)) (z := (⟨"java/lang/String", "charAt", "(I)C"⟩ : MethodName)) (hw _ (List.mem_of_getElem? (i := 67) rfl)) (hw _ (List.mem_of_getElem? (i := 68) rfl)) (fun u hu => notFace_of_selects (args := #[]) (mvT hu (hw _ (List.mem_of_getElem? (i := 70) rfl)))) (hw _ (List.mem_of_getElem? (i := 70) rfl)) (hw _ (List.mem_of_getElem? (i := 69) rfl)) (by decide) (kc := 0) (ks := 0) (a := y) (argsL := [(.int (1 : Int32))]) (rest := [(.int (([c0, c1] : List Int32).getD 1 0))]) (own_payChN (W := 1) (i := 1) w8_ hEL (own_wChN hw) (hw _ (List.mem_of_getElem? (i := 7) rfl)) SC SF S1 (by simp) rfl (by decide) (by decide)) S1.exa (g := (mkF m 47 #[.val (.ref x), .val (.ref y), .val (.int (Int32.ofNat ([c0, c1] : List Int32).length))] [(.int (1 : Int32)), (.ref y), (.int (([c0, c1] : List Int32).getD 1 0))])) rfl (by rw [hml]; rfl) (lenOf pd_91181831 rfl) rfl (by show 2 * 0 + _ ≤ _; exact Nat.le_of_eq rfl) (Jvm.hb hby d9_47) (by decide) (by decide) (fun v9_ T9_ vm9_ h9_ q9_ C9_ w9_ => ?_)
        obtain ⟨rfl, rfl⟩ := q9_
        have A9_ := own_at w9_
        show own_WP p e _ below s Z _ n0 _ T9_ (mkF m 50 #[.val (.ref x), .val (.ref y), .val (.int (Int32.ofNat ([c0, c1] : List Int32).length))] [(.int (([d0, d1] : List Int32).getD 1 0)), (.int (([c0, c1] : List Int32).getD 1 0))])
        by_cases hx1 : (([c0, c1] : List Int32).getD 1 0) = (([d0, d1] : List Int32).getD 1 0)
        · refine own_by (T' := T9_) (g' := (mkF m 55 #[.val (.ref x), .val (.ref y), .val (.int (Int32.ofNat ([c0, c1] : List Int32).length))] [])) (fun t_ hr_ => XS.icmpYes A9_ hx rfl (pc0 := 50) (pc' := 55) rfl (Jvm.hb hby d9_50) rfl (teq hx1).1 (by decide) (by decide) hr_) ?_
          refine own_by (T' := T9_) (g' := (mkF m 56 #[.val (.ref x), .val (.ref y), .val (.int (Int32.ofNat ([c0, c1] : List Int32).length))] [(.int (1 : Int32))])) (fun t_ hr_ => XS.iconst A9_ hx rfl (Jvm.hb hby d9_55) hr_) ?_
          have he1 : c1 = d1 := hx1
          exact own_retZ w9_ hx hEL hlk hret (Or.inr rfl) (Jvm.hb hby d9_56) (by decide) (by decide) ⟨Or.inl ⟨rfl, by subst he0; subst he1; rfl⟩, rfl⟩
        · refine own_by (T' := T9_) (g' := (mkF m 53 #[.val (.ref x), .val (.ref y), .val (.int (Int32.ofNat ([c0, c1] : List Int32).length))] [])) (fun t_ hr_ => XS.icmpNo A9_ hx rfl (Jvm.hb hby d9_50) rfl (feq hx1).1 hr_) ?_
          refine own_by (T' := T9_) (g' := (mkF m 54 #[.val (.ref x), .val (.ref y), .val (.int (Int32.ofNat ([c0, c1] : List Int32).length))] [(.int (0 : Int32))])) (fun t_ hr_ => XS.iconst A9_ hx rfl (Jvm.hb hby d9_53) hr_) ?_
          exact own_retZ w9_ hx hEL hlk hret (Or.inl rfl) (Jvm.hb hby d9_54) (by decide) (by decide) ⟨Or.inr ⟨rfl, fun q => hx1 (by first | (injection q with q1 q2; injection q2 with q3; exact q3) | (simp at q; exact q.2))⟩, rfl⟩
      · refine own_by (T' := T7_) (g' := (mkF m 33 #[.val (.ref x), .val (.ref y), .val (.int (Int32.ofNat ([c0, c1] : List Int32).length))] [])) (fun t_ hr_ => XS.icmpNo A7_ hx rfl (Jvm.hb hby d9_30) rfl (feq hx0).1 hr_) ?_
        refine own_by (T' := T7_) (g' := (mkF m 34 #[.val (.ref x), .val (.ref y), .val (.int (Int32.ofNat ([c0, c1] : List Int32).length))] [(.int (0 : Int32))])) (fun t_ hr_ => XS.iconst A7_ hx rfl (Jvm.hb hby d9_33) hr_) ?_
        exact own_retZ w7_ hx hEL hlk hret (Or.inl rfl) (Jvm.hb hby d9_34) (by decide) (by decide) ⟨Or.inr ⟨rfl, fun q => hx0 (by first | (injection q with q1 q2; exact q1) | (simp at q; exact q) | (simp at q; exact q.1))⟩, rfl⟩
  · refine own_by (T' := T2_) (g' := (mkF m 13 #[.val (.ref x), .val (.ref y), .val (.int (Int32.ofNat cs.length))] [])) (fun t_ hr_ => XS.icmpNo A2_ hx rfl (Jvm.hb hby d9_10) rfl (feq hc3_).1 hr_) ?_
    refine own_by (T' := T2_) (g' := (mkF m 14 #[.val (.ref x), .val (.ref y), .val (.int (Int32.ofNat cs.length))] [(.int (0 : Int32))])) (fun t_ hr_ => XS.iconst A2_ hx rfl (Jvm.hb hby d9_13) hr_) ?_
    exact own_retZ w2_ hx hEL hlk hret (Or.inl rfl) (Jvm.hb hby d9_14) (by decide) (by decide) ⟨Or.inr ⟨rfl, fun q => hc3_ (by rw [q])⟩, rfl⟩

theorem d8_0 : decode prog_39_method_1_code 0 = .ok (.aload_n 0, 1) := by decide +kernel
theorem d8_1 : decode prog_39_method_1_code 1 = .ok (.invokespecial 1, 3) := by decide +kernel
theorem d8_4 : decode prog_39_method_1_code 4 = .ok (.aload_n 0, 1) := by decide +kernel
theorem d8_5 : decode prog_39_method_1_code 5 = .ok (.aload_n 1, 1) := by decide +kernel
theorem d8_6 : decode prog_39_method_1_code 6 = .ok (.putfield 7, 3) := by decide +kernel
theorem d8_9 : decode prog_39_method_1_code 9 = .ok (.aload_n 0, 1) := by decide +kernel
theorem d8_10 : decode prog_39_method_1_code 10 = .ok (.aload_n 2, 1) := by decide +kernel
theorem d8_11 : decode prog_39_method_1_code 11 = .ok (.putfield 13, 3) := by decide +kernel
theorem d8_14 : decode prog_39_method_1_code 14 = .ok (.aload_n 0, 1) := by decide +kernel
theorem d8_15 : decode prog_39_method_1_code 15 = .ok (.aload_n 3, 1) := by decide +kernel
theorem d8_16 : decode prog_39_method_1_code 16 = .ok (.putfield 16, 3) := by decide +kernel
theorem d8_19 : decode prog_39_method_1_code 19 = .ok (.aload_n 0, 1) := by decide +kernel
theorem d8_20 : decode prog_39_method_1_code 20 = .ok (.lload 4, 2) := by decide +kernel
theorem d8_22 : decode prog_39_method_1_code 22 = .ok (.putfield 19, 3) := by decide +kernel
theorem d8_25 : decode prog_39_method_1_code 25 = .ok (.return_, 1) := by decide +kernel
theorem pn_404010676 : plainFor (⟨"com/example/hecate/hecate/identity/VerifiedIdentity", "<init>", "(Ljava/lang/String;Ljava/lang/String;Ljava/lang/String;J)V"⟩ : MethodName) = true := by first | exact plainFor_of_name (by first | (simp [plainName, overriddenIn]; done) | decide +kernel) | decide +kernel
theorem ef_ctVI (m : MethodId) (x0 : Addr) (x1 : Addr) (x2 : Addr) (x3 : Addr) (x4 : Int64) : entryFrame m #[(.ref x0), (.ref x1), (.ref x2), (.ref x3), (.long x4)] 6 = mkF m 0 #[.val (.ref x0), .val (.ref x1), .val (.ref x2), .val (.ref x3), .val (.long x4), .second] [] := by first | (simp [entryFrame, mkF, argsToLocals, Value.category]; done) | rfl
set_option maxRecDepth 65536 in
set_option maxHeartbeats 40000000 in
theorem ctVI (l : Launch) (Z : State) (a0 : Array Value) (hw : ∀ d ∈ tables_1, d.before a0 Z = true) (n0 : Nat) (h0 : Heap) (O0 : Old Z n0 h0) (a : Addr) (u m' r : Addr) (t : Int64) (u0 u1 u2 u3 : Value) (X0 : Exa Z h0 a "com/example/hecate/hecate/identity/VerifiedIdentity") (F0 : Fld Z h0 a "com/example/hecate/hecate/identity/VerifiedIdentity" "userId" "Ljava/lang/String;" u0) (F1 : Fld Z h0 a "com/example/hecate/hecate/identity/VerifiedIdentity" "email" "Ljava/lang/String;" u1) (F2 : Fld Z h0 a "com/example/hecate/hecate/identity/VerifiedIdentity" "role" "Ljava/lang/String;" u2) (F3 : Fld Z h0 a "com/example/hecate/hecate/identity/VerifiedIdentity" "timestamp" "J" u3) (ga : n0 ≤ a) :
    own_Ct l (⟨"com/example/hecate/hecate/identity/VerifiedIdentity", "<init>", "(Ljava/lang/String;Ljava/lang/String;Ljava/lang/String;J)V"⟩ : MethodName) prog_39_method_1_code 6 none ({ frames := 1, cells := 0, slots := 0, locals := 12 } : Room) Z consts_1 n0 #[(.ref a), (.ref u), (.ref m'), (.ref r), (.long t)] h0 [] (fun v h => v = none ∧ Keep h0 h [a] ∧ Exa Z h a "com/example/hecate/hecate/identity/VerifiedIdentity" ∧ Fld Z h a "com/example/hecate/hecate/identity/VerifiedIdentity" "userId" "Ljava/lang/String;" (.ref u) ∧ Fld Z h a "com/example/hecate/hecate/identity/VerifiedIdentity" "email" "Ljava/lang/String;" (.ref m') ∧ Fld Z h a "com/example/hecate/hecate/identity/VerifiedIdentity" "role" "Ljava/lang/String;" (.ref r) ∧ Fld Z h a "com/example/hecate/hecate/identity/VerifiedIdentity" "timestamp" "J" (.long t)) := by
  have hEL := own_EL hw
  refine own_body pn_404010676 O0 (fun p e s m below meth cc_ T0 vm0 hx hby hml0 hret hlk hnm hsf w0 => ?_)
  have hml : cc_.maxLocals = 6 := hml0
  have A_0 := own_at w0
  refine own_entry (ef_ctVI m a u m' r t) ?_
  refine own_by (T' := T0) (g' := (mkF m 1 #[.val (.ref a), .val (.ref u), .val (.ref m'), .val (.ref r), .val (.long t), .second] [(.ref a)])) (fun t_ hr_ => XS.aloadN A_0 hx rfl (Jvm.hb hby d8_0) rfl rfl hr_) ?_
  refine own_initO w0 hx (hw _ (List.mem_of_getElem? (i := 45) rfl)) (hw _ (List.mem_of_getElem? (i := 18) rfl)) (hw _ (List.mem_of_getElem? (i := 19) rfl)) (g := (mkF m 1 #[.val (.ref a), .val (.ref u), .val (.ref m'), .val (.ref r), .val (.long t), .second] [(.ref a)])) rfl (by rw [hml]; rfl) rfl (Jvm.hb hby d8_1) (by decide) (W := 0) (by show 2 * 0 + _ ≤ _; exact Nat.le_of_eq rfl) (by decide) (fun T1_ w1_ => ?_)
  have A1_ := own_at w1_
  show own_WP p e _ below s Z _ n0 _ T1_ (mkF m 4 #[.val (.ref a), .val (.ref u), .val (.ref m'), .val (.ref r), .val (.long t), .second] [])
  refine own_by (T' := T1_) (g' := (mkF m 5 #[.val (.ref a), .val (.ref u), .val (.ref m'), .val (.ref r), .val (.long t), .second] [(.ref a)])) (fun t_ hr_ => XS.aloadN A1_ hx rfl (Jvm.hb hby d8_4) rfl rfl hr_) ?_
  refine own_by (T' := T1_) (g' := (mkF m 6 #[.val (.ref a), .val (.ref u), .val (.ref m'), .val (.ref r), .val (.long t), .second] [(.ref u), (.ref a)])) (fun t_ hr_ => XS.aloadN A1_ hx rfl (Jvm.hb hby d8_5) rfl rfl hr_) ?_
  refine own_putF w1_ hx (hw _ (List.mem_of_getElem? (i := 46) rfl)) F0 X0 (Or.inr ⟨(hw _ (List.mem_of_getElem? (i := 47) rfl)), rfl, hnm⟩) (hw _ (List.mem_of_getElem? (i := 40) rfl)) (ty := (.object "java/lang/String")) (by decide) rfl rfl ga (Safe.exa (own_hZ w1_).alike X0 (by decide) (by decide)) (g := (mkF m 6 #[.val (.ref a), .val (.ref u), .val (.ref m'), .val (.ref r), .val (.long t), .second] [(.ref u), (.ref a)])) rfl rfl (Jvm.hb hby d8_6) (fun T2_ h2_ W2_ w2_ => ?_)
  have A2_ := own_at w2_
  show own_WP p e _ below s Z _ n0 _ T2_ (mkF m 9 #[.val (.ref a), .val (.ref u), .val (.ref m'), .val (.ref r), .val (.long t), .second] [])
  have X0' := X0.wr W2_
  have F0_0 := F0.same W2_
  have F1_0 := F1.other W2_ (Or.inr (slot_ne (Or.inr (hw _ (List.mem_of_getElem? (i := 49) rfl))) (Or.inr (hw _ (List.mem_of_getElem? (i := 47) rfl))) (by decide) rfl rfl))
  have F2_0 := F2.other W2_ (Or.inr (slot_ne (Or.inr (hw _ (List.mem_of_getElem? (i := 51) rfl))) (Or.inr (hw _ (List.mem_of_getElem? (i := 47) rfl))) (by decide) rfl rfl))
  have F3_0 := F3.other W2_ (Or.inr (slot_ne (Or.inr (hw _ (List.mem_of_getElem? (i := 53) rfl))) (Or.inr (hw _ (List.mem_of_getElem? (i := 47) rfl))) (by decide) rfl rfl))
  refine own_by (T' := T2_) (g' := (mkF m 10 #[.val (.ref a), .val (.ref u), .val (.ref m'), .val (.ref r), .val (.long t), .second] [(.ref a)])) (fun t_ hr_ => XS.aloadN A2_ hx rfl (Jvm.hb hby d8_9) rfl rfl hr_) ?_
  refine own_by (T' := T2_) (g' := (mkF m 11 #[.val (.ref a), .val (.ref u), .val (.ref m'), .val (.ref r), .val (.long t), .second] [(.ref m'), (.ref a)])) (fun t_ hr_ => XS.aloadN A2_ hx rfl (Jvm.hb hby d8_10) rfl rfl hr_) ?_
  refine own_putF w2_ hx (hw _ (List.mem_of_getElem? (i := 48) rfl)) F1_0 X0' (Or.inr ⟨(hw _ (List.mem_of_getElem? (i := 49) rfl)), rfl, hnm⟩) (hw _ (List.mem_of_getElem? (i := 40) rfl)) (ty := (.object "java/lang/String")) (by decide) rfl rfl ga (Safe.exa (own_hZ w2_).alike X0' (by decide) (by decide)) (g := (mkF m 11 #[.val (.ref a), .val (.ref u), .val (.ref m'), .val (.ref r), .val (.long t), .second] [(.ref m'), (.ref a)])) rfl rfl (Jvm.hb hby d8_11) (fun T3_ h3_ W3_ w3_ => ?_)
  have A3_ := own_at w3_
  show own_WP p e _ below s Z _ n0 _ T3_ (mkF m 14 #[.val (.ref a), .val (.ref u), .val (.ref m'), .val (.ref r), .val (.long t), .second] [])
  have X1' := X0'.wr W3_
  have F0_0_1 := F0_0.other W3_ (Or.inr (slot_ne (Or.inr (hw _ (List.mem_of_getElem? (i := 47) rfl))) (Or.inr (hw _ (List.mem_of_getElem? (i := 49) rfl))) (by decide) rfl rfl))
  have F1_0_1 := F1_0.same W3_
  have F2_0_1 := F2_0.other W3_ (Or.inr (slot_ne (Or.inr (hw _ (List.mem_of_getElem? (i := 51) rfl))) (Or.inr (hw _ (List.mem_of_getElem? (i := 49) rfl))) (by decide) rfl rfl))
  have F3_0_1 := F3_0.other W3_ (Or.inr (slot_ne (Or.inr (hw _ (List.mem_of_getElem? (i := 53) rfl))) (Or.inr (hw _ (List.mem_of_getElem? (i := 49) rfl))) (by decide) rfl rfl))
  refine own_by (T' := T3_) (g' := (mkF m 15 #[.val (.ref a), .val (.ref u), .val (.ref m'), .val (.ref r), .val (.long t), .second] [(.ref a)])) (fun t_ hr_ => XS.aloadN A3_ hx rfl (Jvm.hb hby d8_14) rfl rfl hr_) ?_
  refine own_by (T' := T3_) (g' := (mkF m 16 #[.val (.ref a), .val (.ref u), .val (.ref m'), .val (.ref r), .val (.long t), .second] [(.ref r), (.ref a)])) (fun t_ hr_ => XS.aloadN A3_ hx rfl (Jvm.hb hby d8_15) rfl rfl hr_) ?_
  refine own_putF w3_ hx (hw _ (List.mem_of_getElem? (i := 50) rfl)) F2_0_1 X1' (Or.inr ⟨(hw _ (List.mem_of_getElem? (i := 51) rfl)), rfl, hnm⟩) (hw _ (List.mem_of_getElem? (i := 40) rfl)) (ty := (.object "java/lang/String")) (by decide) rfl rfl ga (Safe.exa (own_hZ w3_).alike X1' (by decide) (by decide)) (g := (mkF m 16 #[.val (.ref a), .val (.ref u), .val (.ref m'), .val (.ref r), .val (.long t), .second] [(.ref r), (.ref a)])) rfl rfl (Jvm.hb hby d8_16) (fun T4_ h4_ W4_ w4_ => ?_)
  have A4_ := own_at w4_
  show own_WP p e _ below s Z _ n0 _ T4_ (mkF m 19 #[.val (.ref a), .val (.ref u), .val (.ref m'), .val (.ref r), .val (.long t), .second] [])
  have X2' := X1'.wr W4_
  have F0_0_1_2 := F0_0_1.other W4_ (Or.inr (slot_ne (Or.inr (hw _ (List.mem_of_getElem? (i := 47) rfl))) (Or.inr (hw _ (List.mem_of_getElem? (i := 51) rfl))) (by decide) rfl rfl))
  have F1_0_1_2 := F1_0_1.other W4_ (Or.inr (slot_ne (Or.inr (hw _ (List.mem_of_getElem? (i := 49) rfl))) (Or.inr (hw _ (List.mem_of_getElem? (i := 51) rfl))) (by decide) rfl rfl))
  have F2_0_1_2 := F2_0_1.same W4_
  have F3_0_1_2 := F3_0_1.other W4_ (Or.inr (slot_ne (Or.inr (hw _ (List.mem_of_getElem? (i := 53) rfl))) (Or.inr (hw _ (List.mem_of_getElem? (i := 51) rfl))) (by decide) rfl rfl))
  refine own_by (T' := T4_) (g' := (mkF m 20 #[.val (.ref a), .val (.ref u), .val (.ref m'), .val (.ref r), .val (.long t), .second] [(.ref a)])) (fun t_ hr_ => XS.aloadN A4_ hx rfl (Jvm.hb hby d8_19) rfl rfl hr_) ?_
  refine own_by (T' := T4_) (g' := (mkF m 22 #[.val (.ref a), .val (.ref u), .val (.ref m'), .val (.ref r), .val (.long t), .second] [(.long t), (.ref a)])) (fun t_ hr_ => XS.lload A4_ hx rfl (Jvm.hb hby d8_20) rfl hr_) ?_
  refine own_putF w4_ hx (hw _ (List.mem_of_getElem? (i := 52) rfl)) F3_0_1_2 X2' (Or.inr ⟨(hw _ (List.mem_of_getElem? (i := 53) rfl)), rfl, hnm⟩) (hw _ (List.mem_of_getElem? (i := 40) rfl)) (ty := .long) (by decide) rfl rfl ga (Safe.exa (own_hZ w4_).alike X2' (by decide) (by decide)) (g := (mkF m 22 #[.val (.ref a), .val (.ref u), .val (.ref m'), .val (.ref r), .val (.long t), .second] [(.long t), (.ref a)])) rfl rfl (Jvm.hb hby d8_22) (fun T5_ h5_ W5_ w5_ => ?_)
  have A5_ := own_at w5_
  show own_WP p e _ below s Z _ n0 _ T5_ (mkF m 25 #[.val (.ref a), .val (.ref u), .val (.ref m'), .val (.ref r), .val (.long t), .second] [])
  have X3' := X2'.wr W5_
  have F0_0_1_2_3 := F0_0_1_2.other W5_ (Or.inr (slot_ne (Or.inr (hw _ (List.mem_of_getElem? (i := 47) rfl))) (Or.inr (hw _ (List.mem_of_getElem? (i := 53) rfl))) (by decide) rfl rfl))
  have F1_0_1_2_3 := F1_0_1_2.other W5_ (Or.inr (slot_ne (Or.inr (hw _ (List.mem_of_getElem? (i := 49) rfl))) (Or.inr (hw _ (List.mem_of_getElem? (i := 53) rfl))) (by decide) rfl rfl))
  have F2_0_1_2_3 := F2_0_1_2.other W5_ (Or.inr (slot_ne (Or.inr (hw _ (List.mem_of_getElem? (i := 51) rfl))) (Or.inr (hw _ (List.mem_of_getElem? (i := 53) rfl))) (by decide) rfl rfl))
  have F3_0_1_2_3 := F3_0_1_2.same W5_
  exact own_retV w5_ hx hEL hlk hret (Jvm.hb hby d8_25) (by decide) (by decide) ⟨rfl, (((((Keep.refl h0 [a]).wr W2_ (Or.inl (List.mem_of_getElem? (i := 0) rfl))).wr W3_ (Or.inl (List.mem_of_getElem? (i := 0) rfl))).wr W4_ (Or.inl (List.mem_of_getElem? (i := 0) rfl))).wr W5_ (Or.inl (List.mem_of_getElem? (i := 0) rfl))), X3', F0_0_1_2_3, F1_0_1_2_3, F2_0_1_2_3, F3_0_1_2_3⟩

theorem d17_0 : decode prog_39_method_6_code 0 = .ok (.aload_n 1, 1) := by decide +kernel
theorem d17_1 : decode prog_39_method_6_code 1 = .ok (.instanceof 8, 3) := by decide +kernel
theorem d17_4 : decode prog_39_method_6_code 4 = .ok (.ifCond .eq 66, 3) := by decide +kernel
theorem d17_7 : decode prog_39_method_6_code 7 = .ok (.aload_n 1, 1) := by decide +kernel
theorem d17_8 : decode prog_39_method_6_code 8 = .ok (.checkcast 8, 3) := by decide +kernel
theorem d17_11 : decode prog_39_method_6_code 11 = .ok (.astore_n 2, 1) := by decide +kernel
theorem d17_12 : decode prog_39_method_6_code 12 = .ok (.aload_n 0, 1) := by decide +kernel
theorem d17_13 : decode prog_39_method_6_code 13 = .ok (.getfield 7, 3) := by decide +kernel
theorem d17_16 : decode prog_39_method_6_code 16 = .ok (.aload_n 2, 1) := by decide +kernel
theorem d17_17 : decode prog_39_method_6_code 17 = .ok (.getfield 7, 3) := by decide +kernel
theorem d17_20 : decode prog_39_method_6_code 20 = .ok (.invokevirtual 23, 3) := by decide +kernel
theorem pd_53765485 : parseMethodDescriptor "(Ljava/lang/Object;)Z" = some ⟨[(.object "java/lang/Object")], some .boolean⟩ := by decide +kernel
theorem d17_23 : decode prog_39_method_6_code 23 = .ok (.ifCond .eq 47, 3) := by decide +kernel
theorem d17_26 : decode prog_39_method_6_code 26 = .ok (.aload_n 0, 1) := by decide +kernel
theorem d17_27 : decode prog_39_method_6_code 27 = .ok (.getfield 13, 3) := by decide +kernel
theorem d17_30 : decode prog_39_method_6_code 30 = .ok (.aload_n 2, 1) := by decide +kernel
theorem d17_31 : decode prog_39_method_6_code 31 = .ok (.getfield 13, 3) := by decide +kernel
theorem d17_34 : decode prog_39_method_6_code 34 = .ok (.invokevirtual 23, 3) := by decide +kernel
theorem d17_37 : decode prog_39_method_6_code 37 = .ok (.ifCond .eq 33, 3) := by decide +kernel
theorem d17_40 : decode prog_39_method_6_code 40 = .ok (.aload_n 0, 1) := by decide +kernel
theorem d17_41 : decode prog_39_method_6_code 41 = .ok (.getfield 16, 3) := by decide +kernel
theorem d17_44 : decode prog_39_method_6_code 44 = .ok (.aload_n 2, 1) := by decide +kernel
theorem d17_45 : decode prog_39_method_6_code 45 = .ok (.getfield 16, 3) := by decide +kernel
theorem d17_48 : decode prog_39_method_6_code 48 = .ok (.invokevirtual 23, 3) := by decide +kernel
theorem d17_51 : decode prog_39_method_6_code 51 = .ok (.ifCond .eq 19, 3) := by decide +kernel
theorem d17_54 : decode prog_39_method_6_code 54 = .ok (.aload_n 0, 1) := by decide +kernel
theorem d17_55 : decode prog_39_method_6_code 55 = .ok (.getfield 19, 3) := by decide +kernel
theorem d17_58 : decode prog_39_method_6_code 58 = .ok (.aload_n 2, 1) := by decide +kernel
theorem d17_59 : decode prog_39_method_6_code 59 = .ok (.getfield 19, 3) := by decide +kernel
theorem d17_62 : decode prog_39_method_6_code 62 = .ok (.lcmp, 1) := by decide +kernel
theorem d17_63 : decode prog_39_method_6_code 63 = .ok (.ifCond .ne 7, 3) := by decide +kernel
theorem d17_66 : decode prog_39_method_6_code 66 = .ok (.iconst 1, 1) := by decide +kernel
theorem d17_67 : decode prog_39_method_6_code 67 = .ok (.goto 4, 3) := by decide +kernel
theorem d17_71 : decode prog_39_method_6_code 71 = .ok (.ireturn, 1) := by decide +kernel
theorem d17_70 : decode prog_39_method_6_code 70 = .ok (.iconst 0, 1) := by decide +kernel
theorem pn_817994376 : plainFor (⟨"com/example/hecate/hecate/identity/VerifiedIdentity", "equals", "(Ljava/lang/Object;)Z"⟩ : MethodName) = true := by first | exact plainFor_of_name (by first | (simp [plainName, overriddenIn]; done) | decide +kernel) | decide +kernel
theorem ef_ctEqV (m : MethodId) (x0 : Addr) (x1 : Addr) : entryFrame m #[(.ref x0), (.ref x1)] 3 = mkF m 0 #[.val (.ref x0), .val (.ref x1), .unset] [] := by first | (simp [entryFrame, mkF, argsToLocals, Value.category]; done) | rfl
set_option maxRecDepth 65536 in
set_option maxHeartbeats 40000000 in
theorem ctEqV (l : Launch) (Z : State) (a0 : Array Value) (hw : ∀ d ∈ tables_1, d.before a0 Z = true) (SC : own_SC Z) (n0 : Nat) (h0 : Heap) (O0 : Old Z n0 h0) (a b u1 m1 r1 u2 m2 r2 : Addr) (t1 t2 : Int64) (u1s m1s r1s u2s m2s r2s : List Int32) (X2 : Exa Z h0 b "com/example/hecate/hecate/identity/VerifiedIdentity") (A0 : Fld Z h0 a "com/example/hecate/hecate/identity/VerifiedIdentity" "userId" "Ljava/lang/String;" (.ref u1)) (A1 : Fld Z h0 a "com/example/hecate/hecate/identity/VerifiedIdentity" "email" "Ljava/lang/String;" (.ref m1)) (A2 : Fld Z h0 a "com/example/hecate/hecate/identity/VerifiedIdentity" "role" "Ljava/lang/String;" (.ref r1)) (A3 : Fld Z h0 a "com/example/hecate/hecate/identity/VerifiedIdentity" "timestamp" "J" (.long t1)) (B0 : Fld Z h0 b "com/example/hecate/hecate/identity/VerifiedIdentity" "userId" "Ljava/lang/String;" (.ref u2)) (B1 : Fld Z h0 b "com/example/hecate/hecate/identity/VerifiedIdentity" "email" "Ljava/lang/String;" (.ref m2)) (B2 : Fld Z h0 b "com/example/hecate/hecate/identity/VerifiedIdentity" "role" "Ljava/lang/String;" (.ref r2)) (B3 : Fld Z h0 b "com/example/hecate/hecate/identity/VerifiedIdentity" "timestamp" "J" (.long t2)) (S0a : own_Str Z h0 u1 u1s) (S1a : own_Str Z h0 m1 m1s) (S2a : own_Str Z h0 r1 r1s) (S0b : own_Str Z h0 u2 u2s) (S1b : own_Str Z h0 m2 m2s) (S2b : own_Str Z h0 r2 r2s) :
    own_Ct l (⟨"com/example/hecate/hecate/identity/VerifiedIdentity", "equals", "(Ljava/lang/Object;)Z"⟩ : MethodName) prog_39_method_6_code 3 (some .boolean) ({ frames := 2, cells := 0, slots := 0, locals := 28 } : Room) Z consts_1 n0 #[(.ref a), (.ref b)] h0 [] (fun v h => ((v = some (.int 1) ∧ (u1s = u2s ∧ m1s = m2s ∧ r1s = r2s ∧ t1 = t2)) ∨ (v = some (.int 0) ∧ ¬ (u1s = u2s ∧ m1s = m2s ∧ r1s = r2s ∧ t1 = t2))) ∧ h0 = h) := by
  have hEL := own_EL hw
  refine own_body pn_817994376 O0 (fun p e s m below meth cc_ T0 vm0 hx hby hml0 hret hlk hnm hsf w0 => ?_)
  have hml : cc_.maxLocals = 3 := hml0
  have A_0 := own_at w0
  refine own_entry (ef_ctEqV m a b) ?_
  refine own_by (T' := T0) (g' := (mkF m 1 #[.val (.ref a), .val (.ref b), .unset] [(.ref b)])) (fun t_ hr_ => XS.aloadN A_0 hx rfl (Jvm.hb hby d17_0) rfl rfl hr_) ?_
  refine own_instY w0 hx (hw _ (List.mem_of_getElem? (i := 94) rfl)) (Ins.self X2) (g := (mkF m 1 #[.val (.ref a), .val (.ref b), .unset] [(.ref b)])) rfl rfl (Jvm.hb hby d17_1) (fun T1_ w1_ => ?_)
  have A1_ := own_at w1_
  show own_WP p e _ below s Z _ n0 _ T1_ (mkF m 4 #[.val (.ref a), .val (.ref b), .unset] [(.int (1 : Int32))])
  refine own_by (T' := T1_) (g' := (mkF m 7 #[.val (.ref a), .val (.ref b), .unset] [])) (fun t_ hr_ => XS.ifNo A1_ hx rfl (Jvm.hb hby d17_4) rfl ((if0 _ _).trans (feq (by decide : ¬ (1 : Int32) = 0)).1) hr_) ?_
  refine own_by (T' := T1_) (g' := (mkF m 8 #[.val (.ref a), .val (.ref b), .unset] [(.ref b)])) (fun t_ hr_ => XS.aloadN A1_ hx rfl (Jvm.hb hby d17_7) rfl rfl hr_) ?_
  refine own_cast w1_ hx (hw _ (List.mem_of_getElem? (i := 94) rfl)) (Ins.self X2) (g := (mkF m 8 #[.val (.ref a), .val (.ref b), .unset] [(.ref b)])) rfl rfl (Jvm.hb hby d17_8) (fun T2_ w2_ => ?_)
  have A2_ := own_at w2_
  show own_WP p e _ below s Z _ n0 _ T2_ (mkF m 11 #[.val (.ref a), .val (.ref b), .unset] [(.ref b)])
  refine own_by (T' := T2_) (g' := (mkF m 12 #[.val (.ref a), .val (.ref b), .val (.ref b)] [])) (fun t_ hr_ => XS.astoreN A2_ hx rfl (Jvm.hb hby d17_11) rfl rfl (l' := #[.val (.ref a), .val (.ref b), .val (.ref b)]) rfl hr_) ?_
  refine own_by (T' := T2_) (g' := (mkF m 13 #[.val (.ref a), .val (.ref b), .val (.ref b)] [(.ref a)])) (fun t_ hr_ => XS.aloadN A2_ hx rfl (Jvm.hb hby d17_12) rfl rfl hr_) ?_
  refine own_getF w2_ hx (hw _ (List.mem_of_getElem? (i := 46) rfl)) A0 (g := (mkF m 13 #[.val (.ref a), .val (.ref b), .val (.ref b)] [(.ref a)])) rfl rfl (Jvm.hb hby d17_13) (fun T3_ w3_ => ?_)
  have A3_ := own_at w3_
  show own_WP p e _ below s Z _ n0 _ T3_ (mkF m 16 #[.val (.ref a), .val (.ref b), .val (.ref b)] [(.ref u1)])
  refine own_by (T' := T3_) (g' := (mkF m 17 #[.val (.ref a), .val (.ref b), .val (.ref b)] [(.ref b), (.ref u1)])) (fun t_ hr_ => XS.aloadN A3_ hx rfl (Jvm.hb hby d17_16) rfl rfl hr_) ?_
  refine own_getF w3_ hx (hw _ (List.mem_of_getElem? (i := 46) rfl)) B0 (g := (mkF m 17 #[.val (.ref a), .val (.ref b), .val (.ref b)] [(.ref b), (.ref u1)])) rfl rfl (Jvm.hb hby d17_17) (fun T4_ w4_ => ?_)
  have A4_ := own_at w4_
  show own_WP p e _ below s Z _ n0 _ T4_ (mkF m 20 #[.val (.ref a), .val (.ref b), .val (.ref b)] [(.ref u2), (.ref u1)])
  refine own_callV w4_ hx (y := (⟨"java/lang/String", "equals", "(Ljava/lang/Object;)Z"⟩ : MethodName)) (z := (⟨"java/lang/String", "equals", "(Ljava/lang/Object;)Z"⟩ : MethodName)) (hw _ (List.mem_of_getElem? (i := 96) rfl)) (hw _ (List.mem_of_getElem? (i := 97) rfl)) (fun u hu => notFace_of_selects (args := #[]) (mvT hu (hw _ (List.mem_of_getElem? (i := 99) rfl)))) (hw _ (List.mem_of_getElem? (i := 99) rfl)) (hw _ (List.mem_of_getElem? (i := 98) rfl)) (by decide) (kc := 0) (ks := 0) (a := u1) (argsL := [(.ref u2)]) (rest := []) (own_payEq (W := 0) w4_ hEL (own_wEq hw) (hw _ (List.mem_of_getElem? (i := 7) rfl)) SC S0a S0b (by decide) (by decide)) S0a.exa (g := (mkF m 20 #[.val (.ref a), .val (.ref b), .val (.ref b)] [(.ref u2), (.ref u1)])) rfl (by rw [hml]; rfl) (lenOf pd_53765485 rfl) rfl (by show 2 * 0 + _ ≤ _; exact Nat.le_of_eq rfl) (Jvm.hb hby d17_20) (by decide) (by decide) (fun v5_ T5_ vm5_ h5_ q5_ C5_ w5_ => ?_)
  rcases q5_ with ⟨⟨rfl, hq⟩ | ⟨rfl, hq⟩, rfl⟩
  · have A5_ := own_at w5_
    show own_WP p e _ below s Z _ n0 _ T5_ (mkF m 23 #[.val (.ref a), .val (.ref b), .val (.ref b)] [(.int (1 : Int32))])
    have hq0 := hq
    refine own_by (T' := T5_) (g' := (mkF m 26 #[.val (.ref a), .val (.ref b), .val (.ref b)] [])) (fun t_ hr_ => XS.ifNo A5_ hx rfl (Jvm.hb hby d17_23) rfl ((if0 _ _).trans (feq (by decide : ¬ (1 : Int32) = 0)).1) hr_) ?_
    refine own_by (T' := T5_) (g' := (mkF m 27 #[.val (.ref a), .val (.ref b), .val (.ref b)] [(.ref a)])) (fun t_ hr_ => XS.aloadN A5_ hx rfl (Jvm.hb hby d17_26) rfl rfl hr_) ?_
    refine own_getF w5_ hx (hw _ (List.mem_of_getElem? (i := 48) rfl)) A1 (g := (mkF m 27 #[.val (.ref a), .val (.ref b), .val (.ref b)] [(.ref a)])) rfl rfl (Jvm.hb hby d17_27) (fun T6_ w6_ => ?_)
    have A6_ := own_at w6_
    show own_WP p e _ below s Z _ n0 _ T6_ (mkF m 30 #[.val (.ref a), .val (.ref b), .val (.ref b)] [(.ref m1)])
    refine own_by (T' := T6_) (g' := (mkF m 31 #[.val (.ref a), .val (.ref b), .val (.ref b)] [(.ref b), (.ref m1)])) (fun t_ hr_ => XS.aloadN A6_ hx rfl (Jvm.hb hby d17_30) rfl rfl hr_) ?_
    refine own_getF w6_ hx (hw _ (List.mem_of_getElem? (i := 48) rfl)) B1 (g := (mkF m 31 #[.val (.ref a), .val (.ref b), .val (.ref b)] [(.ref b), (.ref m1)])) rfl rfl (Jvm.hb hby d17_31) (fun T7_ w7_ => ?_)
    have A7_ := own_at w7_
    show own_WP p e _ below s Z _ n0 _ T7_ (mkF m 34 #[.val (.ref a), .val (.ref b), .val (.ref b)] [(.ref m2), (.ref m1)])
    refine own_callV w7_ hx (y := (⟨"java/lang/String", "equals", "(Ljava/lang/Object;)Z"⟩ : MethodName)) (z := (⟨"java/lang/String", "equals", "(Ljava/lang/Object;)Z"⟩ : MethodName)) (hw _ (List.mem_of_getElem? (i := 96) rfl)) (hw _ (List.mem_of_getElem? (i := 97) rfl)) (fun u hu => notFace_of_selects (args := #[]) (mvT hu (hw _ (List.mem_of_getElem? (i := 99) rfl)))) (hw _ (List.mem_of_getElem? (i := 99) rfl)) (hw _ (List.mem_of_getElem? (i := 98) rfl)) (by decide) (kc := 0) (ks := 0) (a := m1) (argsL := [(.ref m2)]) (rest := []) (own_payEq (W := 0) w7_ hEL (own_wEq hw) (hw _ (List.mem_of_getElem? (i := 7) rfl)) SC S1a S1b (by decide) (by decide)) S1a.exa (g := (mkF m 34 #[.val (.ref a), .val (.ref b), .val (.ref b)] [(.ref m2), (.ref m1)])) rfl (by rw [hml]; rfl) (lenOf pd_53765485 rfl) rfl (by show 2 * 0 + _ ≤ _; exact Nat.le_of_eq rfl) (Jvm.hb hby d17_34) (by decide) (by decide) (fun v8_ T8_ vm8_ h8_ q8_ C8_ w8_ => ?_)
    rcases q8_ with ⟨⟨rfl, hq⟩ | ⟨rfl, hq⟩, rfl⟩
    · have A8_ := own_at w8_
      show own_WP p e _ below s Z _ n0 _ T8_ (mkF m 37 #[.val (.ref a), .val (.ref b), .val (.ref b)] [(.int (1 : Int32))])
      have hq1 := hq
      refine own_by (T' := T8_) (g' := (mkF m 40 #[.val (.ref a), .val (.ref b), .val (.ref b)] [])) (fun t_ hr_ => XS.ifNo A8_ hx rfl (Jvm.hb hby d17_37) rfl ((if0 _ _).trans (feq (by decide : ¬ (1 : Int32) = 0)).1) hr_) ?_
      refine own_by (T' := T8_) (g' := (mkF m 41 #[.val (.ref a), .val (.ref b), .val (.ref b)] [(.ref a)])) (fun t_ hr_ => XS.aloadN A8_ hx rfl (Jvm.hb hby d17_40) rfl rfl hr_) ?_
      refine own_getF w8_ hx (hw _ (List.mem_of_getElem? (i := 50) rfl)) A2 (g := (mkF m 41 #[.val (.ref a), .val (.ref b), .val (.ref b)] [(.ref a)])) rfl rfl (Jvm.hb hby d17_41) (fun T9_ w9_ => ?_)
      have A9_ := own_at w9_
      show own_WP p e _ below s Z _ n0 _ T9_ (mkF m 44 #[.val (.ref a), .val (.ref b), .val (.ref b)] [(.ref r1)])
      refine own_by (T' := T9_) (g' := (mkF m 45 #[.val (.ref a), .val (.ref b), .val (.ref b)] [(.ref b), (.ref r1)])) (fun t_ hr_ => XS.aloadN A9_ hx rfl (Jvm.hb hby d17_44) rfl rfl hr_) ?_
      refine own_getF w9_ hx (hw _ (List.mem_of_getElem? (i := 50) rfl)) B2 (g := (mkF m 45 #[.val (.ref a), .val (.ref b), .val (.ref b)] [(.ref b), (.ref r1)])) rfl rfl (Jvm.hb hby d17_45) (fun T10_ w10_ => ?_)
      have A10_ := own_at w10_
      show own_WP p e _ below s Z _ n0 _ T10_ (mkF m 48 #[.val (.ref a), .val (.ref b), .val (.ref b)] [(.ref r2), (.ref r1)])
      refine own_callV w10_ hx (y := (⟨"java/lang/String", "equals", "(Ljava/lang/Object;)Z"⟩ : MethodName)) (z := (⟨"java/lang/String", "equals", "(Ljava/lang/Object;)Z"⟩ : MethodName)) (hw _ (List.mem_of_getElem? (i := 96) rfl)) (hw _ (List.mem_of_getElem? (i := 97) rfl)) (fun u hu => notFace_of_selects (args := #[]) (mvT hu (hw _ (List.mem_of_getElem? (i := 99) rfl)))) (hw _ (List.mem_of_getElem? (i := 99) rfl)) (hw _ (List.mem_of_getElem? (i := 98) rfl)) (by decide) (kc := 0) (ks := 0) (a := r1) (argsL := [(.ref r2)]) (rest := []) (own_payEq (W := 0) w10_ hEL (own_wEq hw) (hw _ (List.mem_of_getElem? (i := 7) rfl)) SC S2a S2b (by decide) (by decide)) S2a.exa (g := (mkF m 48 #[.val (.ref a), .val (.ref b), .val (.ref b)] [(.ref r2), (.ref r1)])) rfl (by rw [hml]; rfl) (lenOf pd_53765485 rfl) rfl (by show 2 * 0 + _ ≤ _; exact Nat.le_of_eq rfl) (Jvm.hb hby d17_48) (by decide) (by decide) (fun v11_ T11_ vm11_ h11_ q11_ C11_ w11_ => ?_)
      rcases q11_ with ⟨⟨rfl, hq⟩ | ⟨rfl, hq⟩, rfl⟩
      · have A11_ := own_at w11_
        show own_WP p e _ below s Z _ n0 _ T11_ (mkF m 51 #[.val (.ref a), .val (.ref b), .val (.ref b)] [(.int (1 : Int32))])
        have hq2 := hq
        refine own_by (T' := T11_) (g' := (mkF m 54 #[.val (.ref a), .val (.ref b), .val (.ref b)] [])) (fun t_ hr_ => XS.ifNo A11_ hx rfl (Jvm.hb hby d17_51) rfl ((if0 _ _).trans (feq (by decide : ¬ (1 : Int32) = 0)).1) hr_) ?_
        refine own_by (T' := T11_) (g' := (mkF m 55 #[.val (.ref a), .val (.ref b), .val (.ref b)] [(.ref a)])) (fun t_ hr_ => XS.aloadN A11_ hx rfl (Jvm.hb hby d17_54) rfl rfl hr_) ?_
        refine own_getF w11_ hx (hw _ (List.mem_of_getElem? (i := 52) rfl)) A3 (g := (mkF m 55 #[.val (.ref a), .val (.ref b), .val (.ref b)] [(.ref a)])) rfl rfl (Jvm.hb hby d17_55) (fun T12_ w12_ => ?_)
        have A12_ := own_at w12_
        show own_WP p e _ below s Z _ n0 _ T12_ (mkF m 58 #[.val (.ref a), .val (.ref b), .val (.ref b)] [(.long t1)])
        refine own_by (T' := T12_) (g' := (mkF m 59 #[.val (.ref a), .val (.ref b), .val (.ref b)] [(.ref b), (.long t1)])) (fun t_ hr_ => XS.aloadN A12_ hx rfl (Jvm.hb hby d17_58) rfl rfl hr_) ?_
        refine own_getF w12_ hx (hw _ (List.mem_of_getElem? (i := 52) rfl)) B3 (g := (mkF m 59 #[.val (.ref a), .val (.ref b), .val (.ref b)] [(.ref b), (.long t1)])) rfl rfl (Jvm.hb hby d17_59) (fun T13_ w13_ => ?_)
        have A13_ := own_at w13_
        show own_WP p e _ below s Z _ n0 _ T13_ (mkF m 62 #[.val (.ref a), .val (.ref b), .val (.ref b)] [(.long t2), (.long t1)])
        refine own_by (T' := T13_) (g' := (mkF m 63 #[.val (.ref a), .val (.ref b), .val (.ref b)] [(.int (lcmpW t1 t2))])) (fun t_ hr_ => XS.lcmp A13_ hx rfl (Jvm.hb hby d17_62) rfl hr_) ?_
        by_cases hc14_ : (lcmpW t1 t2) = (0 : Int32)
        · refine own_by (T' := T13_) (g' := (mkF m 66 #[.val (.ref a), .val (.ref b), .val (.ref b)] [])) (fun t_ hr_ => XS.ifNo A13_ hx rfl (Jvm.hb hby d17_63) rfl ((if0 _ _).trans (teq hc14_).2) hr_) ?_
          refine own_by (T' := T13_) (g' := (mkF m 67 #[.val (.ref a), .val (.ref b), .val (.ref b)] [(.int (1 : Int32))])) (fun t_ hr_ => XS.iconst A13_ hx rfl (Jvm.hb hby d17_66) hr_) ?_
          refine own_by (T' := T13_) (g' := (mkF m 71 #[.val (.ref a), .val (.ref b), .val (.ref b)] [(.int (1 : Int32))])) (fun t_ hr_ => XS.goto A13_ hx rfl (pc0 := 67) (pc' := 71) rfl (Jvm.hb hby d17_67) (by decide) (by decide) hr_) ?_
          exact own_retZ w13_ hx hEL hlk hret (Or.inr rfl) (Jvm.hb hby d17_71) (by decide) (by decide) ⟨Or.inl ⟨rfl, hq0, hq1, hq2, (lw_eq _ _).mp hc14_⟩, rfl⟩
        · refine own_by (T' := T13_) (g' := (mkF m 70 #[.val (.ref a), .val (.ref b), .val (.ref b)] [])) (fun t_ hr_ => XS.ifYes A13_ hx rfl (pc0 := 63) (pc' := 70) rfl (Jvm.hb hby d17_63) rfl ((if0 _ _).trans (feq hc14_).2) (by decide) (by decide) hr_) ?_
          refine own_by (T' := T13_) (g' := (mkF m 71 #[.val (.ref a), .val (.ref b), .val (.ref b)] [(.int (0 : Int32))])) (fun t_ hr_ => XS.iconst A13_ hx rfl (Jvm.hb hby d17_70) hr_) ?_
          exact own_retZ w13_ hx hEL hlk hret (Or.inl rfl) (Jvm.hb hby d17_71) (by decide) (by decide) ⟨Or.inr ⟨rfl, fun q => hc14_ ((lw_eq _ _).mpr q.2.2.2)⟩, rfl⟩
      · have A11_ := own_at w11_
        show own_WP p e _ below s Z _ n0 _ T11_ (mkF m 51 #[.val (.ref a), .val (.ref b), .val (.ref b)] [(.int (0 : Int32))])
        refine own_by (T' := T11_) (g' := (mkF m 70 #[.val (.ref a), .val (.ref b), .val (.ref b)] [])) (fun t_ hr_ => XS.ifYes A11_ hx rfl (pc0 := 51) (pc' := 70) rfl (Jvm.hb hby d17_51) rfl ((if0 _ _).trans (teq (rfl : (0 : Int32) = 0)).1) (by decide) (by decide) hr_) ?_
        refine own_by (T' := T11_) (g' := (mkF m 71 #[.val (.ref a), .val (.ref b), .val (.ref b)] [(.int (0 : Int32))])) (fun t_ hr_ => XS.iconst A11_ hx rfl (Jvm.hb hby d17_70) hr_) ?_
        exact own_retZ w11_ hx hEL hlk hret (Or.inl rfl) (Jvm.hb hby d17_71) (by decide) (by decide) ⟨Or.inr ⟨rfl, fun q => hq q.2.2.1⟩, rfl⟩
    · have A8_ := own_at w8_
      show own_WP p e _ below s Z _ n0 _ T8_ (mkF m 37 #[.val (.ref a), .val (.ref b), .val (.ref b)] [(.int (0 : Int32))])
      refine own_by (T' := T8_) (g' := (mkF m 70 #[.val (.ref a), .val (.ref b), .val (.ref b)] [])) (fun t_ hr_ => XS.ifYes A8_ hx rfl (pc0 := 37) (pc' := 70) rfl (Jvm.hb hby d17_37) rfl ((if0 _ _).trans (teq (rfl : (0 : Int32) = 0)).1) (by decide) (by decide) hr_) ?_
      refine own_by (T' := T8_) (g' := (mkF m 71 #[.val (.ref a), .val (.ref b), .val (.ref b)] [(.int (0 : Int32))])) (fun t_ hr_ => XS.iconst A8_ hx rfl (Jvm.hb hby d17_70) hr_) ?_
      exact own_retZ w8_ hx hEL hlk hret (Or.inl rfl) (Jvm.hb hby d17_71) (by decide) (by decide) ⟨Or.inr ⟨rfl, fun q => hq q.2.1⟩, rfl⟩
  · have A5_ := own_at w5_
    show own_WP p e _ below s Z _ n0 _ T5_ (mkF m 23 #[.val (.ref a), .val (.ref b), .val (.ref b)] [(.int (0 : Int32))])
    refine own_by (T' := T5_) (g' := (mkF m 70 #[.val (.ref a), .val (.ref b), .val (.ref b)] [])) (fun t_ hr_ => XS.ifYes A5_ hx rfl (pc0 := 23) (pc' := 70) rfl (Jvm.hb hby d17_23) rfl ((if0 _ _).trans (teq (rfl : (0 : Int32) = 0)).1) (by decide) (by decide) hr_) ?_
    refine own_by (T' := T5_) (g' := (mkF m 71 #[.val (.ref a), .val (.ref b), .val (.ref b)] [(.int (0 : Int32))])) (fun t_ hr_ => XS.iconst A5_ hx rfl (Jvm.hb hby d17_70) hr_) ?_
    exact own_retZ w5_ hx hEL hlk hret (Or.inl rfl) (Jvm.hb hby d17_71) (by decide) (by decide) ⟨Or.inr ⟨rfl, fun q => hq q.1⟩, rfl⟩

theorem ef_ctEqN (m : MethodId) (x0 : Addr) : entryFrame m #[(.ref x0), .null] 3 = mkF m 0 #[.val (.ref x0), .val .null, .unset] [] := by first | (simp [entryFrame, mkF, argsToLocals, Value.category]; done) | rfl
set_option maxRecDepth 65536 in
set_option maxHeartbeats 40000000 in
theorem ctEqN (l : Launch) (Z : State) (a0 : Array Value) (hw : ∀ d ∈ tables_1, d.before a0 Z = true) (n0 : Nat) (h0 : Heap) (O0 : Old Z n0 h0) (a : Addr)  :
    own_Ct l (⟨"com/example/hecate/hecate/identity/VerifiedIdentity", "equals", "(Ljava/lang/Object;)Z"⟩ : MethodName) prog_39_method_6_code 3 (some .boolean) ({ frames := 2, cells := 0, slots := 0, locals := 28 } : Room) Z consts_1 n0 #[(.ref a), .null] h0 [] (fun v h => v = some (.int 0) ∧ h0 = h) := by
  have hEL := own_EL hw
  refine own_body pn_817994376 O0 (fun p e s m below meth cc_ T0 vm0 hx hby hml0 hret hlk hnm hsf w0 => ?_)
  have hml : cc_.maxLocals = 3 := hml0
  have A_0 := own_at w0
  refine own_entry (ef_ctEqN m a) ?_
  refine own_by (T' := T0) (g' := (mkF m 1 #[.val (.ref a), .val .null, .unset] [.null])) (fun t_ hr_ => XS.aloadN A_0 hx rfl (Jvm.hb hby d17_0) rfl rfl hr_) ?_
  refine own_instNull w0 hx (g := (mkF m 1 #[.val (.ref a), .val .null, .unset] [.null])) rfl rfl (Jvm.hb hby d17_1) ?_
  show own_WP p e _ below s Z _ n0 _ T0 (mkF m 4 #[.val (.ref a), .val .null, .unset] [(.int (0 : Int32))])
  refine own_by (T' := T0) (g' := (mkF m 70 #[.val (.ref a), .val .null, .unset] [])) (fun t_ hr_ => XS.ifYes A_0 hx rfl (pc0 := 4) (pc' := 70) rfl (Jvm.hb hby d17_4) rfl ((if0 _ _).trans (teq (rfl : (0 : Int32) = 0)).1) (by decide) (by decide) hr_) ?_
  refine own_by (T' := T0) (g' := (mkF m 71 #[.val (.ref a), .val .null, .unset] [(.int (0 : Int32))])) (fun t_ hr_ => XS.iconst A_0 hx rfl (Jvm.hb hby d17_70) hr_) ?_
  exact own_retZ w0 hx hEL hlk hret (Or.inl rfl) (Jvm.hb hby d17_71) (by decide) (by decide) ⟨rfl, rfl⟩

theorem ef_ctEqS (m : MethodId) (x0 : Addr) (x1 : Addr) : entryFrame m #[(.ref x0), (.ref x1)] 3 = mkF m 0 #[.val (.ref x0), .val (.ref x1), .unset] [] := by first | (simp [entryFrame, mkF, argsToLocals, Value.category]; done) | rfl
set_option maxRecDepth 65536 in
set_option maxHeartbeats 40000000 in
theorem ctEqS (l : Launch) (Z : State) (a0 : Array Value) (hw : ∀ d ∈ tables_1, d.before a0 Z = true) (n0 : Nat) (h0 : Heap) (O0 : Old Z n0 h0) (a b : Addr) (X2 : Exa Z h0 b "java/lang/String") :
    own_Ct l (⟨"com/example/hecate/hecate/identity/VerifiedIdentity", "equals", "(Ljava/lang/Object;)Z"⟩ : MethodName) prog_39_method_6_code 3 (some .boolean) ({ frames := 2, cells := 0, slots := 0, locals := 28 } : Room) Z consts_1 n0 #[(.ref a), (.ref b)] h0 [] (fun v h => v = some (.int 0) ∧ h0 = h) := by
  have hEL := own_EL hw
  refine own_body pn_817994376 O0 (fun p e s m below meth cc_ T0 vm0 hx hby hml0 hret hlk hnm hsf w0 => ?_)
  have hml : cc_.maxLocals = 3 := hml0
  have A_0 := own_at w0
  refine own_entry (ef_ctEqS m a b) ?_
  refine own_by (T' := T0) (g' := (mkF m 1 #[.val (.ref a), .val (.ref b), .unset] [(.ref b)])) (fun t_ hr_ => XS.aloadN A_0 hx rfl (Jvm.hb hby d17_0) rfl rfl hr_) ?_
  refine own_instNo w0 hx (hw _ (List.mem_of_getElem? (i := 94) rfl)) X2 (own_notInst (hw _ (List.mem_of_getElem? (i := 105) rfl)) (hw _ (List.mem_of_getElem? (i := 106) rfl)) (hw _ (List.mem_of_getElem? (i := 40) rfl)) (by decide) (by decide)) (g := (mkF m 1 #[.val (.ref a), .val (.ref b), .unset] [(.ref b)])) rfl rfl (Jvm.hb hby d17_1) (fun T1_ w1_ => ?_)
  have A1_ := own_at w1_
  show own_WP p e _ below s Z _ n0 _ T1_ (mkF m 4 #[.val (.ref a), .val (.ref b), .unset] [(.int (0 : Int32))])
  refine own_by (T' := T1_) (g' := (mkF m 70 #[.val (.ref a), .val (.ref b), .unset] [])) (fun t_ hr_ => XS.ifYes A1_ hx rfl (pc0 := 4) (pc' := 70) rfl (Jvm.hb hby d17_4) rfl ((if0 _ _).trans (teq (rfl : (0 : Int32) = 0)).1) (by decide) (by decide) hr_) ?_
  refine own_by (T' := T1_) (g' := (mkF m 71 #[.val (.ref a), .val (.ref b), .unset] [(.int (0 : Int32))])) (fun t_ hr_ => XS.iconst A1_ hx rfl (Jvm.hb hby d17_70) hr_) ?_
  exact own_retZ w1_ hx hEL hlk hret (Or.inl rfl) (Jvm.hb hby d17_71) (by decide) (by decide) ⟨rfl, rfl⟩

set_option maxRecDepth 65536 in
set_option maxHeartbeats 40000000 in
theorem J266 {p : Program} {l : Launch} {e : Env} {s : State} {m : MethodId} {below : List Frame} {meth : Method} {cc_ : Code} {Z : State} {a0 : Array Value} {n0 : Nat} {T0 : State} {vm0 : Vm} {h0 : Heap} (hw : ∀ d ∈ tables_1, d.before a0 Z = true) (SC : own_SC Z) (SF : own_SF Z) (hx : p.tables.exec = Jvm.exec) (hby : cc_.code = code) (hml : cc_.maxLocals = 21) (hret : meth.sig.returnType = ret) (hlk : meth.locks = false) (hnm : meth.name = "law") (i0 i1 i2 i3 t2 : Int64) (i4 : Int32) (ua ea ra ub eb rb a b : Addr) (uas eas ras ubs ebs rbs : List Int32) (md k : Int32) (w0 : own_Wk p l e room_1 s m #[.long i0, .long i1, .long i2, .long i3, .int i4] below meth cc_ Z consts_1 "com/example/hecate/hecate/identity/VerifiedIdentityEqualsPinLaw" n0 T0 vm0 h0 44 300) (Sua : own_Str Z h0 ua uas) (Sea : own_Str Z h0 ea eas) (Sra : own_Str Z h0 ra ras) (Sub : own_Str Z h0 ub ubs) (Seb : own_Str Z h0 eb ebs) (Srb : own_Str Z h0 rb rbs) (lua : uas.length ≤ 2) (lea : eas.length ≤ 2) (lra : ras.length ≤ 2) (lub : ubs.length ≤ 2) (leb : ebs.length ≤ 2) (lrb : rbs.length ≤ 2) (Xa : Exa Z h0 a "com/example/hecate/hecate/identity/VerifiedIdentity") (Xb : Exa Z h0 b "com/example/hecate/hecate/identity/VerifiedIdentity") (A0 : Fld Z h0 a "com/example/hecate/hecate/identity/VerifiedIdentity" "userId" "Ljava/lang/String;" (.ref ua)) (A1 : Fld Z h0 a "com/example/hecate/hecate/identity/VerifiedIdentity" "email" "Ljava/lang/String;" (.ref ea)) (A2 : Fld Z h0 a "com/example/hecate/hecate/identity/VerifiedIdentity" "role" "Ljava/lang/String;" (.ref ra)) (A3 : Fld Z h0 a "com/example/hecate/hecate/identity/VerifiedIdentity" "timestamp" "J" (.long i2)) (B0 : Fld Z h0 b "com/example/hecate/hecate/identity/VerifiedIdentity" "userId" "Ljava/lang/String;" (.ref ub)) (B1 : Fld Z h0 b "com/example/hecate/hecate/identity/VerifiedIdentity" "email" "Ljava/lang/String;" (.ref eb)) (B2 : Fld Z h0 b "com/example/hecate/hecate/identity/VerifiedIdentity" "role" "Ljava/lang/String;" (.ref rb)) (B3 : Fld Z h0 b "com/example/hecate/hecate/identity/VerifiedIdentity" "timestamp" "J" (.long t2)) (hb : (k = 1 ∧ (uas = ubs ∧ eas = ebs ∧ ras = rbs ∧ i2 = t2)) ∨ (k = 0 ∧ ¬ (uas = ubs ∧ eas = ebs ∧ ras = rbs ∧ i2 = t2))) :
    own_WP p e room_1 below s Z consts_1 n0 (fun v h => v = some (.int 1)) T0 (mkF m 266 #[.val (.long i0), .second, .val (.long i1), .second, .val (.long i2), .second, .val (.long i3), .second, .val (.int i4), .val (.ref ua), .val (.ref ea), .val (.ref ra), .val (.ref ub), .val (.ref eb), .val (.ref rb), .val (.long t2), .second, .val (.ref a), .val (.ref b), .val (.int md), .val (.int k)] []) := by
  have hEL := own_EL hw
  have A_0 := own_at w0
  refine own_by (T' := T0) (g' := (mkF m 268 #[.val (.long i0), .second, .val (.long i1), .second, .val (.long i2), .second, .val (.long i3), .second, .val (.int i4), .val (.ref ua), .val (.ref ea), .val (.ref ra), .val (.ref ub), .val (.ref eb), .val (.ref rb), .val (.long t2), .second, .val (.ref a), .val (.ref b), .val (.int md), .val (.int k)] [(.ref a)])) (fun t_ hr_ => XS.aload A_0 hx rfl (Jvm.hb hby at_266) rfl rfl hr_) ?_
  refine own_by (T' := T0) (g' := (mkF m 270 #[.val (.long i0), .second, .val (.long i1), .second, .val (.long i2), .second, .val (.long i3), .second, .val (.int i4), .val (.ref ua), .val (.ref ea), .val (.ref ra), .val (.ref ub), .val (.ref eb), .val (.ref rb), .val (.long t2), .second, .val (.ref a), .val (.ref b), .val (.int md), .val (.int k)] [(.ref b), (.ref a)])) (fun t_ hr_ => XS.aload A_0 hx rfl (Jvm.hb hby at_268) rfl rfl hr_) ?_
  rcases hb with ⟨rfl, hb⟩ | ⟨rfl, hb⟩
  · show own_WP p e _ below s Z _ n0 _ T0 (mkF m 270 #[.val (.long i0), .second, .val (.long i1), .second, .val (.long i2), .second, .val (.long i3), .second, .val (.int i4), .val (.ref ua), .val (.ref ea), .val (.ref ra), .val (.ref ub), .val (.ref eb), .val (.ref rb), .val (.long t2), .second, .val (.ref a), .val (.ref b), .val (.int md), .val (.int (1 : Int32))] [(.ref b), (.ref a)])
    refine own_callV w0 hx (y := (⟨"com/example/hecate/hecate/identity/VerifiedIdentity", "equals", "(Ljava/lang/Object;)Z"⟩ : MethodName)) (z := (⟨"com/example/hecate/hecate/identity/VerifiedIdentity", "equals", "(Ljava/lang/Object;)Z"⟩ : MethodName)) (hw _ (List.mem_of_getElem? (i := 89) rfl)) (hw _ (List.mem_of_getElem? (i := 90) rfl)) (fun u hu => notFace_of_selects (args := #[]) (mvT hu (hw _ (List.mem_of_getElem? (i := 92) rfl)))) (hw _ (List.mem_of_getElem? (i := 92) rfl)) (hw _ (List.mem_of_getElem? (i := 91) rfl)) (by decide) (kc := 0) (ks := 0) (a := a) (argsL := [(.ref b)]) (rest := []) (own_payCt (W := 0) (ctEqV l Z a0 hw SC n0 h0 (own_old w0) a b ua ea ra ub eb rb i2 t2 uas eas ras ubs ebs rbs Xb A0 A1 A2 A3 B0 B1 B2 B3 Sua Sea Sra Sub Seb Srb) w0 (hw _ (List.mem_of_getElem? (i := 93) rfl)) (hw _ (List.mem_of_getElem? (i := 41) rfl)) hEL (by decide) (by decide)) Xa (g := (mkF m 270 #[.val (.long i0), .second, .val (.long i1), .second, .val (.long i2), .second, .val (.long i3), .second, .val (.int i4), .val (.ref ua), .val (.ref ea), .val (.ref ra), .val (.ref ub), .val (.ref eb), .val (.ref rb), .val (.long t2), .second, .val (.ref a), .val (.ref b), .val (.int md), .val (.int (1 : Int32))] [(.ref b), (.ref a)])) rfl (by rw [hml]; rfl) (lenOf pd_53765485 rfl) rfl (by show 2 * 0 + _ ≤ _; exact Nat.le_of_eq rfl) (Jvm.hb hby at_270) (by decide) (by decide) (fun v1_ T1_ vm1_ h1_ q1_ C1_ w1_ => ?_)
    rcases q1_ with ⟨⟨rfl, hq⟩ | ⟨rfl, hq⟩, rfl⟩
    · have A1_ := own_at w1_
      show own_WP p e _ below s Z _ n0 _ T1_ (mkF m 273 #[.val (.long i0), .second, .val (.long i1), .second, .val (.long i2), .second, .val (.long i3), .second, .val (.int i4), .val (.ref ua), .val (.ref ea), .val (.ref ra), .val (.ref ub), .val (.ref eb), .val (.ref rb), .val (.long t2), .second, .val (.ref a), .val (.ref b), .val (.int md), .val (.int (1 : Int32))] [(.int (1 : Int32))])
      refine own_by (T' := T1_) (g' := (mkF m 275 #[.val (.long i0), .second, .val (.long i1), .second, .val (.long i2), .second, .val (.long i3), .second, .val (.int i4), .val (.ref ua), .val (.ref ea), .val (.ref ra), .val (.ref ub), .val (.ref eb), .val (.ref rb), .val (.long t2), .second, .val (.ref a), .val (.ref b), .val (.int md), .val (.int (1 : Int32))] [(.int (1 : Int32)), (.int (1 : Int32))])) (fun t_ hr_ => XS.iload A1_ hx rfl (Jvm.hb hby at_273) rfl hr_) ?_
      refine own_by (T' := T1_) (g' := (mkF m 278 #[.val (.long i0), .second, .val (.long i1), .second, .val (.long i2), .second, .val (.long i3), .second, .val (.int i4), .val (.ref ua), .val (.ref ea), .val (.ref ra), .val (.ref ub), .val (.ref eb), .val (.ref rb), .val (.long t2), .second, .val (.ref a), .val (.ref b), .val (.int md), .val (.int (1 : Int32))] [])) (fun t_ hr_ => XS.icmpNo A1_ hx rfl (Jvm.hb hby at_275) rfl (teq (rfl : (1 : Int32) = 1)).2 hr_) ?_
      refine own_by (T' := T1_) (g' := (mkF m 280 #[.val (.long i0), .second, .val (.long i1), .second, .val (.long i2), .second, .val (.long i3), .second, .val (.int i4), .val (.ref ua), .val (.ref ea), .val (.ref ra), .val (.ref ub), .val (.ref eb), .val (.ref rb), .val (.long t2), .second, .val (.ref a), .val (.ref b), .val (.int md), .val (.int (1 : Int32))] [(.ref b)])) (fun t_ hr_ => XS.aload A1_ hx rfl (Jvm.hb hby at_278) rfl rfl hr_) ?_
      refine own_by (T' := T1_) (g' := (mkF m 282 #[.val (.long i0), .second, .val (.long i1), .second, .val (.long i2), .second, .val (.long i3), .second, .val (.int i4), .val (.ref ua), .val (.ref ea), .val (.ref ra), .val (.ref ub), .val (.ref eb), .val (.ref rb), .val (.long t2), .second, .val (.ref a), .val (.ref b), .val (.int md), .val (.int (1 : Int32))] [(.ref a), (.ref b)])) (fun t_ hr_ => XS.aload A1_ hx rfl (Jvm.hb hby at_280) rfl rfl hr_) ?_
      clear hq
      refine own_callV w1_ hx (y := (⟨"com/example/hecate/hecate/identity/VerifiedIdentity", "equals", "(Ljava/lang/Object;)Z"⟩ : MethodName)) (z := (⟨"com/example/hecate/hecate/identity/VerifiedIdentity", "equals", "(Ljava/lang/Object;)Z"⟩ : MethodName)) (hw _ (List.mem_of_getElem? (i := 89) rfl)) (hw _ (List.mem_of_getElem? (i := 90) rfl)) (fun u hu => notFace_of_selects (args := #[]) (mvT hu (hw _ (List.mem_of_getElem? (i := 92) rfl)))) (hw _ (List.mem_of_getElem? (i := 92) rfl)) (hw _ (List.mem_of_getElem? (i := 91) rfl)) (by decide) (kc := 0) (ks := 0) (a := b) (argsL := [(.ref a)]) (rest := []) (own_payCt (W := 0) (ctEqV l Z a0 hw SC n0 h0 (own_old w1_) b a ub eb rb ua ea ra t2 i2 ubs ebs rbs uas eas ras Xa B0 B1 B2 B3 A0 A1 A2 A3 Sub Seb Srb Sua Sea Sra) w1_ (hw _ (List.mem_of_getElem? (i := 93) rfl)) (hw _ (List.mem_of_getElem? (i := 41) rfl)) hEL (by decide) (by decide)) Xb (g := (mkF m 282 #[.val (.long i0), .second, .val (.long i1), .second, .val (.long i2), .second, .val (.long i3), .second, .val (.int i4), .val (.ref ua), .val (.ref ea), .val (.ref ra), .val (.ref ub), .val (.ref eb), .val (.ref rb), .val (.long t2), .second, .val (.ref a), .val (.ref b), .val (.int md), .val (.int (1 : Int32))] [(.ref a), (.ref b)])) rfl (by rw [hml]; rfl) (lenOf pd_53765485 rfl) rfl (by show 2 * 0 + _ ≤ _; exact Nat.le_of_eq rfl) (Jvm.hb hby at_282) (by decide) (by decide) (fun v2_ T2_ vm2_ h2_ q2_ C2_ w2_ => ?_)
      rcases q2_ with ⟨⟨rfl, hq⟩ | ⟨rfl, hq⟩, rfl⟩
      · have A2_ := own_at w2_
        show own_WP p e _ below s Z _ n0 _ T2_ (mkF m 285 #[.val (.long i0), .second, .val (.long i1), .second, .val (.long i2), .second, .val (.long i3), .second, .val (.int i4), .val (.ref ua), .val (.ref ea), .val (.ref ra), .val (.ref ub), .val (.ref eb), .val (.ref rb), .val (.long t2), .second, .val (.ref a), .val (.ref b), .val (.int md), .val (.int (1 : Int32))] [(.int (1 : Int32))])
        refine own_by (T' := T2_) (g' := (mkF m 287 #[.val (.long i0), .second, .val (.long i1), .second, .val (.long i2), .second, .val (.long i3), .second, .val (.int i4), .val (.ref ua), .val (.ref ea), .val (.ref ra), .val (.ref ub), .val (.ref eb), .val (.ref rb), .val (.long t2), .second, .val (.ref a), .val (.ref b), .val (.int md), .val (.int (1 : Int32))] [(.int (1 : Int32)), (.int (1 : Int32))])) (fun t_ hr_ => XS.iload A2_ hx rfl (Jvm.hb hby at_285) rfl hr_) ?_
        refine own_by (T' := T2_) (g' := (mkF m 290 #[.val (.long i0), .second, .val (.long i1), .second, .val (.long i2), .second, .val (.long i3), .second, .val (.int i4), .val (.ref ua), .val (.ref ea), .val (.ref ra), .val (.ref ub), .val (.ref eb), .val (.ref rb), .val (.long t2), .second, .val (.ref a), .val (.ref b), .val (.int md), .val (.int (1 : Int32))] [])) (fun t_ hr_ => XS.icmpNo A2_ hx rfl (Jvm.hb hby at_287) rfl (teq (rfl : (1 : Int32) = 1)).2 hr_) ?_
        refine own_by (T' := T2_) (g' := (mkF m 291 #[.val (.long i0), .second, .val (.long i1), .second, .val (.long i2), .second, .val (.long i3), .second, .val (.int i4), .val (.ref ua), .val (.ref ea), .val (.ref ra), .val (.ref ub), .val (.ref eb), .val (.ref rb), .val (.long t2), .second, .val (.ref a), .val (.ref b), .val (.int md), .val (.int (1 : Int32))] [(.int (1 : Int32))])) (fun t_ hr_ => XS.iconst A2_ hx rfl (Jvm.hb hby at_290) hr_) ?_
        refine own_by (T' := T2_) (g' := (mkF m 295 #[.val (.long i0), .second, .val (.long i1), .second, .val (.long i2), .second, .val (.long i3), .second, .val (.int i4), .val (.ref ua), .val (.ref ea), .val (.ref ra), .val (.ref ub), .val (.ref eb), .val (.ref rb), .val (.long t2), .second, .val (.ref a), .val (.ref b), .val (.int md), .val (.int (1 : Int32))] [(.int (1 : Int32))])) (fun t_ hr_ => XS.goto A2_ hx rfl (pc0 := 291) (pc' := 295) rfl (Jvm.hb hby at_291) (by decide) (by decide) hr_) ?_
        exact own_retZ w2_ hx hEL hlk hret (Or.inr rfl) (Jvm.hb hby at_295) (by decide) (by decide) rfl
      · have A2_ := own_at w2_
        show own_WP p e _ below s Z _ n0 _ T2_ (mkF m 285 #[.val (.long i0), .second, .val (.long i1), .second, .val (.long i2), .second, .val (.long i3), .second, .val (.int i4), .val (.ref ua), .val (.ref ea), .val (.ref ra), .val (.ref ub), .val (.ref eb), .val (.ref rb), .val (.long t2), .second, .val (.ref a), .val (.ref b), .val (.int md), .val (.int (1 : Int32))] [(.int (0 : Int32))])
        refine own_by (T' := T2_) (g' := (mkF m 287 #[.val (.long i0), .second, .val (.long i1), .second, .val (.long i2), .second, .val (.long i3), .second, .val (.int i4), .val (.ref ua), .val (.ref ea), .val (.ref ra), .val (.ref ub), .val (.ref eb), .val (.ref rb), .val (.long t2), .second, .val (.ref a), .val (.ref b), .val (.int md), .val (.int (1 : Int32))] [(.int (1 : Int32)), (.int (0 : Int32))])) (fun t_ hr_ => XS.iload A2_ hx rfl (Jvm.hb hby at_285) rfl hr_) ?_
        exact absurd ⟨hb.1.symm, hb.2.1.symm, hb.2.2.1.symm, hb.2.2.2.symm⟩ hq
    · have A1_ := own_at w1_
      show own_WP p e _ below s Z _ n0 _ T1_ (mkF m 273 #[.val (.long i0), .second, .val (.long i1), .second, .val (.long i2), .second, .val (.long i3), .second, .val (.int i4), .val (.ref ua), .val (.ref ea), .val (.ref ra), .val (.ref ub), .val (.ref eb), .val (.ref rb), .val (.long t2), .second, .val (.ref a), .val (.ref b), .val (.int md), .val (.int (1 : Int32))] [(.int (0 : Int32))])
      refine own_by (T' := T1_) (g' := (mkF m 275 #[.val (.long i0), .second, .val (.long i1), .second, .val (.long i2), .second, .val (.long i3), .second, .val (.int i4), .val (.ref ua), .val (.ref ea), .val (.ref ra), .val (.ref ub), .val (.ref eb), .val (.ref rb), .val (.long t2), .second, .val (.ref a), .val (.ref b), .val (.int md), .val (.int (1 : Int32))] [(.int (1 : Int32)), (.int (0 : Int32))])) (fun t_ hr_ => XS.iload A1_ hx rfl (Jvm.hb hby at_273) rfl hr_) ?_
      exact absurd hb hq
  · show own_WP p e _ below s Z _ n0 _ T0 (mkF m 270 #[.val (.long i0), .second, .val (.long i1), .second, .val (.long i2), .second, .val (.long i3), .second, .val (.int i4), .val (.ref ua), .val (.ref ea), .val (.ref ra), .val (.ref ub), .val (.ref eb), .val (.ref rb), .val (.long t2), .second, .val (.ref a), .val (.ref b), .val (.int md), .val (.int (0 : Int32))] [(.ref b), (.ref a)])
    refine own_callV w0 hx (y := (⟨"com/example/hecate/hecate/identity/VerifiedIdentity", "equals", "(Ljava/lang/Object;)Z"⟩ : MethodName)) (z := (⟨"com/example/hecate/hecate/identity/VerifiedIdentity", "equals", "(Ljava/lang/Object;)Z"⟩ : MethodName)) (hw _ (List.mem_of_getElem? (i := 89) rfl)) (hw _ (List.mem_of_getElem? (i := 90) rfl)) (fun u hu => notFace_of_selects (args := #[]) (mvT hu (hw _ (List.mem_of_getElem? (i := 92) rfl)))) (hw _ (List.mem_of_getElem? (i := 92) rfl)) (hw _ (List.mem_of_getElem? (i := 91) rfl)) (by decide) (kc := 0) (ks := 0) (a := a) (argsL := [(.ref b)]) (rest := []) (own_payCt (W := 0) (ctEqV l Z a0 hw SC n0 h0 (own_old w0) a b ua ea ra ub eb rb i2 t2 uas eas ras ubs ebs rbs Xb A0 A1 A2 A3 B0 B1 B2 B3 Sua Sea Sra Sub Seb Srb) w0 (hw _ (List.mem_of_getElem? (i := 93) rfl)) (hw _ (List.mem_of_getElem? (i := 41) rfl)) hEL (by decide) (by decide)) Xa (g := (mkF m 270 #[.val (.long i0), .second, .val (.long i1), .second, .val (.long i2), .second, .val (.long i3), .second, .val (.int i4), .val (.ref ua), .val (.ref ea), .val (.ref ra), .val (.ref ub), .val (.ref eb), .val (.ref rb), .val (.long t2), .second, .val (.ref a), .val (.ref b), .val (.int md), .val (.int (0 : Int32))] [(.ref b), (.ref a)])) rfl (by rw [hml]; rfl) (lenOf pd_53765485 rfl) rfl (by show 2 * 0 + _ ≤ _; exact Nat.le_of_eq rfl) (Jvm.hb hby at_270) (by decide) (by decide) (fun v3_ T3_ vm3_ h3_ q3_ C3_ w3_ => ?_)
    rcases q3_ with ⟨⟨rfl, hq⟩ | ⟨rfl, hq⟩, rfl⟩
    · have A3_ := own_at w3_
      show own_WP p e _ below s Z _ n0 _ T3_ (mkF m 273 #[.val (.long i0), .second, .val (.long i1), .second, .val (.long i2), .second, .val (.long i3), .second, .val (.int i4), .val (.ref ua), .val (.ref ea), .val (.ref ra), .val (.ref ub), .val (.ref eb), .val (.ref rb), .val (.long t2), .second, .val (.ref a), .val (.ref b), .val (.int md), .val (.int (0 : Int32))] [(.int (1 : Int32))])
      refine own_by (T' := T3_) (g' := (mkF m 275 #[.val (.long i0), .second, .val (.long i1), .second, .val (.long i2), .second, .val (.long i3), .second, .val (.int i4), .val (.ref ua), .val (.ref ea), .val (.ref ra), .val (.ref ub), .val (.ref eb), .val (.ref rb), .val (.long t2), .second, .val (.ref a), .val (.ref b), .val (.int md), .val (.int (0 : Int32))] [(.int (0 : Int32)), (.int (1 : Int32))])) (fun t_ hr_ => XS.iload A3_ hx rfl (Jvm.hb hby at_273) rfl hr_) ?_
      exact absurd hq hb
    · have A3_ := own_at w3_
      show own_WP p e _ below s Z _ n0 _ T3_ (mkF m 273 #[.val (.long i0), .second, .val (.long i1), .second, .val (.long i2), .second, .val (.long i3), .second, .val (.int i4), .val (.ref ua), .val (.ref ea), .val (.ref ra), .val (.ref ub), .val (.ref eb), .val (.ref rb), .val (.long t2), .second, .val (.ref a), .val (.ref b), .val (.int md), .val (.int (0 : Int32))] [(.int (0 : Int32))])
      refine own_by (T' := T3_) (g' := (mkF m 275 #[.val (.long i0), .second, .val (.long i1), .second, .val (.long i2), .second, .val (.long i3), .second, .val (.int i4), .val (.ref ua), .val (.ref ea), .val (.ref ra), .val (.ref ub), .val (.ref eb), .val (.ref rb), .val (.long t2), .second, .val (.ref a), .val (.ref b), .val (.int md), .val (.int (0 : Int32))] [(.int (0 : Int32)), (.int (0 : Int32))])) (fun t_ hr_ => XS.iload A3_ hx rfl (Jvm.hb hby at_273) rfl hr_) ?_
      refine own_by (T' := T3_) (g' := (mkF m 278 #[.val (.long i0), .second, .val (.long i1), .second, .val (.long i2), .second, .val (.long i3), .second, .val (.int i4), .val (.ref ua), .val (.ref ea), .val (.ref ra), .val (.ref ub), .val (.ref eb), .val (.ref rb), .val (.long t2), .second, .val (.ref a), .val (.ref b), .val (.int md), .val (.int (0 : Int32))] [])) (fun t_ hr_ => XS.icmpNo A3_ hx rfl (Jvm.hb hby at_275) rfl (teq (rfl : (0 : Int32) = 0)).2 hr_) ?_
      refine own_by (T' := T3_) (g' := (mkF m 280 #[.val (.long i0), .second, .val (.long i1), .second, .val (.long i2), .second, .val (.long i3), .second, .val (.int i4), .val (.ref ua), .val (.ref ea), .val (.ref ra), .val (.ref ub), .val (.ref eb), .val (.ref rb), .val (.long t2), .second, .val (.ref a), .val (.ref b), .val (.int md), .val (.int (0 : Int32))] [(.ref b)])) (fun t_ hr_ => XS.aload A3_ hx rfl (Jvm.hb hby at_278) rfl rfl hr_) ?_
      refine own_by (T' := T3_) (g' := (mkF m 282 #[.val (.long i0), .second, .val (.long i1), .second, .val (.long i2), .second, .val (.long i3), .second, .val (.int i4), .val (.ref ua), .val (.ref ea), .val (.ref ra), .val (.ref ub), .val (.ref eb), .val (.ref rb), .val (.long t2), .second, .val (.ref a), .val (.ref b), .val (.int md), .val (.int (0 : Int32))] [(.ref a), (.ref b)])) (fun t_ hr_ => XS.aload A3_ hx rfl (Jvm.hb hby at_280) rfl rfl hr_) ?_
      clear hq
      refine own_callV w3_ hx (y := (⟨"com/example/hecate/hecate/identity/VerifiedIdentity", "equals", "(Ljava/lang/Object;)Z"⟩ : MethodName)) (z := (⟨"com/example/hecate/hecate/identity/VerifiedIdentity", "equals", "(Ljava/lang/Object;)Z"⟩ : MethodName)) (hw _ (List.mem_of_getElem? (i := 89) rfl)) (hw _ (List.mem_of_getElem? (i := 90) rfl)) (fun u hu => notFace_of_selects (args := #[]) (mvT hu (hw _ (List.mem_of_getElem? (i := 92) rfl)))) (hw _ (List.mem_of_getElem? (i := 92) rfl)) (hw _ (List.mem_of_getElem? (i := 91) rfl)) (by decide) (kc := 0) (ks := 0) (a := b) (argsL := [(.ref a)]) (rest := []) (own_payCt (W := 0) (ctEqV l Z a0 hw SC n0 h0 (own_old w3_) b a ub eb rb ua ea ra t2 i2 ubs ebs rbs uas eas ras Xa B0 B1 B2 B3 A0 A1 A2 A3 Sub Seb Srb Sua Sea Sra) w3_ (hw _ (List.mem_of_getElem? (i := 93) rfl)) (hw _ (List.mem_of_getElem? (i := 41) rfl)) hEL (by decide) (by decide)) Xb (g := (mkF m 282 #[.val (.long i0), .second, .val (.long i1), .second, .val (.long i2), .second, .val (.long i3), .second, .val (.int i4), .val (.ref ua), .val (.ref ea), .val (.ref ra), .val (.ref ub), .val (.ref eb), .val (.ref rb), .val (.long t2), .second, .val (.ref a), .val (.ref b), .val (.int md), .val (.int (0 : Int32))] [(.ref a), (.ref b)])) rfl (by rw [hml]; rfl) (lenOf pd_53765485 rfl) rfl (by show 2 * 0 + _ ≤ _; exact Nat.le_of_eq rfl) (Jvm.hb hby at_282) (by decide) (by decide) (fun v4_ T4_ vm4_ h4_ q4_ C4_ w4_ => ?_)
      rcases q4_ with ⟨⟨rfl, hq⟩ | ⟨rfl, hq⟩, rfl⟩
      · have A4_ := own_at w4_
        show own_WP p e _ below s Z _ n0 _ T4_ (mkF m 285 #[.val (.long i0), .second, .val (.long i1), .second, .val (.long i2), .second, .val (.long i3), .second, .val (.int i4), .val (.ref ua), .val (.ref ea), .val (.ref ra), .val (.ref ub), .val (.ref eb), .val (.ref rb), .val (.long t2), .second, .val (.ref a), .val (.ref b), .val (.int md), .val (.int (0 : Int32))] [(.int (1 : Int32))])
        refine own_by (T' := T4_) (g' := (mkF m 287 #[.val (.long i0), .second, .val (.long i1), .second, .val (.long i2), .second, .val (.long i3), .second, .val (.int i4), .val (.ref ua), .val (.ref ea), .val (.ref ra), .val (.ref ub), .val (.ref eb), .val (.ref rb), .val (.long t2), .second, .val (.ref a), .val (.ref b), .val (.int md), .val (.int (0 : Int32))] [(.int (0 : Int32)), (.int (1 : Int32))])) (fun t_ hr_ => XS.iload A4_ hx rfl (Jvm.hb hby at_285) rfl hr_) ?_
        exact absurd ⟨hq.1.symm, hq.2.1.symm, hq.2.2.1.symm, hq.2.2.2.symm⟩ hb
      · have A4_ := own_at w4_
        show own_WP p e _ below s Z _ n0 _ T4_ (mkF m 285 #[.val (.long i0), .second, .val (.long i1), .second, .val (.long i2), .second, .val (.long i3), .second, .val (.int i4), .val (.ref ua), .val (.ref ea), .val (.ref ra), .val (.ref ub), .val (.ref eb), .val (.ref rb), .val (.long t2), .second, .val (.ref a), .val (.ref b), .val (.int md), .val (.int (0 : Int32))] [(.int (0 : Int32))])
        refine own_by (T' := T4_) (g' := (mkF m 287 #[.val (.long i0), .second, .val (.long i1), .second, .val (.long i2), .second, .val (.long i3), .second, .val (.int i4), .val (.ref ua), .val (.ref ea), .val (.ref ra), .val (.ref ub), .val (.ref eb), .val (.ref rb), .val (.long t2), .second, .val (.ref a), .val (.ref b), .val (.int md), .val (.int (0 : Int32))] [(.int (0 : Int32)), (.int (0 : Int32))])) (fun t_ hr_ => XS.iload A4_ hx rfl (Jvm.hb hby at_285) rfl hr_) ?_
        refine own_by (T' := T4_) (g' := (mkF m 290 #[.val (.long i0), .second, .val (.long i1), .second, .val (.long i2), .second, .val (.long i3), .second, .val (.int i4), .val (.ref ua), .val (.ref ea), .val (.ref ra), .val (.ref ub), .val (.ref eb), .val (.ref rb), .val (.long t2), .second, .val (.ref a), .val (.ref b), .val (.int md), .val (.int (0 : Int32))] [])) (fun t_ hr_ => XS.icmpNo A4_ hx rfl (Jvm.hb hby at_287) rfl (teq (rfl : (0 : Int32) = 0)).2 hr_) ?_
        refine own_by (T' := T4_) (g' := (mkF m 291 #[.val (.long i0), .second, .val (.long i1), .second, .val (.long i2), .second, .val (.long i3), .second, .val (.int i4), .val (.ref ua), .val (.ref ea), .val (.ref ra), .val (.ref ub), .val (.ref eb), .val (.ref rb), .val (.long t2), .second, .val (.ref a), .val (.ref b), .val (.int md), .val (.int (0 : Int32))] [(.int (1 : Int32))])) (fun t_ hr_ => XS.iconst A4_ hx rfl (Jvm.hb hby at_290) hr_) ?_
        refine own_by (T' := T4_) (g' := (mkF m 295 #[.val (.long i0), .second, .val (.long i1), .second, .val (.long i2), .second, .val (.long i3), .second, .val (.int i4), .val (.ref ua), .val (.ref ea), .val (.ref ra), .val (.ref ub), .val (.ref eb), .val (.ref rb), .val (.long t2), .second, .val (.ref a), .val (.ref b), .val (.int md), .val (.int (0 : Int32))] [(.int (1 : Int32))])) (fun t_ hr_ => XS.goto A4_ hx rfl (pc0 := 291) (pc' := 295) rfl (Jvm.hb hby at_291) (by decide) (by decide) hr_) ?_
        exact own_retZ w4_ hx hEL hlk hret (Or.inr rfl) (Jvm.hb hby at_295) (by decide) (by decide) rfl

theorem pd_290492906 : parseMethodDescriptor "(Ljava/lang/String;Ljava/lang/String;)Z" = some ⟨[(.object "java/lang/String"), (.object "java/lang/String")], some .boolean⟩ := by decide +kernel
set_option maxRecDepth 65536 in
set_option maxHeartbeats 40000000 in
theorem J221 {p : Program} {l : Launch} {e : Env} {s : State} {m : MethodId} {below : List Frame} {meth : Method} {cc_ : Code} {Z : State} {a0 : Array Value} {n0 : Nat} {T0 : State} {vm0 : Vm} {h0 : Heap} (hw : ∀ d ∈ tables_1, d.before a0 Z = true) (SC : own_SC Z) (SF : own_SF Z) (hx : p.tables.exec = Jvm.exec) (hby : cc_.code = code) (hml : cc_.maxLocals = 21) (hret : meth.sig.returnType = ret) (hlk : meth.locks = false) (hnm : meth.name = "law") (i0 i1 i2 i3 t2 : Int64) (i4 : Int32) (ua ea ra ub eb rb a b : Addr) (uas eas ras ubs ebs rbs : List Int32) (md : Int32) (w0 : own_Wk p l e room_1 s m #[.long i0, .long i1, .long i2, .long i3, .int i4] below meth cc_ Z consts_1 "com/example/hecate/hecate/identity/VerifiedIdentityEqualsPinLaw" n0 T0 vm0 h0 44 300) (Sua : own_Str Z h0 ua uas) (Sea : own_Str Z h0 ea eas) (Sra : own_Str Z h0 ra ras) (Sub : own_Str Z h0 ub ubs) (Seb : own_Str Z h0 eb ebs) (Srb : own_Str Z h0 rb rbs) (lua : uas.length ≤ 2) (lea : eas.length ≤ 2) (lra : ras.length ≤ 2) (lub : ubs.length ≤ 2) (leb : ebs.length ≤ 2) (lrb : rbs.length ≤ 2) (Xa : Exa Z h0 a "com/example/hecate/hecate/identity/VerifiedIdentity") (Xb : Exa Z h0 b "com/example/hecate/hecate/identity/VerifiedIdentity") (A0 : Fld Z h0 a "com/example/hecate/hecate/identity/VerifiedIdentity" "userId" "Ljava/lang/String;" (.ref ua)) (A1 : Fld Z h0 a "com/example/hecate/hecate/identity/VerifiedIdentity" "email" "Ljava/lang/String;" (.ref ea)) (A2 : Fld Z h0 a "com/example/hecate/hecate/identity/VerifiedIdentity" "role" "Ljava/lang/String;" (.ref ra)) (A3 : Fld Z h0 a "com/example/hecate/hecate/identity/VerifiedIdentity" "timestamp" "J" (.long i2)) (B0 : Fld Z h0 b "com/example/hecate/hecate/identity/VerifiedIdentity" "userId" "Ljava/lang/String;" (.ref ub)) (B1 : Fld Z h0 b "com/example/hecate/hecate/identity/VerifiedIdentity" "email" "Ljava/lang/String;" (.ref eb)) (B2 : Fld Z h0 b "com/example/hecate/hecate/identity/VerifiedIdentity" "role" "Ljava/lang/String;" (.ref rb)) (B3 : Fld Z h0 b "com/example/hecate/hecate/identity/VerifiedIdentity" "timestamp" "J" (.long t2)) :
    own_WP p e room_1 below s Z consts_1 n0 (fun v h => v = some (.int 1)) T0 (mkF m 221 #[.val (.long i0), .second, .val (.long i1), .second, .val (.long i2), .second, .val (.long i3), .second, .val (.int i4), .val (.ref ua), .val (.ref ea), .val (.ref ra), .val (.ref ub), .val (.ref eb), .val (.ref rb), .val (.long t2), .second, .val (.ref a), .val (.ref b), .val (.int md), .unset] []) := by
  have hEL := own_EL hw
  have A_0 := own_at w0
  refine own_by (T' := T0) (g' := (mkF m 223 #[.val (.long i0), .second, .val (.long i1), .second, .val (.long i2), .second, .val (.long i3), .second, .val (.int i4), .val (.ref ua), .val (.ref ea), .val (.ref ra), .val (.ref ub), .val (.ref eb), .val (.ref rb), .val (.long t2), .second, .val (.ref a), .val (.ref b), .val (.int md), .unset] [(.ref ua)])) (fun t_ hr_ => XS.aload A_0 hx rfl (Jvm.hb hby at_221) rfl rfl hr_) ?_
  refine own_by (T' := T0) (g' := (mkF m 225 #[.val (.long i0), .second, .val (.long i1), .second, .val (.long i2), .second, .val (.long i3), .second, .val (.int i4), .val (.ref ua), .val (.ref ea), .val (.ref ra), .val (.ref ub), .val (.ref eb), .val (.ref rb), .val (.long t2), .second, .val (.ref a), .val (.ref b), .val (.int md), .unset] [(.ref ub), (.ref ua)])) (fun t_ hr_ => XS.aload A_0 hx rfl (Jvm.hb hby at_223) rfl rfl hr_) ?_
  refine own_callS w0 hx (y := (⟨"com/example/hecate/hecate/identity/VerifiedIdentityEqualsPinLaw", "same", "(Ljava/lang/String;Ljava/lang/String;)Z"⟩ : MethodName)) (hw _ (List.mem_of_getElem? (i := 54) rfl)) (hw _ (List.mem_of_getElem? (i := 55) rfl)) (hw _ (List.mem_of_getElem? (i := 2) rfl)) (hw _ (List.mem_of_getElem? (i := 56) rfl)) (by decide) (kc := 0) (ks := 0) (argsL := [(.ref ua), (.ref ub)]) (rest := []) (own_payCt (W := 0) (ct9 l Z a0 hw SC SF n0 h0 (own_old w0) ua ub uas ubs Sua Sub lua lub) w0 (hw _ (List.mem_of_getElem? (i := 56) rfl)) (hw _ (List.mem_of_getElem? (i := 2) rfl)) hEL (by decide) (by decide)) (g := (mkF m 225 #[.val (.long i0), .second, .val (.long i1), .second, .val (.long i2), .second, .val (.long i3), .second, .val (.int i4), .val (.ref ua), .val (.ref ea), .val (.ref ra), .val (.ref ub), .val (.ref eb), .val (.ref rb), .val (.long t2), .second, .val (.ref a), .val (.ref b), .val (.int md), .unset] [(.ref ub), (.ref ua)])) rfl (by rw [hml]; rfl) (lenOf pd_290492906 rfl) rfl (by show 2 * 0 + _ ≤ _; exact Nat.le_of_eq rfl) (Jvm.hb hby at_225) (by decide) (by decide) (fun v1_ T1_ vm1_ h1_ q1_ C1_ w1_ => ?_)
  rcases q1_ with ⟨⟨rfl, hq⟩ | ⟨rfl, hq⟩, rfl⟩
  · have A1_ := own_at w1_
    show own_WP p e _ below s Z _ n0 _ T1_ (mkF m 228 #[.val (.long i0), .second, .val (.long i1), .second, .val (.long i2), .second, .val (.long i3), .second, .val (.int i4), .val (.ref ua), .val (.ref ea), .val (.ref ra), .val (.ref ub), .val (.ref eb), .val (.ref rb), .val (.long t2), .second, .val (.ref a), .val (.ref b), .val (.int md), .unset] [(.int (1 : Int32))])
    have hq0 := hq
    refine own_by (T' := T1_) (g' := (mkF m 231 #[.val (.long i0), .second, .val (.long i1), .second, .val (.long i2), .second, .val (.long i3), .second, .val (.int i4), .val (.ref ua), .val (.ref ea), .val (.ref ra), .val (.ref ub), .val (.ref eb), .val (.ref rb), .val (.long t2), .second, .val (.ref a), .val (.ref b), .val (.int md), .unset] [])) (fun t_ hr_ => XS.ifNo A1_ hx rfl (Jvm.hb hby at_228) rfl ((if0 _ _).trans (feq (by decide : ¬ (1 : Int32) = 0)).1) hr_) ?_
    refine own_by (T' := T1_) (g' := (mkF m 233 #[.val (.long i0), .second, .val (.long i1), .second, .val (.long i2), .second, .val (.long i3), .second, .val (.int i4), .val (.ref ua), .val (.ref ea), .val (.ref ra), .val (.ref ub), .val (.ref eb), .val (.ref rb), .val (.long t2), .second, .val (.ref a), .val (.ref b), .val (.int md), .unset] [(.ref ea)])) (fun t_ hr_ => XS.aload A1_ hx rfl (Jvm.hb hby at_231) rfl rfl hr_) ?_
    refine own_by (T' := T1_) (g' := (mkF m 235 #[.val (.long i0), .second, .val (.long i1), .second, .val (.long i2), .second, .val (.long i3), .second, .val (.int i4), .val (.ref ua), .val (.ref ea), .val (.ref ra), .val (.ref ub), .val (.ref eb), .val (.ref rb), .val (.long t2), .second, .val (.ref a), .val (.ref b), .val (.int md), .unset] [(.ref eb), (.ref ea)])) (fun t_ hr_ => XS.aload A1_ hx rfl (Jvm.hb hby at_233) rfl rfl hr_) ?_
    refine own_callS w1_ hx (y := (⟨"com/example/hecate/hecate/identity/VerifiedIdentityEqualsPinLaw", "same", "(Ljava/lang/String;Ljava/lang/String;)Z"⟩ : MethodName)) (hw _ (List.mem_of_getElem? (i := 54) rfl)) (hw _ (List.mem_of_getElem? (i := 55) rfl)) (hw _ (List.mem_of_getElem? (i := 2) rfl)) (hw _ (List.mem_of_getElem? (i := 56) rfl)) (by decide) (kc := 0) (ks := 0) (argsL := [(.ref ea), (.ref eb)]) (rest := []) (own_payCt (W := 0) (ct9 l Z a0 hw SC SF n0 h0 (own_old w1_) ea eb eas ebs Sea Seb lea leb) w1_ (hw _ (List.mem_of_getElem? (i := 56) rfl)) (hw _ (List.mem_of_getElem? (i := 2) rfl)) hEL (by decide) (by decide)) (g := (mkF m 235 #[.val (.long i0), .second, .val (.long i1), .second, .val (.long i2), .second, .val (.long i3), .second, .val (.int i4), .val (.ref ua), .val (.ref ea), .val (.ref ra), .val (.ref ub), .val (.ref eb), .val (.ref rb), .val (.long t2), .second, .val (.ref a), .val (.ref b), .val (.int md), .unset] [(.ref eb), (.ref ea)])) rfl (by rw [hml]; rfl) (lenOf pd_290492906 rfl) rfl (by show 2 * 0 + _ ≤ _; exact Nat.le_of_eq rfl) (Jvm.hb hby at_235) (by decide) (by decide) (fun v2_ T2_ vm2_ h2_ q2_ C2_ w2_ => ?_)
    rcases q2_ with ⟨⟨rfl, hq⟩ | ⟨rfl, hq⟩, rfl⟩
    · have A2_ := own_at w2_
      show own_WP p e _ below s Z _ n0 _ T2_ (mkF m 238 #[.val (.long i0), .second, .val (.long i1), .second, .val (.long i2), .second, .val (.long i3), .second, .val (.int i4), .val (.ref ua), .val (.ref ea), .val (.ref ra), .val (.ref ub), .val (.ref eb), .val (.ref rb), .val (.long t2), .second, .val (.ref a), .val (.ref b), .val (.int md), .unset] [(.int (1 : Int32))])
      have hq1 := hq
      refine own_by (T' := T2_) (g' := (mkF m 241 #[.val (.long i0), .second, .val (.long i1), .second, .val (.long i2), .second, .val (.long i3), .second, .val (.int i4), .val (.ref ua), .val (.ref ea), .val (.ref ra), .val (.ref ub), .val (.ref eb), .val (.ref rb), .val (.long t2), .second, .val (.ref a), .val (.ref b), .val (.int md), .unset] [])) (fun t_ hr_ => XS.ifNo A2_ hx rfl (Jvm.hb hby at_238) rfl ((if0 _ _).trans (feq (by decide : ¬ (1 : Int32) = 0)).1) hr_) ?_
      refine own_by (T' := T2_) (g' := (mkF m 243 #[.val (.long i0), .second, .val (.long i1), .second, .val (.long i2), .second, .val (.long i3), .second, .val (.int i4), .val (.ref ua), .val (.ref ea), .val (.ref ra), .val (.ref ub), .val (.ref eb), .val (.ref rb), .val (.long t2), .second, .val (.ref a), .val (.ref b), .val (.int md), .unset] [(.ref ra)])) (fun t_ hr_ => XS.aload A2_ hx rfl (Jvm.hb hby at_241) rfl rfl hr_) ?_
      refine own_by (T' := T2_) (g' := (mkF m 245 #[.val (.long i0), .second, .val (.long i1), .second, .val (.long i2), .second, .val (.long i3), .second, .val (.int i4), .val (.ref ua), .val (.ref ea), .val (.ref ra), .val (.ref ub), .val (.ref eb), .val (.ref rb), .val (.long t2), .second, .val (.ref a), .val (.ref b), .val (.int md), .unset] [(.ref rb), (.ref ra)])) (fun t_ hr_ => XS.aload A2_ hx rfl (Jvm.hb hby at_243) rfl rfl hr_) ?_
      refine own_callS w2_ hx (y := (⟨"com/example/hecate/hecate/identity/VerifiedIdentityEqualsPinLaw", "same", "(Ljava/lang/String;Ljava/lang/String;)Z"⟩ : MethodName)) (hw _ (List.mem_of_getElem? (i := 54) rfl)) (hw _ (List.mem_of_getElem? (i := 55) rfl)) (hw _ (List.mem_of_getElem? (i := 2) rfl)) (hw _ (List.mem_of_getElem? (i := 56) rfl)) (by decide) (kc := 0) (ks := 0) (argsL := [(.ref ra), (.ref rb)]) (rest := []) (own_payCt (W := 0) (ct9 l Z a0 hw SC SF n0 h0 (own_old w2_) ra rb ras rbs Sra Srb lra lrb) w2_ (hw _ (List.mem_of_getElem? (i := 56) rfl)) (hw _ (List.mem_of_getElem? (i := 2) rfl)) hEL (by decide) (by decide)) (g := (mkF m 245 #[.val (.long i0), .second, .val (.long i1), .second, .val (.long i2), .second, .val (.long i3), .second, .val (.int i4), .val (.ref ua), .val (.ref ea), .val (.ref ra), .val (.ref ub), .val (.ref eb), .val (.ref rb), .val (.long t2), .second, .val (.ref a), .val (.ref b), .val (.int md), .unset] [(.ref rb), (.ref ra)])) rfl (by rw [hml]; rfl) (lenOf pd_290492906 rfl) rfl (by show 2 * 0 + _ ≤ _; exact Nat.le_of_eq rfl) (Jvm.hb hby at_245) (by decide) (by decide) (fun v3_ T3_ vm3_ h3_ q3_ C3_ w3_ => ?_)
      rcases q3_ with ⟨⟨rfl, hq⟩ | ⟨rfl, hq⟩, rfl⟩
      · have A3_ := own_at w3_
        show own_WP p e _ below s Z _ n0 _ T3_ (mkF m 248 #[.val (.long i0), .second, .val (.long i1), .second, .val (.long i2), .second, .val (.long i3), .second, .val (.int i4), .val (.ref ua), .val (.ref ea), .val (.ref ra), .val (.ref ub), .val (.ref eb), .val (.ref rb), .val (.long t2), .second, .val (.ref a), .val (.ref b), .val (.int md), .unset] [(.int (1 : Int32))])
        have hq2 := hq
        refine own_by (T' := T3_) (g' := (mkF m 251 #[.val (.long i0), .second, .val (.long i1), .second, .val (.long i2), .second, .val (.long i3), .second, .val (.int i4), .val (.ref ua), .val (.ref ea), .val (.ref ra), .val (.ref ub), .val (.ref eb), .val (.ref rb), .val (.long t2), .second, .val (.ref a), .val (.ref b), .val (.int md), .unset] [])) (fun t_ hr_ => XS.ifNo A3_ hx rfl (Jvm.hb hby at_248) rfl ((if0 _ _).trans (feq (by decide : ¬ (1 : Int32) = 0)).1) hr_) ?_
        refine own_by (T' := T3_) (g' := (mkF m 253 #[.val (.long i0), .second, .val (.long i1), .second, .val (.long i2), .second, .val (.long i3), .second, .val (.int i4), .val (.ref ua), .val (.ref ea), .val (.ref ra), .val (.ref ub), .val (.ref eb), .val (.ref rb), .val (.long t2), .second, .val (.ref a), .val (.ref b), .val (.int md), .unset] [(.long i2)])) (fun t_ hr_ => XS.lload A3_ hx rfl (Jvm.hb hby at_251) rfl hr_) ?_
        refine own_by (T' := T3_) (g' := (mkF m 255 #[.val (.long i0), .second, .val (.long i1), .second, .val (.long i2), .second, .val (.long i3), .second, .val (.int i4), .val (.ref ua), .val (.ref ea), .val (.ref ra), .val (.ref ub), .val (.ref eb), .val (.ref rb), .val (.long t2), .second, .val (.ref a), .val (.ref b), .val (.int md), .unset] [(.long t2), (.long i2)])) (fun t_ hr_ => XS.lload A3_ hx rfl (Jvm.hb hby at_253) rfl hr_) ?_
        refine own_by (T' := T3_) (g' := (mkF m 256 #[.val (.long i0), .second, .val (.long i1), .second, .val (.long i2), .second, .val (.long i3), .second, .val (.int i4), .val (.ref ua), .val (.ref ea), .val (.ref ra), .val (.ref ub), .val (.ref eb), .val (.ref rb), .val (.long t2), .second, .val (.ref a), .val (.ref b), .val (.int md), .unset] [(.int (lcmpW i2 t2))])) (fun t_ hr_ => XS.lcmp A3_ hx rfl (Jvm.hb hby at_255) rfl hr_) ?_
        by_cases hc4_ : (lcmpW i2 t2) = (0 : Int32)
        · refine own_by (T' := T3_) (g' := (mkF m 259 #[.val (.long i0), .second, .val (.long i1), .second, .val (.long i2), .second, .val (.long i3), .second, .val (.int i4), .val (.ref ua), .val (.ref ea), .val (.ref ra), .val (.ref ub), .val (.ref eb), .val (.ref rb), .val (.long t2), .second, .val (.ref a), .val (.ref b), .val (.int md), .unset] [])) (fun t_ hr_ => XS.ifNo A3_ hx rfl (Jvm.hb hby at_256) rfl ((if0 _ _).trans (teq hc4_).2) hr_) ?_
          refine own_by (T' := T3_) (g' := (mkF m 260 #[.val (.long i0), .second, .val (.long i1), .second, .val (.long i2), .second, .val (.long i3), .second, .val (.int i4), .val (.ref ua), .val (.ref ea), .val (.ref ra), .val (.ref ub), .val (.ref eb), .val (.ref rb), .val (.long t2), .second, .val (.ref a), .val (.ref b), .val (.int md), .unset] [(.int (1 : Int32))])) (fun t_ hr_ => XS.iconst A3_ hx rfl (Jvm.hb hby at_259) hr_) ?_
          refine own_by (T' := T3_) (g' := (mkF m 264 #[.val (.long i0), .second, .val (.long i1), .second, .val (.long i2), .second, .val (.long i3), .second, .val (.int i4), .val (.ref ua), .val (.ref ea), .val (.ref ra), .val (.ref ub), .val (.ref eb), .val (.ref rb), .val (.long t2), .second, .val (.ref a), .val (.ref b), .val (.int md), .unset] [(.int (1 : Int32))])) (fun t_ hr_ => XS.goto A3_ hx rfl (pc0 := 260) (pc' := 264) rfl (Jvm.hb hby at_260) (by decide) (by decide) hr_) ?_
          refine own_by (T' := T3_) (g' := (mkF m 266 #[.val (.long i0), .second, .val (.long i1), .second, .val (.long i2), .second, .val (.long i3), .second, .val (.int i4), .val (.ref ua), .val (.ref ea), .val (.ref ra), .val (.ref ub), .val (.ref eb), .val (.ref rb), .val (.long t2), .second, .val (.ref a), .val (.ref b), .val (.int md), .val (.int (1 : Int32))] [])) (fun t_ hr_ => XS.istore A3_ hx rfl (Jvm.hb hby at_264) rfl (l' := #[.val (.long i0), .second, .val (.long i1), .second, .val (.long i2), .second, .val (.long i3), .second, .val (.int i4), .val (.ref ua), .val (.ref ea), .val (.ref ra), .val (.ref ub), .val (.ref eb), .val (.ref rb), .val (.long t2), .second, .val (.ref a), .val (.ref b), .val (.int md), .val (.int (1 : Int32))]) rfl hr_) ?_
          exact J266 hw SC SF hx hby hml hret hlk hnm i0 i1 i2 i3 t2 i4 ua ea ra ub eb rb a b uas eas ras ubs ebs rbs md 1 (own_mono w3_ (by decide : 44 ≤ 44) (by decide : 300 ≤ 300)) Sua Sea Sra Sub Seb Srb lua lea lra lub leb lrb Xa Xb A0 A1 A2 A3 B0 B1 B2 B3 (Or.inl ⟨rfl, hq0, hq1, hq2, (lw_eq _ _).mp hc4_⟩)
        · refine own_by (T' := T3_) (g' := (mkF m 263 #[.val (.long i0), .second, .val (.long i1), .second, .val (.long i2), .second, .val (.long i3), .second, .val (.int i4), .val (.ref ua), .val (.ref ea), .val (.ref ra), .val (.ref ub), .val (.ref eb), .val (.ref rb), .val (.long t2), .second, .val (.ref a), .val (.ref b), .val (.int md), .unset] [])) (fun t_ hr_ => XS.ifYes A3_ hx rfl (pc0 := 256) (pc' := 263) rfl (Jvm.hb hby at_256) rfl ((if0 _ _).trans (feq hc4_).2) (by decide) (by decide) hr_) ?_
          refine own_by (T' := T3_) (g' := (mkF m 264 #[.val (.long i0), .second, .val (.long i1), .second, .val (.long i2), .second, .val (.long i3), .second, .val (.int i4), .val (.ref ua), .val (.ref ea), .val (.ref ra), .val (.ref ub), .val (.ref eb), .val (.ref rb), .val (.long t2), .second, .val (.ref a), .val (.ref b), .val (.int md), .unset] [(.int (0 : Int32))])) (fun t_ hr_ => XS.iconst A3_ hx rfl (Jvm.hb hby at_263) hr_) ?_
          refine own_by (T' := T3_) (g' := (mkF m 266 #[.val (.long i0), .second, .val (.long i1), .second, .val (.long i2), .second, .val (.long i3), .second, .val (.int i4), .val (.ref ua), .val (.ref ea), .val (.ref ra), .val (.ref ub), .val (.ref eb), .val (.ref rb), .val (.long t2), .second, .val (.ref a), .val (.ref b), .val (.int md), .val (.int (0 : Int32))] [])) (fun t_ hr_ => XS.istore A3_ hx rfl (Jvm.hb hby at_264) rfl (l' := #[.val (.long i0), .second, .val (.long i1), .second, .val (.long i2), .second, .val (.long i3), .second, .val (.int i4), .val (.ref ua), .val (.ref ea), .val (.ref ra), .val (.ref ub), .val (.ref eb), .val (.ref rb), .val (.long t2), .second, .val (.ref a), .val (.ref b), .val (.int md), .val (.int (0 : Int32))]) rfl hr_) ?_
          exact J266 hw SC SF hx hby hml hret hlk hnm i0 i1 i2 i3 t2 i4 ua ea ra ub eb rb a b uas eas ras ubs ebs rbs md 0 (own_mono w3_ (by decide : 44 ≤ 44) (by decide : 300 ≤ 300)) Sua Sea Sra Sub Seb Srb lua lea lra lub leb lrb Xa Xb A0 A1 A2 A3 B0 B1 B2 B3 (Or.inr ⟨rfl, fun q => hc4_ ((lw_eq _ _).mpr q.2.2.2)⟩)
      · have A3_ := own_at w3_
        show own_WP p e _ below s Z _ n0 _ T3_ (mkF m 248 #[.val (.long i0), .second, .val (.long i1), .second, .val (.long i2), .second, .val (.long i3), .second, .val (.int i4), .val (.ref ua), .val (.ref ea), .val (.ref ra), .val (.ref ub), .val (.ref eb), .val (.ref rb), .val (.long t2), .second, .val (.ref a), .val (.ref b), .val (.int md), .unset] [(.int (0 : Int32))])
        refine own_by (T' := T3_) (g' := (mkF m 263 #[.val (.long i0), .second, .val (.long i1), .second, .val (.long i2), .second, .val (.long i3), .second, .val (.int i4), .val (.ref ua), .val (.ref ea), .val (.ref ra), .val (.ref ub), .val (.ref eb), .val (.ref rb), .val (.long t2), .second, .val (.ref a), .val (.ref b), .val (.int md), .unset] [])) (fun t_ hr_ => XS.ifYes A3_ hx rfl (pc0 := 248) (pc' := 263) rfl (Jvm.hb hby at_248) rfl ((if0 _ _).trans (teq (rfl : (0 : Int32) = 0)).1) (by decide) (by decide) hr_) ?_
        refine own_by (T' := T3_) (g' := (mkF m 264 #[.val (.long i0), .second, .val (.long i1), .second, .val (.long i2), .second, .val (.long i3), .second, .val (.int i4), .val (.ref ua), .val (.ref ea), .val (.ref ra), .val (.ref ub), .val (.ref eb), .val (.ref rb), .val (.long t2), .second, .val (.ref a), .val (.ref b), .val (.int md), .unset] [(.int (0 : Int32))])) (fun t_ hr_ => XS.iconst A3_ hx rfl (Jvm.hb hby at_263) hr_) ?_
        refine own_by (T' := T3_) (g' := (mkF m 266 #[.val (.long i0), .second, .val (.long i1), .second, .val (.long i2), .second, .val (.long i3), .second, .val (.int i4), .val (.ref ua), .val (.ref ea), .val (.ref ra), .val (.ref ub), .val (.ref eb), .val (.ref rb), .val (.long t2), .second, .val (.ref a), .val (.ref b), .val (.int md), .val (.int (0 : Int32))] [])) (fun t_ hr_ => XS.istore A3_ hx rfl (Jvm.hb hby at_264) rfl (l' := #[.val (.long i0), .second, .val (.long i1), .second, .val (.long i2), .second, .val (.long i3), .second, .val (.int i4), .val (.ref ua), .val (.ref ea), .val (.ref ra), .val (.ref ub), .val (.ref eb), .val (.ref rb), .val (.long t2), .second, .val (.ref a), .val (.ref b), .val (.int md), .val (.int (0 : Int32))]) rfl hr_) ?_
        exact J266 hw SC SF hx hby hml hret hlk hnm i0 i1 i2 i3 t2 i4 ua ea ra ub eb rb a b uas eas ras ubs ebs rbs md 0 (own_mono w3_ (by decide : 44 ≤ 44) (by decide : 300 ≤ 300)) Sua Sea Sra Sub Seb Srb lua lea lra lub leb lrb Xa Xb A0 A1 A2 A3 B0 B1 B2 B3 (Or.inr ⟨rfl, fun q => hq q.2.2.1⟩)
    · have A2_ := own_at w2_
      show own_WP p e _ below s Z _ n0 _ T2_ (mkF m 238 #[.val (.long i0), .second, .val (.long i1), .second, .val (.long i2), .second, .val (.long i3), .second, .val (.int i4), .val (.ref ua), .val (.ref ea), .val (.ref ra), .val (.ref ub), .val (.ref eb), .val (.ref rb), .val (.long t2), .second, .val (.ref a), .val (.ref b), .val (.int md), .unset] [(.int (0 : Int32))])
      refine own_by (T' := T2_) (g' := (mkF m 263 #[.val (.long i0), .second, .val (.long i1), .second, .val (.long i2), .second, .val (.long i3), .second, .val (.int i4), .val (.ref ua), .val (.ref ea), .val (.ref ra), .val (.ref ub), .val (.ref eb), .val (.ref rb), .val (.long t2), .second, .val (.ref a), .val (.ref b), .val (.int md), .unset] [])) (fun t_ hr_ => XS.ifYes A2_ hx rfl (pc0 := 238) (pc' := 263) rfl (Jvm.hb hby at_238) rfl ((if0 _ _).trans (teq (rfl : (0 : Int32) = 0)).1) (by decide) (by decide) hr_) ?_
      refine own_by (T' := T2_) (g' := (mkF m 264 #[.val (.long i0), .second, .val (.long i1), .second, .val (.long i2), .second, .val (.long i3), .second, .val (.int i4), .val (.ref ua), .val (.ref ea), .val (.ref ra), .val (.ref ub), .val (.ref eb), .val (.ref rb), .val (.long t2), .second, .val (.ref a), .val (.ref b), .val (.int md), .unset] [(.int (0 : Int32))])) (fun t_ hr_ => XS.iconst A2_ hx rfl (Jvm.hb hby at_263) hr_) ?_
      refine own_by (T' := T2_) (g' := (mkF m 266 #[.val (.long i0), .second, .val (.long i1), .second, .val (.long i2), .second, .val (.long i3), .second, .val (.int i4), .val (.ref ua), .val (.ref ea), .val (.ref ra), .val (.ref ub), .val (.ref eb), .val (.ref rb), .val (.long t2), .second, .val (.ref a), .val (.ref b), .val (.int md), .val (.int (0 : Int32))] [])) (fun t_ hr_ => XS.istore A2_ hx rfl (Jvm.hb hby at_264) rfl (l' := #[.val (.long i0), .second, .val (.long i1), .second, .val (.long i2), .second, .val (.long i3), .second, .val (.int i4), .val (.ref ua), .val (.ref ea), .val (.ref ra), .val (.ref ub), .val (.ref eb), .val (.ref rb), .val (.long t2), .second, .val (.ref a), .val (.ref b), .val (.int md), .val (.int (0 : Int32))]) rfl hr_) ?_
      exact J266 hw SC SF hx hby hml hret hlk hnm i0 i1 i2 i3 t2 i4 ua ea ra ub eb rb a b uas eas ras ubs ebs rbs md 0 (own_mono w2_ (by decide : 44 ≤ 44) (by decide : 300 ≤ 300)) Sua Sea Sra Sub Seb Srb lua lea lra lub leb lrb Xa Xb A0 A1 A2 A3 B0 B1 B2 B3 (Or.inr ⟨rfl, fun q => hq q.2.1⟩)
  · have A1_ := own_at w1_
    show own_WP p e _ below s Z _ n0 _ T1_ (mkF m 228 #[.val (.long i0), .second, .val (.long i1), .second, .val (.long i2), .second, .val (.long i3), .second, .val (.int i4), .val (.ref ua), .val (.ref ea), .val (.ref ra), .val (.ref ub), .val (.ref eb), .val (.ref rb), .val (.long t2), .second, .val (.ref a), .val (.ref b), .val (.int md), .unset] [(.int (0 : Int32))])
    refine own_by (T' := T1_) (g' := (mkF m 263 #[.val (.long i0), .second, .val (.long i1), .second, .val (.long i2), .second, .val (.long i3), .second, .val (.int i4), .val (.ref ua), .val (.ref ea), .val (.ref ra), .val (.ref ub), .val (.ref eb), .val (.ref rb), .val (.long t2), .second, .val (.ref a), .val (.ref b), .val (.int md), .unset] [])) (fun t_ hr_ => XS.ifYes A1_ hx rfl (pc0 := 228) (pc' := 263) rfl (Jvm.hb hby at_228) rfl ((if0 _ _).trans (teq (rfl : (0 : Int32) = 0)).1) (by decide) (by decide) hr_) ?_
    refine own_by (T' := T1_) (g' := (mkF m 264 #[.val (.long i0), .second, .val (.long i1), .second, .val (.long i2), .second, .val (.long i3), .second, .val (.int i4), .val (.ref ua), .val (.ref ea), .val (.ref ra), .val (.ref ub), .val (.ref eb), .val (.ref rb), .val (.long t2), .second, .val (.ref a), .val (.ref b), .val (.int md), .unset] [(.int (0 : Int32))])) (fun t_ hr_ => XS.iconst A1_ hx rfl (Jvm.hb hby at_263) hr_) ?_
    refine own_by (T' := T1_) (g' := (mkF m 266 #[.val (.long i0), .second, .val (.long i1), .second, .val (.long i2), .second, .val (.long i3), .second, .val (.int i4), .val (.ref ua), .val (.ref ea), .val (.ref ra), .val (.ref ub), .val (.ref eb), .val (.ref rb), .val (.long t2), .second, .val (.ref a), .val (.ref b), .val (.int md), .val (.int (0 : Int32))] [])) (fun t_ hr_ => XS.istore A1_ hx rfl (Jvm.hb hby at_264) rfl (l' := #[.val (.long i0), .second, .val (.long i1), .second, .val (.long i2), .second, .val (.long i3), .second, .val (.int i4), .val (.ref ua), .val (.ref ea), .val (.ref ra), .val (.ref ub), .val (.ref eb), .val (.ref rb), .val (.long t2), .second, .val (.ref a), .val (.ref b), .val (.int md), .val (.int (0 : Int32))]) rfl hr_) ?_
    exact J266 hw SC SF hx hby hml hret hlk hnm i0 i1 i2 i3 t2 i4 ua ea ra ub eb rb a b uas eas ras ubs ebs rbs md 0 (own_mono w1_ (by decide : 44 ≤ 44) (by decide : 300 ≤ 300)) Sua Sea Sra Sub Seb Srb lua lea lra lub leb lrb Xa Xb A0 A1 A2 A3 B0 B1 B2 B3 (Or.inr ⟨rfl, fun q => hq q.1⟩)

theorem pd_837611931 : parseMethodDescriptor "(J)Ljava/lang/String;" = some ⟨[.long], some (.object "java/lang/String")⟩ := by decide +kernel
set_option maxRecDepth 65536 in
set_option maxHeartbeats 40000000 in
theorem J145 {p : Program} {l : Launch} {e : Env} {s : State} {m : MethodId} {below : List Frame} {meth : Method} {cc_ : Code} {Z : State} {a0 : Array Value} {n0 : Nat} {T0 : State} {vm0 : Vm} {h0 : Heap} (hw : ∀ d ∈ tables_1, d.before a0 Z = true) (SC : own_SC Z) (SF : own_SF Z) (hx : p.tables.exec = Jvm.exec) (hby : cc_.code = code) (hml : cc_.maxLocals = 21) (hret : meth.sig.returnType = ret) (hlk : meth.locks = false) (hnm : meth.name = "law") (i0 i1 i2 i3 t2 : Int64) (i4 : Int32) (ua ea ra ub eb rb a b : Addr) (uas eas ras ubs ebs rbs : List Int32) (w0 : own_Wk p l e room_1 s m #[.long i0, .long i1, .long i2, .long i3, .int i4] below meth cc_ Z consts_1 "com/example/hecate/hecate/identity/VerifiedIdentityEqualsPinLaw" n0 T0 vm0 h0 38 260) (Sua : own_Str Z h0 ua uas) (Sea : own_Str Z h0 ea eas) (Sra : own_Str Z h0 ra ras) (Sub : own_Str Z h0 ub ubs) (Seb : own_Str Z h0 eb ebs) (Srb : own_Str Z h0 rb rbs) (lua : uas.length ≤ 2) (lea : eas.length ≤ 2) (lra : ras.length ≤ 2) (lub : ubs.length ≤ 2) (leb : ebs.length ≤ 2) (lrb : rbs.length ≤ 2) (Xa : Exa Z h0 a "com/example/hecate/hecate/identity/VerifiedIdentity") (Xb : Exa Z h0 b "com/example/hecate/hecate/identity/VerifiedIdentity") (A0 : Fld Z h0 a "com/example/hecate/hecate/identity/VerifiedIdentity" "userId" "Ljava/lang/String;" (.ref ua)) (A1 : Fld Z h0 a "com/example/hecate/hecate/identity/VerifiedIdentity" "email" "Ljava/lang/String;" (.ref ea)) (A2 : Fld Z h0 a "com/example/hecate/hecate/identity/VerifiedIdentity" "role" "Ljava/lang/String;" (.ref ra)) (A3 : Fld Z h0 a "com/example/hecate/hecate/identity/VerifiedIdentity" "timestamp" "J" (.long i2)) (B0 : Fld Z h0 b "com/example/hecate/hecate/identity/VerifiedIdentity" "userId" "Ljava/lang/String;" (.ref ub)) (B1 : Fld Z h0 b "com/example/hecate/hecate/identity/VerifiedIdentity" "email" "Ljava/lang/String;" (.ref eb)) (B2 : Fld Z h0 b "com/example/hecate/hecate/identity/VerifiedIdentity" "role" "Ljava/lang/String;" (.ref rb)) (B3 : Fld Z h0 b "com/example/hecate/hecate/identity/VerifiedIdentity" "timestamp" "J" (.long t2)) :
    own_WP p e room_1 below s Z consts_1 n0 (fun v h => v = some (.int 1)) T0 (mkF m 145 #[.val (.long i0), .second, .val (.long i1), .second, .val (.long i2), .second, .val (.long i3), .second, .val (.int i4), .val (.ref ua), .val (.ref ea), .val (.ref ra), .val (.ref ub), .val (.ref eb), .val (.ref rb), .val (.long t2), .second, .val (.ref a), .unset, .unset, .unset] [(.ref b)]) := by
  have hEL := own_EL hw
  have A_0 := own_at w0
  refine own_by (T' := T0) (g' := (mkF m 147 #[.val (.long i0), .second, .val (.long i1), .second, .val (.long i2), .second, .val (.long i3), .second, .val (.int i4), .val (.ref ua), .val (.ref ea), .val (.ref ra), .val (.ref ub), .val (.ref eb), .val (.ref rb), .val (.long t2), .second, .val (.ref a), .val (.ref b), .unset, .unset] [])) (fun t_ hr_ => XS.astore A_0 hx rfl (Jvm.hb hby at_145) rfl rfl (l' := #[.val (.long i0), .second, .val (.long i1), .second, .val (.long i2), .second, .val (.long i3), .second, .val (.int i4), .val (.ref ua), .val (.ref ea), .val (.ref ra), .val (.ref ub), .val (.ref eb), .val (.ref rb), .val (.long t2), .second, .val (.ref a), .val (.ref b), .unset, .unset]) rfl hr_) ?_
  refine own_by (T' := T0) (g' := (mkF m 149 #[.val (.long i0), .second, .val (.long i1), .second, .val (.long i2), .second, .val (.long i3), .second, .val (.int i4), .val (.ref ua), .val (.ref ea), .val (.ref ra), .val (.ref ub), .val (.ref eb), .val (.ref rb), .val (.long t2), .second, .val (.ref a), .val (.ref b), .unset, .unset] [(.int i4)])) (fun t_ hr_ => XS.iload A_0 hx rfl (Jvm.hb hby at_147) rfl hr_) ?_
  refine own_by (T' := T0) (g' := (mkF m 150 #[.val (.long i0), .second, .val (.long i1), .second, .val (.long i2), .second, .val (.long i3), .second, .val (.int i4), .val (.ref ua), .val (.ref ea), .val (.ref ra), .val (.ref ub), .val (.ref eb), .val (.ref rb), .val (.long t2), .second, .val (.ref a), .val (.ref b), .unset, .unset] [(.int (4 : Int32)), (.int i4)])) (fun t_ hr_ => XS.iconst A_0 hx rfl (Jvm.hb hby at_149) hr_) ?_
  refine own_by (T' := T0) (g' := (mkF m 151 #[.val (.long i0), .second, .val (.long i1), .second, .val (.long i2), .second, .val (.long i3), .second, .val (.int i4), .val (.ref ua), .val (.ref ea), .val (.ref ra), .val (.ref ub), .val (.ref eb), .val (.ref rb), .val (.long t2), .second, .val (.ref a), .val (.ref b), .unset, .unset] [(.int ((i4.toUInt32 >>> ((4 : Int32) &&& 31).toUInt32).toInt32))])) (fun t_ hr_ => XS.iushr A_0 hx rfl (Jvm.hb hby at_150) rfl hr_) ?_
  refine own_by (T' := T0) (g' := (mkF m 153 #[.val (.long i0), .second, .val (.long i1), .second, .val (.long i2), .second, .val (.long i3), .second, .val (.int i4), .val (.ref ua), .val (.ref ea), .val (.ref ra), .val (.ref ub), .val (.ref eb), .val (.ref rb), .val (.long t2), .second, .val (.ref a), .val (.ref b), .unset, .unset] [(.int (7 : Int32)), (.int ((i4.toUInt32 >>> ((4 : Int32) &&& 31).toUInt32).toInt32))])) (fun t_ hr_ => XS.bipush A_0 hx rfl (Jvm.hb hby at_151) hr_) ?_
  refine own_by (T' := T0) (g' := (mkF m 154 #[.val (.long i0), .second, .val (.long i1), .second, .val (.long i2), .second, .val (.long i3), .second, .val (.int i4), .val (.ref ua), .val (.ref ea), .val (.ref ra), .val (.ref ub), .val (.ref eb), .val (.ref rb), .val (.long t2), .second, .val (.ref a), .val (.ref b), .unset, .unset] [(.int (((i4.toUInt32 >>> ((4 : Int32) &&& 31).toUInt32).toInt32) &&& (7 : Int32)))])) (fun t_ hr_ => XS.iand A_0 hx rfl (Jvm.hb hby at_153) rfl hr_) ?_
  obtain ⟨md, emd⟩ : ∃ z, z = (((i4.toUInt32 >>> ((4 : Int32) &&& 31).toUInt32).toInt32) &&& (7 : Int32)) := ⟨_, rfl⟩
  rw [← emd]
  clear emd
  show own_WP p e _ below s Z _ n0 _ T0 (mkF m 154 #[.val (.long i0), .second, .val (.long i1), .second, .val (.long i2), .second, .val (.long i3), .second, .val (.int i4), .val (.ref ua), .val (.ref ea), .val (.ref ra), .val (.ref ub), .val (.ref eb), .val (.ref rb), .val (.long t2), .second, .val (.ref a), .val (.ref b), .unset, .unset] [(.int md)])
  refine own_by (T' := T0) (g' := (mkF m 156 #[.val (.long i0), .second, .val (.long i1), .second, .val (.long i2), .second, .val (.long i3), .second, .val (.int i4), .val (.ref ua), .val (.ref ea), .val (.ref ra), .val (.ref ub), .val (.ref eb), .val (.ref rb), .val (.long t2), .second, .val (.ref a), .val (.ref b), .val (.int md), .unset] [])) (fun t_ hr_ => XS.istore A_0 hx rfl (Jvm.hb hby at_154) rfl (l' := #[.val (.long i0), .second, .val (.long i1), .second, .val (.long i2), .second, .val (.long i3), .second, .val (.int i4), .val (.ref ua), .val (.ref ea), .val (.ref ra), .val (.ref ub), .val (.ref eb), .val (.ref rb), .val (.long t2), .second, .val (.ref a), .val (.ref b), .val (.int md), .unset]) rfl hr_) ?_
  refine own_by (T' := T0) (g' := (mkF m 158 #[.val (.long i0), .second, .val (.long i1), .second, .val (.long i2), .second, .val (.long i3), .second, .val (.int i4), .val (.ref ua), .val (.ref ea), .val (.ref ra), .val (.ref ub), .val (.ref eb), .val (.ref rb), .val (.long t2), .second, .val (.ref a), .val (.ref b), .val (.int md), .unset] [(.int md)])) (fun t_ hr_ => XS.iload A_0 hx rfl (Jvm.hb hby at_156) rfl hr_) ?_
  refine own_by (T' := T0) (g' := (mkF m 160 #[.val (.long i0), .second, .val (.long i1), .second, .val (.long i2), .second, .val (.long i3), .second, .val (.int i4), .val (.ref ua), .val (.ref ea), .val (.ref ra), .val (.ref ub), .val (.ref eb), .val (.ref rb), .val (.long t2), .second, .val (.ref a), .val (.ref b), .val (.int md), .unset] [(.int (7 : Int32)), (.int md)])) (fun t_ hr_ => XS.bipush A_0 hx rfl (Jvm.hb hby at_158) hr_) ?_
  by_cases hc1_ : md = (7 : Int32)
  · refine own_by (T' := T0) (g' := (mkF m 163 #[.val (.long i0), .second, .val (.long i1), .second, .val (.long i2), .second, .val (.long i3), .second, .val (.int i4), .val (.ref ua), .val (.ref ea), .val (.ref ra), .val (.ref ub), .val (.ref eb), .val (.ref rb), .val (.long t2), .second, .val (.ref a), .val (.ref b), .val (.int md), .unset] [])) (fun t_ hr_ => XS.icmpNo A_0 hx rfl (Jvm.hb hby at_160) rfl (teq hc1_).2 hr_) ?_
    refine own_by (T' := T0) (g' := (mkF m 165 #[.val (.long i0), .second, .val (.long i1), .second, .val (.long i2), .second, .val (.long i3), .second, .val (.int i4), .val (.ref ua), .val (.ref ea), .val (.ref ra), .val (.ref ub), .val (.ref eb), .val (.ref rb), .val (.long t2), .second, .val (.ref a), .val (.ref b), .val (.int md), .unset] [(.ref a)])) (fun t_ hr_ => XS.aload A_0 hx rfl (Jvm.hb hby at_163) rfl rfl hr_) ?_
    refine own_by (T' := T0) (g' := (mkF m 166 #[.val (.long i0), .second, .val (.long i1), .second, .val (.long i2), .second, .val (.long i3), .second, .val (.int i4), .val (.ref ua), .val (.ref ea), .val (.ref ra), .val (.ref ub), .val (.ref eb), .val (.ref rb), .val (.long t2), .second, .val (.ref a), .val (.ref b), .val (.int md), .unset] [.null, (.ref a)])) (fun t_ hr_ => XS.aconstNull A_0 hx rfl (Jvm.hb hby at_165) hr_) ?_
    refine own_callV w0 hx (y := (⟨"com/example/hecate/hecate/identity/VerifiedIdentity", "equals", "(Ljava/lang/Object;)Z"⟩ : MethodName)) (z := (⟨"com/example/hecate/hecate/identity/VerifiedIdentity", "equals", "(Ljava/lang/Object;)Z"⟩ : MethodName)) (hw _ (List.mem_of_getElem? (i := 89) rfl)) (hw _ (List.mem_of_getElem? (i := 90) rfl)) (fun u hu => notFace_of_selects (args := #[]) (mvT hu (hw _ (List.mem_of_getElem? (i := 92) rfl)))) (hw _ (List.mem_of_getElem? (i := 92) rfl)) (hw _ (List.mem_of_getElem? (i := 91) rfl)) (by decide) (kc := 0) (ks := 0) (a := a) (argsL := [.null]) (rest := []) (own_payCt (W := 0) (ctEqN l Z a0 hw n0 h0 (own_old w0) a) w0 (hw _ (List.mem_of_getElem? (i := 93) rfl)) (hw _ (List.mem_of_getElem? (i := 41) rfl)) hEL (by decide) (by decide)) Xa (g := (mkF m 166 #[.val (.long i0), .second, .val (.long i1), .second, .val (.long i2), .second, .val (.long i3), .second, .val (.int i4), .val (.ref ua), .val (.ref ea), .val (.ref ra), .val (.ref ub), .val (.ref eb), .val (.ref rb), .val (.long t2), .second, .val (.ref a), .val (.ref b), .val (.int md), .unset] [.null, (.ref a)])) rfl (by rw [hml]; rfl) (lenOf pd_53765485 rfl) rfl (by show 2 * 0 + _ ≤ _; exact Nat.le_of_eq rfl) (Jvm.hb hby at_166) (by decide) (by decide) (fun v2_ T2_ vm2_ h2_ q2_ C2_ w2_ => ?_)
    obtain ⟨rfl, rfl⟩ := q2_
    have A2_ := own_at w2_
    show own_WP p e _ below s Z _ n0 _ T2_ (mkF m 169 #[.val (.long i0), .second, .val (.long i1), .second, .val (.long i2), .second, .val (.long i3), .second, .val (.int i4), .val (.ref ua), .val (.ref ea), .val (.ref ra), .val (.ref ub), .val (.ref eb), .val (.ref rb), .val (.long t2), .second, .val (.ref a), .val (.ref b), .val (.int md), .unset] [(.int (0 : Int32))])
    refine own_by (T' := T2_) (g' := (mkF m 172 #[.val (.long i0), .second, .val (.long i1), .second, .val (.long i2), .second, .val (.long i3), .second, .val (.int i4), .val (.ref ua), .val (.ref ea), .val (.ref ra), .val (.ref ub), .val (.ref eb), .val (.ref rb), .val (.long t2), .second, .val (.ref a), .val (.ref b), .val (.int md), .unset] [])) (fun t_ hr_ => XS.ifNo A2_ hx rfl (Jvm.hb hby at_169) rfl ((if0 _ _).trans (teq (rfl : (0 : Int32) = 0)).2) hr_) ?_
    refine own_by (T' := T2_) (g' := (mkF m 173 #[.val (.long i0), .second, .val (.long i1), .second, .val (.long i2), .second, .val (.long i3), .second, .val (.int i4), .val (.ref ua), .val (.ref ea), .val (.ref ra), .val (.ref ub), .val (.ref eb), .val (.ref rb), .val (.long t2), .second, .val (.ref a), .val (.ref b), .val (.int md), .unset] [(.int (1 : Int32))])) (fun t_ hr_ => XS.iconst A2_ hx rfl (Jvm.hb hby at_172) hr_) ?_
    refine own_by (T' := T2_) (g' := (mkF m 177 #[.val (.long i0), .second, .val (.long i1), .second, .val (.long i2), .second, .val (.long i3), .second, .val (.int i4), .val (.ref ua), .val (.ref ea), .val (.ref ra), .val (.ref ub), .val (.ref eb), .val (.ref rb), .val (.long t2), .second, .val (.ref a), .val (.ref b), .val (.int md), .unset] [(.int (1 : Int32))])) (fun t_ hr_ => XS.goto A2_ hx rfl (pc0 := 173) (pc' := 177) rfl (Jvm.hb hby at_173) (by decide) (by decide) hr_) ?_
    exact own_retZ w2_ hx hEL hlk hret (Or.inr rfl) (Jvm.hb hby at_177) (by decide) (by decide) rfl
  · refine own_by (T' := T0) (g' := (mkF m 178 #[.val (.long i0), .second, .val (.long i1), .second, .val (.long i2), .second, .val (.long i3), .second, .val (.int i4), .val (.ref ua), .val (.ref ea), .val (.ref ra), .val (.ref ub), .val (.ref eb), .val (.ref rb), .val (.long t2), .second, .val (.ref a), .val (.ref b), .val (.int md), .unset] [])) (fun t_ hr_ => XS.icmpYes A_0 hx rfl (pc0 := 160) (pc' := 178) rfl (Jvm.hb hby at_160) rfl (feq hc1_).2 (by decide) (by decide) hr_) ?_
    refine own_by (T' := T0) (g' := (mkF m 180 #[.val (.long i0), .second, .val (.long i1), .second, .val (.long i2), .second, .val (.long i3), .second, .val (.int i4), .val (.ref ua), .val (.ref ea), .val (.ref ra), .val (.ref ub), .val (.ref eb), .val (.ref rb), .val (.long t2), .second, .val (.ref a), .val (.ref b), .val (.int md), .unset] [(.int md)])) (fun t_ hr_ => XS.iload A_0 hx rfl (Jvm.hb hby at_178) rfl hr_) ?_
    refine own_by (T' := T0) (g' := (mkF m 182 #[.val (.long i0), .second, .val (.long i1), .second, .val (.long i2), .second, .val (.long i3), .second, .val (.int i4), .val (.ref ua), .val (.ref ea), .val (.ref ra), .val (.ref ub), .val (.ref eb), .val (.ref rb), .val (.long t2), .second, .val (.ref a), .val (.ref b), .val (.int md), .unset] [(.int (6 : Int32)), (.int md)])) (fun t_ hr_ => XS.bipush A_0 hx rfl (Jvm.hb hby at_180) hr_) ?_
    by_cases hc3_ : md = (6 : Int32)
    · refine own_by (T' := T0) (g' := (mkF m 185 #[.val (.long i0), .second, .val (.long i1), .second, .val (.long i2), .second, .val (.long i3), .second, .val (.int i4), .val (.ref ua), .val (.ref ea), .val (.ref ra), .val (.ref ub), .val (.ref eb), .val (.ref rb), .val (.long t2), .second, .val (.ref a), .val (.ref b), .val (.int md), .unset] [])) (fun t_ hr_ => XS.icmpNo A_0 hx rfl (Jvm.hb hby at_182) rfl (teq hc3_).2 hr_) ?_
      refine own_by (T' := T0) (g' := (mkF m 186 #[.val (.long i0), .second, .val (.long i1), .second, .val (.long i2), .second, .val (.long i3), .second, .val (.int i4), .val (.ref ua), .val (.ref ea), .val (.ref ra), .val (.ref ub), .val (.ref eb), .val (.ref rb), .val (.long t2), .second, .val (.ref a), .val (.ref b), .val (.int md), .unset] [(.long i0)])) (fun t_ hr_ => XS.lloadN A_0 hx rfl (Jvm.hb hby at_185) rfl hr_) ?_
      refine own_callS w0 hx (y := (⟨"com/example/hecate/hecate/identity/VerifiedIdentityEqualsPinLaw", "mk", "(J)Ljava/lang/String;"⟩ : MethodName)) (hw _ (List.mem_of_getElem? (i := 0) rfl)) (hw _ (List.mem_of_getElem? (i := 1) rfl)) (hw _ (List.mem_of_getElem? (i := 2) rfl)) (hw _ (List.mem_of_getElem? (i := 3) rfl)) (by decide) (kc := 6) (ks := 16) (argsL := [(.long i0)]) (rest := []) (own_payCt (W := 0) (ct1 l Z a0 hw SC n0 h0 (own_old w0) i0) w0 (hw _ (List.mem_of_getElem? (i := 3) rfl)) (hw _ (List.mem_of_getElem? (i := 2) rfl)) hEL (by decide) (by decide)) (g := (mkF m 186 #[.val (.long i0), .second, .val (.long i1), .second, .val (.long i2), .second, .val (.long i3), .second, .val (.int i4), .val (.ref ua), .val (.ref ea), .val (.ref ra), .val (.ref ub), .val (.ref eb), .val (.ref rb), .val (.long t2), .second, .val (.ref a), .val (.ref b), .val (.int md), .unset] [(.long i0)])) rfl (by rw [hml]; rfl) (lenOf pd_837611931 rfl) rfl (by show 2 * 0 + _ ≤ _; exact Nat.le_of_eq rfl) (Jvm.hb hby at_186) (by decide) (by decide) (fun v4_ T4_ vm4_ h4_ q4_ C4_ w4_ => ?_)
      obtain ⟨q, qs, rfl, Eq, Sq, -⟩ := q4_
      have A4_ := own_at w4_
      show own_WP p e _ below s Z _ n0 _ T4_ (mkF m 189 #[.val (.long i0), .second, .val (.long i1), .second, .val (.long i2), .second, .val (.long i3), .second, .val (.int i4), .val (.ref ua), .val (.ref ea), .val (.ref ra), .val (.ref ub), .val (.ref eb), .val (.ref rb), .val (.long t2), .second, .val (.ref a), .val (.ref b), .val (.int md), .unset] [(.ref q)])
      refine own_by (T' := T4_) (g' := (mkF m 191 #[.val (.long i0), .second, .val (.long i1), .second, .val (.long i2), .second, .val (.long i3), .second, .val (.int i4), .val (.ref ua), .val (.ref ea), .val (.ref ra), .val (.ref ub), .val (.ref eb), .val (.ref rb), .val (.long t2), .second, .val (.ref a), .val (.ref b), .val (.int md), .val (.ref q)] [])) (fun t_ hr_ => XS.astore A4_ hx rfl (Jvm.hb hby at_189) rfl rfl (l' := #[.val (.long i0), .second, .val (.long i1), .second, .val (.long i2), .second, .val (.long i3), .second, .val (.int i4), .val (.ref ua), .val (.ref ea), .val (.ref ra), .val (.ref ub), .val (.ref eb), .val (.ref rb), .val (.long t2), .second, .val (.ref a), .val (.ref b), .val (.int md), .val (.ref q)]) rfl hr_) ?_
      refine own_by (T' := T4_) (g' := (mkF m 193 #[.val (.long i0), .second, .val (.long i1), .second, .val (.long i2), .second, .val (.long i3), .second, .val (.int i4), .val (.ref ua), .val (.ref ea), .val (.ref ra), .val (.ref ub), .val (.ref eb), .val (.ref rb), .val (.long t2), .second, .val (.ref a), .val (.ref b), .val (.int md), .val (.ref q)] [(.ref a)])) (fun t_ hr_ => XS.aload A4_ hx rfl (Jvm.hb hby at_191) rfl rfl hr_) ?_
      refine own_by (T' := T4_) (g' := (mkF m 195 #[.val (.long i0), .second, .val (.long i1), .second, .val (.long i2), .second, .val (.long i3), .second, .val (.int i4), .val (.ref ua), .val (.ref ea), .val (.ref ra), .val (.ref ub), .val (.ref eb), .val (.ref rb), .val (.long t2), .second, .val (.ref a), .val (.ref b), .val (.int md), .val (.ref q)] [(.ref q), (.ref a)])) (fun t_ hr_ => XS.aload A4_ hx rfl (Jvm.hb hby at_193) rfl rfl hr_) ?_
      refine own_callV w4_ hx (y := (⟨"com/example/hecate/hecate/identity/VerifiedIdentity", "equals", "(Ljava/lang/Object;)Z"⟩ : MethodName)) (z := (⟨"com/example/hecate/hecate/identity/VerifiedIdentity", "equals", "(Ljava/lang/Object;)Z"⟩ : MethodName)) (hw _ (List.mem_of_getElem? (i := 89) rfl)) (hw _ (List.mem_of_getElem? (i := 90) rfl)) (fun u hu => notFace_of_selects (args := #[]) (mvT hu (hw _ (List.mem_of_getElem? (i := 92) rfl)))) (hw _ (List.mem_of_getElem? (i := 92) rfl)) (hw _ (List.mem_of_getElem? (i := 91) rfl)) (by decide) (kc := 0) (ks := 0) (a := a) (argsL := [(.ref q)]) (rest := []) (own_payCt (W := 0) (ctEqS l Z a0 hw n0 h4_ (own_old w4_) a q Sq.exa) w4_ (hw _ (List.mem_of_getElem? (i := 93) rfl)) (hw _ (List.mem_of_getElem? (i := 41) rfl)) hEL (by decide) (by decide)) (Xa.ext Eq) (g := (mkF m 195 #[.val (.long i0), .second, .val (.long i1), .second, .val (.long i2), .second, .val (.long i3), .second, .val (.int i4), .val (.ref ua), .val (.ref ea), .val (.ref ra), .val (.ref ub), .val (.ref eb), .val (.ref rb), .val (.long t2), .second, .val (.ref a), .val (.ref b), .val (.int md), .val (.ref q)] [(.ref q), (.ref a)])) rfl (by rw [hml]; rfl) (lenOf pd_53765485 rfl) rfl (by show 2 * 0 + _ ≤ _; exact Nat.le_of_eq rfl) (Jvm.hb hby at_195) (by decide) (by decide) (fun v5_ T5_ vm5_ h5_ q5_ C5_ w5_ => ?_)
      obtain ⟨rfl, rfl⟩ := q5_
      have A5_ := own_at w5_
      show own_WP p e _ below s Z _ n0 _ T5_ (mkF m 198 #[.val (.long i0), .second, .val (.long i1), .second, .val (.long i2), .second, .val (.long i3), .second, .val (.int i4), .val (.ref ua), .val (.ref ea), .val (.ref ra), .val (.ref ub), .val (.ref eb), .val (.ref rb), .val (.long t2), .second, .val (.ref a), .val (.ref b), .val (.int md), .val (.ref q)] [(.int (0 : Int32))])
      refine own_by (T' := T5_) (g' := (mkF m 201 #[.val (.long i0), .second, .val (.long i1), .second, .val (.long i2), .second, .val (.long i3), .second, .val (.int i4), .val (.ref ua), .val (.ref ea), .val (.ref ra), .val (.ref ub), .val (.ref eb), .val (.ref rb), .val (.long t2), .second, .val (.ref a), .val (.ref b), .val (.int md), .val (.ref q)] [])) (fun t_ hr_ => XS.ifNo A5_ hx rfl (Jvm.hb hby at_198) rfl ((if0 _ _).trans (teq (rfl : (0 : Int32) = 0)).2) hr_) ?_
      refine own_by (T' := T5_) (g' := (mkF m 202 #[.val (.long i0), .second, .val (.long i1), .second, .val (.long i2), .second, .val (.long i3), .second, .val (.int i4), .val (.ref ua), .val (.ref ea), .val (.ref ra), .val (.ref ub), .val (.ref eb), .val (.ref rb), .val (.long t2), .second, .val (.ref a), .val (.ref b), .val (.int md), .val (.ref q)] [(.int (1 : Int32))])) (fun t_ hr_ => XS.iconst A5_ hx rfl (Jvm.hb hby at_201) hr_) ?_
      refine own_by (T' := T5_) (g' := (mkF m 206 #[.val (.long i0), .second, .val (.long i1), .second, .val (.long i2), .second, .val (.long i3), .second, .val (.int i4), .val (.ref ua), .val (.ref ea), .val (.ref ra), .val (.ref ub), .val (.ref eb), .val (.ref rb), .val (.long t2), .second, .val (.ref a), .val (.ref b), .val (.int md), .val (.ref q)] [(.int (1 : Int32))])) (fun t_ hr_ => XS.goto A5_ hx rfl (pc0 := 202) (pc' := 206) rfl (Jvm.hb hby at_202) (by decide) (by decide) hr_) ?_
      exact own_retZ w5_ hx hEL hlk hret (Or.inr rfl) (Jvm.hb hby at_206) (by decide) (by decide) rfl
    · refine own_by (T' := T0) (g' := (mkF m 207 #[.val (.long i0), .second, .val (.long i1), .second, .val (.long i2), .second, .val (.long i3), .second, .val (.int i4), .val (.ref ua), .val (.ref ea), .val (.ref ra), .val (.ref ub), .val (.ref eb), .val (.ref rb), .val (.long t2), .second, .val (.ref a), .val (.ref b), .val (.int md), .unset] [])) (fun t_ hr_ => XS.icmpYes A_0 hx rfl (pc0 := 182) (pc' := 207) rfl (Jvm.hb hby at_182) rfl (feq hc3_).2 (by decide) (by decide) hr_) ?_
      refine own_by (T' := T0) (g' := (mkF m 209 #[.val (.long i0), .second, .val (.long i1), .second, .val (.long i2), .second, .val (.long i3), .second, .val (.int i4), .val (.ref ua), .val (.ref ea), .val (.ref ra), .val (.ref ub), .val (.ref eb), .val (.ref rb), .val (.long t2), .second, .val (.ref a), .val (.ref b), .val (.int md), .unset] [(.int md)])) (fun t_ hr_ => XS.iload A_0 hx rfl (Jvm.hb hby at_207) rfl hr_) ?_
      refine own_by (T' := T0) (g' := (mkF m 210 #[.val (.long i0), .second, .val (.long i1), .second, .val (.long i2), .second, .val (.long i3), .second, .val (.int i4), .val (.ref ua), .val (.ref ea), .val (.ref ra), .val (.ref ub), .val (.ref eb), .val (.ref rb), .val (.long t2), .second, .val (.ref a), .val (.ref b), .val (.int md), .unset] [(.int (5 : Int32)), (.int md)])) (fun t_ hr_ => XS.iconst A_0 hx rfl (Jvm.hb hby at_209) hr_) ?_
      by_cases hc6_ : md = (5 : Int32)
      · refine own_by (T' := T0) (g' := (mkF m 213 #[.val (.long i0), .second, .val (.long i1), .second, .val (.long i2), .second, .val (.long i3), .second, .val (.int i4), .val (.ref ua), .val (.ref ea), .val (.ref ra), .val (.ref ub), .val (.ref eb), .val (.ref rb), .val (.long t2), .second, .val (.ref a), .val (.ref b), .val (.int md), .unset] [])) (fun t_ hr_ => XS.icmpNo A_0 hx rfl (Jvm.hb hby at_210) rfl (teq hc6_).2 hr_) ?_
        refine own_by (T' := T0) (g' := (mkF m 215 #[.val (.long i0), .second, .val (.long i1), .second, .val (.long i2), .second, .val (.long i3), .second, .val (.int i4), .val (.ref ua), .val (.ref ea), .val (.ref ra), .val (.ref ub), .val (.ref eb), .val (.ref rb), .val (.long t2), .second, .val (.ref a), .val (.ref b), .val (.int md), .unset] [(.ref a)])) (fun t_ hr_ => XS.aload A_0 hx rfl (Jvm.hb hby at_213) rfl rfl hr_) ?_
        refine own_by (T' := T0) (g' := (mkF m 217 #[.val (.long i0), .second, .val (.long i1), .second, .val (.long i2), .second, .val (.long i3), .second, .val (.int i4), .val (.ref ua), .val (.ref ea), .val (.ref ra), .val (.ref ub), .val (.ref eb), .val (.ref rb), .val (.long t2), .second, .val (.ref a), .val (.ref b), .val (.int md), .unset] [(.ref a), (.ref a)])) (fun t_ hr_ => XS.aload A_0 hx rfl (Jvm.hb hby at_215) rfl rfl hr_) ?_
        refine own_callV w0 hx (y := (⟨"com/example/hecate/hecate/identity/VerifiedIdentity", "equals", "(Ljava/lang/Object;)Z"⟩ : MethodName)) (z := (⟨"com/example/hecate/hecate/identity/VerifiedIdentity", "equals", "(Ljava/lang/Object;)Z"⟩ : MethodName)) (hw _ (List.mem_of_getElem? (i := 89) rfl)) (hw _ (List.mem_of_getElem? (i := 90) rfl)) (fun u hu => notFace_of_selects (args := #[]) (mvT hu (hw _ (List.mem_of_getElem? (i := 92) rfl)))) (hw _ (List.mem_of_getElem? (i := 92) rfl)) (hw _ (List.mem_of_getElem? (i := 91) rfl)) (by decide) (kc := 0) (ks := 0) (a := a) (argsL := [(.ref a)]) (rest := []) (own_payCt (W := 0) (ctEqV l Z a0 hw SC n0 h0 (own_old w0) a a ua ea ra ua ea ra i2 i2 uas eas ras uas eas ras Xa A0 A1 A2 A3 A0 A1 A2 A3 Sua Sea Sra Sua Sea Sra) w0 (hw _ (List.mem_of_getElem? (i := 93) rfl)) (hw _ (List.mem_of_getElem? (i := 41) rfl)) hEL (by decide) (by decide)) Xa (g := (mkF m 217 #[.val (.long i0), .second, .val (.long i1), .second, .val (.long i2), .second, .val (.long i3), .second, .val (.int i4), .val (.ref ua), .val (.ref ea), .val (.ref ra), .val (.ref ub), .val (.ref eb), .val (.ref rb), .val (.long t2), .second, .val (.ref a), .val (.ref b), .val (.int md), .unset] [(.ref a), (.ref a)])) rfl (by rw [hml]; rfl) (lenOf pd_53765485 rfl) rfl (by show 2 * 0 + _ ≤ _; exact Nat.le_of_eq rfl) (Jvm.hb hby at_217) (by decide) (by decide) (fun v7_ T7_ vm7_ h7_ q7_ C7_ w7_ => ?_)
        rcases q7_ with ⟨⟨rfl, hq⟩ | ⟨rfl, hq⟩, rfl⟩
        · have A7_ := own_at w7_
          show own_WP p e _ below s Z _ n0 _ T7_ (mkF m 220 #[.val (.long i0), .second, .val (.long i1), .second, .val (.long i2), .second, .val (.long i3), .second, .val (.int i4), .val (.ref ua), .val (.ref ea), .val (.ref ra), .val (.ref ub), .val (.ref eb), .val (.ref rb), .val (.long t2), .second, .val (.ref a), .val (.ref b), .val (.int md), .unset] [(.int (1 : Int32))])
          exact own_retZ w7_ hx hEL hlk hret (Or.inr rfl) (Jvm.hb hby at_220) (by decide) (by decide) rfl
        · have A7_ := own_at w7_
          show own_WP p e _ below s Z _ n0 _ T7_ (mkF m 220 #[.val (.long i0), .second, .val (.long i1), .second, .val (.long i2), .second, .val (.long i3), .second, .val (.int i4), .val (.ref ua), .val (.ref ea), .val (.ref ra), .val (.ref ub), .val (.ref eb), .val (.ref rb), .val (.long t2), .second, .val (.ref a), .val (.ref b), .val (.int md), .unset] [(.int (0 : Int32))])
          exact absurd ⟨rfl, rfl, rfl, rfl⟩ hq
      · refine own_by (T' := T0) (g' := (mkF m 221 #[.val (.long i0), .second, .val (.long i1), .second, .val (.long i2), .second, .val (.long i3), .second, .val (.int i4), .val (.ref ua), .val (.ref ea), .val (.ref ra), .val (.ref ub), .val (.ref eb), .val (.ref rb), .val (.long t2), .second, .val (.ref a), .val (.ref b), .val (.int md), .unset] [])) (fun t_ hr_ => XS.icmpYes A_0 hx rfl (pc0 := 210) (pc' := 221) rfl (Jvm.hb hby at_210) rfl (feq hc6_).2 (by decide) (by decide) hr_) ?_
        exact J221 hw SC SF hx hby hml hret hlk hnm i0 i1 i2 i3 t2 i4 ua ea ra ub eb rb a b uas eas ras ubs ebs rbs md (own_mono w0 (by decide : 38 ≤ 44) (by decide : 260 ≤ 300)) Sua Sea Sra Sub Seb Srb lua lea lra lub leb lrb Xa Xb A0 A1 A2 A3 B0 B1 B2 B3

theorem pd_539267976 : parseMethodDescriptor "(Ljava/lang/String;Ljava/lang/String;Ljava/lang/String;J)V" = some ⟨[(.object "java/lang/String"), (.object "java/lang/String"), (.object "java/lang/String"), .long], none⟩ := by decide +kernel
set_option maxRecDepth 65536 in
set_option maxHeartbeats 40000000 in
theorem J111 {p : Program} {l : Launch} {e : Env} {s : State} {m : MethodId} {below : List Frame} {meth : Method} {cc_ : Code} {Z : State} {a0 : Array Value} {n0 : Nat} {T0 : State} {vm0 : Vm} {h0 : Heap} (hw : ∀ d ∈ tables_1, d.before a0 Z = true) (SC : own_SC Z) (SF : own_SF Z) (hx : p.tables.exec = Jvm.exec) (hby : cc_.code = code) (hml : cc_.maxLocals = 21) (hret : meth.sig.returnType = ret) (hlk : meth.locks = false) (hnm : meth.name = "law") (i0 i1 i2 i3 t2 : Int64) (i4 : Int32) (ua ea ra ub eb rb : Addr) (uas eas ras ubs ebs rbs : List Int32) (w0 : own_Wk p l e room_1 s m #[.long i0, .long i1, .long i2, .long i3, .int i4] below meth cc_ Z consts_1 "com/example/hecate/hecate/identity/VerifiedIdentityEqualsPinLaw" n0 T0 vm0 h0 36 250) (Sua : own_Str Z h0 ua uas) (Sea : own_Str Z h0 ea eas) (Sra : own_Str Z h0 ra ras) (Sub : own_Str Z h0 ub ubs) (Seb : own_Str Z h0 eb ebs) (Srb : own_Str Z h0 rb rbs) (lua : uas.length ≤ 2) (lea : eas.length ≤ 2) (lra : ras.length ≤ 2) (lub : ubs.length ≤ 2) (leb : ebs.length ≤ 2) (lrb : rbs.length ≤ 2) :
    own_WP p e room_1 below s Z consts_1 n0 (fun v h => v = some (.int 1)) T0 (mkF m 111 #[.val (.long i0), .second, .val (.long i1), .second, .val (.long i2), .second, .val (.long i3), .second, .val (.int i4), .val (.ref ua), .val (.ref ea), .val (.ref ra), .val (.ref ub), .val (.ref eb), .val (.ref rb), .unset, .unset, .unset, .unset, .unset, .unset] [(.long t2)]) := by
  have hEL := own_EL hw
  have A_0 := own_at w0
  refine own_by (T' := T0) (g' := (mkF m 113 #[.val (.long i0), .second, .val (.long i1), .second, .val (.long i2), .second, .val (.long i3), .second, .val (.int i4), .val (.ref ua), .val (.ref ea), .val (.ref ra), .val (.ref ub), .val (.ref eb), .val (.ref rb), .val (.long t2), .second, .unset, .unset, .unset, .unset] [])) (fun t_ hr_ => XS.lstore A_0 hx rfl (Jvm.hb hby at_111) rfl (l' := #[.val (.long i0), .second, .val (.long i1), .second, .val (.long i2), .second, .val (.long i3), .second, .val (.int i4), .val (.ref ua), .val (.ref ea), .val (.ref ra), .val (.ref ub), .val (.ref eb), .val (.ref rb), .val (.long t2), .second, .unset, .unset, .unset, .unset]) rfl hr_) ?_
  refine own_new w0 hx (hw _ (List.mem_of_getElem? (i := 39) rfl)) (hw _ (List.mem_of_getElem? (i := 40) rfl)) (hw _ (List.mem_of_getElem? (i := 41) rfl)) (g := (mkF m 113 #[.val (.long i0), .second, .val (.long i1), .second, .val (.long i2), .second, .val (.long i3), .second, .val (.int i4), .val (.ref ua), .val (.ref ea), .val (.ref ra), .val (.ref ub), .val (.ref eb), .val (.ref rb), .val (.long t2), .second, .unset, .unset, .unset, .unset] [])) rfl (Jvm.hb hby at_113) (by decide) (by decide) (fun T1_ h1_ a1_ g1_ E1_ ⟨X1_, D1_⟩ w1_ => ?_)
  have A1_ := own_at w1_
  show own_WP p e _ below s Z _ n0 _ T1_ (mkF m 116 #[.val (.long i0), .second, .val (.long i1), .second, .val (.long i2), .second, .val (.long i3), .second, .val (.int i4), .val (.ref ua), .val (.ref ea), .val (.ref ra), .val (.ref ub), .val (.ref eb), .val (.ref rb), .val (.long t2), .second, .unset, .unset, .unset, .unset] [(.ref a1_)])
  refine own_by (T' := T1_) (g' := (mkF m 117 #[.val (.long i0), .second, .val (.long i1), .second, .val (.long i2), .second, .val (.long i3), .second, .val (.int i4), .val (.ref ua), .val (.ref ea), .val (.ref ra), .val (.ref ub), .val (.ref eb), .val (.ref rb), .val (.long t2), .second, .unset, .unset, .unset, .unset] [(.ref a1_), (.ref a1_)])) (fun t_ hr_ => XS.dup A1_ hx rfl (Jvm.hb hby at_116) rfl rfl hr_) ?_
  refine own_by (T' := T1_) (g' := (mkF m 119 #[.val (.long i0), .second, .val (.long i1), .second, .val (.long i2), .second, .val (.long i3), .second, .val (.int i4), .val (.ref ua), .val (.ref ea), .val (.ref ra), .val (.ref ub), .val (.ref eb), .val (.ref rb), .val (.long t2), .second, .unset, .unset, .unset, .unset] [(.ref ua), (.ref a1_), (.ref a1_)])) (fun t_ hr_ => XS.aload A1_ hx rfl (Jvm.hb hby at_117) rfl rfl hr_) ?_
  refine own_by (T' := T1_) (g' := (mkF m 121 #[.val (.long i0), .second, .val (.long i1), .second, .val (.long i2), .second, .val (.long i3), .second, .val (.int i4), .val (.ref ua), .val (.ref ea), .val (.ref ra), .val (.ref ub), .val (.ref eb), .val (.ref rb), .val (.long t2), .second, .unset, .unset, .unset, .unset] [(.ref ea), (.ref ua), (.ref a1_), (.ref a1_)])) (fun t_ hr_ => XS.aload A1_ hx rfl (Jvm.hb hby at_119) rfl rfl hr_) ?_
  refine own_by (T' := T1_) (g' := (mkF m 123 #[.val (.long i0), .second, .val (.long i1), .second, .val (.long i2), .second, .val (.long i3), .second, .val (.int i4), .val (.ref ua), .val (.ref ea), .val (.ref ra), .val (.ref ub), .val (.ref eb), .val (.ref rb), .val (.long t2), .second, .unset, .unset, .unset, .unset] [(.ref ra), (.ref ea), (.ref ua), (.ref a1_), (.ref a1_)])) (fun t_ hr_ => XS.aload A1_ hx rfl (Jvm.hb hby at_121) rfl rfl hr_) ?_
  refine own_by (T' := T1_) (g' := (mkF m 125 #[.val (.long i0), .second, .val (.long i1), .second, .val (.long i2), .second, .val (.long i3), .second, .val (.int i4), .val (.ref ua), .val (.ref ea), .val (.ref ra), .val (.ref ub), .val (.ref eb), .val (.ref rb), .val (.long t2), .second, .unset, .unset, .unset, .unset] [(.long i2), (.ref ra), (.ref ea), (.ref ua), (.ref a1_), (.ref a1_)])) (fun t_ hr_ => XS.lload A1_ hx rfl (Jvm.hb hby at_123) rfl hr_) ?_
  have gna : n0 ≤ a1_ := by rw [g1_]; exact own_n0 w0
  refine own_callC w1_ hx (y := (⟨"com/example/hecate/hecate/identity/VerifiedIdentity", "<init>", "(Ljava/lang/String;Ljava/lang/String;Ljava/lang/String;J)V"⟩ : MethodName)) rfl (hw _ (List.mem_of_getElem? (i := 42) rfl)) (hw _ (List.mem_of_getElem? (i := 43) rfl)) (hw _ (List.mem_of_getElem? (i := 44) rfl)) (by decide) (kc := 0) (ks := 0) (a := a1_) (argsL := [(.ref ua), (.ref ea), (.ref ra), (.long i2)]) (rest := [(.ref a1_)]) (own_payCt (W := 1) (ctVI l Z a0 hw  n0 h1_ (own_old w1_) a1_ ua ea ra i2 _ _ _ _ (X1_) ((D1_ (Or.inr (hw _ (List.mem_of_getElem? (i := 47) rfl))) (ty := (.object "java/lang/String")) (by decide))) ((D1_ (Or.inr (hw _ (List.mem_of_getElem? (i := 49) rfl))) (ty := (.object "java/lang/String")) (by decide))) ((D1_ (Or.inr (hw _ (List.mem_of_getElem? (i := 51) rfl))) (ty := (.object "java/lang/String")) (by decide))) ((D1_ (Or.inr (hw _ (List.mem_of_getElem? (i := 53) rfl))) (ty := .long) (by decide))) gna ) w1_ (hw _ (List.mem_of_getElem? (i := 44) rfl)) (hw _ (List.mem_of_getElem? (i := 41) rfl)) hEL (by decide) (by decide)) (g := (mkF m 125 #[.val (.long i0), .second, .val (.long i1), .second, .val (.long i2), .second, .val (.long i3), .second, .val (.int i4), .val (.ref ua), .val (.ref ea), .val (.ref ra), .val (.ref ub), .val (.ref eb), .val (.ref rb), .val (.long t2), .second, .unset, .unset, .unset, .unset] [(.long i2), (.ref ra), (.ref ea), (.ref ua), (.ref a1_), (.ref a1_)])) rfl (by rw [hml]; rfl) (lenOf pd_539267976 rfl) rfl (by show 2 * 0 + _ ≤ _; exact Nat.le_of_eq rfl) (Jvm.hb hby at_125) (by decide) (by decide) (fun v2_ T2_ vm2_ h2_ q2_ C2_ w2_ => ?_)
  obtain ⟨rfl, Ka, Xa, Fa_0, Fa_1, Fa_2, Fa_3⟩ := q2_
  have A2_ := own_at w2_
  show own_WP p e _ below s Z _ n0 _ T2_ (mkF m 128 #[.val (.long i0), .second, .val (.long i1), .second, .val (.long i2), .second, .val (.long i3), .second, .val (.int i4), .val (.ref ua), .val (.ref ea), .val (.ref ra), .val (.ref ub), .val (.ref eb), .val (.ref rb), .val (.long t2), .second, .unset, .unset, .unset, .unset] [(.ref a1_)])
  have Ea := own_extK E1_ Ka (allS (by rw [g1_]; exact Nat.le_refl _) all0)
  refine own_by (T' := T2_) (g' := (mkF m 130 #[.val (.long i0), .second, .val (.long i1), .second, .val (.long i2), .second, .val (.long i3), .second, .val (.int i4), .val (.ref ua), .val (.ref ea), .val (.ref ra), .val (.ref ub), .val (.ref eb), .val (.ref rb), .val (.long t2), .second, .val (.ref a1_), .unset, .unset, .unset] [])) (fun t_ hr_ => XS.astore A2_ hx rfl (Jvm.hb hby at_128) rfl rfl (l' := #[.val (.long i0), .second, .val (.long i1), .second, .val (.long i2), .second, .val (.long i3), .second, .val (.int i4), .val (.ref ua), .val (.ref ea), .val (.ref ra), .val (.ref ub), .val (.ref eb), .val (.ref rb), .val (.long t2), .second, .val (.ref a1_), .unset, .unset, .unset]) rfl hr_) ?_
  refine own_new w2_ hx (hw _ (List.mem_of_getElem? (i := 39) rfl)) (hw _ (List.mem_of_getElem? (i := 40) rfl)) (hw _ (List.mem_of_getElem? (i := 41) rfl)) (g := (mkF m 130 #[.val (.long i0), .second, .val (.long i1), .second, .val (.long i2), .second, .val (.long i3), .second, .val (.int i4), .val (.ref ua), .val (.ref ea), .val (.ref ra), .val (.ref ub), .val (.ref eb), .val (.ref rb), .val (.long t2), .second, .val (.ref a1_), .unset, .unset, .unset] [])) rfl (Jvm.hb hby at_130) (by decide) (by decide) (fun T3_ h3_ a3_ g3_ E3_ ⟨X3_, D3_⟩ w3_ => ?_)
  have A3_ := own_at w3_
  show own_WP p e _ below s Z _ n0 _ T3_ (mkF m 133 #[.val (.long i0), .second, .val (.long i1), .second, .val (.long i2), .second, .val (.long i3), .second, .val (.int i4), .val (.ref ua), .val (.ref ea), .val (.ref ra), .val (.ref ub), .val (.ref eb), .val (.ref rb), .val (.long t2), .second, .val (.ref a1_), .unset, .unset, .unset] [(.ref a3_)])
  refine own_by (T' := T3_) (g' := (mkF m 134 #[.val (.long i0), .second, .val (.long i1), .second, .val (.long i2), .second, .val (.long i3), .second, .val (.int i4), .val (.ref ua), .val (.ref ea), .val (.ref ra), .val (.ref ub), .val (.ref eb), .val (.ref rb), .val (.long t2), .second, .val (.ref a1_), .unset, .unset, .unset] [(.ref a3_), (.ref a3_)])) (fun t_ hr_ => XS.dup A3_ hx rfl (Jvm.hb hby at_133) rfl rfl hr_) ?_
  refine own_by (T' := T3_) (g' := (mkF m 136 #[.val (.long i0), .second, .val (.long i1), .second, .val (.long i2), .second, .val (.long i3), .second, .val (.int i4), .val (.ref ua), .val (.ref ea), .val (.ref ra), .val (.ref ub), .val (.ref eb), .val (.ref rb), .val (.long t2), .second, .val (.ref a1_), .unset, .unset, .unset] [(.ref ub), (.ref a3_), (.ref a3_)])) (fun t_ hr_ => XS.aload A3_ hx rfl (Jvm.hb hby at_134) rfl rfl hr_) ?_
  refine own_by (T' := T3_) (g' := (mkF m 138 #[.val (.long i0), .second, .val (.long i1), .second, .val (.long i2), .second, .val (.long i3), .second, .val (.int i4), .val (.ref ua), .val (.ref ea), .val (.ref ra), .val (.ref ub), .val (.ref eb), .val (.ref rb), .val (.long t2), .second, .val (.ref a1_), .unset, .unset, .unset] [(.ref eb), (.ref ub), (.ref a3_), (.ref a3_)])) (fun t_ hr_ => XS.aload A3_ hx rfl (Jvm.hb hby at_136) rfl rfl hr_) ?_
  refine own_by (T' := T3_) (g' := (mkF m 140 #[.val (.long i0), .second, .val (.long i1), .second, .val (.long i2), .second, .val (.long i3), .second, .val (.int i4), .val (.ref ua), .val (.ref ea), .val (.ref ra), .val (.ref ub), .val (.ref eb), .val (.ref rb), .val (.long t2), .second, .val (.ref a1_), .unset, .unset, .unset] [(.ref rb), (.ref eb), (.ref ub), (.ref a3_), (.ref a3_)])) (fun t_ hr_ => XS.aload A3_ hx rfl (Jvm.hb hby at_138) rfl rfl hr_) ?_
  refine own_by (T' := T3_) (g' := (mkF m 142 #[.val (.long i0), .second, .val (.long i1), .second, .val (.long i2), .second, .val (.long i3), .second, .val (.int i4), .val (.ref ua), .val (.ref ea), .val (.ref ra), .val (.ref ub), .val (.ref eb), .val (.ref rb), .val (.long t2), .second, .val (.ref a1_), .unset, .unset, .unset] [(.long t2), (.ref rb), (.ref eb), (.ref ub), (.ref a3_), (.ref a3_)])) (fun t_ hr_ => XS.lload A3_ hx rfl (Jvm.hb hby at_140) rfl hr_) ?_
  have gnb : n0 ≤ a3_ := by rw [g3_]; exact own_n0 w2_
  refine own_callC w3_ hx (y := (⟨"com/example/hecate/hecate/identity/VerifiedIdentity", "<init>", "(Ljava/lang/String;Ljava/lang/String;Ljava/lang/String;J)V"⟩ : MethodName)) rfl (hw _ (List.mem_of_getElem? (i := 42) rfl)) (hw _ (List.mem_of_getElem? (i := 43) rfl)) (hw _ (List.mem_of_getElem? (i := 44) rfl)) (by decide) (kc := 0) (ks := 0) (a := a3_) (argsL := [(.ref ub), (.ref eb), (.ref rb), (.long t2)]) (rest := [(.ref a3_)]) (own_payCt (W := 1) (ctVI l Z a0 hw  n0 h3_ (own_old w3_) a3_ ub eb rb t2 _ _ _ _ (X3_) ((D3_ (Or.inr (hw _ (List.mem_of_getElem? (i := 47) rfl))) (ty := (.object "java/lang/String")) (by decide))) ((D3_ (Or.inr (hw _ (List.mem_of_getElem? (i := 49) rfl))) (ty := (.object "java/lang/String")) (by decide))) ((D3_ (Or.inr (hw _ (List.mem_of_getElem? (i := 51) rfl))) (ty := (.object "java/lang/String")) (by decide))) ((D3_ (Or.inr (hw _ (List.mem_of_getElem? (i := 53) rfl))) (ty := .long) (by decide))) gnb ) w3_ (hw _ (List.mem_of_getElem? (i := 44) rfl)) (hw _ (List.mem_of_getElem? (i := 41) rfl)) hEL (by decide) (by decide)) (g := (mkF m 142 #[.val (.long i0), .second, .val (.long i1), .second, .val (.long i2), .second, .val (.long i3), .second, .val (.int i4), .val (.ref ua), .val (.ref ea), .val (.ref ra), .val (.ref ub), .val (.ref eb), .val (.ref rb), .val (.long t2), .second, .val (.ref a1_), .unset, .unset, .unset] [(.long t2), (.ref rb), (.ref eb), (.ref ub), (.ref a3_), (.ref a3_)])) rfl (by rw [hml]; rfl) (lenOf pd_539267976 rfl) rfl (by show 2 * 0 + _ ≤ _; exact Nat.le_of_eq rfl) (Jvm.hb hby at_142) (by decide) (by decide) (fun v4_ T4_ vm4_ h4_ q4_ C4_ w4_ => ?_)
  obtain ⟨rfl, Kb, Xb, Fb_0, Fb_1, Fb_2, Fb_3⟩ := q4_
  have A4_ := own_at w4_
  show own_WP p e _ below s Z _ n0 _ T4_ (mkF m 145 #[.val (.long i0), .second, .val (.long i1), .second, .val (.long i2), .second, .val (.long i3), .second, .val (.int i4), .val (.ref ua), .val (.ref ea), .val (.ref ra), .val (.ref ub), .val (.ref eb), .val (.ref rb), .val (.long t2), .second, .val (.ref a1_), .unset, .unset, .unset] [(.ref a3_)])
  have Eb := own_extK E3_ Kb (allS (by rw [g3_]; exact Nat.le_refl _) all0)
  have Eab := own_extTrans Ea Eb
  exact J145 hw SC SF hx hby hml hret hlk hnm i0 i1 i2 i3 t2 i4 ua ea ra ub eb rb a1_ a3_ uas eas ras ubs ebs rbs (own_mono w4_ (by decide : 38 ≤ 38) (by decide : 258 ≤ 260)) (Sua.ext Eab) (Sea.ext Eab) (Sra.ext Eab) (Sub.ext Eab) (Seb.ext Eab) (Srb.ext Eab) lua lea lra lub leb lrb (Xa.ext Eb) Xb (Fa_0.ext Eb) (Fa_1.ext Eb) (Fa_2.ext Eb) (Fa_3.ext Eb) Fb_0 Fb_1 Fb_2 Fb_3

set_option maxRecDepth 65536 in
set_option maxHeartbeats 40000000 in
theorem J94 {p : Program} {l : Launch} {e : Env} {s : State} {m : MethodId} {below : List Frame} {meth : Method} {cc_ : Code} {Z : State} {a0 : Array Value} {n0 : Nat} {T0 : State} {vm0 : Vm} {h0 : Heap} (hw : ∀ d ∈ tables_1, d.before a0 Z = true) (SC : own_SC Z) (SF : own_SF Z) (hx : p.tables.exec = Jvm.exec) (hby : cc_.code = code) (hml : cc_.maxLocals = 21) (hret : meth.sig.returnType = ret) (hlk : meth.locks = false) (hnm : meth.name = "law") (i0 i1 i2 i3 : Int64) (i4 : Int32) (ua ea ra ub eb rb : Addr) (uas eas ras ubs ebs rbs : List Int32) (w0 : own_Wk p l e room_1 s m #[.long i0, .long i1, .long i2, .long i3, .int i4] below meth cc_ Z consts_1 "com/example/hecate/hecate/identity/VerifiedIdentityEqualsPinLaw" n0 T0 vm0 h0 36 250) (Sua : own_Str Z h0 ua uas) (Sea : own_Str Z h0 ea eas) (Sra : own_Str Z h0 ra ras) (Sub : own_Str Z h0 ub ubs) (Seb : own_Str Z h0 eb ebs) (Srb : own_Str Z h0 rb rbs) (lua : uas.length ≤ 2) (lea : eas.length ≤ 2) (lra : ras.length ≤ 2) (lub : ubs.length ≤ 2) (leb : ebs.length ≤ 2) (lrb : rbs.length ≤ 2) :
    own_WP p e room_1 below s Z consts_1 n0 (fun v h => v = some (.int 1)) T0 (mkF m 94 #[.val (.long i0), .second, .val (.long i1), .second, .val (.long i2), .second, .val (.long i3), .second, .val (.int i4), .val (.ref ua), .val (.ref ea), .val (.ref ra), .val (.ref ub), .val (.ref eb), .unset, .unset, .unset, .unset, .unset, .unset, .unset] [(.ref rb)]) := by
  have hEL := own_EL hw
  have A_0 := own_at w0
  refine own_by (T' := T0) (g' := (mkF m 96 #[.val (.long i0), .second, .val (.long i1), .second, .val (.long i2), .second, .val (.long i3), .second, .val (.int i4), .val (.ref ua), .val (.ref ea), .val (.ref ra), .val (.ref ub), .val (.ref eb), .val (.ref rb), .unset, .unset, .unset, .unset, .unset, .unset] [])) (fun t_ hr_ => XS.astore A_0 hx rfl (Jvm.hb hby at_94) rfl rfl (l' := #[.val (.long i0), .second, .val (.long i1), .second, .val (.long i2), .second, .val (.long i3), .second, .val (.int i4), .val (.ref ua), .val (.ref ea), .val (.ref ra), .val (.ref ub), .val (.ref eb), .val (.ref rb), .unset, .unset, .unset, .unset, .unset, .unset]) rfl hr_) ?_
  refine own_by (T' := T0) (g' := (mkF m 98 #[.val (.long i0), .second, .val (.long i1), .second, .val (.long i2), .second, .val (.long i3), .second, .val (.int i4), .val (.ref ua), .val (.ref ea), .val (.ref ra), .val (.ref ub), .val (.ref eb), .val (.ref rb), .unset, .unset, .unset, .unset, .unset, .unset] [(.int i4)])) (fun t_ hr_ => XS.iload A_0 hx rfl (Jvm.hb hby at_96) rfl hr_) ?_
  refine own_by (T' := T0) (g' := (mkF m 100 #[.val (.long i0), .second, .val (.long i1), .second, .val (.long i2), .second, .val (.long i3), .second, .val (.int i4), .val (.ref ua), .val (.ref ea), .val (.ref ra), .val (.ref ub), .val (.ref eb), .val (.ref rb), .unset, .unset, .unset, .unset, .unset, .unset] [(.int (8 : Int32)), (.int i4)])) (fun t_ hr_ => XS.bipush A_0 hx rfl (Jvm.hb hby at_98) hr_) ?_
  refine own_by (T' := T0) (g' := (mkF m 101 #[.val (.long i0), .second, .val (.long i1), .second, .val (.long i2), .second, .val (.long i3), .second, .val (.int i4), .val (.ref ua), .val (.ref ea), .val (.ref ra), .val (.ref ub), .val (.ref eb), .val (.ref rb), .unset, .unset, .unset, .unset, .unset, .unset] [(.int (i4 &&& (8 : Int32)))])) (fun t_ hr_ => XS.iand A_0 hx rfl (Jvm.hb hby at_100) rfl hr_) ?_
  by_cases hc1_ : (i4 &&& (8 : Int32)) = (0 : Int32)
  · refine own_by (T' := T0) (g' := (mkF m 109 #[.val (.long i0), .second, .val (.long i1), .second, .val (.long i2), .second, .val (.long i3), .second, .val (.int i4), .val (.ref ua), .val (.ref ea), .val (.ref ra), .val (.ref ub), .val (.ref eb), .val (.ref rb), .unset, .unset, .unset, .unset, .unset, .unset] [])) (fun t_ hr_ => XS.ifYes A_0 hx rfl (pc0 := 101) (pc' := 109) rfl (Jvm.hb hby at_101) rfl ((if0 _ _).trans (teq hc1_).1) (by decide) (by decide) hr_) ?_
    refine own_by (T' := T0) (g' := (mkF m 111 #[.val (.long i0), .second, .val (.long i1), .second, .val (.long i2), .second, .val (.long i3), .second, .val (.int i4), .val (.ref ua), .val (.ref ea), .val (.ref ra), .val (.ref ub), .val (.ref eb), .val (.ref rb), .unset, .unset, .unset, .unset, .unset, .unset] [(.long i3)])) (fun t_ hr_ => XS.lload A_0 hx rfl (Jvm.hb hby at_109) rfl hr_) ?_
    exact J111 hw SC SF hx hby hml hret hlk hnm i0 i1 i2 i3 i3 i4 ua ea ra ub eb rb uas eas ras ubs ebs rbs (own_mono w0 (by decide : 36 ≤ 36) (by decide : 250 ≤ 250)) Sua Sea Sra Sub Seb Srb lua lea lra lub leb lrb
  · refine own_by (T' := T0) (g' := (mkF m 104 #[.val (.long i0), .second, .val (.long i1), .second, .val (.long i2), .second, .val (.long i3), .second, .val (.int i4), .val (.ref ua), .val (.ref ea), .val (.ref ra), .val (.ref ub), .val (.ref eb), .val (.ref rb), .unset, .unset, .unset, .unset, .unset, .unset] [])) (fun t_ hr_ => XS.ifNo A_0 hx rfl (Jvm.hb hby at_101) rfl ((if0 _ _).trans (feq hc1_).1) hr_) ?_
    refine own_by (T' := T0) (g' := (mkF m 106 #[.val (.long i0), .second, .val (.long i1), .second, .val (.long i2), .second, .val (.long i3), .second, .val (.int i4), .val (.ref ua), .val (.ref ea), .val (.ref ra), .val (.ref ub), .val (.ref eb), .val (.ref rb), .unset, .unset, .unset, .unset, .unset, .unset] [(.long i2)])) (fun t_ hr_ => XS.lload A_0 hx rfl (Jvm.hb hby at_104) rfl hr_) ?_
    refine own_by (T' := T0) (g' := (mkF m 111 #[.val (.long i0), .second, .val (.long i1), .second, .val (.long i2), .second, .val (.long i3), .second, .val (.int i4), .val (.ref ua), .val (.ref ea), .val (.ref ra), .val (.ref ub), .val (.ref eb), .val (.ref rb), .unset, .unset, .unset, .unset, .unset, .unset] [(.long i2)])) (fun t_ hr_ => XS.goto A_0 hx rfl (pc0 := 106) (pc' := 111) rfl (Jvm.hb hby at_106) (by decide) (by decide) hr_) ?_
    exact J111 hw SC SF hx hby hml hret hlk hnm i0 i1 i2 i3 i2 i4 ua ea ra ub eb rb uas eas ras ubs ebs rbs (own_mono w0 (by decide : 36 ≤ 36) (by decide : 250 ≤ 250)) Sua Sea Sra Sub Seb Srb lua lea lra lub leb lrb

set_option maxRecDepth 65536 in
set_option maxHeartbeats 40000000 in
theorem J68 {p : Program} {l : Launch} {e : Env} {s : State} {m : MethodId} {below : List Frame} {meth : Method} {cc_ : Code} {Z : State} {a0 : Array Value} {n0 : Nat} {T0 : State} {vm0 : Vm} {h0 : Heap} (hw : ∀ d ∈ tables_1, d.before a0 Z = true) (SC : own_SC Z) (SF : own_SF Z) (hx : p.tables.exec = Jvm.exec) (hby : cc_.code = code) (hml : cc_.maxLocals = 21) (hret : meth.sig.returnType = ret) (hlk : meth.locks = false) (hnm : meth.name = "law") (i0 i1 i2 i3 : Int64) (i4 : Int32) (ua ea ra ub eb : Addr) (uas eas ras ubs ebs : List Int32) (w0 : own_Wk p l e room_1 s m #[.long i0, .long i1, .long i2, .long i3, .int i4] below meth cc_ Z consts_1 "com/example/hecate/hecate/identity/VerifiedIdentityEqualsPinLaw" n0 T0 vm0 h0 30 80) (Sua : own_Str Z h0 ua uas) (Sea : own_Str Z h0 ea eas) (Sra : own_Str Z h0 ra ras) (Sub : own_Str Z h0 ub ubs) (Seb : own_Str Z h0 eb ebs) (lua : uas.length ≤ 2) (lea : eas.length ≤ 2) (lra : ras.length ≤ 2) (lub : ubs.length ≤ 2) (leb : ebs.length ≤ 2) :
    own_WP p e room_1 below s Z consts_1 n0 (fun v h => v = some (.int 1)) T0 (mkF m 68 #[.val (.long i0), .second, .val (.long i1), .second, .val (.long i2), .second, .val (.long i3), .second, .val (.int i4), .val (.ref ua), .val (.ref ea), .val (.ref ra), .val (.ref ub), .unset, .unset, .unset, .unset, .unset, .unset, .unset, .unset] [(.ref eb)]) := by
  have hEL := own_EL hw
  have A_0 := own_at w0
  refine own_by (T' := T0) (g' := (mkF m 70 #[.val (.long i0), .second, .val (.long i1), .second, .val (.long i2), .second, .val (.long i3), .second, .val (.int i4), .val (.ref ua), .val (.ref ea), .val (.ref ra), .val (.ref ub), .val (.ref eb), .unset, .unset, .unset, .unset, .unset, .unset, .unset] [])) (fun t_ hr_ => XS.astore A_0 hx rfl (Jvm.hb hby at_68) rfl rfl (l' := #[.val (.long i0), .second, .val (.long i1), .second, .val (.long i2), .second, .val (.long i3), .second, .val (.int i4), .val (.ref ua), .val (.ref ea), .val (.ref ra), .val (.ref ub), .val (.ref eb), .unset, .unset, .unset, .unset, .unset, .unset, .unset]) rfl hr_) ?_
  refine own_by (T' := T0) (g' := (mkF m 72 #[.val (.long i0), .second, .val (.long i1), .second, .val (.long i2), .second, .val (.long i3), .second, .val (.int i4), .val (.ref ua), .val (.ref ea), .val (.ref ra), .val (.ref ub), .val (.ref eb), .unset, .unset, .unset, .unset, .unset, .unset, .unset] [(.int i4)])) (fun t_ hr_ => XS.iload A_0 hx rfl (Jvm.hb hby at_70) rfl hr_) ?_
  refine own_by (T' := T0) (g' := (mkF m 73 #[.val (.long i0), .second, .val (.long i1), .second, .val (.long i2), .second, .val (.long i3), .second, .val (.int i4), .val (.ref ua), .val (.ref ea), .val (.ref ra), .val (.ref ub), .val (.ref eb), .unset, .unset, .unset, .unset, .unset, .unset, .unset] [(.int (4 : Int32)), (.int i4)])) (fun t_ hr_ => XS.iconst A_0 hx rfl (Jvm.hb hby at_72) hr_) ?_
  refine own_by (T' := T0) (g' := (mkF m 74 #[.val (.long i0), .second, .val (.long i1), .second, .val (.long i2), .second, .val (.long i3), .second, .val (.int i4), .val (.ref ua), .val (.ref ea), .val (.ref ra), .val (.ref ub), .val (.ref eb), .unset, .unset, .unset, .unset, .unset, .unset, .unset] [(.int (i4 &&& (4 : Int32)))])) (fun t_ hr_ => XS.iand A_0 hx rfl (Jvm.hb hby at_73) rfl hr_) ?_
  by_cases hc1_ : (i4 &&& (4 : Int32)) = (0 : Int32)
  · refine own_by (T' := T0) (g' := (mkF m 87 #[.val (.long i0), .second, .val (.long i1), .second, .val (.long i2), .second, .val (.long i3), .second, .val (.int i4), .val (.ref ua), .val (.ref ea), .val (.ref ra), .val (.ref ub), .val (.ref eb), .unset, .unset, .unset, .unset, .unset, .unset, .unset] [])) (fun t_ hr_ => XS.ifYes A_0 hx rfl (pc0 := 74) (pc' := 87) rfl (Jvm.hb hby at_74) rfl ((if0 _ _).trans (teq hc1_).1) (by decide) (by decide) hr_) ?_
    refine own_by (T' := T0) (g' := (mkF m 88 #[.val (.long i0), .second, .val (.long i1), .second, .val (.long i2), .second, .val (.long i3), .second, .val (.int i4), .val (.ref ua), .val (.ref ea), .val (.ref ra), .val (.ref ub), .val (.ref eb), .unset, .unset, .unset, .unset, .unset, .unset, .unset] [(.long i1)])) (fun t_ hr_ => XS.lloadN A_0 hx rfl (Jvm.hb hby at_87) rfl hr_) ?_
    refine own_by (T' := T0) (g' := (mkF m 90 #[.val (.long i0), .second, .val (.long i1), .second, .val (.long i2), .second, .val (.long i3), .second, .val (.int i4), .val (.ref ua), .val (.ref ea), .val (.ref ra), .val (.ref ub), .val (.ref eb), .unset, .unset, .unset, .unset, .unset, .unset, .unset] [(.int (36 : Int32)), (.long i1)])) (fun t_ hr_ => XS.bipush A_0 hx rfl (Jvm.hb hby at_88) hr_) ?_
    refine own_by (T' := T0) (g' := (mkF m 91 #[.val (.long i0), .second, .val (.long i1), .second, .val (.long i2), .second, .val (.long i3), .second, .val (.int i4), .val (.ref ua), .val (.ref ea), .val (.ref ra), .val (.ref ub), .val (.ref eb), .unset, .unset, .unset, .unset, .unset, .unset, .unset] [(.long ((i1.toUInt64 >>> ((36 : Int32) &&& 0x3f).toInt64.toUInt64).toInt64))])) (fun t_ hr_ => XS.lushr A_0 hx rfl (Jvm.hb hby at_90) rfl hr_) ?_
    refine own_callS w0 hx (y := (⟨"com/example/hecate/hecate/identity/VerifiedIdentityEqualsPinLaw", "mk", "(J)Ljava/lang/String;"⟩ : MethodName)) (hw _ (List.mem_of_getElem? (i := 0) rfl)) (hw _ (List.mem_of_getElem? (i := 1) rfl)) (hw _ (List.mem_of_getElem? (i := 2) rfl)) (hw _ (List.mem_of_getElem? (i := 3) rfl)) (by decide) (kc := 6) (ks := 16) (argsL := [(.long ((i1.toUInt64 >>> ((36 : Int32) &&& 0x3f).toInt64.toUInt64).toInt64))]) (rest := []) (own_payCt (W := 0) (ct1 l Z a0 hw SC n0 h0 (own_old w0) ((i1.toUInt64 >>> ((36 : Int32) &&& 0x3f).toInt64.toUInt64).toInt64)) w0 (hw _ (List.mem_of_getElem? (i := 3) rfl)) (hw _ (List.mem_of_getElem? (i := 2) rfl)) hEL (by decide) (by decide)) (g := (mkF m 91 #[.val (.long i0), .second, .val (.long i1), .second, .val (.long i2), .second, .val (.long i3), .second, .val (.int i4), .val (.ref ua), .val (.ref ea), .val (.ref ra), .val (.ref ub), .val (.ref eb), .unset, .unset, .unset, .unset, .unset, .unset, .unset] [(.long ((i1.toUInt64 >>> ((36 : Int32) &&& 0x3f).toInt64.toUInt64).toInt64))])) rfl (by rw [hml]; rfl) (lenOf pd_837611931 rfl) rfl (by show 2 * 0 + _ ≤ _; exact Nat.le_of_eq rfl) (Jvm.hb hby at_91) (by decide) (by decide) (fun v2_ T2_ vm2_ h2_ q2_ C2_ w2_ => ?_)
    obtain ⟨rb, rbs, rfl, Erb, Srb, lrb⟩ := q2_
    have A2_ := own_at w2_
    show own_WP p e _ below s Z _ n0 _ T2_ (mkF m 94 #[.val (.long i0), .second, .val (.long i1), .second, .val (.long i2), .second, .val (.long i3), .second, .val (.int i4), .val (.ref ua), .val (.ref ea), .val (.ref ra), .val (.ref ub), .val (.ref eb), .unset, .unset, .unset, .unset, .unset, .unset, .unset] [(.ref rb)])
    exact J94 hw SC SF hx hby hml hret hlk hnm i0 i1 i2 i3 i4 ua ea ra ub eb rb uas eas ras ubs ebs rbs (own_mono w2_ (by decide : 36 ≤ 36) (by decide : 96 ≤ 250)) (Sua.ext Erb) (Sea.ext Erb) (Sra.ext Erb) (Sub.ext Erb) (Seb.ext Erb) Srb  lua lea lra lub leb lrb
  · refine own_by (T' := T0) (g' := (mkF m 77 #[.val (.long i0), .second, .val (.long i1), .second, .val (.long i2), .second, .val (.long i3), .second, .val (.int i4), .val (.ref ua), .val (.ref ea), .val (.ref ra), .val (.ref ub), .val (.ref eb), .unset, .unset, .unset, .unset, .unset, .unset, .unset] [])) (fun t_ hr_ => XS.ifNo A_0 hx rfl (Jvm.hb hby at_74) rfl ((if0 _ _).trans (feq hc1_).1) hr_) ?_
    refine own_by (T' := T0) (g' := (mkF m 78 #[.val (.long i0), .second, .val (.long i1), .second, .val (.long i2), .second, .val (.long i3), .second, .val (.int i4), .val (.ref ua), .val (.ref ea), .val (.ref ra), .val (.ref ub), .val (.ref eb), .unset, .unset, .unset, .unset, .unset, .unset, .unset] [(.long i0)])) (fun t_ hr_ => XS.lloadN A_0 hx rfl (Jvm.hb hby at_77) rfl hr_) ?_
    refine own_by (T' := T0) (g' := (mkF m 80 #[.val (.long i0), .second, .val (.long i1), .second, .val (.long i2), .second, .val (.long i3), .second, .val (.int i4), .val (.ref ua), .val (.ref ea), .val (.ref ra), .val (.ref ub), .val (.ref eb), .unset, .unset, .unset, .unset, .unset, .unset, .unset] [(.int (36 : Int32)), (.long i0)])) (fun t_ hr_ => XS.bipush A_0 hx rfl (Jvm.hb hby at_78) hr_) ?_
    refine own_by (T' := T0) (g' := (mkF m 81 #[.val (.long i0), .second, .val (.long i1), .second, .val (.long i2), .second, .val (.long i3), .second, .val (.int i4), .val (.ref ua), .val (.ref ea), .val (.ref ra), .val (.ref ub), .val (.ref eb), .unset, .unset, .unset, .unset, .unset, .unset, .unset] [(.long ((i0.toUInt64 >>> ((36 : Int32) &&& 0x3f).toInt64.toUInt64).toInt64))])) (fun t_ hr_ => XS.lushr A_0 hx rfl (Jvm.hb hby at_80) rfl hr_) ?_
    refine own_callS w0 hx (y := (⟨"com/example/hecate/hecate/identity/VerifiedIdentityEqualsPinLaw", "mk", "(J)Ljava/lang/String;"⟩ : MethodName)) (hw _ (List.mem_of_getElem? (i := 0) rfl)) (hw _ (List.mem_of_getElem? (i := 1) rfl)) (hw _ (List.mem_of_getElem? (i := 2) rfl)) (hw _ (List.mem_of_getElem? (i := 3) rfl)) (by decide) (kc := 6) (ks := 16) (argsL := [(.long ((i0.toUInt64 >>> ((36 : Int32) &&& 0x3f).toInt64.toUInt64).toInt64))]) (rest := []) (own_payCt (W := 0) (ct1 l Z a0 hw SC n0 h0 (own_old w0) ((i0.toUInt64 >>> ((36 : Int32) &&& 0x3f).toInt64.toUInt64).toInt64)) w0 (hw _ (List.mem_of_getElem? (i := 3) rfl)) (hw _ (List.mem_of_getElem? (i := 2) rfl)) hEL (by decide) (by decide)) (g := (mkF m 81 #[.val (.long i0), .second, .val (.long i1), .second, .val (.long i2), .second, .val (.long i3), .second, .val (.int i4), .val (.ref ua), .val (.ref ea), .val (.ref ra), .val (.ref ub), .val (.ref eb), .unset, .unset, .unset, .unset, .unset, .unset, .unset] [(.long ((i0.toUInt64 >>> ((36 : Int32) &&& 0x3f).toInt64.toUInt64).toInt64))])) rfl (by rw [hml]; rfl) (lenOf pd_837611931 rfl) rfl (by show 2 * 0 + _ ≤ _; exact Nat.le_of_eq rfl) (Jvm.hb hby at_81) (by decide) (by decide) (fun v3_ T3_ vm3_ h3_ q3_ C3_ w3_ => ?_)
    obtain ⟨rb, rbs, rfl, Erb, Srb, lrb⟩ := q3_
    have A3_ := own_at w3_
    show own_WP p e _ below s Z _ n0 _ T3_ (mkF m 84 #[.val (.long i0), .second, .val (.long i1), .second, .val (.long i2), .second, .val (.long i3), .second, .val (.int i4), .val (.ref ua), .val (.ref ea), .val (.ref ra), .val (.ref ub), .val (.ref eb), .unset, .unset, .unset, .unset, .unset, .unset, .unset] [(.ref rb)])
    refine own_by (T' := T3_) (g' := (mkF m 94 #[.val (.long i0), .second, .val (.long i1), .second, .val (.long i2), .second, .val (.long i3), .second, .val (.int i4), .val (.ref ua), .val (.ref ea), .val (.ref ra), .val (.ref ub), .val (.ref eb), .unset, .unset, .unset, .unset, .unset, .unset, .unset] [(.ref rb)])) (fun t_ hr_ => XS.goto A3_ hx rfl (pc0 := 84) (pc' := 94) rfl (Jvm.hb hby at_84) (by decide) (by decide) hr_) ?_
    exact J94 hw SC SF hx hby hml hret hlk hnm i0 i1 i2 i3 i4 ua ea ra ub eb rb uas eas ras ubs ebs rbs (own_mono w3_ (by decide : 36 ≤ 36) (by decide : 96 ≤ 250)) (Sua.ext Erb) (Sea.ext Erb) (Sra.ext Erb) (Sub.ext Erb) (Seb.ext Erb) Srb  lua lea lra lub leb lrb

set_option maxRecDepth 65536 in
set_option maxHeartbeats 40000000 in
theorem J42 {p : Program} {l : Launch} {e : Env} {s : State} {m : MethodId} {below : List Frame} {meth : Method} {cc_ : Code} {Z : State} {a0 : Array Value} {n0 : Nat} {T0 : State} {vm0 : Vm} {h0 : Heap} (hw : ∀ d ∈ tables_1, d.before a0 Z = true) (SC : own_SC Z) (SF : own_SF Z) (hx : p.tables.exec = Jvm.exec) (hby : cc_.code = code) (hml : cc_.maxLocals = 21) (hret : meth.sig.returnType = ret) (hlk : meth.locks = false) (hnm : meth.name = "law") (i0 i1 i2 i3 : Int64) (i4 : Int32) (ua ea ra ub : Addr) (uas eas ras ubs : List Int32) (w0 : own_Wk p l e room_1 s m #[.long i0, .long i1, .long i2, .long i3, .int i4] below meth cc_ Z consts_1 "com/example/hecate/hecate/identity/VerifiedIdentityEqualsPinLaw" n0 T0 vm0 h0 24 64) (Sua : own_Str Z h0 ua uas) (Sea : own_Str Z h0 ea eas) (Sra : own_Str Z h0 ra ras) (Sub : own_Str Z h0 ub ubs) (lua : uas.length ≤ 2) (lea : eas.length ≤ 2) (lra : ras.length ≤ 2) (lub : ubs.length ≤ 2) :
    own_WP p e room_1 below s Z consts_1 n0 (fun v h => v = some (.int 1)) T0 (mkF m 42 #[.val (.long i0), .second, .val (.long i1), .second, .val (.long i2), .second, .val (.long i3), .second, .val (.int i4), .val (.ref ua), .val (.ref ea), .val (.ref ra), .unset, .unset, .unset, .unset, .unset, .unset, .unset, .unset, .unset] [(.ref ub)]) := by
  have hEL := own_EL hw
  have A_0 := own_at w0
  refine own_by (T' := T0) (g' := (mkF m 44 #[.val (.long i0), .second, .val (.long i1), .second, .val (.long i2), .second, .val (.long i3), .second, .val (.int i4), .val (.ref ua), .val (.ref ea), .val (.ref ra), .val (.ref ub), .unset, .unset, .unset, .unset, .unset, .unset, .unset, .unset] [])) (fun t_ hr_ => XS.astore A_0 hx rfl (Jvm.hb hby at_42) rfl rfl (l' := #[.val (.long i0), .second, .val (.long i1), .second, .val (.long i2), .second, .val (.long i3), .second, .val (.int i4), .val (.ref ua), .val (.ref ea), .val (.ref ra), .val (.ref ub), .unset, .unset, .unset, .unset, .unset, .unset, .unset, .unset]) rfl hr_) ?_
  refine own_by (T' := T0) (g' := (mkF m 46 #[.val (.long i0), .second, .val (.long i1), .second, .val (.long i2), .second, .val (.long i3), .second, .val (.int i4), .val (.ref ua), .val (.ref ea), .val (.ref ra), .val (.ref ub), .unset, .unset, .unset, .unset, .unset, .unset, .unset, .unset] [(.int i4)])) (fun t_ hr_ => XS.iload A_0 hx rfl (Jvm.hb hby at_44) rfl hr_) ?_
  refine own_by (T' := T0) (g' := (mkF m 47 #[.val (.long i0), .second, .val (.long i1), .second, .val (.long i2), .second, .val (.long i3), .second, .val (.int i4), .val (.ref ua), .val (.ref ea), .val (.ref ra), .val (.ref ub), .unset, .unset, .unset, .unset, .unset, .unset, .unset, .unset] [(.int (2 : Int32)), (.int i4)])) (fun t_ hr_ => XS.iconst A_0 hx rfl (Jvm.hb hby at_46) hr_) ?_
  refine own_by (T' := T0) (g' := (mkF m 48 #[.val (.long i0), .second, .val (.long i1), .second, .val (.long i2), .second, .val (.long i3), .second, .val (.int i4), .val (.ref ua), .val (.ref ea), .val (.ref ra), .val (.ref ub), .unset, .unset, .unset, .unset, .unset, .unset, .unset, .unset] [(.int (i4 &&& (2 : Int32)))])) (fun t_ hr_ => XS.iand A_0 hx rfl (Jvm.hb hby at_47) rfl hr_) ?_
  by_cases hc1_ : (i4 &&& (2 : Int32)) = (0 : Int32)
  · refine own_by (T' := T0) (g' := (mkF m 61 #[.val (.long i0), .second, .val (.long i1), .second, .val (.long i2), .second, .val (.long i3), .second, .val (.int i4), .val (.ref ua), .val (.ref ea), .val (.ref ra), .val (.ref ub), .unset, .unset, .unset, .unset, .unset, .unset, .unset, .unset] [])) (fun t_ hr_ => XS.ifYes A_0 hx rfl (pc0 := 48) (pc' := 61) rfl (Jvm.hb hby at_48) rfl ((if0 _ _).trans (teq hc1_).1) (by decide) (by decide) hr_) ?_
    refine own_by (T' := T0) (g' := (mkF m 62 #[.val (.long i0), .second, .val (.long i1), .second, .val (.long i2), .second, .val (.long i3), .second, .val (.int i4), .val (.ref ua), .val (.ref ea), .val (.ref ra), .val (.ref ub), .unset, .unset, .unset, .unset, .unset, .unset, .unset, .unset] [(.long i1)])) (fun t_ hr_ => XS.lloadN A_0 hx rfl (Jvm.hb hby at_61) rfl hr_) ?_
    refine own_by (T' := T0) (g' := (mkF m 64 #[.val (.long i0), .second, .val (.long i1), .second, .val (.long i2), .second, .val (.long i3), .second, .val (.int i4), .val (.ref ua), .val (.ref ea), .val (.ref ra), .val (.ref ub), .unset, .unset, .unset, .unset, .unset, .unset, .unset, .unset] [(.int (18 : Int32)), (.long i1)])) (fun t_ hr_ => XS.bipush A_0 hx rfl (Jvm.hb hby at_62) hr_) ?_
    refine own_by (T' := T0) (g' := (mkF m 65 #[.val (.long i0), .second, .val (.long i1), .second, .val (.long i2), .second, .val (.long i3), .second, .val (.int i4), .val (.ref ua), .val (.ref ea), .val (.ref ra), .val (.ref ub), .unset, .unset, .unset, .unset, .unset, .unset, .unset, .unset] [(.long ((i1.toUInt64 >>> ((18 : Int32) &&& 0x3f).toInt64.toUInt64).toInt64))])) (fun t_ hr_ => XS.lushr A_0 hx rfl (Jvm.hb hby at_64) rfl hr_) ?_
    refine own_callS w0 hx (y := (⟨"com/example/hecate/hecate/identity/VerifiedIdentityEqualsPinLaw", "mk", "(J)Ljava/lang/String;"⟩ : MethodName)) (hw _ (List.mem_of_getElem? (i := 0) rfl)) (hw _ (List.mem_of_getElem? (i := 1) rfl)) (hw _ (List.mem_of_getElem? (i := 2) rfl)) (hw _ (List.mem_of_getElem? (i := 3) rfl)) (by decide) (kc := 6) (ks := 16) (argsL := [(.long ((i1.toUInt64 >>> ((18 : Int32) &&& 0x3f).toInt64.toUInt64).toInt64))]) (rest := []) (own_payCt (W := 0) (ct1 l Z a0 hw SC n0 h0 (own_old w0) ((i1.toUInt64 >>> ((18 : Int32) &&& 0x3f).toInt64.toUInt64).toInt64)) w0 (hw _ (List.mem_of_getElem? (i := 3) rfl)) (hw _ (List.mem_of_getElem? (i := 2) rfl)) hEL (by decide) (by decide)) (g := (mkF m 65 #[.val (.long i0), .second, .val (.long i1), .second, .val (.long i2), .second, .val (.long i3), .second, .val (.int i4), .val (.ref ua), .val (.ref ea), .val (.ref ra), .val (.ref ub), .unset, .unset, .unset, .unset, .unset, .unset, .unset, .unset] [(.long ((i1.toUInt64 >>> ((18 : Int32) &&& 0x3f).toInt64.toUInt64).toInt64))])) rfl (by rw [hml]; rfl) (lenOf pd_837611931 rfl) rfl (by show 2 * 0 + _ ≤ _; exact Nat.le_of_eq rfl) (Jvm.hb hby at_65) (by decide) (by decide) (fun v2_ T2_ vm2_ h2_ q2_ C2_ w2_ => ?_)
    obtain ⟨eb, ebs, rfl, Eeb, Seb, leb⟩ := q2_
    have A2_ := own_at w2_
    show own_WP p e _ below s Z _ n0 _ T2_ (mkF m 68 #[.val (.long i0), .second, .val (.long i1), .second, .val (.long i2), .second, .val (.long i3), .second, .val (.int i4), .val (.ref ua), .val (.ref ea), .val (.ref ra), .val (.ref ub), .unset, .unset, .unset, .unset, .unset, .unset, .unset, .unset] [(.ref eb)])
    exact J68 hw SC SF hx hby hml hret hlk hnm i0 i1 i2 i3 i4 ua ea ra ub eb uas eas ras ubs ebs (own_mono w2_ (by decide : 30 ≤ 30) (by decide : 80 ≤ 80)) (Sua.ext Eeb) (Sea.ext Eeb) (Sra.ext Eeb) (Sub.ext Eeb) Seb  lua lea lra lub leb
  · refine own_by (T' := T0) (g' := (mkF m 51 #[.val (.long i0), .second, .val (.long i1), .second, .val (.long i2), .second, .val (.long i3), .second, .val (.int i4), .val (.ref ua), .val (.ref ea), .val (.ref ra), .val (.ref ub), .unset, .unset, .unset, .unset, .unset, .unset, .unset, .unset] [])) (fun t_ hr_ => XS.ifNo A_0 hx rfl (Jvm.hb hby at_48) rfl ((if0 _ _).trans (feq hc1_).1) hr_) ?_
    refine own_by (T' := T0) (g' := (mkF m 52 #[.val (.long i0), .second, .val (.long i1), .second, .val (.long i2), .second, .val (.long i3), .second, .val (.int i4), .val (.ref ua), .val (.ref ea), .val (.ref ra), .val (.ref ub), .unset, .unset, .unset, .unset, .unset, .unset, .unset, .unset] [(.long i0)])) (fun t_ hr_ => XS.lloadN A_0 hx rfl (Jvm.hb hby at_51) rfl hr_) ?_
    refine own_by (T' := T0) (g' := (mkF m 54 #[.val (.long i0), .second, .val (.long i1), .second, .val (.long i2), .second, .val (.long i3), .second, .val (.int i4), .val (.ref ua), .val (.ref ea), .val (.ref ra), .val (.ref ub), .unset, .unset, .unset, .unset, .unset, .unset, .unset, .unset] [(.int (18 : Int32)), (.long i0)])) (fun t_ hr_ => XS.bipush A_0 hx rfl (Jvm.hb hby at_52) hr_) ?_
    refine own_by (T' := T0) (g' := (mkF m 55 #[.val (.long i0), .second, .val (.long i1), .second, .val (.long i2), .second, .val (.long i3), .second, .val (.int i4), .val (.ref ua), .val (.ref ea), .val (.ref ra), .val (.ref ub), .unset, .unset, .unset, .unset, .unset, .unset, .unset, .unset] [(.long ((i0.toUInt64 >>> ((18 : Int32) &&& 0x3f).toInt64.toUInt64).toInt64))])) (fun t_ hr_ => XS.lushr A_0 hx rfl (Jvm.hb hby at_54) rfl hr_) ?_
    refine own_callS w0 hx (y := (⟨"com/example/hecate/hecate/identity/VerifiedIdentityEqualsPinLaw", "mk", "(J)Ljava/lang/String;"⟩ : MethodName)) (hw _ (List.mem_of_getElem? (i := 0) rfl)) (hw _ (List.mem_of_getElem? (i := 1) rfl)) (hw _ (List.mem_of_getElem? (i := 2) rfl)) (hw _ (List.mem_of_getElem? (i := 3) rfl)) (by decide) (kc := 6) (ks := 16) (argsL := [(.long ((i0.toUInt64 >>> ((18 : Int32) &&& 0x3f).toInt64.toUInt64).toInt64))]) (rest := []) (own_payCt (W := 0) (ct1 l Z a0 hw SC n0 h0 (own_old w0) ((i0.toUInt64 >>> ((18 : Int32) &&& 0x3f).toInt64.toUInt64).toInt64)) w0 (hw _ (List.mem_of_getElem? (i := 3) rfl)) (hw _ (List.mem_of_getElem? (i := 2) rfl)) hEL (by decide) (by decide)) (g := (mkF m 55 #[.val (.long i0), .second, .val (.long i1), .second, .val (.long i2), .second, .val (.long i3), .second, .val (.int i4), .val (.ref ua), .val (.ref ea), .val (.ref ra), .val (.ref ub), .unset, .unset, .unset, .unset, .unset, .unset, .unset, .unset] [(.long ((i0.toUInt64 >>> ((18 : Int32) &&& 0x3f).toInt64.toUInt64).toInt64))])) rfl (by rw [hml]; rfl) (lenOf pd_837611931 rfl) rfl (by show 2 * 0 + _ ≤ _; exact Nat.le_of_eq rfl) (Jvm.hb hby at_55) (by decide) (by decide) (fun v3_ T3_ vm3_ h3_ q3_ C3_ w3_ => ?_)
    obtain ⟨eb, ebs, rfl, Eeb, Seb, leb⟩ := q3_
    have A3_ := own_at w3_
    show own_WP p e _ below s Z _ n0 _ T3_ (mkF m 58 #[.val (.long i0), .second, .val (.long i1), .second, .val (.long i2), .second, .val (.long i3), .second, .val (.int i4), .val (.ref ua), .val (.ref ea), .val (.ref ra), .val (.ref ub), .unset, .unset, .unset, .unset, .unset, .unset, .unset, .unset] [(.ref eb)])
    refine own_by (T' := T3_) (g' := (mkF m 68 #[.val (.long i0), .second, .val (.long i1), .second, .val (.long i2), .second, .val (.long i3), .second, .val (.int i4), .val (.ref ua), .val (.ref ea), .val (.ref ra), .val (.ref ub), .unset, .unset, .unset, .unset, .unset, .unset, .unset, .unset] [(.ref eb)])) (fun t_ hr_ => XS.goto A3_ hx rfl (pc0 := 58) (pc' := 68) rfl (Jvm.hb hby at_58) (by decide) (by decide) hr_) ?_
    exact J68 hw SC SF hx hby hml hret hlk hnm i0 i1 i2 i3 i4 ua ea ra ub eb uas eas ras ubs ebs (own_mono w3_ (by decide : 30 ≤ 30) (by decide : 80 ≤ 80)) (Sua.ext Eeb) (Sea.ext Eeb) (Sra.ext Eeb) (Sub.ext Eeb) Seb  lua lea lra lub leb

set_option maxRecDepth 65536 in
set_option maxHeartbeats 40000000 in
theorem J22 {p : Program} {l : Launch} {e : Env} {s : State} {m : MethodId} {below : List Frame} {meth : Method} {cc_ : Code} {Z : State} {a0 : Array Value} {n0 : Nat} {T0 : State} {vm0 : Vm} {h0 : Heap} (hw : ∀ d ∈ tables_1, d.before a0 Z = true) (SC : own_SC Z) (SF : own_SF Z) (hx : p.tables.exec = Jvm.exec) (hby : cc_.code = code) (hml : cc_.maxLocals = 21) (hret : meth.sig.returnType = ret) (hlk : meth.locks = false) (hnm : meth.name = "law") (i0 i1 i2 i3 : Int64) (i4 : Int32) (ua ea ra : Addr) (uas eas ras : List Int32) (w0 : own_Wk p l e room_1 s m #[.long i0, .long i1, .long i2, .long i3, .int i4] below meth cc_ Z consts_1 "com/example/hecate/hecate/identity/VerifiedIdentityEqualsPinLaw" n0 T0 vm0 h0 18 48) (Sua : own_Str Z h0 ua uas) (Sea : own_Str Z h0 ea eas) (Sra : own_Str Z h0 ra ras) (lua : uas.length ≤ 2) (lea : eas.length ≤ 2) (lra : ras.length ≤ 2) :
    own_WP p e room_1 below s Z consts_1 n0 (fun v h => v = some (.int 1)) T0 (mkF m 22 #[.val (.long i0), .second, .val (.long i1), .second, .val (.long i2), .second, .val (.long i3), .second, .val (.int i4), .val (.ref ua), .val (.ref ea), .unset, .unset, .unset, .unset, .unset, .unset, .unset, .unset, .unset, .unset] [(.ref ra)]) := by
  have hEL := own_EL hw
  have A_0 := own_at w0
  refine own_by (T' := T0) (g' := (mkF m 24 #[.val (.long i0), .second, .val (.long i1), .second, .val (.long i2), .second, .val (.long i3), .second, .val (.int i4), .val (.ref ua), .val (.ref ea), .val (.ref ra), .unset, .unset, .unset, .unset, .unset, .unset, .unset, .unset, .unset] [])) (fun t_ hr_ => XS.astore A_0 hx rfl (Jvm.hb hby at_22) rfl rfl (l' := #[.val (.long i0), .second, .val (.long i1), .second, .val (.long i2), .second, .val (.long i3), .second, .val (.int i4), .val (.ref ua), .val (.ref ea), .val (.ref ra), .unset, .unset, .unset, .unset, .unset, .unset, .unset, .unset, .unset]) rfl hr_) ?_
  refine own_by (T' := T0) (g' := (mkF m 26 #[.val (.long i0), .second, .val (.long i1), .second, .val (.long i2), .second, .val (.long i3), .second, .val (.int i4), .val (.ref ua), .val (.ref ea), .val (.ref ra), .unset, .unset, .unset, .unset, .unset, .unset, .unset, .unset, .unset] [(.int i4)])) (fun t_ hr_ => XS.iload A_0 hx rfl (Jvm.hb hby at_24) rfl hr_) ?_
  refine own_by (T' := T0) (g' := (mkF m 27 #[.val (.long i0), .second, .val (.long i1), .second, .val (.long i2), .second, .val (.long i3), .second, .val (.int i4), .val (.ref ua), .val (.ref ea), .val (.ref ra), .unset, .unset, .unset, .unset, .unset, .unset, .unset, .unset, .unset] [(.int (1 : Int32)), (.int i4)])) (fun t_ hr_ => XS.iconst A_0 hx rfl (Jvm.hb hby at_26) hr_) ?_
  refine own_by (T' := T0) (g' := (mkF m 28 #[.val (.long i0), .second, .val (.long i1), .second, .val (.long i2), .second, .val (.long i3), .second, .val (.int i4), .val (.ref ua), .val (.ref ea), .val (.ref ra), .unset, .unset, .unset, .unset, .unset, .unset, .unset, .unset, .unset] [(.int (i4 &&& (1 : Int32)))])) (fun t_ hr_ => XS.iand A_0 hx rfl (Jvm.hb hby at_27) rfl hr_) ?_
  by_cases hc1_ : (i4 &&& (1 : Int32)) = (0 : Int32)
  · refine own_by (T' := T0) (g' := (mkF m 38 #[.val (.long i0), .second, .val (.long i1), .second, .val (.long i2), .second, .val (.long i3), .second, .val (.int i4), .val (.ref ua), .val (.ref ea), .val (.ref ra), .unset, .unset, .unset, .unset, .unset, .unset, .unset, .unset, .unset] [])) (fun t_ hr_ => XS.ifYes A_0 hx rfl (pc0 := 28) (pc' := 38) rfl (Jvm.hb hby at_28) rfl ((if0 _ _).trans (teq hc1_).1) (by decide) (by decide) hr_) ?_
    refine own_by (T' := T0) (g' := (mkF m 39 #[.val (.long i0), .second, .val (.long i1), .second, .val (.long i2), .second, .val (.long i3), .second, .val (.int i4), .val (.ref ua), .val (.ref ea), .val (.ref ra), .unset, .unset, .unset, .unset, .unset, .unset, .unset, .unset, .unset] [(.long i1)])) (fun t_ hr_ => XS.lloadN A_0 hx rfl (Jvm.hb hby at_38) rfl hr_) ?_
    refine own_callS w0 hx (y := (⟨"com/example/hecate/hecate/identity/VerifiedIdentityEqualsPinLaw", "mk", "(J)Ljava/lang/String;"⟩ : MethodName)) (hw _ (List.mem_of_getElem? (i := 0) rfl)) (hw _ (List.mem_of_getElem? (i := 1) rfl)) (hw _ (List.mem_of_getElem? (i := 2) rfl)) (hw _ (List.mem_of_getElem? (i := 3) rfl)) (by decide) (kc := 6) (ks := 16) (argsL := [(.long i1)]) (rest := []) (own_payCt (W := 0) (ct1 l Z a0 hw SC n0 h0 (own_old w0) i1) w0 (hw _ (List.mem_of_getElem? (i := 3) rfl)) (hw _ (List.mem_of_getElem? (i := 2) rfl)) hEL (by decide) (by decide)) (g := (mkF m 39 #[.val (.long i0), .second, .val (.long i1), .second, .val (.long i2), .second, .val (.long i3), .second, .val (.int i4), .val (.ref ua), .val (.ref ea), .val (.ref ra), .unset, .unset, .unset, .unset, .unset, .unset, .unset, .unset, .unset] [(.long i1)])) rfl (by rw [hml]; rfl) (lenOf pd_837611931 rfl) rfl (by show 2 * 0 + _ ≤ _; exact Nat.le_of_eq rfl) (Jvm.hb hby at_39) (by decide) (by decide) (fun v2_ T2_ vm2_ h2_ q2_ C2_ w2_ => ?_)
    obtain ⟨ub, ubs, rfl, Eub, Sub, lub⟩ := q2_
    have A2_ := own_at w2_
    show own_WP p e _ below s Z _ n0 _ T2_ (mkF m 42 #[.val (.long i0), .second, .val (.long i1), .second, .val (.long i2), .second, .val (.long i3), .second, .val (.int i4), .val (.ref ua), .val (.ref ea), .val (.ref ra), .unset, .unset, .unset, .unset, .unset, .unset, .unset, .unset, .unset] [(.ref ub)])
    exact J42 hw SC SF hx hby hml hret hlk hnm i0 i1 i2 i3 i4 ua ea ra ub uas eas ras ubs (own_mono w2_ (by decide : 24 ≤ 24) (by decide : 64 ≤ 64)) (Sua.ext Eub) (Sea.ext Eub) (Sra.ext Eub) Sub  lua lea lra lub
  · refine own_by (T' := T0) (g' := (mkF m 31 #[.val (.long i0), .second, .val (.long i1), .second, .val (.long i2), .second, .val (.long i3), .second, .val (.int i4), .val (.ref ua), .val (.ref ea), .val (.ref ra), .unset, .unset, .unset, .unset, .unset, .unset, .unset, .unset, .unset] [])) (fun t_ hr_ => XS.ifNo A_0 hx rfl (Jvm.hb hby at_28) rfl ((if0 _ _).trans (feq hc1_).1) hr_) ?_
    refine own_by (T' := T0) (g' := (mkF m 32 #[.val (.long i0), .second, .val (.long i1), .second, .val (.long i2), .second, .val (.long i3), .second, .val (.int i4), .val (.ref ua), .val (.ref ea), .val (.ref ra), .unset, .unset, .unset, .unset, .unset, .unset, .unset, .unset, .unset] [(.long i0)])) (fun t_ hr_ => XS.lloadN A_0 hx rfl (Jvm.hb hby at_31) rfl hr_) ?_
    refine own_callS w0 hx (y := (⟨"com/example/hecate/hecate/identity/VerifiedIdentityEqualsPinLaw", "mk", "(J)Ljava/lang/String;"⟩ : MethodName)) (hw _ (List.mem_of_getElem? (i := 0) rfl)) (hw _ (List.mem_of_getElem? (i := 1) rfl)) (hw _ (List.mem_of_getElem? (i := 2) rfl)) (hw _ (List.mem_of_getElem? (i := 3) rfl)) (by decide) (kc := 6) (ks := 16) (argsL := [(.long i0)]) (rest := []) (own_payCt (W := 0) (ct1 l Z a0 hw SC n0 h0 (own_old w0) i0) w0 (hw _ (List.mem_of_getElem? (i := 3) rfl)) (hw _ (List.mem_of_getElem? (i := 2) rfl)) hEL (by decide) (by decide)) (g := (mkF m 32 #[.val (.long i0), .second, .val (.long i1), .second, .val (.long i2), .second, .val (.long i3), .second, .val (.int i4), .val (.ref ua), .val (.ref ea), .val (.ref ra), .unset, .unset, .unset, .unset, .unset, .unset, .unset, .unset, .unset] [(.long i0)])) rfl (by rw [hml]; rfl) (lenOf pd_837611931 rfl) rfl (by show 2 * 0 + _ ≤ _; exact Nat.le_of_eq rfl) (Jvm.hb hby at_32) (by decide) (by decide) (fun v3_ T3_ vm3_ h3_ q3_ C3_ w3_ => ?_)
    obtain ⟨ub, ubs, rfl, Eub, Sub, lub⟩ := q3_
    have A3_ := own_at w3_
    show own_WP p e _ below s Z _ n0 _ T3_ (mkF m 35 #[.val (.long i0), .second, .val (.long i1), .second, .val (.long i2), .second, .val (.long i3), .second, .val (.int i4), .val (.ref ua), .val (.ref ea), .val (.ref ra), .unset, .unset, .unset, .unset, .unset, .unset, .unset, .unset, .unset] [(.ref ub)])
    refine own_by (T' := T3_) (g' := (mkF m 42 #[.val (.long i0), .second, .val (.long i1), .second, .val (.long i2), .second, .val (.long i3), .second, .val (.int i4), .val (.ref ua), .val (.ref ea), .val (.ref ra), .unset, .unset, .unset, .unset, .unset, .unset, .unset, .unset, .unset] [(.ref ub)])) (fun t_ hr_ => XS.goto A3_ hx rfl (pc0 := 35) (pc' := 42) rfl (Jvm.hb hby at_35) (by decide) (by decide) hr_) ?_
    exact J42 hw SC SF hx hby hml hret hlk hnm i0 i1 i2 i3 i4 ua ea ra ub uas eas ras ubs (own_mono w3_ (by decide : 24 ≤ 24) (by decide : 64 ≤ 64)) (Sua.ext Eub) (Sea.ext Eub) (Sra.ext Eub) Sub  lua lea lra lub

theorem pn_120 : plainFor x = true := by first | exact plainFor_of_name (by first | (simp [plainName, overriddenIn]; done) | decide +kernel) | decide +kernel
theorem ef_ctLaw (m : MethodId) (x0 : Int64) (x1 : Int64) (x2 : Int64) (x3 : Int64) (x4 : Int32) : entryFrame m #[(.long x0), (.long x1), (.long x2), (.long x3), (.int x4)] maxLocals = mkF m 0 #[.val (.long x0), .second, .val (.long x1), .second, .val (.long x2), .second, .val (.long x3), .second, .val (.int x4), .unset, .unset, .unset, .unset, .unset, .unset, .unset, .unset, .unset, .unset, .unset, .unset] [] := by first | (simp [entryFrame, mkF, argsToLocals, Value.category, maxLocals]; done) | rfl
set_option maxRecDepth 65536 in
set_option maxHeartbeats 40000000 in
theorem ctLaw (l : Launch) (Z : State) (a0 : Array Value) (hw : ∀ d ∈ tables_1, d.before a0 Z = true) (SC : own_SC Z) (SF : own_SF Z) (n0 : Nat) (h0 : Heap) (O0 : Old Z n0 h0) (i0 i1 i2 i3 : Int64) (i4 : Int32)  :
    own_Ct l x code maxLocals ret room_1 Z consts_1 n0 #[(.long i0), (.long i1), (.long i2), (.long i3), (.int i4)] h0 [] (fun v h => v = some (.int 1)) := by
  have hEL := own_EL hw
  refine own_body pn_120 O0 (fun p e s m below meth cc_ T0 vm0 hx hby hml0 hret hlk hnm hsf w0 => ?_)
  have hml : cc_.maxLocals = 21 := hml0
  have A_0 := own_at w0
  refine own_entry (ef_ctLaw m i0 i1 i2 i3 i4) ?_
  refine own_by (T' := T0) (g' := (mkF m 1 #[.val (.long i0), .second, .val (.long i1), .second, .val (.long i2), .second, .val (.long i3), .second, .val (.int i4), .unset, .unset, .unset, .unset, .unset, .unset, .unset, .unset, .unset, .unset, .unset, .unset] [(.long i0)])) (fun t_ hr_ => XS.lloadN A_0 hx rfl (Jvm.hb hby at_0) rfl hr_) ?_
  refine own_callS w0 hx (y := (⟨"com/example/hecate/hecate/identity/VerifiedIdentityEqualsPinLaw", "mk", "(J)Ljava/lang/String;"⟩ : MethodName)) (hw _ (List.mem_of_getElem? (i := 0) rfl)) (hw _ (List.mem_of_getElem? (i := 1) rfl)) (hw _ (List.mem_of_getElem? (i := 2) rfl)) (hw _ (List.mem_of_getElem? (i := 3) rfl)) (by decide) (kc := 6) (ks := 16) (argsL := [(.long i0)]) (rest := []) (own_payCt (W := 0) (ct1 l Z a0 hw SC n0 h0 (own_old w0) i0) w0 (hw _ (List.mem_of_getElem? (i := 3) rfl)) (hw _ (List.mem_of_getElem? (i := 2) rfl)) hEL (by decide) (by decide)) (g := (mkF m 1 #[.val (.long i0), .second, .val (.long i1), .second, .val (.long i2), .second, .val (.long i3), .second, .val (.int i4), .unset, .unset, .unset, .unset, .unset, .unset, .unset, .unset, .unset, .unset, .unset, .unset] [(.long i0)])) rfl (by rw [hml]; rfl) (lenOf pd_837611931 rfl) rfl (by show 2 * 0 + _ ≤ _; exact Nat.le_of_eq rfl) (Jvm.hb hby at_1) (by decide) (by decide) (fun v1_ T1_ vm1_ h1_ q1_ C1_ w1_ => ?_)
  obtain ⟨ua, uas, rfl, Eua, Sua, lua⟩ := q1_
  have A1_ := own_at w1_
  show own_WP p e _ below s Z _ n0 _ T1_ (mkF m 4 #[.val (.long i0), .second, .val (.long i1), .second, .val (.long i2), .second, .val (.long i3), .second, .val (.int i4), .unset, .unset, .unset, .unset, .unset, .unset, .unset, .unset, .unset, .unset, .unset, .unset] [(.ref ua)])
  refine own_by (T' := T1_) (g' := (mkF m 6 #[.val (.long i0), .second, .val (.long i1), .second, .val (.long i2), .second, .val (.long i3), .second, .val (.int i4), .val (.ref ua), .unset, .unset, .unset, .unset, .unset, .unset, .unset, .unset, .unset, .unset, .unset] [])) (fun t_ hr_ => XS.astore A1_ hx rfl (Jvm.hb hby at_4) rfl rfl (l' := #[.val (.long i0), .second, .val (.long i1), .second, .val (.long i2), .second, .val (.long i3), .second, .val (.int i4), .val (.ref ua), .unset, .unset, .unset, .unset, .unset, .unset, .unset, .unset, .unset, .unset, .unset]) rfl hr_) ?_
  refine own_by (T' := T1_) (g' := (mkF m 7 #[.val (.long i0), .second, .val (.long i1), .second, .val (.long i2), .second, .val (.long i3), .second, .val (.int i4), .val (.ref ua), .unset, .unset, .unset, .unset, .unset, .unset, .unset, .unset, .unset, .unset, .unset] [(.long i0)])) (fun t_ hr_ => XS.lloadN A1_ hx rfl (Jvm.hb hby at_6) rfl hr_) ?_
  refine own_by (T' := T1_) (g' := (mkF m 9 #[.val (.long i0), .second, .val (.long i1), .second, .val (.long i2), .second, .val (.long i3), .second, .val (.int i4), .val (.ref ua), .unset, .unset, .unset, .unset, .unset, .unset, .unset, .unset, .unset, .unset, .unset] [(.int (18 : Int32)), (.long i0)])) (fun t_ hr_ => XS.bipush A1_ hx rfl (Jvm.hb hby at_7) hr_) ?_
  refine own_by (T' := T1_) (g' := (mkF m 10 #[.val (.long i0), .second, .val (.long i1), .second, .val (.long i2), .second, .val (.long i3), .second, .val (.int i4), .val (.ref ua), .unset, .unset, .unset, .unset, .unset, .unset, .unset, .unset, .unset, .unset, .unset] [(.long ((i0.toUInt64 >>> ((18 : Int32) &&& 0x3f).toInt64.toUInt64).toInt64))])) (fun t_ hr_ => XS.lushr A1_ hx rfl (Jvm.hb hby at_9) rfl hr_) ?_
  refine own_callS w1_ hx (y := (⟨"com/example/hecate/hecate/identity/VerifiedIdentityEqualsPinLaw", "mk", "(J)Ljava/lang/String;"⟩ : MethodName)) (hw _ (List.mem_of_getElem? (i := 0) rfl)) (hw _ (List.mem_of_getElem? (i := 1) rfl)) (hw _ (List.mem_of_getElem? (i := 2) rfl)) (hw _ (List.mem_of_getElem? (i := 3) rfl)) (by decide) (kc := 6) (ks := 16) (argsL := [(.long ((i0.toUInt64 >>> ((18 : Int32) &&& 0x3f).toInt64.toUInt64).toInt64))]) (rest := []) (own_payCt (W := 0) (ct1 l Z a0 hw SC n0 h1_ (own_old w1_) ((i0.toUInt64 >>> ((18 : Int32) &&& 0x3f).toInt64.toUInt64).toInt64)) w1_ (hw _ (List.mem_of_getElem? (i := 3) rfl)) (hw _ (List.mem_of_getElem? (i := 2) rfl)) hEL (by decide) (by decide)) (g := (mkF m 10 #[.val (.long i0), .second, .val (.long i1), .second, .val (.long i2), .second, .val (.long i3), .second, .val (.int i4), .val (.ref ua), .unset, .unset, .unset, .unset, .unset, .unset, .unset, .unset, .unset, .unset, .unset] [(.long ((i0.toUInt64 >>> ((18 : Int32) &&& 0x3f).toInt64.toUInt64).toInt64))])) rfl (by rw [hml]; rfl) (lenOf pd_837611931 rfl) rfl (by show 2 * 0 + _ ≤ _; exact Nat.le_of_eq rfl) (Jvm.hb hby at_10) (by decide) (by decide) (fun v2_ T2_ vm2_ h2_ q2_ C2_ w2_ => ?_)
  obtain ⟨ea, eas, rfl, Eea, Sea, lea⟩ := q2_
  have A2_ := own_at w2_
  show own_WP p e _ below s Z _ n0 _ T2_ (mkF m 13 #[.val (.long i0), .second, .val (.long i1), .second, .val (.long i2), .second, .val (.long i3), .second, .val (.int i4), .val (.ref ua), .unset, .unset, .unset, .unset, .unset, .unset, .unset, .unset, .unset, .unset, .unset] [(.ref ea)])
  refine own_by (T' := T2_) (g' := (mkF m 15 #[.val (.long i0), .second, .val (.long i1), .second, .val (.long i2), .second, .val (.long i3), .second, .val (.int i4), .val (.ref ua), .val (.ref ea), .unset, .unset, .unset, .unset, .unset, .unset, .unset, .unset, .unset, .unset] [])) (fun t_ hr_ => XS.astore A2_ hx rfl (Jvm.hb hby at_13) rfl rfl (l' := #[.val (.long i0), .second, .val (.long i1), .second, .val (.long i2), .second, .val (.long i3), .second, .val (.int i4), .val (.ref ua), .val (.ref ea), .unset, .unset, .unset, .unset, .unset, .unset, .unset, .unset, .unset, .unset]) rfl hr_) ?_
  refine own_by (T' := T2_) (g' := (mkF m 16 #[.val (.long i0), .second, .val (.long i1), .second, .val (.long i2), .second, .val (.long i3), .second, .val (.int i4), .val (.ref ua), .val (.ref ea), .unset, .unset, .unset, .unset, .unset, .unset, .unset, .unset, .unset, .unset] [(.long i0)])) (fun t_ hr_ => XS.lloadN A2_ hx rfl (Jvm.hb hby at_15) rfl hr_) ?_
  refine own_by (T' := T2_) (g' := (mkF m 18 #[.val (.long i0), .second, .val (.long i1), .second, .val (.long i2), .second, .val (.long i3), .second, .val (.int i4), .val (.ref ua), .val (.ref ea), .unset, .unset, .unset, .unset, .unset, .unset, .unset, .unset, .unset, .unset] [(.int (36 : Int32)), (.long i0)])) (fun t_ hr_ => XS.bipush A2_ hx rfl (Jvm.hb hby at_16) hr_) ?_
  refine own_by (T' := T2_) (g' := (mkF m 19 #[.val (.long i0), .second, .val (.long i1), .second, .val (.long i2), .second, .val (.long i3), .second, .val (.int i4), .val (.ref ua), .val (.ref ea), .unset, .unset, .unset, .unset, .unset, .unset, .unset, .unset, .unset, .unset] [(.long ((i0.toUInt64 >>> ((36 : Int32) &&& 0x3f).toInt64.toUInt64).toInt64))])) (fun t_ hr_ => XS.lushr A2_ hx rfl (Jvm.hb hby at_18) rfl hr_) ?_
  refine own_callS w2_ hx (y := (⟨"com/example/hecate/hecate/identity/VerifiedIdentityEqualsPinLaw", "mk", "(J)Ljava/lang/String;"⟩ : MethodName)) (hw _ (List.mem_of_getElem? (i := 0) rfl)) (hw _ (List.mem_of_getElem? (i := 1) rfl)) (hw _ (List.mem_of_getElem? (i := 2) rfl)) (hw _ (List.mem_of_getElem? (i := 3) rfl)) (by decide) (kc := 6) (ks := 16) (argsL := [(.long ((i0.toUInt64 >>> ((36 : Int32) &&& 0x3f).toInt64.toUInt64).toInt64))]) (rest := []) (own_payCt (W := 0) (ct1 l Z a0 hw SC n0 h2_ (own_old w2_) ((i0.toUInt64 >>> ((36 : Int32) &&& 0x3f).toInt64.toUInt64).toInt64)) w2_ (hw _ (List.mem_of_getElem? (i := 3) rfl)) (hw _ (List.mem_of_getElem? (i := 2) rfl)) hEL (by decide) (by decide)) (g := (mkF m 19 #[.val (.long i0), .second, .val (.long i1), .second, .val (.long i2), .second, .val (.long i3), .second, .val (.int i4), .val (.ref ua), .val (.ref ea), .unset, .unset, .unset, .unset, .unset, .unset, .unset, .unset, .unset, .unset] [(.long ((i0.toUInt64 >>> ((36 : Int32) &&& 0x3f).toInt64.toUInt64).toInt64))])) rfl (by rw [hml]; rfl) (lenOf pd_837611931 rfl) rfl (by show 2 * 0 + _ ≤ _; exact Nat.le_of_eq rfl) (Jvm.hb hby at_19) (by decide) (by decide) (fun v3_ T3_ vm3_ h3_ q3_ C3_ w3_ => ?_)
  obtain ⟨ra, ras, rfl, Era, Sra, lra⟩ := q3_
  have A3_ := own_at w3_
  show own_WP p e _ below s Z _ n0 _ T3_ (mkF m 22 #[.val (.long i0), .second, .val (.long i1), .second, .val (.long i2), .second, .val (.long i3), .second, .val (.int i4), .val (.ref ua), .val (.ref ea), .unset, .unset, .unset, .unset, .unset, .unset, .unset, .unset, .unset, .unset] [(.ref ra)])
  exact J22 hw SC SF hx hby hml hret hlk hnm i0 i1 i2 i3 i4 ua ea ra uas eas ras (own_mono w3_ (by decide : 18 ≤ 18) (by decide : 48 ≤ 48)) (Sua.ext (own_extTrans Eea Era)) (Sea.ext Era) Sra lua lea lra

set_option maxRecDepth 65536 in
set_option maxHeartbeats 40000000 in
theorem comes_1 {Post : Tables → Env → Array Value → State → Outcome → State → Prop} (hpost : ∀ tb e args s v u, (limb_1_1.after args s (.returned v) u = true ∧ limb_1_2.after args s (.returned v) u = true ∧ True) → Jvm.D.FramedW s (.returned v) u (Jvm.fieldLocs frame_1_writes args s ++ Jvm.arrayLocs frame_1_arrays args s ++ Jvm.staticLocs frame_1_statics s) 56 1280 → Post tb e args s (.returned v) u) :
    ArmFor flags0 classFile x code maxLocals ret World_1 tables_1 room_1 Calls_1 rest_1 Pre_1 Post := by
  intro l hfl _ _ p e ha hc hk s m args below hf hA hF happ hP
  obtain ⟨hcalls, hrest, hpre⟩ := hP
  obtain ⟨-, -, -, hnamed, -, -, -, hat⟩ := (Spec.applies_iff hf).mp happ
  obtain ⟨hg, hn⟩ := and_e (Cond.before_iff.mp (show (Jvm.Cond.and given_1 narrow_1).before args s = true from hpre))
  obtain ⟨hcnt, hg0⟩ := and_e hg
  obtain ⟨ha0, hg1⟩ := and_e hg0
  obtain ⟨ha1, hg2⟩ := and_e hg1
  obtain ⟨ha2, hg3⟩ := and_e hg2
  obtain ⟨ha3, hg4⟩ := and_e hg3
  have ha4 := hg4
  obtain ⟨w0, w1, w2, w3, w4, rfl⟩ : ∃ w0 w1 w2 w3 w4 : Value, args = #[w0, w1, w2, w3, w4] := by
    have hs : args.size = 5 := by simpa [Cond.value, given_1] using hcnt
    obtain ⟨L⟩ := args
    match L, hs with
    | [w0, w1, w2, w3, w4], _ => exact ⟨w0, w1, w2, w3, w4, rfl⟩
  have hw := fun d (hd : d ∈ tables_1) => atoms_spec (ws := Jvm.Cond.code x code maxLocals ret :: tables_1) hat d (List.mem_cons_of_mem _ hd)
  obtain ⟨hsets, hown0⟩ := atoms_of _ (rest_1_c_eq ▸ (show rest_1_c.before _ s = true from hrest))
  obtain ⟨i0, ei0⟩ := isL_v ha0
  obtain rfl : w0 = (.long i0) := Option.some.inj ei0
  obtain ⟨i1, ei1⟩ := isL_v ha1
  obtain rfl : w1 = (.long i1) := Option.some.inj ei1
  obtain ⟨i2, ei2⟩ := isL_v ha2
  obtain rfl : w2 = (.long i2) := Option.some.inj ei2
  obtain ⟨i3, ei3⟩ := isL_v ha3
  obtain rfl : w3 = (.long i3) := Option.some.inj ei3
  obtain ⟨i4, ei4⟩ := is_v ha4
  obtain rfl : w4 = (.int i4) := Option.some.inj ei4
  have n3 := not_v (Cond.before_iff.mp (hsets _ (List.mem_of_getElem? (i := 2) rfl)))
  obtain ⟨zc, ec⟩ := is_v (Cond.before_iff.mp (hsets _ (List.mem_of_getElem? (i := 1) rfl)))
  have SC : own_SC s := ⟨zc, Sta.start ec (Or.inl (hsets _ (List.mem_of_getElem? (i := 0) rfl))), gotF (Cond.eq_ints ec (Term.int_eval (0))) n3⟩
  obtain ⟨vf, ef, rf⟩ := isR_v (Cond.before_iff.mp (hsets _ (List.mem_of_getElem? (i := 8) rfl)))
  have SF : own_SF s := ⟨vf, Sta.start ef (Or.inl (hsets _ (List.mem_of_getElem? (i := 7) rfl))), rf⟩
  have hCH : CHv s consts_1 s.vm s.heap := CHv.start (own_EL hw) (fun q hq => hcalls.1 q hq) (hsets _ (List.mem_of_getElem? (i := 2) rfl)) (hw _ (List.mem_of_getElem? (i := 25) rfl)) (hw _ (List.mem_of_getElem? (i := 7) rfl))
  obtain ⟨n, o, h1, h2, h3, _, L, rfl, ⟨rfl, N, -⟩, -, hq⟩ := ctLaw l s _ hw SC SF s.heap.size s.heap (Old.start s) i0 i1 i2 i3 i4  tables_1 p e ha hc hk s m _ below hf ((Spec.applies_iff_loose hf).mp happ).1 ⟨rfl, State.Warmed39.refl s, rfl, hCH, fun x hx => by cases hx⟩ trivial
  refine ⟨n, _, h1, h2, h3, hpost _ _ _ _ _ _ ⟨Cond.after_iff.mpr rfl, Cond.after_iff.mpr (eq_i res_at (Term.int_eval (1)) rfl), trivial⟩ ⟨hq.1, hq.2.1, hq.2.2.1, (hq.2.2.2.sift fun y hy => Or.inr (N y hy)).mono (by decide) (by decide)⟩⟩
theorem main_1_1 : Claimed_1_1 := comes_1 fun _ _ _ _ _ _ h hF => ⟨h.1, hF⟩
theorem main_1_2 : Claimed_1_2 := comes_1 fun _ _ _ _ _ _ h hF => ⟨h.2.1, hF⟩

end Jvm.Pilot.@@N@@
namespace Jvm.Pilot.@@N@@
open Jvm Jvm.ClassFile Sem Op Lib Jvm.Free Jvm.Stand Jvm.Pilot.@@N@@.Jvm.D
/-! MADE BY PROGRAM (witnessworld.py) out of the Statement's table words and the real class files: 20 classes; the members and pool entries that the words name. The judged class is class 1, her method 3. -/
namespace start1
open Jvm.ClassFile
def u (s : String) : CpInfo := .utf8 (stringToUtf16 s)
/-- a pool by its gaps: so many unusable entries, then the entry; so many at the end -/
def gap : Nat → List CpInfo → List CpInfo
  | 0, r => r
  | n + 1, r => .unusable :: gap n r
def poolList (es : List (Nat × CpInfo)) (last : Nat) : List CpInfo := es.foldr (fun e r => gap e.1 (e.2 :: r)) (gap last [])
def pool (es : List (Nat × CpInfo)) (last : Nat) : Array CpInfo := ⟨poolList es last⟩
def fileOf (pool : Array CpInfo) (this : Nat) (attrs : Array Attribute := #[]) (ms : Array MethodInfo := #[]) (fl : Nat := 33) (sup : Nat := 0) (ifs : Array Nat := #[]) (fds : Array FieldInfo := #[]) : ClassFile where
  minorVersion := 0
  majorVersion := 65
  constantPool := pool
  accessFlags := fl
  thisClass := this
  superClass := sup
  interfaces := ifs
  fields := fds
  methods := ms
  attributes := attrs
def plain (name : String) (sup : Option ClassId) : Class where
  name := name
  kind := .ordinary
  loader := none
  accessFlags := 33
  super := sup
  interfaces := #[]
  cf := none
  fields := #[]
  methods := #[]
  instanceTypes := #[]
  staticTypes := #[]
  resolved := #[]
  callSites := []
  init := .initialized
  statics := none
  mirror := none

def pool0 : Array CpInfo := pool [(5, u "<init>"), (0, u "()V"), (1, .class_ 10), (1, u "java/lang/Object")] 113

def k0c0 : Code := { maxStack := 0, maxLocals := 1, code := object_method_1_code, exceptionTable := #[], attributes := #[] }
def k0m0 : Method := { name := "<init>", desc := "()V", sig := { parameters := [], returnType := none }, accessFlags := 1, code := some k0c0 }
/-- java/lang/Object -/
def k0 : Class := { plain "java/lang/Object" none with
  accessFlags := 33
  interfaces := #[]
  cf := some (fileOf pool0 8 #[] #[{ accessFlags := 1, nameIndex := 5, descriptorIndex := 6, attributes := #[] }] 33 0 #[] #[])
  fields := #[]
  methods := #[k0m0]
  instanceTypes := #[]
  staticTypes := #[]
  resolved := Array.replicate 124 none
  statics := none }

def pool1 : Array CpInfo := pool [(2, .class_ 4), (1, u "java/lang/Object"), (0, u "<init>"), (0, u "()V"), (0, .long 3), (1, .long 255), (1, .class_ 12), (0, u "java/lang/String"), (0, .methodref 11 14), (0, .nameAndType 5 15), (0, u "([C)V"), (0, .methodref 11 17), (0, .nameAndType 18 19), (0, u "length"), (0, u "()I"), (0, .methodref 11 21), (0, .nameAndType 22 23), (0, u "charAt"), (0, u "(I)C"), (0, .methodref 25 26), (0, .class_ 27), (0, .nameAndType 28 29), (0, u "com/example/hecate/hecate/identity/VerifiedIdentityEqualsPinLaw"), (0, u "mk"), (0, u "(J)Ljava/lang/String;"), (0, .class_ 31), (0, u "com/example/hecate/hecate/identity/VerifiedIdentity"), (0, .methodref 30 33), (0, .nameAndType 5 34), (0, u "(Ljava/lang/String;Ljava/lang/String;Ljava/lang/String;J)V"), (0, .methodref 30 36), (0, .nameAndType 37 38), (0, u "equals"), (0, u "(Ljava/lang/Object;)Z"), (0, .methodref 25 40), (0, .nameAndType 41 42), (0, u "same"), (0, u "(Ljava/lang/String;Ljava/lang/String;)Z"), (3, u "law"), (0, u "(JJJJI)Z")] 2

def k1m0 : Method := { name := "<init>", desc := "()V", sig := { parameters := [], returnType := none }, accessFlags := 1, code := none }
def k1c1 : Code := { maxStack := 6, maxLocals := 5, code := method_2_code, exceptionTable := #[], attributes := #[] }
def k1m1 : Method := { name := "mk", desc := "(J)Ljava/lang/String;", sig := { parameters := [.long], returnType := some (.object "java/lang/String") }, accessFlags := 10, code := some k1c1 }
def k1c2 : Code := { maxStack := 3, maxLocals := 3, code := method_3_code, exceptionTable := #[], attributes := #[] }
def k1m2 : Method := { name := "same", desc := "(Ljava/lang/String;Ljava/lang/String;)Z", sig := { parameters := [(.object "java/lang/String"), (.object "java/lang/String")], returnType := some .boolean }, accessFlags := 10, code := some k1c2 }
def k1c3 : Code := { maxStack := 7, maxLocals := 21, code := code, exceptionTable := #[], attributes := #[] }
def k1m3 : Method := { name := "law", desc := "(JJJJI)Z", sig := { parameters := [.long, .long, .long, .long, .int], returnType := some .boolean }, accessFlags := 9, code := some k1c3 }
/-- com/example/hecate/hecate/identity/VerifiedIdentityEqualsPinLaw -/
def k1 : Class := { plain "com/example/hecate/hecate/identity/VerifiedIdentityEqualsPinLaw" (some 0) with
  accessFlags := 49
  interfaces := #[]
  cf := some (fileOf pool1 25 #[] #[{ accessFlags := 1, nameIndex := 5, descriptorIndex := 6, attributes := #[] }, { accessFlags := 10, nameIndex := 28, descriptorIndex := 29, attributes := #[] }, { accessFlags := 10, nameIndex := 41, descriptorIndex := 42, attributes := #[] }, { accessFlags := 9, nameIndex := 46, descriptorIndex := 47, attributes := #[] }] 49 2 #[] #[])
  fields := #[]
  methods := #[k1m0, k1m1, k1m2, k1m3]
  instanceTypes := #[]
  staticTypes := #[]
  resolved := Array.replicate 50 none
  statics := none }

def pool2 : Array CpInfo := pool [(1, .class_ 2), (0, u "java/io/Serializable"), (0, .class_ 4), (0, u "java/lang/Object")] 2

/-- java/io/Serializable -/
def k2 : Class := { plain "java/io/Serializable" (some 0) with
  accessFlags := 1537
  interfaces := #[]
  cf := some (fileOf pool2 1 #[] #[] 1537 3 #[] #[])
  fields := #[]
  methods := #[]
  instanceTypes := #[]
  staticTypes := #[]
  resolved := Array.replicate 7 none
  statics := none }

def pool3 : Array CpInfo := pool [(1, .class_ 2), (0, u "java/lang/Comparable"), (0, .class_ 4), (0, u "java/lang/Object")] 7

/-- java/lang/Comparable -/
def k3 : Class := { plain "java/lang/Comparable" (some 0) with
  accessFlags := 1537
  interfaces := #[]
  cf := some (fileOf pool3 1 #[] #[] 1537 3 #[] #[])
  fields := #[]
  methods := #[]
  instanceTypes := #[]
  staticTypes := #[]
  resolved := Array.replicate 12 none
  statics := none }

def pool4 : Array CpInfo := pool [(2, .class_ 4), (1, u "java/lang/CharSequence"), (42, .class_ 48), (0, u "java/lang/CharSequence$1CodePointIterator"), (10, .class_ 60), (0, u "java/lang/CharSequence$1CharIterator"), (5, .class_ 67), (0, u "java/lang/Object")] 63

/-- java/lang/CharSequence -/
def k4 : Class := { plain "java/lang/CharSequence" (some 0) with
  accessFlags := 1537
  interfaces := #[]
  cf := some (fileOf pool4 2 #[.nestMembers #[47, 59]] #[] 1537 66 #[] #[])
  fields := #[]
  methods := #[]
  instanceTypes := #[]
  staticTypes := #[]
  resolved := Array.replicate 131 none
  statics := none }

def pool5 : Array CpInfo := pool [(1, .class_ 2), (0, u "java/lang/constant/Constable"), (0, .class_ 4), (0, u "java/lang/Object")] 6

/-- java/lang/constant/Constable -/
def k5 : Class := { plain "java/lang/constant/Constable" (some 0) with
  accessFlags := 1537
  interfaces := #[]
  cf := some (fileOf pool5 1 #[] #[] 1537 3 #[] #[])
  fields := #[]
  methods := #[]
  instanceTypes := #[]
  staticTypes := #[]
  resolved := Array.replicate 11 none
  statics := none }

def pool6 : Array CpInfo := pool [(1, .class_ 2), (0, u "java/lang/constant/ConstantDesc"), (0, .class_ 4), (0, u "java/lang/Object")] 32

/-- java/lang/constant/ConstantDesc -/
def k6 : Class := { plain "java/lang/constant/ConstantDesc" (some 0) with
  accessFlags := 1537
  interfaces := #[]
  cf := some (fileOf pool6 1 #[] #[] 1537 3 #[] #[])
  fields := #[]
  methods := #[]
  instanceTypes := #[]
  staticTypes := #[]
  resolved := Array.replicate 37 none
  statics := none }

def pool7 : Array CpInfo := pool [(1, .methodref 2 3), (0, .class_ 4), (0, .nameAndType 5 6), (0, u "java/lang/Object"), (0, u "<init>"), (0, u "()V"), (0, .string 8), (0, u ""), (0, .fieldref 10 11), (0, .class_ 12), (0, .nameAndType 13 14), (0, u "java/lang/String"), (0, u "value"), (0, u "[B"), (0, .fieldref 10 16), (0, .nameAndType 17 18), (0, u "coder"), (0, u "B"), (2, u "hash"), (0, u "I"), (2, u "hashIsZero"), (0, u "Z"), (0, .methodref 10 28), (0, .nameAndType 5 29), (0, u "([CIILjava/lang/Void;)V"), (8, .fieldref 10 39), (0, .nameAndType 40 26), (0, u "COMPACT_STRINGS"), (1, .class_ 44), (1, u "java/lang/StringUTF16"), (0, u "compress"), (1, .methodref 42 48), (0, .nameAndType 49 50), (0, u "coderFromArrayLen"), (0, u "([BI)B"), (56, .class_ 109), (1, u "java/lang/StringLatin1"), (32, u "()Z"), (34, .methodref 42 178), (0, .nameAndType 45 179), (0, u "([CII)[B"), (154, u "()I"), (0, .methodref 10 336), (0, .nameAndType 17 337), (0, u "()B"), (25, u "([BI)C"), (27, u "(II)V"), (35, u "(I)C"), (64, .methodref 10 493), (0, .nameAndType 494 142), (0, u "isLatin1"), (0, .methodref 107 496), (0, .nameAndType 497 363), (0, u "charAt"), (3, u "checkIndex"), (5, u "length"), (33, .methodref 107 542), (0, .nameAndType 543 544), (0, u "equals"), (0, u "([B[B)Z"), (28, u "(Ljava/lang/Object;)Z"), (1, .class_ 576), (0, u "java/lang/CharSequence"), (22, u "CASE_INSENSITIVE_ORDER"), (0, u "Ljava/util/Comparator;"), (409, u "([C)V"), (42, .fieldref 1054 1055), (0, .class_ 1056), (0, .nameAndType 1057 1058), (0, u "jdk/internal/util/Preconditions"), (0, u "SIOOBE_FORMATTER"), (0, u "Ljava/util/function/BiFunction;"), (0, .methodref 1054 1060), (0, .nameAndType 501 1061), (0, u "(IILjava/util/function/BiFunction;)I"), (39, u "serialPersistentFields"), (0, u "[Ljava/io/ObjectStreamField;"), (0, .class_ 1104), (0, u "java/lang/String$CaseInsensitiveComparator"), (1, .class_ 1107), (0, u "java/io/Serializable"), (0, .class_ 1109), (0, u "java/lang/Comparable"), (0, .class_ 1111), (0, u "java/lang/constant/Constable"), (0, .class_ 1113), (0, u "java/lang/constant/ConstantDesc"), (2, u "serialVersionUID"), (0, u "J"), (3, u "REPL"), (0, u "C"), (2, u "LATIN1"), (1, u "UTF16")] 323

def k7m0 : Method := { name := "<init>", desc := "()V", sig := { parameters := [], returnType := none }, accessFlags := 1, code := none }
def k7c1 : Code := { maxStack := 5, maxLocals := 2, code := jdk_42_method_3_code, exceptionTable := #[], attributes := #[] }
def k7m1 : Method := { name := "<init>", desc := "([C)V", sig := { parameters := [(.array .char)], returnType := none }, accessFlags := 1, code := some k7c1 }
def k7c2 : Code := { maxStack := 2, maxLocals := 1, code := jdk_42_method_54_code, exceptionTable := #[], attributes := #[] }
def k7m2 : Method := { name := "length", desc := "()I", sig := { parameters := [], returnType := some .int }, accessFlags := 1, code := some k7c2 }
def k7c3 : Code := { maxStack := 2, maxLocals := 2, code := jdk_42_method_56_code, exceptionTable := #[], attributes := #[] }
def k7m3 : Method := { name := "charAt", desc := "(I)C", sig := { parameters := [.int], returnType := some .char }, accessFlags := 1, code := some k7c3 }
def k7c4 : Code := { maxStack := 2, maxLocals := 3, code := jdk_42_method_66_code, exceptionTable := #[], attributes := #[] }
def k7m4 : Method := { name := "equals", desc := "(Ljava/lang/Object;)Z", sig := { parameters := [(.object "java/lang/Object")], returnType := some .boolean }, accessFlags := 1, code := some k7c4 }
def k7c5 : Code := { maxStack := 4, maxLocals := 6, code := jdk_42_method_149_code, exceptionTable := #[], attributes := #[] }
def k7m5 : Method := { name := "<init>", desc := "([CIILjava/lang/Void;)V", sig := { parameters := [(.array .char), .int, .int, (.object "java/lang/Void")], returnType := none }, accessFlags := 2, code := some k7c5 }
def k7c6 : Code := { maxStack := 1, maxLocals := 1, code := jdk_42_method_152_code, exceptionTable := #[], attributes := #[] }
def k7m6 : Method := { name := "coder", desc := "()B", sig := { parameters := [], returnType := some .byte }, accessFlags := 0, code := some k7c6 }
def k7c7 : Code := { maxStack := 1, maxLocals := 1, code := jdk_42_method_154_code, exceptionTable := #[], attributes := #[] }
def k7m7 : Method := { name := "isLatin1", desc := "()Z", sig := { parameters := [], returnType := some .boolean }, accessFlags := 0, code := some k7c7 }
def k7c8 : Code := { maxStack := 3, maxLocals := 2, code := jdk_42_method_155_code, exceptionTable := #[], attributes := #[] }
def k7m8 : Method := { name := "checkIndex", desc := "(II)V", sig := { parameters := [.int, .int], returnType := none }, accessFlags := 8, code := some k7c8 }
/-- java/lang/String -/
def k7 : Class := { plain "java/lang/String" (some 0) with
  accessFlags := 49
  interfaces := #[2, 3, 4, 5, 6]
  cf := some (fileOf pool7 10 #[.nestMembers #[1103]] #[{ accessFlags := 1, nameIndex := 5, descriptorIndex := 6, attributes := #[] }, { accessFlags := 1, nameIndex := 5, descriptorIndex := 1010, attributes := #[] }, { accessFlags := 1, nameIndex := 507, descriptorIndex := 334, attributes := #[] }, { accessFlags := 1, nameIndex := 497, descriptorIndex := 427, attributes := #[] }, { accessFlags := 1, nameIndex := 543, descriptorIndex := 573, attributes := #[] }, { accessFlags := 2, nameIndex := 5, descriptorIndex := 29, attributes := #[] }, { accessFlags := 0, nameIndex := 17, descriptorIndex := 337, attributes := #[] }, { accessFlags := 0, nameIndex := 494, descriptorIndex := 142, attributes := #[] }, { accessFlags := 8, nameIndex := 501, descriptorIndex := 391, attributes := #[] }] 49 2 #[1106, 1108, 575, 1110, 1112] #[{ accessFlags := 18, nameIndex := 13, descriptorIndex := 14, attributes := #[] }, { accessFlags := 18, nameIndex := 17, descriptorIndex := 18, attributes := #[] }, { accessFlags := 2, nameIndex := 21, descriptorIndex := 22, attributes := #[] }, { accessFlags := 2, nameIndex := 25, descriptorIndex := 26, attributes := #[] }, { accessFlags := 26, nameIndex := 1116, descriptorIndex := 1117, attributes := #[] }, { accessFlags := 24, nameIndex := 40, descriptorIndex := 26, attributes := #[] }, { accessFlags := 26, nameIndex := 1101, descriptorIndex := 1102, attributes := #[] }, { accessFlags := 26, nameIndex := 1121, descriptorIndex := 1122, attributes := #[] }, { accessFlags := 25, nameIndex := 599, descriptorIndex := 600, attributes := #[] }, { accessFlags := 24, nameIndex := 1125, descriptorIndex := 18, attributes := #[] }, { accessFlags := 24, nameIndex := 1127, descriptorIndex := 18, attributes := #[] }])
  fields := #[{ name := "value", type := (.array .byte), accessFlags := 18, slot := 0, constantValue := 0 }, { name := "coder", type := .byte, accessFlags := 18, slot := 1, constantValue := 0 }, { name := "hash", type := .int, accessFlags := 2, slot := 2, constantValue := 0 }, { name := "hashIsZero", type := .boolean, accessFlags := 2, slot := 3, constantValue := 0 }, { name := "serialVersionUID", type := .long, accessFlags := 26, slot := 0, constantValue := 0 }, { name := "COMPACT_STRINGS", type := .boolean, accessFlags := 24, slot := 1, constantValue := 0 }, { name := "serialPersistentFields", type := (.array (.object "java/io/ObjectStreamField")), accessFlags := 26, slot := 2, constantValue := 0 }, { name := "REPL", type := .char, accessFlags := 26, slot := 3, constantValue := 0 }, { name := "CASE_INSENSITIVE_ORDER", type := (.object "java/util/Comparator"), accessFlags := 25, slot := 4, constantValue := 0 }, { name := "LATIN1", type := .byte, accessFlags := 24, slot := 5, constantValue := 0 }, { name := "UTF16", type := .byte, accessFlags := 24, slot := 6, constantValue := 0 }]
  methods := #[k7m0, k7m1, k7m2, k7m3, k7m4, k7m5, k7m6, k7m7, k7m8]
  instanceTypes := #[(.array .byte), .byte, .int, .boolean]
  staticTypes := #[.long, .boolean, (.array (.object "java/io/ObjectStreamField")), .char, (.object "java/util/Comparator"), .byte, .byte]
  resolved := Array.replicate 1451 none
  statics := some 0 }

def pool8 : Array CpInfo := pool [(6, .class_ 8), (1, u "java/lang/Object"), (0, u "<init>"), (0, u "()V"), (1, .class_ 14), (1, u "java/lang/StringUTF16"), (31, u "$assertionsDisabled"), (0, u "Z"), (13, u "HI_BYTE_SHIFT"), (0, u "I"), (2, u "LO_BYTE_SHIFT"), (49, .methodref 12 116), (0, .nameAndType 117 118), (0, u "compress"), (0, u "([CI[BII)I"), (3, u "([CII)[B"), (138, u "coderFromArrayLen"), (0, u "([BI)B"), (106, .class_ 371), (1, u "java/lang/StringUTF16$LinesSpliterator"), (58, u "MAX_LENGTH"), (196, .class_ 628), (0, u "java/lang/StringUTF16$CodePointsSpliterator"), (0, .class_ 630), (0, u "java/lang/StringUTF16$CharsSpliterator")] 4

def k8m0 : Method := { name := "<init>", desc := "()V", sig := { parameters := [], returnType := none }, accessFlags := 0, code := none }
def k8c1 : Code := { maxStack := 2, maxLocals := 2, code := jdk_52_method_15_code, exceptionTable := #[], attributes := #[] }
def k8m1 : Method := { name := "coderFromArrayLen", desc := "([BI)B", sig := { parameters := [(.array .byte), .int], returnType := some .byte }, accessFlags := 8, code := some k8c1 }
def k8c2 : Code := { maxStack := 5, maxLocals := 6, code := jdk_52_method_16_code, exceptionTable := #[], attributes := #[] }
def k8m2 : Method := { name := "compress", desc := "([CII)[B", sig := { parameters := [(.array .char), .int, .int], returnType := some (.array .byte) }, accessFlags := 9, code := some k8c2 }
def k8c3 : Code := { maxStack := 3, maxLocals := 7, code := jdk_52_method_21_code, exceptionTable := #[], attributes := #[] }
def k8m3 : Method := { name := "compress", desc := "([CI[BII)I", sig := { parameters := [(.array .char), .int, (.array .byte), .int, .int], returnType := some .int }, accessFlags := 9, code := some k8c3 }
/-- java/lang/StringUTF16 -/
def k8 : Class := { plain "java/lang/StringUTF16" (some 0) with
  accessFlags := 48
  interfaces := #[]
  cf := some (fileOf pool8 12 #[.nestMembers #[627, 629, 369]] #[{ accessFlags := 0, nameIndex := 9, descriptorIndex := 10, attributes := #[] }, { accessFlags := 8, nameIndex := 261, descriptorIndex := 262, attributes := #[] }, { accessFlags := 9, nameIndex := 117, descriptorIndex := 122, attributes := #[] }, { accessFlags := 9, nameIndex := 117, descriptorIndex := 118, attributes := #[] }] 48 6 #[] #[{ accessFlags := 26, nameIndex := 61, descriptorIndex := 62, attributes := #[] }, { accessFlags := 26, nameIndex := 65, descriptorIndex := 62, attributes := #[] }, { accessFlags := 24, nameIndex := 430, descriptorIndex := 62, attributes := #[] }, { accessFlags := 4120, nameIndex := 46, descriptorIndex := 47, attributes := #[] }])
  fields := #[{ name := "HI_BYTE_SHIFT", type := .int, accessFlags := 26, slot := 0, constantValue := 0 }, { name := "LO_BYTE_SHIFT", type := .int, accessFlags := 26, slot := 1, constantValue := 0 }, { name := "MAX_LENGTH", type := .int, accessFlags := 24, slot := 2, constantValue := 0 }, { name := "$assertionsDisabled", type := .boolean, accessFlags := 4120, slot := 3, constantValue := 0 }]
  methods := #[k8m0, k8m1, k8m2, k8m3]
  instanceTypes := #[]
  staticTypes := #[.int, .int, .int, .boolean]
  resolved := Array.replicate 635 none
  statics := none }

def pool9 : Array CpInfo := pool [(1, .methodref 2 3), (0, .class_ 4), (0, .nameAndType 5 6), (0, u "java/lang/Object"), (0, u "<init>"), (0, u "()V"), (0, .fieldref 8 9), (0, .class_ 10), (0, .nameAndType 11 12), (0, u "com/example/hecate/hecate/identity/VerifiedIdentity"), (0, u "userId"), (0, u "Ljava/lang/String;"), (0, .fieldref 8 14), (0, .nameAndType 15 12), (0, u "email"), (0, .fieldref 8 17), (0, .nameAndType 18 12), (0, u "role"), (0, .fieldref 8 20), (0, .nameAndType 21 22), (0, u "timestamp"), (0, u "J"), (0, .methodref 24 25), (0, .class_ 26), (0, .nameAndType 27 28), (0, u "java/lang/String"), (0, u "equals"), (0, u "(Ljava/lang/Object;)Z"), (16, u "(Ljava/lang/String;Ljava/lang/String;Ljava/lang/String;J)V")] 25

def k9c0 : Code := { maxStack := 3, maxLocals := 6, code := prog_39_method_1_code, exceptionTable := #[], attributes := #[] }
def k9m0 : Method := { name := "<init>", desc := "(Ljava/lang/String;Ljava/lang/String;Ljava/lang/String;J)V", sig := { parameters := [(.object "java/lang/String"), (.object "java/lang/String"), (.object "java/lang/String"), .long], returnType := none }, accessFlags := 0, code := some k9c0 }
def k9c1 : Code := { maxStack := 4, maxLocals := 3, code := prog_39_method_6_code, exceptionTable := #[], attributes := #[] }
def k9m1 : Method := { name := "equals", desc := "(Ljava/lang/Object;)Z", sig := { parameters := [(.object "java/lang/Object")], returnType := some .boolean }, accessFlags := 1, code := some k9c1 }
/-- com/example/hecate/hecate/identity/VerifiedIdentity -/
def k9 : Class := { plain "com/example/hecate/hecate/identity/VerifiedIdentity" (some 0) with
  accessFlags := 49
  interfaces := #[]
  cf := some (fileOf pool9 8 #[] #[{ accessFlags := 0, nameIndex := 5, descriptorIndex := 45, attributes := #[] }, { accessFlags := 1, nameIndex := 27, descriptorIndex := 28, attributes := #[] }] 49 2 #[] #[{ accessFlags := 18, nameIndex := 11, descriptorIndex := 12, attributes := #[] }, { accessFlags := 18, nameIndex := 15, descriptorIndex := 12, attributes := #[] }, { accessFlags := 18, nameIndex := 18, descriptorIndex := 12, attributes := #[] }, { accessFlags := 18, nameIndex := 21, descriptorIndex := 22, attributes := #[] }])
  fields := #[{ name := "userId", type := (.object "java/lang/String"), accessFlags := 18, slot := 0, constantValue := 0 }, { name := "email", type := (.object "java/lang/String"), accessFlags := 18, slot := 1, constantValue := 0 }, { name := "role", type := (.object "java/lang/String"), accessFlags := 18, slot := 2, constantValue := 0 }, { name := "timestamp", type := .long, accessFlags := 18, slot := 3, constantValue := 0 }]
  methods := #[k9m0, k9m1]
  instanceTypes := #[(.object "java/lang/String"), (.object "java/lang/String"), (.object "java/lang/String"), .long]
  staticTypes := #[]
  resolved := Array.replicate 71 none
  statics := none }

def pool10 : Array CpInfo := pool [(1, .class_ 2), (0, u "java/lang/String"), (1, .class_ 6), (1, u "java/lang/Object"), (0, u "<init>"), (0, u "()V"), (0, .methodref 1 10), (0, .nameAndType 11 12), (0, u "checkIndex"), (0, u "(II)V"), (1, .class_ 16), (1, u "java/lang/StringLatin1"), (36, u "([BI)C"), (67, u "$assertionsDisabled"), (0, u "Z"), (98, .class_ 223), (1, u "java/lang/StringLatin1$LinesSpliterator"), (28, u "charAt"), (28, u "equals"), (0, u "([B[B)Z"), (107, .class_ 391), (0, u "java/lang/StringLatin1$CharsSpliterator")] 3

def k10m0 : Method := { name := "<init>", desc := "()V", sig := { parameters := [], returnType := none }, accessFlags := 0, code := none }
def k10c1 : Code := { maxStack := 2, maxLocals := 2, code := jdk_43_method_2_code, exceptionTable := #[], attributes := #[] }
def k10m1 : Method := { name := "charAt", desc := "([BI)C", sig := { parameters := [(.array .byte), .int], returnType := some .char }, accessFlags := 9, code := some k10c1 }
def k10c2 : Code := { maxStack := 3, maxLocals := 3, code := jdk_43_method_13_code, exceptionTable := #[], attributes := #[] }
def k10m2 : Method := { name := "equals", desc := "([B[B)Z", sig := { parameters := [(.array .byte), (.array .byte)], returnType := some .boolean }, accessFlags := 9, code := some k10c2 }
/-- java/lang/StringLatin1 -/
def k10 : Class := { plain "java/lang/StringLatin1" (some 0) with
  accessFlags := 48
  interfaces := #[]
  cf := some (fileOf pool10 14 #[.nestMembers #[390, 221]] #[{ accessFlags := 0, nameIndex := 7, descriptorIndex := 8, attributes := #[] }, { accessFlags := 9, nameIndex := 252, descriptorIndex := 53, attributes := #[] }, { accessFlags := 9, nameIndex := 281, descriptorIndex := 282, attributes := #[] }] 48 4 #[] #[{ accessFlags := 4120, nameIndex := 121, descriptorIndex := 122, attributes := #[] }])
  fields := #[{ name := "$assertionsDisabled", type := .boolean, accessFlags := 4120, slot := 0, constantValue := 0 }]
  methods := #[k10m0, k10m1, k10m2]
  instanceTypes := #[]
  staticTypes := #[.boolean]
  resolved := Array.replicate 395 none
  statics := none }

def pool11 : Array CpInfo := pool [(2, .class_ 4), (1, u "java/lang/Object"), (0, u "<init>"), (0, u "()V"), (17, .class_ 26), (1, u "jdk/internal/util/Preconditions"), (6, u "checkIndex"), (21, .class_ 56), (0, u "jdk/internal/util/Preconditions$4"), (57, .class_ 115), (0, u "jdk/internal/util/Preconditions$1"), (7, u "SIOOBE_FORMATTER"), (0, u "Ljava/util/function/BiFunction;"), (0, .class_ 126), (0, u "jdk/internal/util/Preconditions$2"), (3, u "AIOOBE_FORMATTER"), (0, .class_ 132), (0, u "jdk/internal/util/Preconditions$3"), (3, u "IOOBE_FORMATTER"), (41, u "(IILjava/util/function/BiFunction;)I")] 15

def k11m0 : Method := { name := "<init>", desc := "()V", sig := { parameters := [], returnType := none }, accessFlags := 1, code := none }
def k11c1 : Code := { maxStack := 3, maxLocals := 3, code := jdk_41_method_11_code, exceptionTable := #[], attributes := #[] }
def k11m1 : Method := { name := "checkIndex", desc := "(IILjava/util/function/BiFunction;)I", sig := { parameters := [.int, .int, (.object "java/util/function/BiFunction")], returnType := some .int }, accessFlags := 9, code := some k11c1 }
/-- jdk/internal/util/Preconditions -/
def k11 : Class := { plain "jdk/internal/util/Preconditions" (some 0) with
  accessFlags := 33
  interfaces := #[]
  cf := some (fileOf pool11 24 #[.nestMembers #[55, 131, 125, 114]] #[{ accessFlags := 1, nameIndex := 5, descriptorIndex := 6, attributes := #[] }, { accessFlags := 9, nameIndex := 33, descriptorIndex := 178, attributes := #[] }] 33 2 #[] #[{ accessFlags := 25, nameIndex := 123, descriptorIndex := 124, attributes := #[] }, { accessFlags := 25, nameIndex := 130, descriptorIndex := 124, attributes := #[] }, { accessFlags := 25, nameIndex := 136, descriptorIndex := 124, attributes := #[] }])
  fields := #[{ name := "SIOOBE_FORMATTER", type := (.object "java/util/function/BiFunction"), accessFlags := 25, slot := 0, constantValue := 0 }, { name := "AIOOBE_FORMATTER", type := (.object "java/util/function/BiFunction"), accessFlags := 25, slot := 1, constantValue := 0 }, { name := "IOOBE_FORMATTER", type := (.object "java/util/function/BiFunction"), accessFlags := 25, slot := 2, constantValue := 0 }]
  methods := #[k11m0, k11m1]
  instanceTypes := #[]
  staticTypes := #[(.object "java/util/function/BiFunction"), (.object "java/util/function/BiFunction"), (.object "java/util/function/BiFunction")]
  resolved := Array.replicate 194 none
  statics := some 1 }

def pool12 : Array CpInfo := pool [(9, u "<init>"), (6, .class_ 18), (1, u "java/lang/Object"), (0, u "()V"), (1, .class_ 23), (1, u "jdk/internal/util/ArraysSupport"), (0, u "LOG2_ARRAY_LONG_INDEX_SCALE"), (0, u "I"), (2, u "U"), (0, u "Ljdk/internal/misc/Unsafe;"), (8, u "BIG_ENDIAN"), (0, u "Z"), (8, u "LOG2_BYTE_BIT_SIZE"), (4, u "LOG2_ARRAY_INT_INDEX_SCALE"), (54, u "JLA"), (0, u "Ljdk/internal/access/JavaLangAccess;"), (11, u "LOG2_ARRAY_BOOLEAN_INDEX_SCALE"), (9, u "LOG2_ARRAY_BYTE_INDEX_SCALE"), (5, u "LOG2_ARRAY_CHAR_INDEX_SCALE"), (5, u "LOG2_ARRAY_SHORT_INDEX_SCALE"), (18, u "LOG2_ARRAY_FLOAT_INDEX_SCALE"), (24, u "LOG2_ARRAY_DOUBLE_INDEX_SCALE"), (89, u "T_BOOLEAN"), (2, u "T_CHAR"), (1, u "T_FLOAT"), (1, u "T_DOUBLE"), (1, u "T_BYTE"), (1, u "T_SHORT"), (1, u "T_INT"), (1, u "T_LONG"), (1, u "SOFT_MAX_ARRAY_LENGTH")] 83

def k12m0 : Method := { name := "<init>", desc := "()V", sig := { parameters := [], returnType := none }, accessFlags := 2, code := none }
/-- jdk/internal/util/ArraysSupport -/
def k12 : Class := { plain "jdk/internal/util/ArraysSupport" (some 0) with
  accessFlags := 33
  interfaces := #[]
  cf := some (fileOf pool12 21 #[] #[{ accessFlags := 2, nameIndex := 9, descriptorIndex := 19, attributes := #[] }] 33 16 #[] #[{ accessFlags := 24, nameIndex := 28, descriptorIndex := 29, attributes := #[] }, { accessFlags := 26, nameIndex := 38, descriptorIndex := 39, attributes := #[] }, { accessFlags := 25, nameIndex := 121, descriptorIndex := 25, attributes := #[] }, { accessFlags := 25, nameIndex := 131, descriptorIndex := 25, attributes := #[] }, { accessFlags := 25, nameIndex := 137, descriptorIndex := 25, attributes := #[] }, { accessFlags := 25, nameIndex := 143, descriptorIndex := 25, attributes := #[] }, { accessFlags := 25, nameIndex := 53, descriptorIndex := 25, attributes := #[] }, { accessFlags := 25, nameIndex := 24, descriptorIndex := 25, attributes := #[] }, { accessFlags := 25, nameIndex := 162, descriptorIndex := 25, attributes := #[] }, { accessFlags := 25, nameIndex := 187, descriptorIndex := 25, attributes := #[] }, { accessFlags := 26, nameIndex := 48, descriptorIndex := 25, attributes := #[] }, { accessFlags := 25, nameIndex := 277, descriptorIndex := 25, attributes := #[] }, { accessFlags := 25, nameIndex := 280, descriptorIndex := 25, attributes := #[] }, { accessFlags := 25, nameIndex := 282, descriptorIndex := 25, attributes := #[] }, { accessFlags := 25, nameIndex := 284, descriptorIndex := 25, attributes := #[] }, { accessFlags := 25, nameIndex := 286, descriptorIndex := 25, attributes := #[] }, { accessFlags := 25, nameIndex := 288, descriptorIndex := 25, attributes := #[] }, { accessFlags := 25, nameIndex := 290, descriptorIndex := 25, attributes := #[] }, { accessFlags := 25, nameIndex := 292, descriptorIndex := 25, attributes := #[] }, { accessFlags := 26, nameIndex := 108, descriptorIndex := 109, attributes := #[] }, { accessFlags := 25, nameIndex := 294, descriptorIndex := 25, attributes := #[] }])
  fields := #[{ name := "U", type := (.object "jdk/internal/misc/Unsafe"), accessFlags := 24, slot := 0, constantValue := 0 }, { name := "BIG_ENDIAN", type := .boolean, accessFlags := 26, slot := 1, constantValue := 0 }, { name := "LOG2_ARRAY_BOOLEAN_INDEX_SCALE", type := .int, accessFlags := 25, slot := 2, constantValue := 0 }, { name := "LOG2_ARRAY_BYTE_INDEX_SCALE", type := .int, accessFlags := 25, slot := 3, constantValue := 0 }, { name := "LOG2_ARRAY_CHAR_INDEX_SCALE", type := .int, accessFlags := 25, slot := 4, constantValue := 0 }, { name := "LOG2_ARRAY_SHORT_INDEX_SCALE", type := .int, accessFlags := 25, slot := 5, constantValue := 0 }, { name := "LOG2_ARRAY_INT_INDEX_SCALE", type := .int, accessFlags := 25, slot := 6, constantValue := 0 }, { name := "LOG2_ARRAY_LONG_INDEX_SCALE", type := .int, accessFlags := 25, slot := 7, constantValue := 0 }, { name := "LOG2_ARRAY_FLOAT_INDEX_SCALE", type := .int, accessFlags := 25, slot := 8, constantValue := 0 }, { name := "LOG2_ARRAY_DOUBLE_INDEX_SCALE", type := .int, accessFlags := 25, slot := 9, constantValue := 0 }, { name := "LOG2_BYTE_BIT_SIZE", type := .int, accessFlags := 26, slot := 10, constantValue := 0 }, { name := "T_BOOLEAN", type := .int, accessFlags := 25, slot := 11, constantValue := 0 }, { name := "T_CHAR", type := .int, accessFlags := 25, slot := 12, constantValue := 0 }, { name := "T_FLOAT", type := .int, accessFlags := 25, slot := 13, constantValue := 0 }, { name := "T_DOUBLE", type := .int, accessFlags := 25, slot := 14, constantValue := 0 }, { name := "T_BYTE", type := .int, accessFlags := 25, slot := 15, constantValue := 0 }, { name := "T_SHORT", type := .int, accessFlags := 25, slot := 16, constantValue := 0 }, { name := "T_INT", type := .int, accessFlags := 25, slot := 17, constantValue := 0 }, { name := "T_LONG", type := .int, accessFlags := 25, slot := 18, constantValue := 0 }, { name := "JLA", type := (.object "jdk/internal/access/JavaLangAccess"), accessFlags := 26, slot := 19, constantValue := 0 }, { name := "SOFT_MAX_ARRAY_LENGTH", type := .int, accessFlags := 25, slot := 20, constantValue := 0 }]
  methods := #[k12m0]
  instanceTypes := #[]
  staticTypes := #[(.object "jdk/internal/misc/Unsafe"), .boolean, .int, .int, .int, .int, .int, .int, .int, .int, .int, .int, .int, .int, .int, .int, .int, .int, .int, (.object "jdk/internal/access/JavaLangAccess"), .int]
  resolved := Array.replicate 378 none
  statics := none }

def pool13 : Array CpInfo := pool [(1, u "java/lang/Cloneable"), (0, .class_ 1), (0, u "java/lang/Object"), (0, .class_ 3)] 3

/-- java/lang/Cloneable -/
def k13 : Class := { plain "java/lang/Cloneable" (some 0) with
  accessFlags := 1537
  interfaces := #[]
  cf := some (fileOf pool13 2 #[] #[] 1537 4 #[] #[])
  fields := #[]
  methods := #[]
  instanceTypes := #[]
  staticTypes := #[]
  resolved := Array.replicate 8 none
  statics := none }

/-- the primitive byte -/
def k14 : Class := { plain "byte" none with kind := .primitive 'B', accessFlags := 0x411 }
/-- [B -/
def k15 : Class := { plain "[B" (some 0) with kind := .array 14 .byte, interfaces := #[13, 2], accessFlags := 1041 }

/-- the primitive char -/
def k16 : Class := { plain "char" none with kind := .primitive 'C', accessFlags := 0x411 }
/-- [C -/
def k17 : Class := { plain "[C" (some 0) with kind := .array 16 .char, interfaces := #[13, 2], accessFlags := 1041 }

/-- the primitive int -/
def k18 : Class := { plain "int" none with kind := .primitive 'I', accessFlags := 0x411 }
/-- [I -/
def k19 : Class := { plain "[I" (some 0) with kind := .array 18 .int, interfaces := #[13, 2], accessFlags := 1041 }

def heap : Heap := #[{ cls := 7, slots := #[.long 0, .int 1, .null, .int 0, .null, .int 0, .int 0], vm := .statics 7 },
  { cls := 11, slots := #[.null, .null, .null], vm := .statics 11 }]
def classes : Array Class := #[k0, k1, k2, k3, k4, k5, k6, k7, k8, k9, k10, k11, k12, k13, k14, k15, k16, k17, k18, k19]
def interned : List (Array UInt16 × Addr) := []
def slotsUsed : Nat := 10
def theMethod : MethodId := ⟨1, 3⟩
def args0 : Array Value := #[.long 5, .long 6, .long 7, .long 8, .int 3]
def aboutOver (below : List Frame) : State where
  vm := { classes := classes, interned := interned.toArray }
  heap := heap
  slotsUsed := slotsUsed
  threads := #[{ frames := .invoking theMethod args0 :: below }]
def below0 : List Frame := [.native { method := ⟨0, 0⟩, args := #[] }]
def about1 : State := aboutOver below0
def p0 : Program := .bare "" "" ""
def e0 : Env := launch0.env 0 0 0
theorem w_frames : about1.frames = Frame.invoking theMethod args0 :: below0 := rfl
set_option maxRecDepth 65536 in
theorem w_args : argsFit about1.vm theMethod args0 = true := by decide +kernel
set_option maxRecDepth 65536 in
theorem w_heap : heapFits about1 = true := by decide +kernel
set_option maxRecDepth 65536 in
theorem w_runnable : about1.curStatus? = some .runnable := by decide +kernel
set_option maxRecDepth 65536 in
theorem w_alone : about1.alone = true := by decide +kernel
set_option maxRecDepth 65536 in
theorem w_named : about1.methodNamed? x = some theMethod := by decide +kernel
set_option maxRecDepth 65536 in
theorem w_hears : about1.hears theMethod below0 = true := by decide +kernel
set_option maxRecDepth 65536 in
theorem w_ripe : about1.ripe theMethod args0 below0 = true := by decide +kernel
theorem w_running : about1.status = .running := rfl
set_option maxRecDepth 65536 in
theorem w_room : about1.hasRoom e0.platform room_1 = true :=
  launch0.hasRoom_least _ room_1 (by decide +kernel) (by decide +kernel) (by decide +kernel) (by decide +kernel) (by decide +kernel) (by decide +kernel)
theorem allAtoms_all (ts : List Jvm.Cond) (a : Array Jvm.Value) (st : Jvm.State) : (allAtoms ts).before a st = ts.all (fun c => c.before a st) := by
  induction ts with
  | nil => rfl
  | cons c t ih =>
    show (Jvm.Cond.and c (allAtoms t)).before a st = _
    rw [Jvm.Cond.before_and, ih, List.all_cons]
def words1 : List Jvm.Cond := Jvm.Cond.code x code maxLocals ret :: tables_1
/-- a 'code' word, met by the world's own term for the bytes: nothing is compared byte by byte -/
theorem code_word {y : MethodName} {bytes : ByteArray} {mx : Nat} {rt : Option FieldType} {a : Array Value} {s : State} {m : MethodId} {meth : Method} {c : Code} (h1 : s.methodNamed? y = some m) (h2 : s.vm.method? m = some meth) (h3 : meth.code = some c) (h4 : c.code = bytes)
    (h5 : (c.maxLocals == mx && c.exceptionTable.isEmpty && decide (c.maxStack ≤ mostOperands) && decide (meth.sig.returnType = rt) && !meth.locks && decide (parseMethodDescriptor y.desc = some meth.sig)) = true) : (Jvm.Cond.code y bytes mx rt).before a s = true := by
  simp only [Bool.and_eq_true, beq_iff_eq, Bool.not_eq_true', decide_eq_true_eq] at h5
  obtain ⟨⟨⟨⟨⟨g1, g2⟩, g3⟩, g4⟩, g5⟩, g6⟩ := h5
  simp [Cond.before, Cond.holds, Cond.value, h1, h2, h3, h4, g1, g2, g3, g4, g5, g6]
def isCode : Jvm.Cond → Bool
  | .code _ _ _ _ => true
  | _ => false
theorem all_split {L : List Jvm.Cond} {P : Jvm.Cond → Bool} (h1 : L.all (fun c => isCode c || P c) = true) (h2 : ∀ c ∈ L.filter isCode, P c = true) : L.all P = true := by
  refine List.all_eq_true.mpr fun c hc => ?_
  have h := List.all_eq_true.mp h1 c hc
  rcases Bool.eq_false_or_eq_true (isCode c) with hi | hi
  · exact h2 c (List.mem_filter.mpr ⟨hc, hi⟩)
  · simpa [hi] using h
set_option maxRecDepth 65536 in
theorem w_c0 : (Jvm.Cond.code x code maxLocals ret).before args0 about1 = true := code_word (m := ⟨1, 3⟩) (meth := k1m3) (c := k1c3) (by decide +kernel) rfl rfl rfl (by decide +kernel)
set_option maxRecDepth 65536 in
theorem w_c1 : (Jvm.Cond.code ({ cls := "com/example/hecate/hecate/identity/VerifiedIdentityEqualsPinLaw", name := "mk", desc := "(J)Ljava/lang/String;" } : Jvm.MethodName) method_2_code (5 : Nat) (Option.some (Jvm.ClassFile.FieldType.object "java/lang/String"))).before args0 about1 = true := code_word (m := ⟨1, 1⟩) (meth := k1m1) (c := k1c1) (by decide +kernel) rfl rfl rfl (by decide +kernel)
set_option maxRecDepth 65536 in
theorem w_c2 : (Jvm.Cond.code ({ cls := "java/lang/String", name := "<init>", desc := "([C)V" } : Jvm.MethodName) jdk_42_method_3_code (2 : Nat) (Option.none : Option Jvm.ClassFile.FieldType)).before args0 about1 = true := code_word (m := ⟨7, 1⟩) (meth := k7m1) (c := k7c1) (by decide +kernel) rfl rfl rfl (by decide +kernel)
set_option maxRecDepth 65536 in
theorem w_c3 : (Jvm.Cond.code ({ cls := "java/lang/String", name := "<init>", desc := "([CIILjava/lang/Void;)V" } : Jvm.MethodName) jdk_42_method_149_code (6 : Nat) (Option.none : Option Jvm.ClassFile.FieldType)).before args0 about1 = true := code_word (m := ⟨7, 5⟩) (meth := k7m5) (c := k7c5) (by decide +kernel) rfl rfl rfl (by decide +kernel)
set_option maxRecDepth 65536 in
theorem w_c4 : (Jvm.Cond.code ({ cls := "java/lang/Object", name := "<init>", desc := "()V" } : Jvm.MethodName) object_method_1_code (1 : Nat) (Option.none : Option Jvm.ClassFile.FieldType)).before args0 about1 = true := code_word (m := ⟨0, 0⟩) (meth := k0m0) (c := k0c0) (by decide +kernel) rfl rfl rfl (by decide +kernel)
set_option maxRecDepth 65536 in
theorem w_c5 : (Jvm.Cond.code ({ cls := "java/lang/StringUTF16", name := "compress", desc := "([CII)[B" } : Jvm.MethodName) jdk_52_method_16_code (6 : Nat) (Option.some (Jvm.ClassFile.FieldType.array Jvm.ClassFile.FieldType.byte))).before args0 about1 = true := code_word (m := ⟨8, 2⟩) (meth := k8m2) (c := k8c2) (by decide +kernel) rfl rfl rfl (by decide +kernel)
set_option maxRecDepth 65536 in
theorem w_c6 : (Jvm.Cond.code ({ cls := "java/lang/StringUTF16", name := "compress", desc := "([CI[BII)I" } : Jvm.MethodName) jdk_52_method_21_code (7 : Nat) (Option.some Jvm.ClassFile.FieldType.int)).before args0 about1 = true := code_word (m := ⟨8, 3⟩) (meth := k8m3) (c := k8c3) (by decide +kernel) rfl rfl rfl (by decide +kernel)
set_option maxRecDepth 65536 in
theorem w_c7 : (Jvm.Cond.code ({ cls := "java/lang/StringUTF16", name := "coderFromArrayLen", desc := "([BI)B" } : Jvm.MethodName) jdk_52_method_15_code (2 : Nat) (Option.some Jvm.ClassFile.FieldType.byte)).before args0 about1 = true := code_word (m := ⟨8, 1⟩) (meth := k8m1) (c := k8c1) (by decide +kernel) rfl rfl rfl (by decide +kernel)
set_option maxRecDepth 65536 in
theorem w_c8 : (Jvm.Cond.code ({ cls := "com/example/hecate/hecate/identity/VerifiedIdentity", name := "<init>", desc := "(Ljava/lang/String;Ljava/lang/String;Ljava/lang/String;J)V" } : Jvm.MethodName) prog_39_method_1_code (6 : Nat) (Option.none : Option Jvm.ClassFile.FieldType)).before args0 about1 = true := code_word (m := ⟨9, 0⟩) (meth := k9m0) (c := k9c0) (by decide +kernel) rfl rfl rfl (by decide +kernel)
set_option maxRecDepth 65536 in
theorem w_c9 : (Jvm.Cond.code ({ cls := "com/example/hecate/hecate/identity/VerifiedIdentityEqualsPinLaw", name := "same", desc := "(Ljava/lang/String;Ljava/lang/String;)Z" } : Jvm.MethodName) method_3_code (3 : Nat) (Option.some Jvm.ClassFile.FieldType.boolean)).before args0 about1 = true := code_word (m := ⟨1, 2⟩) (meth := k1m2) (c := k1c2) (by decide +kernel) rfl rfl rfl (by decide +kernel)
set_option maxRecDepth 65536 in
theorem w_c10 : (Jvm.Cond.code ({ cls := "java/lang/String", name := "length", desc := "()I" } : Jvm.MethodName) jdk_42_method_54_code (1 : Nat) (Option.some Jvm.ClassFile.FieldType.int)).before args0 about1 = true := code_word (m := ⟨7, 2⟩) (meth := k7m2) (c := k7c2) (by decide +kernel) rfl rfl rfl (by decide +kernel)
set_option maxRecDepth 65536 in
theorem w_c11 : (Jvm.Cond.code ({ cls := "java/lang/String", name := "coder", desc := "()B" } : Jvm.MethodName) jdk_42_method_152_code (1 : Nat) (Option.some Jvm.ClassFile.FieldType.byte)).before args0 about1 = true := code_word (m := ⟨7, 6⟩) (meth := k7m6) (c := k7c6) (by decide +kernel) rfl rfl rfl (by decide +kernel)
set_option maxRecDepth 65536 in
theorem w_c12 : (Jvm.Cond.code ({ cls := "java/lang/String", name := "charAt", desc := "(I)C" } : Jvm.MethodName) jdk_42_method_56_code (2 : Nat) (Option.some Jvm.ClassFile.FieldType.char)).before args0 about1 = true := code_word (m := ⟨7, 3⟩) (meth := k7m3) (c := k7c3) (by decide +kernel) rfl rfl rfl (by decide +kernel)
set_option maxRecDepth 65536 in
theorem w_c13 : (Jvm.Cond.code ({ cls := "java/lang/String", name := "isLatin1", desc := "()Z" } : Jvm.MethodName) jdk_42_method_154_code (1 : Nat) (Option.some Jvm.ClassFile.FieldType.boolean)).before args0 about1 = true := code_word (m := ⟨7, 7⟩) (meth := k7m7) (c := k7c7) (by decide +kernel) rfl rfl rfl (by decide +kernel)
set_option maxRecDepth 65536 in
theorem w_c14 : (Jvm.Cond.code ({ cls := "java/lang/StringLatin1", name := "charAt", desc := "([BI)C" } : Jvm.MethodName) jdk_43_method_2_code (2 : Nat) (Option.some Jvm.ClassFile.FieldType.char)).before args0 about1 = true := code_word (m := ⟨10, 1⟩) (meth := k10m1) (c := k10c1) (by decide +kernel) rfl rfl rfl (by decide +kernel)
set_option maxRecDepth 65536 in
theorem w_c15 : (Jvm.Cond.code ({ cls := "java/lang/String", name := "checkIndex", desc := "(II)V" } : Jvm.MethodName) jdk_42_method_155_code (2 : Nat) (Option.none : Option Jvm.ClassFile.FieldType)).before args0 about1 = true := code_word (m := ⟨7, 8⟩) (meth := k7m8) (c := k7c8) (by decide +kernel) rfl rfl rfl (by decide +kernel)
set_option maxRecDepth 65536 in
theorem w_c16 : (Jvm.Cond.code ({ cls := "jdk/internal/util/Preconditions", name := "checkIndex", desc := "(IILjava/util/function/BiFunction;)I" } : Jvm.MethodName) jdk_41_method_11_code (3 : Nat) (Option.some Jvm.ClassFile.FieldType.int)).before args0 about1 = true := code_word (m := ⟨11, 1⟩) (meth := k11m1) (c := k11c1) (by decide +kernel) rfl rfl rfl (by decide +kernel)
set_option maxRecDepth 65536 in
theorem w_c17 : (Jvm.Cond.code ({ cls := "com/example/hecate/hecate/identity/VerifiedIdentity", name := "equals", desc := "(Ljava/lang/Object;)Z" } : Jvm.MethodName) prog_39_method_6_code (3 : Nat) (Option.some Jvm.ClassFile.FieldType.boolean)).before args0 about1 = true := code_word (m := ⟨9, 1⟩) (meth := k9m1) (c := k9c1) (by decide +kernel) rfl rfl rfl (by decide +kernel)
set_option maxRecDepth 65536 in
theorem w_c18 : (Jvm.Cond.code ({ cls := "java/lang/String", name := "equals", desc := "(Ljava/lang/Object;)Z" } : Jvm.MethodName) jdk_42_method_66_code (3 : Nat) (Option.some Jvm.ClassFile.FieldType.boolean)).before args0 about1 = true := code_word (m := ⟨7, 4⟩) (meth := k7m4) (c := k7c4) (by decide +kernel) rfl rfl rfl (by decide +kernel)
set_option maxRecDepth 65536 in
theorem w_c19 : (Jvm.Cond.code ({ cls := "java/lang/StringLatin1", name := "equals", desc := "([B[B)Z" } : Jvm.MethodName) jdk_43_method_13_code (3 : Nat) (Option.some Jvm.ClassFile.FieldType.boolean)).before args0 about1 = true := code_word (m := ⟨10, 2⟩) (meth := k10m2) (c := k10c2) (by decide +kernel) rfl rfl rfl (by decide +kernel)
def codes1 : List Jvm.Cond := [Jvm.Cond.code x code maxLocals ret, Jvm.Cond.code ({ cls := "com/example/hecate/hecate/identity/VerifiedIdentityEqualsPinLaw", name := "mk", desc := "(J)Ljava/lang/String;" } : Jvm.MethodName) method_2_code (5 : Nat) (Option.some (Jvm.ClassFile.FieldType.object "java/lang/String")), Jvm.Cond.code ({ cls := "java/lang/String", name := "<init>", desc := "([C)V" } : Jvm.MethodName) jdk_42_method_3_code (2 : Nat) (Option.none : Option Jvm.ClassFile.FieldType), Jvm.Cond.code ({ cls := "java/lang/String", name := "<init>", desc := "([CIILjava/lang/Void;)V" } : Jvm.MethodName) jdk_42_method_149_code (6 : Nat) (Option.none : Option Jvm.ClassFile.FieldType), Jvm.Cond.code ({ cls := "java/lang/Object", name := "<init>", desc := "()V" } : Jvm.MethodName) object_method_1_code (1 : Nat) (Option.none : Option Jvm.ClassFile.FieldType), Jvm.Cond.code ({ cls := "java/lang/StringUTF16", name := "compress", desc := "([CII)[B" } : Jvm.MethodName) jdk_52_method_16_code (6 : Nat) (Option.some (Jvm.ClassFile.FieldType.array Jvm.ClassFile.FieldType.byte)), Jvm.Cond.code ({ cls := "java/lang/StringUTF16", name := "compress", desc := "([CI[BII)I" } : Jvm.MethodName) jdk_52_method_21_code (7 : Nat) (Option.some Jvm.ClassFile.FieldType.int), Jvm.Cond.code ({ cls := "java/lang/StringUTF16", name := "coderFromArrayLen", desc := "([BI)B" } : Jvm.MethodName) jdk_52_method_15_code (2 : Nat) (Option.some Jvm.ClassFile.FieldType.byte), Jvm.Cond.code ({ cls := "com/example/hecate/hecate/identity/VerifiedIdentity", name := "<init>", desc := "(Ljava/lang/String;Ljava/lang/String;Ljava/lang/String;J)V" } : Jvm.MethodName) prog_39_method_1_code (6 : Nat) (Option.none : Option Jvm.ClassFile.FieldType), Jvm.Cond.code ({ cls := "com/example/hecate/hecate/identity/VerifiedIdentityEqualsPinLaw", name := "same", desc := "(Ljava/lang/String;Ljava/lang/String;)Z" } : Jvm.MethodName) method_3_code (3 : Nat) (Option.some Jvm.ClassFile.FieldType.boolean), Jvm.Cond.code ({ cls := "java/lang/String", name := "length", desc := "()I" } : Jvm.MethodName) jdk_42_method_54_code (1 : Nat) (Option.some Jvm.ClassFile.FieldType.int), Jvm.Cond.code ({ cls := "java/lang/String", name := "coder", desc := "()B" } : Jvm.MethodName) jdk_42_method_152_code (1 : Nat) (Option.some Jvm.ClassFile.FieldType.byte), Jvm.Cond.code ({ cls := "java/lang/String", name := "charAt", desc := "(I)C" } : Jvm.MethodName) jdk_42_method_56_code (2 : Nat) (Option.some Jvm.ClassFile.FieldType.char), Jvm.Cond.code ({ cls := "java/lang/String", name := "isLatin1", desc := "()Z" } : Jvm.MethodName) jdk_42_method_154_code (1 : Nat) (Option.some Jvm.ClassFile.FieldType.boolean), Jvm.Cond.code ({ cls := "java/lang/StringLatin1", name := "charAt", desc := "([BI)C" } : Jvm.MethodName) jdk_43_method_2_code (2 : Nat) (Option.some Jvm.ClassFile.FieldType.char), Jvm.Cond.code ({ cls := "java/lang/String", name := "checkIndex", desc := "(II)V" } : Jvm.MethodName) jdk_42_method_155_code (2 : Nat) (Option.none : Option Jvm.ClassFile.FieldType), Jvm.Cond.code ({ cls := "jdk/internal/util/Preconditions", name := "checkIndex", desc := "(IILjava/util/function/BiFunction;)I" } : Jvm.MethodName) jdk_41_method_11_code (3 : Nat) (Option.some Jvm.ClassFile.FieldType.int), Jvm.Cond.code ({ cls := "com/example/hecate/hecate/identity/VerifiedIdentity", name := "equals", desc := "(Ljava/lang/Object;)Z" } : Jvm.MethodName) prog_39_method_6_code (3 : Nat) (Option.some Jvm.ClassFile.FieldType.boolean), Jvm.Cond.code ({ cls := "java/lang/String", name := "equals", desc := "(Ljava/lang/Object;)Z" } : Jvm.MethodName) jdk_42_method_66_code (3 : Nat) (Option.some Jvm.ClassFile.FieldType.boolean), Jvm.Cond.code ({ cls := "java/lang/StringLatin1", name := "equals", desc := "([B[B)Z" } : Jvm.MethodName) jdk_43_method_13_code (3 : Nat) (Option.some Jvm.ClassFile.FieldType.boolean)]
set_option maxRecDepth 65536 in
theorem codes_eq : words1.filter isCode = codes1 := rfl
theorem w_codes : ∀ c ∈ words1.filter isCode, c.before args0 about1 = true := by
  rw [codes_eq]
  intro c hc
  simp only [codes1, List.mem_cons, List.not_mem_nil, or_false] at hc
  rcases hc with rfl | rfl | rfl | rfl | rfl | rfl | rfl | rfl | rfl | rfl | rfl | rfl | rfl | rfl | rfl | rfl | rfl | rfl | rfl | rfl
  · exact w_c0
  · exact w_c1
  · exact w_c2
  · exact w_c3
  · exact w_c4
  · exact w_c5
  · exact w_c6
  · exact w_c7
  · exact w_c8
  · exact w_c9
  · exact w_c10
  · exact w_c11
  · exact w_c12
  · exact w_c13
  · exact w_c14
  · exact w_c15
  · exact w_c16
  · exact w_c17
  · exact w_c18
  · exact w_c19
set_option maxRecDepth 65536 in
theorem w_t1 : (words1.take 24).all (fun c => isCode c || c.before args0 about1) = true := by decide +kernel
set_option maxRecDepth 65536 in
theorem w_t2 : ((words1.drop 24).take 24).all (fun c => isCode c || c.before args0 about1) = true := by decide +kernel
set_option maxRecDepth 65536 in
theorem w_t3 : (((words1.drop 24).drop 24).take 24).all (fun c => isCode c || c.before args0 about1) = true := by decide +kernel
set_option maxRecDepth 65536 in
theorem w_t4 : ((((words1.drop 24).drop 24).drop 24).take 24).all (fun c => isCode c || c.before args0 about1) = true := by decide +kernel
set_option maxRecDepth 65536 in
theorem w_t5 : ((((words1.drop 24).drop 24).drop 24).drop 24).all (fun c => isCode c || c.before args0 about1) = true := by decide +kernel
theorem w_tables : (allAtoms (Jvm.Cond.code x code maxLocals ret :: tables_1)).before args0 about1 = true := by
  rw [allAtoms_all]
  show words1.all (fun c => c.before args0 about1) = true
  refine all_split ?_ w_codes
  rw [← List.take_append_drop 24 words1, List.all_append, w_t1, ← List.take_append_drop 24 (words1.drop 24), List.all_append, w_t2, ← List.take_append_drop 24 ((words1.drop 24).drop 24), List.all_append, w_t3, ← List.take_append_drop 24 (((words1.drop 24).drop 24).drop 24), List.all_append, w_t4, w_t5]
  rfl
set_option maxRecDepth 65536 in
theorem w_rest : rest_1_c.before args0 about1 = true := by decide +kernel
set_option maxRecDepth 65536 in
theorem w_case : (Jvm.Cond.and given_1 narrow_1).before args0 about1 = true := by decide +kernel
set_option maxRecDepth 65536 in
theorem w_consts : constsHeld consts_1 about1 := Jvm.Lit.constsHeldB_iff.mp (by decide +kernel)
theorem w_applies : (headSpec (Jvm.Cond.code x code maxLocals ret :: tables_1) room_1).applies x e0.platform about1 = true :=
  (Spec.applies_iff w_frames).mpr ⟨w_running, w_runnable, w_alone, w_named, w_hears, w_ripe, w_room, w_tables⟩
theorem atStart : AtStart classFile x code maxLocals ret World_1 tables_1 room_1 Calls_1 rest_1 Pre_1 launch0 p0 e0 about1 theMethod args0 below0 :=
  ⟨lists_1, trivial, launch0.admits_env _ _ _, launch0.least_env, fairChoices_fair.cas, fairChoices_fair.clock, w_frames, w_args, w_heap, w_applies, ⟨w_consts, trivial⟩, w_rest, w_case⟩
end start1
theorem witness_1 : WitnessClaimed_1 := ⟨start1.p0, start1.e0, start1.about1, start1.theMethod, start1.args0, start1.below0, start1.atStart⟩
end Jvm.Pilot.@@N@@
