import JvmDerived
import JvmDerived.Pilot.@@N@@Statement
import JvmDerived.Pilot.@@N@@Code
set_option linter.unusedVariables false
set_option linter.unusedSimpArgs false
namespace Jvm.Pilot.@@N@@
open Jvm Jvm.ClassFile Sem Op Lib Jvm.Free Jvm.Stand Jvm.LawKit Jvm.RoadKit Bundle Jvm.Pilot.@@N@@.Jvm.D
section OwnKit
variable {p : Program} {l : Launch} {e : Env} {R : Room} {s : State} {m : MethodId} {args : Array Value} {below : List Frame} {meth : Method} {c : Code} {Z : State} {a0 : Array Value} {EL : List (String × Nat)} {own : String} {n0 : Nat} {T : State} {vm0 : Vm} {h : Heap} {cells slots : Nat} {Q : Option Value → Heap → Prop}
theorem own_extRefl (h : Heap) : Ext h h := ⟨Nat.le_refl _, fun _ _ q => q⟩
theorem own_extTrans {h h1 h2 : Heap} (A : Ext h h1) (B : Ext h1 h2) : Ext h h2 := ⟨Nat.le_trans A.1 B.1, fun a c q => B.2 _ _ (A.2 _ _ q)⟩
theorem own_extKeep {h h1 : Heap} (K : Keep h h1 []) : Ext h h1 := ⟨K.1, fun a c q => K.2.1 a c q nin0⟩
theorem own_keepExt {h h1 : Heap} {ws : List Addr} (E : Ext h h1) : Keep h h1 ws := (Keep.refl h ws).ext E
theorem own_extWr {h h1 h2 : Heap} {a : Addr} {sl : Nat} {v : Value} (E : Ext h h1) (W : Wr h1 h2 a sl v) (q : h.size ≤ a) : Ext h h2 := own_extKeep ((own_keepExt E).wr W (Or.inr q))
theorem own_extK {h h1 h2 : Heap} {ws : List Addr} (E : Ext h h1) (K : Keep h1 h2 ws) (q : ∀ x ∈ ws, h.size ≤ x) : Ext h h2 := own_extKeep ((own_keepExt E).trans K (fun x hx => Or.inr (q x hx)))
def own_Wk (p : Program) (l : Launch) (e : Env) (R : Room) (s : State) (m : MethodId) (args : Array Value) (below : List Frame) (meth : Method) (c : Code) (Z : State) (EL : List (String × Nat)) (own : String) (n0 : Nat) (T : State) (vm0 : Vm) (h : Heap) (cells slots : Nat) : Prop :=
  vm0 = s.vm ∧ ∃ (locs : List Loc), Stand p l e R s m args below meth c T locs cells slots ∧ T.heap = h ∧ Z.Warmed39 s.vm ∧ s.vm.findClass own = some m.cls ∧ Fr n0 locs ∧ Old Z n0 h
def own_WP (p : Program) (e : Env) (R : Room) (below : List Frame) (s : State) (Z : State) (EL : List (String × Nat)) (n0 : Nat) (Q : Option Value → Heap → Prop) (T : State) (g : JFrame) : Prop :=
  ∃ s₂ o, Steps p.tables e below (T.setTop g) s₂ ∧ s₂.status = .running ∧ Ended s₂ below o ∧ ∃ v L, o = Outcome.returned v ∧ (Q v s₂.heap ∧ Fr n0 L ∧ Old Z n0 s₂.heap) ∧ FrameEnd s o s₂ L R.cells R.slots
def own_Ct (l : Launch) (y : MethodName) (bytes : ByteArray) (maxL : Nat) (ret : Option FieldType) (rm : Room) (Z : State) (EL : List (String × Nat)) (n0 : Nat) (as' : Array Value) (h : Heap) (sf : List Addr) (Q : Option Value → Heap → Prop) : Prop :=
  ∀ ws : List Jvm.Cond, MetFree l y (head1 (Jvm.Cond.code y bytes maxL ret :: ws) rm) (fun a U => a = as' ∧ Z.Warmed39 U.vm ∧ U.heap = h) (fun _ _ _ _ _ => True) (fun _ U o U' => ∃ v L, o = Outcome.returned v ∧ (Q v U'.heap ∧ Fr n0 L ∧ Old Z n0 U'.heap) ∧ FrameEnd U o U' L rm.cells rm.slots)
def own_Pay (l : Launch) (R : Room) (p : Program) (e : Env) (below : List Frame) (s : State) (args : Array Value) (y : MethodName) (len W : Nat) (Z : State) (EL : List (String × Nat)) (n0 : Nat) (vm0 : Vm) (h : Heap) (as' : Array Value) (kc ks : Nat) (Q : Option Value → Heap → Prop) : Prop :=
  Back l R p e below s args y len W (fun A a => a = as' ∧ A.U.heap = h ∧ A.cells + kc ≤ R.cells ∧ A.slots + ks ≤ R.slots) (fun A _ v B => ∃ L, (Q v B.U.heap ∧ Fr n0 L ∧ Old Z n0 B.U.heap) ∧ B.locs = A.locs ++ L ∧ B.cells = A.cells + kc ∧ B.slots = A.slots + ks)
theorem own_by {T' : State} {g g' : JFrame} (st : ∀ t, Steps p.tables e below (T'.setTop g') t → Steps p.tables e below (T.setTop g) t) (k : own_WP p e R below s Z EL n0 Q T' g') : own_WP p e R below s Z EL n0 Q T g := by
  obtain ⟨s2, o, h1, r⟩ := k
  exact ⟨s2, o, st _ h1, r⟩
theorem own_at (w : own_Wk p l e R s m args below meth c Z EL own n0 T vm0 h cells slots) : Jvm.At T m c below := by
  obtain ⟨_, _, X, _⟩ := w
  exact X.here
theorem own_hZ (w : own_Wk p l e R s m args below meth c Z EL own n0 T vm0 h cells slots) : Z.Warmed39 s.vm := by
  obtain ⟨_, _, _, _, hZ, _⟩ := w
  exact hZ
theorem own_old (w : own_Wk p l e R s m args below meth c Z EL own n0 T vm0 h cells slots) : Old Z n0 h := by
  obtain ⟨_, _, _, _, _, _, _, O⟩ := w
  exact O
theorem own_n0 (w : own_Wk p l e R s m args below meth c Z EL own n0 T vm0 h cells slots) : n0 ≤ h.size := by
  have O := own_old w
  exact O.1 ▸ O.2.1
theorem own_mono {c' s' : Nat} (w : own_Wk p l e R s m args below meth c Z EL own n0 T vm0 h cells slots) (hc : cells ≤ c') (hs : slots ≤ s') : own_Wk p l e R s m args below meth c Z EL own n0 T vm0 h c' s' := by
  obtain ⟨hv, locs, X, r⟩ := w
  exact ⟨hv, locs, X.mono hc hs, r⟩
theorem own_leave (w : own_Wk p l e R s m args below meth c Z EL own n0 T vm0 h cells slots) (hEL : EW Z a0 EL) (hlk : meth.locks = false) {v : Option Value} (hv : meth.sig.returnType = none → v = none) (hc : cells ≤ R.cells) (hs : slots ≤ R.slots) (q : Q v h) {g : JFrame}
    (st : ∀ (locs : List Loc) (fs : List Frame), Stand p l e R s m args below meth c T locs cells slots → (∀ (f : JFrame) (acts : List Action), f.method = m → f.locked = none → f.entered = [] → (doReturn e (T.setTop f) acts v).1 = T.setFrames fs) → Steps p.tables e below (T.setTop g) (T.setFrames fs)) : own_WP p e R below s Z EL n0 Q T g := by
  obtain ⟨-, locs, X, rfl, hZ, hown, N, O⟩ := w
  obtain ⟨fs, hr, hrun, hended, h1, h2⟩ := X.leave hv hlk
  exact ⟨_, _, st locs fs X hr, hrun, hended, v, locs, rfl, ⟨q, N, O⟩, ⟨v, rfl⟩, h1, h2.mono hc hs⟩
theorem own_ret (w : own_Wk p l e R s m args below meth c Z EL own n0 T vm0 h cells slots) (hx : p.tables.exec = Jvm.exec) (hEL : EW Z a0 EL) (hlk : meth.locks = false) {t : FieldType} {v : Value} {i : Instr} {pc : Nat} {Ls : Array Slot} {rest : List Value} (hret : meth.sig.returnType = some t) (hn : narrow t v = v)
    (hi : (i = .ireturn ∧ (t = .int ∨ t = .boolean ∨ t = .byte ∨ t = .char ∨ t = .short) ∧ ∃ z, v = .int z) ∨ (i = .lreturn ∧ t = .long ∧ ∃ z, v = .long z) ∨ (i = .dreturn ∧ t = .double ∧ ∃ z, v = .double z) ∨ (i = .freturn ∧ t = .float ∧ ∃ z, v = .float z) ∨ (i = .areturn ∧ t.isReference = true ∧ v.isRef = true))
    (hd : decode c.code pc = .ok (i, 1)) (hc : cells ≤ R.cells) (hs : slots ≤ R.slots) (q : Q (some v) h) : own_WP p e R below s Z EL n0 Q T (mkF m pc Ls (v :: rest)) :=
  own_leave w hEL hlk (fun h => by rw [hret] at h; cases h) hc hs q (fun locs fs X hr => retOut X hx hret hn hi hd hr)
theorem own_retI (w : own_Wk p l e R s m args below meth c Z EL own n0 T vm0 h cells slots) (hx : p.tables.exec = Jvm.exec) (hEL : EW Z a0 EL) (hlk : meth.locks = false) {z : Int32} {pc : Nat} {Ls : Array Slot} {rest : List Value} (hret : meth.sig.returnType = some .int)
    (hd : decode c.code pc = .ok (.ireturn, 1)) (hc : cells ≤ R.cells) (hs : slots ≤ R.slots) (q : Q (some (.int z)) h) : own_WP p e R below s Z EL n0 Q T (mkF m pc Ls (.int z :: rest)) :=
  own_ret w hx hEL hlk hret rfl (Or.inl ⟨rfl, Or.inl rfl, z, rfl⟩) hd hc hs q
theorem own_retZ (w : own_Wk p l e R s m args below meth c Z EL own n0 T vm0 h cells slots) (hx : p.tables.exec = Jvm.exec) (hEL : EW Z a0 EL) (hlk : meth.locks = false) {z : Int32} {pc : Nat} {Ls : Array Slot} {rest : List Value} (hret : meth.sig.returnType = some .boolean) (hz : z = 0 ∨ z = 1)
    (hd : decode c.code pc = .ok (.ireturn, 1)) (hc : cells ≤ R.cells) (hs : slots ≤ R.slots) (q : Q (some (.int z)) h) : own_WP p e R below s Z EL n0 Q T (mkF m pc Ls (.int z :: rest)) :=
  own_ret w hx hEL hlk hret (by rcases hz with rfl | rfl <;> rfl) (Or.inl ⟨rfl, Or.inr (Or.inl rfl), z, rfl⟩) hd hc hs q
theorem own_narC {z : Int32} (h0 : ¬ z < 0) (h1 : ¬ (65535 : Int32) < z) : z.toUInt32.toUInt16.toUInt32.toInt32 = z := by
  rw [Int32.lt_iff_toInt_lt] at h0 h1
  have e1 : (65535 : Int32).toInt = 65535 := rfl
  have e0 : (0 : Int32).toInt = 0 := rfl
  apply Int32.toInt_inj.mp
  have hb : z.toBitVec.toInt = z.toInt := rfl
  rw [e1] at h1
  rw [e0] at h0
  show ((z.toBitVec.setWidth 16).setWidth 32).toInt = z.toBitVec.toInt
  have hlt := z.toBitVec.isLt
  have h2 : z.toBitVec.toInt = z.toBitVec.toNat := by
    rw [BitVec.toInt_eq_toNat_cond] at hb ⊢
    split
    · rfl
    · rename_i q; rw [if_neg q] at hb; omega
  have h3 : z.toBitVec.toNat < 65536 := by omega
  rw [h2, BitVec.toInt_eq_toNat_cond]
  simp only [BitVec.toNat_setWidth]
  rw [Nat.mod_eq_of_lt (show z.toBitVec.toNat < 2 ^ 16 from h3), Nat.mod_eq_of_lt (show z.toBitVec.toNat < 2 ^ 32 by omega)]
  split <;> omega
theorem own_retC (w : own_Wk p l e R s m args below meth c Z EL own n0 T vm0 h cells slots) (hx : p.tables.exec = Jvm.exec) (hEL : EW Z a0 EL) (hlk : meth.locks = false) {z : Int32} {pc : Nat} {Ls : Array Slot} {rest : List Value} (hret : meth.sig.returnType = some .char) (hz : ¬ z < 0 ∧ ¬ (65535 : Int32) < z)
    (hd : decode c.code pc = .ok (.ireturn, 1)) (hc : cells ≤ R.cells) (hs : slots ≤ R.slots) (q : Q (some (.int z)) h) : own_WP p e R below s Z EL n0 Q T (mkF m pc Ls (.int z :: rest)) :=
  own_ret w hx hEL hlk hret (by show Value.int _ = Value.int _; rw [own_narC hz.1 hz.2]) (Or.inl ⟨rfl, Or.inr (Or.inr (Or.inr (Or.inl rfl))), z, rfl⟩) hd hc hs q
theorem own_retB (w : own_Wk p l e R s m args below meth c Z EL own n0 T vm0 h cells slots) (hx : p.tables.exec = Jvm.exec) (hEL : EW Z a0 EL) (hlk : meth.locks = false) {z : Int32} {pc : Nat} {Ls : Array Slot} {rest : List Value} (hret : meth.sig.returnType = some .byte) (hz : narrow .byte (.int z) = .int z)
    (hd : decode c.code pc = .ok (.ireturn, 1)) (hc : cells ≤ R.cells) (hs : slots ≤ R.slots) (q : Q (some (.int z)) h) : own_WP p e R below s Z EL n0 Q T (mkF m pc Ls (.int z :: rest)) :=
  own_ret w hx hEL hlk hret hz (Or.inl ⟨rfl, Or.inr (Or.inr (Or.inl rfl)), z, rfl⟩) hd hc hs q
theorem own_retJ (w : own_Wk p l e R s m args below meth c Z EL own n0 T vm0 h cells slots) (hx : p.tables.exec = Jvm.exec) (hEL : EW Z a0 EL) (hlk : meth.locks = false) {z : Int64} {pc : Nat} {Ls : Array Slot} {rest : List Value} (hret : meth.sig.returnType = some .long)
    (hd : decode c.code pc = .ok (.lreturn, 1)) (hc : cells ≤ R.cells) (hs : slots ≤ R.slots) (q : Q (some (.long z)) h) : own_WP p e R below s Z EL n0 Q T (mkF m pc Ls (.long z :: rest)) :=
  own_ret w hx hEL hlk hret rfl (Or.inr (Or.inl ⟨rfl, rfl, z, rfl⟩)) hd hc hs q
theorem own_retF (w : own_Wk p l e R s m args below meth c Z EL own n0 T vm0 h cells slots) (hx : p.tables.exec = Jvm.exec) (hEL : EW Z a0 EL) (hlk : meth.locks = false) {z : UInt32} {pc : Nat} {Ls : Array Slot} {rest : List Value} (hret : meth.sig.returnType = some .float)
    (hd : decode c.code pc = .ok (.freturn, 1)) (hc : cells ≤ R.cells) (hs : slots ≤ R.slots) (q : Q (some (.float z)) h) : own_WP p e R below s Z EL n0 Q T (mkF m pc Ls (.float z :: rest)) :=
  own_ret w hx hEL hlk hret rfl (Or.inr (Or.inr (Or.inr (Or.inl ⟨rfl, rfl, z, rfl⟩)))) hd hc hs q
theorem own_retA (w : own_Wk p l e R s m args below meth c Z EL own n0 T vm0 h cells slots) (hx : p.tables.exec = Jvm.exec) (hEL : EW Z a0 EL) (hlk : meth.locks = false) {t : FieldType} {v : Value} {pc : Nat} {Ls : Array Slot} {rest : List Value} (hret : meth.sig.returnType = some t) (ht : t.isReference = true) (hv : v.isRef = true)
    (hd : decode c.code pc = .ok (.areturn, 1)) (hc : cells ≤ R.cells) (hs : slots ≤ R.slots) (q : Q (some v) h) : own_WP p e R below s Z EL n0 Q T (mkF m pc Ls (v :: rest)) :=
  own_ret w hx hEL hlk hret (by rcases ref_cases hv with rfl | ⟨a, rfl⟩ <;> cases t <;> first | rfl | (simp [FieldType.isReference] at ht)) (Or.inr (Or.inr (Or.inr (Or.inr ⟨rfl, ht, hv⟩)))) hd hc hs q
theorem own_retV (w : own_Wk p l e R s m args below meth c Z EL own n0 T vm0 h cells slots) (hx : p.tables.exec = Jvm.exec) (hEL : EW Z a0 EL) (hlk : meth.locks = false) {pc : Nat} {Ls : Array Slot} (hret : meth.sig.returnType = none)
    (hd : decode c.code pc = .ok (.return_, 1)) (hc : cells ≤ R.cells) (hs : slots ≤ R.slots) (q : Q none h) : own_WP p e R below s Z EL n0 Q T (mkF m pc Ls []) :=
  own_leave w hEL hlk (fun _ => rfl) hc hs q (fun locs fs X hr => X.returnOut hx hret hd hr)
theorem own_body {y : MethodName} {bytes : ByteArray} {maxL : Nat} {ret : Option FieldType} {rm : Room} {as' : Array Value} {sf : List Addr} (hpl : plainFor y = true) (hO : Old Z n0 h)
    (body : ∀ (p : Program) (e : Env) (s : State) (m : MethodId) (below : List Frame) (meth : Method) (c : Code) (T : State) (vm0 : Vm), p.tables.exec = Jvm.exec → c.code = bytes → c.maxLocals = maxL → meth.sig.returnType = ret → meth.locks = false → meth.name = y.name → True → own_Wk p l e rm s m as' below meth c Z EL y.cls n0 T vm0 h 0 0 → own_WP p e rm below s Z EL n0 Q T (entryFrame m as' maxL)) :
    own_Ct l y bytes maxL ret rm Z EL n0 as' h sf Q := by
  intro ws
  refine MetFree.of_bodySF hpl hisR ?_
  intro p e s m args below meth c s₁ Bd hml hP hK
  obtain ⟨rfl, hZ, rfl⟩ := hP
  have hown : s.vm.findClass y.cls = some m.cls := findClass_of_methodNamed Bd.named
  have hnm := (name_of_methodNamed Bd.named Bd.method).1
  have X0 : Stand p l e rm s m args below meth c s₁ [] 0 0 := Stand.of_body Bd
  have e0 : s₁.heap = s.heap := by rw [Bd.state]; rfl
  exact body p e s m below meth c s₁ s.vm Bd.exec Bd.bytes hml Bd.returns Bd.notSynchronized hnm trivial ⟨rfl, [], X0, e0, hZ, hown, Fr.nil _, hO⟩
theorem own_entry {as' : Array Value} {maxL : Nat} {g : JFrame} (q : entryFrame m as' maxL = g) (k : own_WP p e R below s Z EL n0 Q T g) : own_WP p e R below s Z EL n0 Q T (entryFrame m as' maxL) := q ▸ k
theorem own_payCt {y : MethodName} {bytes : ByteArray} {maxL : Nat} {ret : Option FieldType} {rm : Room} {len W : Nat} {as' : Array Value} {sf : List Addr} (K : own_Ct l y bytes maxL ret rm Z EL n0 as' h sf Q) (w : own_Wk p l e R s m args below meth c Z EL own n0 T vm0 h cells slots) (wc : (Jvm.Cond.code y bytes maxL ret).before a0 Z = true) (wz : (Jvm.Cond.initialized y.cls).before a0 Z = true)
    (hEL : EW Z a0 EL) (hf : rm.frames + 1 ≤ R.frames) (hl : W + (maxL + 11) + rm.locals ≤ R.locals) : own_Pay l R p e below s args y len W Z EL n0 vm0 h as' rm.cells rm.slots Q :=
  backOf (Q := fun v h L => Q v h ∧ Fr n0 L ∧ Old Z n0 h) (K []) (own_hZ w) wc wz hf hl
theorem own_callS (w : own_Wk p l e R s m args below meth c Z EL own n0 T vm0 h cells slots) (hx : p.tables.exec = Jvm.exec) {index : Nat} {y : MethodName} {bytes : ByteArray} {maxL : Nat} {ret : Option FieldType}
    (w1 : (Jvm.Cond.methodLink own index y).before a0 Z = true) (w2 : (Jvm.Cond.static y).before a0 Z = true) (w3 : (Jvm.Cond.initialized y.cls).before a0 Z = true) (w4 : (Jvm.Cond.code y bytes maxL ret).before a0 Z = true) (hy : y.cls ≠ "java/lang/invoke/MethodHandle" ∧ y.cls ≠ "java/lang/invoke/VarHandle")
    {W kc ks : Nat} {argsL rest : List Value} {Q' : Option Value → Heap → Prop} (K : own_Pay l R p e below s args y 3 W Z EL n0 vm0 h argsL.toArray kc ks Q') {g : JFrame} (hg : g.method = m) (hsize : g.locals.size = c.maxLocals)
    (hlen : ∀ sig, parseMethodDescriptor y.desc = some sig → argsL.length = sig.parameters.length) (hstack : g.stack = argsL.reverse ++ rest) (hW : 2 * g.monitorRoom + (rest.map fun v => v.category).sum ≤ W) (hd : decode c.code g.pc = .ok (.invokestatic index, 3)) (hc : cells + kc ≤ R.cells) (hs : slots + ks ≤ R.slots)
    (k : ∀ (v : Option Value) (T' : State) (vm1 : Vm) (h' : Heap), Q' v h' → True → own_Wk p l e R s m args below meth c Z EL own n0 T' vm1 h' (cells + kc) (slots + ks) → own_WP p e R below s Z EL n0 Q T' { g with pc := g.pc + 3, stack := v.toList ++ rest }) : own_WP p e R below s Z EL n0 Q T g := by
  obtain ⟨ev, locs, X, e0, hZ, hown, N, O⟩ := w
  obtain ⟨v, vm₁, ⟨U, L', c', s'⟩, hW1, X', ⟨L, ⟨q, N', O'⟩, e1, e2, e3⟩, st⟩ := Jvm.LawKit.callS X hx (own := own) hown (mvT hZ w1) (mvT hZ w2) (mvT hZ w3) (mvT hZ w4) hy K hg hsize hlen hstack hW hd (fun _ _ => ⟨rfl, e0, hc, hs⟩)
  dsimp only [Pt.U, Pt.locs, Pt.cells, Pt.slots] at X' q O' e1 e2 e3 st
  subst e1 e2 e3
  exact own_by st (k v U s.vm U.heap q trivial ⟨rfl, _, X', rfl, hZ, hown, N.app N', O'⟩)
theorem own_callC (w : own_Wk p l e R s m args below meth c Z EL own n0 T vm0 h cells slots) (hx : p.tables.exec = Jvm.exec) {index : Nat} {y : MethodName} {bytes : ByteArray} {maxL : Nat}
    (hy1 : y.name = "<init>") (w1 : (Jvm.Cond.methodLink own index y).before a0 Z = true) (w2 : (Jvm.Cond.instanceMethod y).before a0 Z = true) (w4 : (Jvm.Cond.code y bytes maxL none).before a0 Z = true) (hy : y.cls ≠ "java/lang/invoke/MethodHandle" ∧ y.cls ≠ "java/lang/invoke/VarHandle")
    {W kc ks : Nat} {a : Addr} {argsL rest : List Value} {Q' : Option Value → Heap → Prop} (K : own_Pay l R p e below s args y 3 W Z EL n0 vm0 h (.ref a :: argsL).toArray kc ks Q') {g : JFrame} (hg : g.method = m) (hsize : g.locals.size = c.maxLocals)
    (hlen : ∀ sig, parseMethodDescriptor y.desc = some sig → argsL.length = sig.parameters.length) (hstack : g.stack = argsL.reverse ++ .ref a :: rest) (hW : 2 * g.monitorRoom + (rest.map fun v => v.category).sum ≤ W) (hd : decode c.code g.pc = .ok (.invokespecial index, 3)) (hc : cells + kc ≤ R.cells) (hs : slots + ks ≤ R.slots)
    (k : ∀ (v : Option Value) (T' : State) (vm1 : Vm) (h' : Heap), Q' v h' → True → own_Wk p l e R s m args below meth c Z EL own n0 T' vm1 h' (cells + kc) (slots + ks) → own_WP p e R below s Z EL n0 Q T' { g with pc := g.pc + 3, stack := v.toList ++ rest }) : own_WP p e R below s Z EL n0 Q T g := by
  obtain ⟨ev, locs, X, e0, hZ, hown, N, O⟩ := w
  obtain ⟨v, vm₁, ⟨U, L', c', s'⟩, hW1, X', ⟨L, ⟨q, N', O'⟩, e1, e2, e3⟩, st⟩ := X.specialBack hx (own := own) hy1 hown (mvT hZ w1) (mvT hZ w2) (mvT hZ w4) hy K hg hsize (Steps.refl _) hlen hstack hW hd (fun _ _ => ⟨rfl, e0, hc, hs⟩)
  dsimp only [Pt.U, Pt.locs, Pt.cells, Pt.slots] at X' q O' e1 e2 e3 st
  subst e1 e2 e3
  exact own_by (fun t => st.trans) (k v U s.vm U.heap q trivial ⟨rfl, _, X', rfl, hZ, hown, N.app N', O'⟩)
theorem own_callV (w : own_Wk p l e R s m args below meth c Z EL own n0 T vm0 h cells slots) (hx : p.tables.exec = Jvm.exec) {index : Nat} {y z : MethodName} {Cn : String}
    (w1 : (Jvm.Cond.methodLink own index y).before a0 Z = true) (w2 : (Jvm.Cond.declares y).before a0 Z = true) (nf : ∀ u : State, Z.Warmed39 u.vm → NotFace u y) (w3 : (Jvm.Cond.selects Cn y z).before a0 Z = true) (w4 : (Jvm.Cond.instanceMethod z).before a0 Z = true) (hy : y.cls ≠ "java/lang/invoke/MethodHandle" ∧ y.cls ≠ "java/lang/invoke/VarHandle")
    {W kc ks : Nat} {a : Addr} {argsL rest : List Value} {Q' : Option Value → Heap → Prop} (K : own_Pay l R p e below s args z 3 W Z EL n0 vm0 h (.ref a :: argsL).toArray kc ks Q') (E : Exa Z h a Cn) {g : JFrame} (hg : g.method = m) (hsize : g.locals.size = c.maxLocals)
    (hlen : ∀ sig, parseMethodDescriptor y.desc = some sig → argsL.length = sig.parameters.length) (hstack : g.stack = argsL.reverse ++ .ref a :: rest) (hW : 2 * g.monitorRoom + (rest.map fun v => v.category).sum ≤ W) (hd : decode c.code g.pc = .ok (.invokevirtual index, 3)) (hc : cells + kc ≤ R.cells) (hs : slots + ks ≤ R.slots)
    (k : ∀ (v : Option Value) (T' : State) (vm1 : Vm) (h' : Heap), Q' v h' → True → own_Wk p l e R s m args below meth c Z EL own n0 T' vm1 h' (cells + kc) (slots + ks) → own_WP p e R below s Z EL n0 Q T' { g with pc := g.pc + 3, stack := v.toList ++ rest }) : own_WP p e R below s Z EL n0 Q T g := by
  obtain ⟨ev, locs, X, e0, hZ, hown, N, O⟩ := w
  obtain ⟨cq, kq, qa, qb, qc⟩ := isOf hZ e0 E
  obtain ⟨v, vm₁, ⟨U, L', c', s'⟩, hW1, X', ⟨L, ⟨q, N', O'⟩, e1, e2, e3⟩, st⟩ := X.virtualBack hx (own := own) (y := y) (z := z) hown (mvT hZ w1) (mvT hZ w2) (nf _ hZ) (mvT hZ w3) (mvT hZ w4) hy K qa qc hg hsize (Steps.refl _) hlen hstack hW hd (fun _ _ => ⟨rfl, e0, hc, hs⟩)
  dsimp only [Pt.U, Pt.locs, Pt.cells, Pt.slots] at X' q O' e1 e2 e3 st
  subst e1 e2 e3
  exact own_by (fun t => st.trans) (k v U s.vm U.heap q trivial ⟨rfl, _, X', rfl, hZ, hown, N.app N', O'⟩)
theorem own_irem {target : State} {g : JFrame} (A : Jvm.At T m c below) (hx : p.tables.exec = Jvm.exec) (hg : g.method = m) {x y : Int32} {rest : List Value} (hd : decode c.code g.pc = .ok (.irem, 1)) (hs : g.stack = .int y :: .int x :: rest) (hy : y ≠ 0)
    (hr : Steps p.tables e below (T.setTop { g with pc := g.pc + 1, stack := .int (x % y) :: rest }) target) : Steps p.tables e below (T.setTop g) target := by
  have q : x - x / y * y = x % y := irem_eq_mod x y
  exact XS.irem A hx hg hd hs hy (by rw [q]; exact hr)
/-- a step that moves neither the heap nor the base -/
theorem own_stay {T' : State} {g g' : JFrame} (w : own_Wk p l e R s m args below meth c Z EL own n0 T vm0 h cells slots)
    (st : ∀ locs, Stand p l e R s m args below meth c T locs cells slots → T.heap = h → Z.Warmed39 s.vm → s.vm.findClass own = some m.cls → ∃ T', Stand p l e R s m args below meth c T' locs cells slots ∧ T'.heap = h ∧ ∀ target, Steps p.tables e below (T'.setTop g') target → Steps p.tables e below (T.setTop g) target)
    (k : ∀ T', own_Wk p l e R s m args below meth c Z EL own n0 T' vm0 h cells slots → own_WP p e R below s Z EL n0 Q T' g') : own_WP p e R below s Z EL n0 Q T g := by
  obtain ⟨ev, locs, X, e0, hZ, hown, r⟩ := w
  obtain ⟨T', X', e1, st'⟩ := st locs X e0 hZ hown
  exact own_by st' (k T' ⟨ev, locs, X', e1, hZ, hown, r⟩)
/-- a step that makes a cell -/
theorem own_grow {g g' : JFrame} {kc ks : Nat} {P : Heap → Prop} (w : own_Wk p l e R s m args below meth c Z EL own n0 T vm0 h cells slots)
    (st : ∀ locs, Stand p l e R s m args below meth c T locs cells slots → T.heap = h → Z.Warmed39 s.vm → s.vm.findClass own = some m.cls → ∃ T' h', Stand p l e R s m args below meth c T' locs (cells + kc) (slots + ks) ∧ T'.heap = h' ∧ Ext h h' ∧ P h' ∧ ∀ target, Steps p.tables e below (T'.setTop g') target → Steps p.tables e below (T.setTop g) target)
    (k : ∀ T' h', Ext h h' → P h' → own_Wk p l e R s m args below meth c Z EL own n0 T' vm0 h' (cells + kc) (slots + ks) → own_WP p e R below s Z EL n0 Q T' g') : own_WP p e R below s Z EL n0 Q T g := by
  obtain ⟨ev, locs, X, e0, hZ, hown, N, O⟩ := w
  obtain ⟨T', h', X', e1, E, q, st'⟩ := st locs X e0 hZ hown
  exact own_by st' (k T' h' E q ⟨ev, locs, X', e1, hZ, hown, N, O.ext E⟩)
/-- a step that writes one place of a cell made since the start -/
theorem own_wrote {g g' : JFrame} {a : Addr} {sl : Nat} {v : Value} (w : own_Wk p l e R s m args below meth c Z EL own n0 T vm0 h cells slots) (ha : n0 ≤ a) (hsf : True)
    (st : ∀ locs, Stand p l e R s m args below meth c T locs cells slots → T.heap = h → Z.Warmed39 s.vm → s.vm.findClass own = some m.cls → ∃ T' h', Stand p l e R s m args below meth c T' (locs ++ [⟨a, sl⟩]) cells slots ∧ T'.heap = h' ∧ Wr h h' a sl v ∧ ∀ target, Steps p.tables e below (T'.setTop g') target → Steps p.tables e below (T.setTop g) target)
    (k : ∀ T' h', Wr h h' a sl v → own_Wk p l e R s m args below meth c Z EL own n0 T' vm0 h' cells slots → own_WP p e R below s Z EL n0 Q T' g') : own_WP p e R below s Z EL n0 Q T g := by
  obtain ⟨ev, locs, X, e0, hZ, hown, N, O⟩ := w
  obtain ⟨T', h', X', e1, W, st'⟩ := st locs X e0 hZ hown
  exact own_by st' (k T' h' W ⟨ev, _, X', e1, hZ, hown, Fr.snoc X' N ha, O.wr W ha⟩)
theorem own_getF (w : own_Wk p l e R s m args below meth c Z EL own n0 T vm0 h cells slots) (hx : p.tables.exec = Jvm.exec) {O f d : String} {index : Nat} (w1 : (Jvm.Cond.fieldLink own index O f d).before a0 Z = true) {a : Addr} {v : Value} (F : Fld Z h a O f d v) {g : JFrame} (hg : g.method = m) {rest : List Value} (hs : g.stack = .ref a :: rest) (hd : decode c.code g.pc = .ok (.getfield index, 3))
    (k : ∀ T', own_Wk p l e R s m args below meth c Z EL own n0 T' vm0 h cells slots → own_WP p e R below s Z EL n0 Q T' { g with pc := g.pc + 3, stack := v :: rest }) : own_WP p e R below s Z EL n0 Q T g :=
  own_stay (T' := T) w (fun locs X e0 hZ hown => getF X hx hZ hown (host := "") (Or.inl w1) Via.refl e0 F hg hs hd) k
theorem own_getS (w : own_Wk p l e R s m args below meth c Z EL own n0 T vm0 h cells slots) (hx : p.tables.exec = Jvm.exec) {O f d : String} {index : Nat} (w1 : (Jvm.Cond.fieldLink own index O f d).before a0 Z = true) {v : Value} (F : Sta Z h O f d v) {g : JFrame} (hg : g.method = m) (hd : decode c.code g.pc = .ok (.getstatic index, 3))
    (k : ∀ T', own_Wk p l e R s m args below meth c Z EL own n0 T' vm0 h cells slots → own_WP p e R below s Z EL n0 Q T' { g with pc := g.pc + 3, stack := v :: g.stack }) : own_WP p e R below s Z EL n0 Q T g :=
  own_stay (T' := T) w (fun locs X e0 hZ hown => getS (host := "") X hx hZ hown w1 Via.refl e0 F hg hd) k
theorem own_cast (w : own_Wk p l e R s m args below meth c Z EL own n0 T vm0 h cells slots) (hx : p.tables.exec = Jvm.exec) {K : String} {index : Nat} (w1 : (Jvm.Cond.classLink own index K).before a0 Z = true) {a : Addr} (F : Ins Z h a K true) {g : JFrame} (hg : g.method = m) {rest : List Value} (hs : g.stack = .ref a :: rest) (hd : decode c.code g.pc = .ok (.checkcast index, 3))
    (k : ∀ T', own_Wk p l e R s m args below meth c Z EL own n0 T' vm0 h cells slots → own_WP p e R below s Z EL n0 Q T' { g with pc := g.pc + 3 }) : own_WP p e R below s Z EL n0 Q T g :=
  own_stay (T' := T) w (fun locs X e0 hZ hown => castY X hx hZ hown w1 e0 F hg hs hd) k
theorem own_instY (w : own_Wk p l e R s m args below meth c Z EL own n0 T vm0 h cells slots) (hx : p.tables.exec = Jvm.exec) {K : String} {index : Nat} (w1 : (Jvm.Cond.classLink own index K).before a0 Z = true) {a : Addr} (F : Ins Z h a K true) {g : JFrame} (hg : g.method = m) {rest : List Value} (hs : g.stack = .ref a :: rest) (hd : decode c.code g.pc = .ok (.instanceof index, 3))
    (k : ∀ T', own_Wk p l e R s m args below meth c Z EL own n0 T' vm0 h cells slots → own_WP p e R below s Z EL n0 Q T' { g with pc := g.pc + 3, stack := .int 1 :: rest }) : own_WP p e R below s Z EL n0 Q T g :=
  own_stay (T' := T) w (fun locs X e0 hZ hown => instY X hx hZ hown w1 e0 F hg hs hd) k
theorem own_initO (w : own_Wk p l e R s m args below meth c Z EL own n0 T vm0 h cells slots) (hx : p.tables.exec = Jvm.exec) {index : Nat} (w1 : (Jvm.Cond.methodLink own index Lib.objectInit).before a0 Z = true) (w2 : (Jvm.Cond.instanceMethod Lib.objectInit).before a0 Z = true) (w3 : (Jvm.Cond.code Lib.objectInit ⟨#[0xb1]⟩ 1 none).before a0 Z = true)
    {a : Addr} {g : JFrame} (hg : g.method = m) (hsize : g.locals.size = c.maxLocals) {rest : List Value} (hs : g.stack = .ref a :: rest) (hd : decode c.code g.pc = .ok (.invokespecial index, 3)) (hf : 1 ≤ R.frames) {W : Nat} (hW : 2 * g.monitorRoom + (rest.map fun v => v.category).sum ≤ W) (hl : W + 12 ≤ R.locals)
    (k : ∀ T', own_Wk p l e R s m args below meth c Z EL own n0 T' vm0 h cells slots → own_WP p e R below s Z EL n0 Q T' { g with pc := g.pc + 3, stack := rest }) : own_WP p e R below s Z EL n0 Q T g :=
  own_stay (T' := T) w (fun locs X e0 hZ hown => initO X hx hZ hown w1 w2 w3 e0 hg hsize hs hd hf hW hl) k
theorem own_new (w : own_Wk p l e R s m args below meth c Z EL own n0 T vm0 h cells slots) (hx : p.tables.exec = Jvm.exec) {Cn : String} {index n : Nat} (w1 : (Jvm.Cond.classLink own index Cn).before a0 Z = true) (w2 : (Jvm.Cond.instantiable Cn n).before a0 Z = true) (w3 : (Jvm.Cond.initialized Cn).before a0 Z = true) {g : JFrame} (hg : g.method = m) (hd : decode c.code g.pc = .ok (.new index, 3)) (hc : cells + 1 ≤ R.cells) (hl : slots + n ≤ R.slots)
    (k : ∀ T' h' a, a = h.size → Ext h h' → (Exa Z h' a Cn ∧ ∀ {O nm d : String} {ty : FieldType}, Laid Z a0 Cn O nm d → parseFieldDescriptor d = some ty → Fld Z h' a O nm d (defaultValue ty)) → own_Wk p l e R s m args below meth c Z EL own n0 T' vm0 h' (cells + 1) (slots + n) → own_WP p e R below s Z EL n0 Q T' { g with pc := g.pc + 3, stack := .ref a :: g.stack }) : own_WP p e R below s Z EL n0 Q T g :=
  own_grow (P := fun h' => Exa Z h' h.size Cn ∧ ∀ {O nm d : String} {ty : FieldType}, Laid Z a0 Cn O nm d → parseFieldDescriptor d = some ty → Fld Z h' h.size O nm d (defaultValue ty)) w (fun locs X e0 hZ hown => by
    obtain ⟨T', h', X', e1, E, A, D, -, st⟩ := newO X hx hZ hown w1 w2 w3 e0 hg hd hc hl
    exact ⟨T', h', X', e1, E, ⟨A, D⟩, st⟩) (fun T' h' E q w' => k T' h' h.size rfl E q w')
theorem own_newP (w : own_Wk p l e R s m args below meth c Z EL own n0 T vm0 h cells slots) (hx : p.tables.exec = Jvm.exec) {aty : ArrayType} (w1 : (Jvm.Cond.arrayClass (newarray.typeOf aty)).before a0 Z = true) {g : JFrame} (hg : g.method = m) (hd : decode c.code g.pc = .ok (.newarray aty, 2)) {n : Int32} {rest : List Value} (hs : g.stack = .int n :: rest)
    (hn : ¬ n < 0) {cap : Nat} (hcap : n.toNatClampNeg ≤ cap) (hb : cap * 8 ≤ 536870912) (hc : cells + 1 ≤ R.cells) (hl : slots + cap ≤ R.slots)
    (k : ∀ T' h' a cA, a = h.size → Ext h h' → Arv Z h' a cA (newarray.typeOf aty) n [] (defaultValue (newarray.typeOf aty)) → own_Wk p l e R s m args below meth c Z EL own n0 T' vm0 h' (cells + 1) (slots + cap) → own_WP p e R below s Z EL n0 Q T' { g with pc := g.pc + 2, stack := .ref a :: rest }) : own_WP p e R below s Z EL n0 Q T g :=
  own_grow (P := fun h' => ∃ cA, Arr Z h' h.size (newA cA (newarray.typeOf aty) n) (newarray.typeOf aty)) w (fun locs X e0 hZ hown => by
    obtain ⟨T', h', cA, X', e1, E, A, st⟩ := newP X hx hZ w1 e0 hg hd hs hn hcap hb hc hl
    exact ⟨T', h', X', e1, E, ⟨cA, A⟩, st⟩) (fun T' h' E ⟨cA, A⟩ w' => k T' h' h.size cA rfl E (Arv.new A hn) w')
theorem own_putF (w : own_Wk p l e R s m args below meth c Z EL own n0 T vm0 h cells slots) (hx : p.tables.exec = Jvm.exec) {O f d Cn : String} {index kk : Nat} {ty : FieldType} (w1 : (Jvm.Cond.fieldLink own index O f d).before a0 Z = true) {a : Addr} {v old : Value} (F : Fld Z h a O f d old) (E : Exa Z h a Cn)
    (L : (Jvm.Cond.lays Cn O f d).before a0 Z = true ∨ ((Jvm.Cond.laysFinal Cn O f d).before a0 Z = true ∧ own = O ∧ meth.name = "<init>")) (wi : (Jvm.Cond.instantiable Cn kk).before a0 Z = true) (hty : parseFieldDescriptor d = some ty) (hn : narrow ty v = v) (hf : fits ty v = true) (ha : n0 ≤ a) (hsf : True)
    {g : JFrame} (hg : g.method = m) {rest : List Value} (hs : g.stack = v :: .ref a :: rest) (hd : decode c.code g.pc = .ok (.putfield index, 3))
    (k : ∀ T' h', Wr h h' a (Jvm.RoadKit.slotOf Z O f d) v → own_Wk p l e R s m args below meth c Z EL own n0 T' vm0 h' cells slots → own_WP p e R below s Z EL n0 Q T' { g with pc := g.pc + 3, stack := rest }) : own_WP p e R below s Z EL n0 Q T g :=
  own_wrote w ha hsf (fun locs X e0 hZ hown => putF X hx hZ hown (host := "") (Or.inl w1) Via.refl e0 F E L wi hty hn hf hg hs hd) k
end OwnKit
theorem own_EL {Z : State} {a0 : Array Value} (hw : ∀ d ∈ tables_1, d.before a0 Z = true) : EW Z a0 [] := EW.nil
theorem d2_0 : decode jdk_30_method_1_code 0 = .ok (.aload_n 0, 1) := by decide +kernel
theorem d2_1 : decode jdk_30_method_1_code 1 = .ok (.invokespecial 1, 3) := by decide +kernel
theorem d2_4 : decode jdk_30_method_1_code 4 = .ok (.return_, 1) := by decide +kernel
theorem pn_896836413 : plainFor (⟨"java/lang/Record", "<init>", "()V"⟩ : MethodName) = true := by first | exact plainFor_of_name (by first | (simp [plainName, overriddenIn]; done) | decide +kernel) | decide +kernel
theorem ef_ct2 (m : MethodId) (x0 : Addr) : entryFrame m #[(.ref x0)] 1 = mkF m 0 #[.val (.ref x0)] [] := by first | (simp [entryFrame, mkF, argsToLocals, Value.category]; done) | rfl
set_option maxRecDepth 65536 in
set_option maxHeartbeats 40000000 in
theorem ct2 (l : Launch) (Z : State) (a0 : Array Value) (hw : ∀ d ∈ tables_1, d.before a0 Z = true) (n0 : Nat) (h0 : Heap) (O0 : Old Z n0 h0) (a : Addr)  :
    own_Ct l (⟨"java/lang/Record", "<init>", "()V"⟩ : MethodName) jdk_30_method_1_code 1 none ({ frames := 1, cells := 0, slots := 0, locals := 12 } : Room) Z [] n0 #[(.ref a)] h0 [] (fun v h => v = none ∧ h0 = h) := by
  have hEL := own_EL hw
  refine own_body pn_896836413 O0 (fun p e s m below meth c T0 vm0 hx hby hml0 hret hlk hnm hsf w0 => ?_)
  have hml : c.maxLocals = 1 := hml0
  have A0 := own_at w0
  refine own_entry (ef_ct2 m a) ?_
  refine own_by (T' := T0) (g' := (mkF m 1 #[.val (.ref a)] [(.ref a)])) (fun t hr => XS.aloadN A0 hx rfl (hb hby d2_0) rfl rfl hr) ?_
  refine own_initO w0 hx (hw _ (List.mem_of_getElem? (i := 11) rfl)) (hw _ (List.mem_of_getElem? (i := 12) rfl)) (hw _ (List.mem_of_getElem? (i := 13) rfl)) (g := (mkF m 1 #[.val (.ref a)] [(.ref a)])) rfl (by rw [hml]; rfl) rfl (hb hby d2_1) (by decide) (W := 0) (by show 2 * 0 + _ ≤ _; exact Nat.le_of_eq rfl) (by decide) (fun T1 w1 => ?_)
  have A1 := own_at w1
  show own_WP p e _ below s Z _ n0 _ T1 (mkF m 4 #[.val (.ref a)] [])
  exact own_retV w1 hx hEL hlk hret (hb hby d2_4) (by decide) (by decide) ⟨rfl, rfl⟩

theorem d1_0 : decode prog_5_method_1_code 0 = .ok (.aload_n 0, 1) := by decide +kernel
theorem d1_1 : decode prog_5_method_1_code 1 = .ok (.invokespecial 1, 3) := by decide +kernel
theorem pd_691897 : parseMethodDescriptor "()V" = some ⟨[], none⟩ := by decide +kernel
theorem d1_4 : decode prog_5_method_1_code 4 = .ok (.aload_n 0, 1) := by decide +kernel
theorem d1_5 : decode prog_5_method_1_code 5 = .ok (.iload_n 1, 1) := by decide +kernel
theorem d1_6 : decode prog_5_method_1_code 6 = .ok (.putfield 7, 3) := by decide +kernel
theorem d1_9 : decode prog_5_method_1_code 9 = .ok (.aload_n 0, 1) := by decide +kernel
theorem d1_10 : decode prog_5_method_1_code 10 = .ok (.fload_n 2, 1) := by decide +kernel
theorem d1_11 : decode prog_5_method_1_code 11 = .ok (.putfield 13, 3) := by decide +kernel
theorem d1_14 : decode prog_5_method_1_code 14 = .ok (.aload_n 0, 1) := by decide +kernel
theorem d1_15 : decode prog_5_method_1_code 15 = .ok (.lload_n 3, 1) := by decide +kernel
theorem d1_16 : decode prog_5_method_1_code 16 = .ok (.putfield 17, 3) := by decide +kernel
theorem d1_19 : decode prog_5_method_1_code 19 = .ok (.return_, 1) := by decide +kernel
theorem pn_599307299 : plainFor (⟨"com/example/second_pass/secondpass/engine/RankedHit", "<init>", "(IFJ)V"⟩ : MethodName) = true := by first | exact plainFor_of_name (by first | (simp [plainName, overriddenIn]; done) | decide +kernel) | decide +kernel
theorem ef_ct1 (m : MethodId) (x0 : Addr) (x1 : Int32) (x2 : UInt32) (x3 : Int64) : entryFrame m #[(.ref x0), (.int x1), (.float x2), (.long x3)] 5 = mkF m 0 #[.val (.ref x0), .val (.int x1), .val (.float x2), .val (.long x3), .second] [] := by first | (simp [entryFrame, mkF, argsToLocals, Value.category]; done) | rfl
set_option maxRecDepth 65536 in
set_option maxHeartbeats 40000000 in
theorem ct1 (l : Launch) (Z : State) (a0 : Array Value) (hw : ∀ d ∈ tables_1, d.before a0 Z = true) (n0 : Nat) (h0 : Heap) (O0 : Old Z n0 h0) (a : Addr) (d : Int32) (sc : UInt32) (sq : Int64) (u1 u2 u3 : Value) (X0 : Exa Z h0 a "com/example/second_pass/secondpass/engine/RankedHit") (F1 : Fld Z h0 a "com/example/second_pass/secondpass/engine/RankedHit" "doc" "I" u1) (F2 : Fld Z h0 a "com/example/second_pass/secondpass/engine/RankedHit" "score" "F" u2) (F3 : Fld Z h0 a "com/example/second_pass/secondpass/engine/RankedHit" "sequence" "J" u3) (ga : n0 ≤ a) :
    own_Ct l (⟨"com/example/second_pass/secondpass/engine/RankedHit", "<init>", "(IFJ)V"⟩ : MethodName) prog_5_method_1_code 5 none ({ frames := 2, cells := 0, slots := 0, locals := 24 } : Room) Z [] n0 #[(.ref a), (.int d), (.float sc), (.long sq)] h0 [] (fun v h => v = none ∧ Keep h0 h [a] ∧ Exa Z h a "com/example/second_pass/secondpass/engine/RankedHit" ∧ Fld Z h a "com/example/second_pass/secondpass/engine/RankedHit" "doc" "I" (.int d) ∧ Fld Z h a "com/example/second_pass/secondpass/engine/RankedHit" "score" "F" (.float sc) ∧ Fld Z h a "com/example/second_pass/secondpass/engine/RankedHit" "sequence" "J" (.long sq)) := by
  have hEL := own_EL hw
  refine own_body pn_599307299 O0 (fun p e s m below meth c T0 vm0 hx hby hml0 hret hlk hnm hsf w0 => ?_)
  have hml : c.maxLocals = 5 := hml0
  have A0 := own_at w0
  refine own_entry (ef_ct1 m a d sc sq) ?_
  refine own_by (T' := T0) (g' := (mkF m 1 #[.val (.ref a), .val (.int d), .val (.float sc), .val (.long sq), .second] [(.ref a)])) (fun t hr => XS.aloadN A0 hx rfl (hb hby d1_0) rfl rfl hr) ?_
  refine own_callC w0 hx (y := (⟨"java/lang/Record", "<init>", "()V"⟩ : MethodName)) rfl (hw _ (List.mem_of_getElem? (i := 6) rfl)) (hw _ (List.mem_of_getElem? (i := 7) rfl)) (hw _ (List.mem_of_getElem? (i := 10) rfl)) (by decide) (kc := 0) (ks := 0) (a := a) (argsL := []) (rest := []) (own_payCt (W := 0) (ct2 l Z a0 hw n0 h0 O0 a) w0 (hw _ (List.mem_of_getElem? (i := 10) rfl)) (hw _ (List.mem_of_getElem? (i := 9) rfl)) hEL (by decide) (by decide)) (g := (mkF m 1 #[.val (.ref a), .val (.int d), .val (.float sc), .val (.long sq), .second] [(.ref a)])) rfl (by rw [hml]; rfl) (lenOf pd_691897 rfl) rfl (by show 2 * 0 + _ ≤ _; exact Nat.le_of_eq rfl) (hb hby d1_1) (by decide) (by decide) (fun v1 T1 vm1 h1 q1 C1 w1 => ?_)
  obtain ⟨rfl, rfl⟩ := q1
  have A1 := own_at w1
  show own_WP p e _ below s Z _ n0 _ T1 (mkF m 4 #[.val (.ref a), .val (.int d), .val (.float sc), .val (.long sq), .second] [])
  have Ka : Keep h0 h0 [a] := Keep.refl _ _
  refine own_by (T' := T1) (g' := (mkF m 5 #[.val (.ref a), .val (.int d), .val (.float sc), .val (.long sq), .second] [(.ref a)])) (fun t hr => XS.aloadN A1 hx rfl (hb hby d1_4) rfl rfl hr) ?_
  refine own_by (T' := T1) (g' := (mkF m 6 #[.val (.ref a), .val (.int d), .val (.float sc), .val (.long sq), .second] [(.int d), (.ref a)])) (fun t hr => XS.iloadN A1 hx rfl (hb hby d1_5) rfl hr) ?_
  refine own_putF w1 hx (hw _ (List.mem_of_getElem? (i := 14) rfl)) F1 X0 (Or.inr ⟨(hw _ (List.mem_of_getElem? (i := 15) rfl)), rfl, hnm⟩) (hw _ (List.mem_of_getElem? (i := 1) rfl)) (ty := .int) (by decide) rfl rfl ga trivial (g := (mkF m 6 #[.val (.ref a), .val (.int d), .val (.float sc), .val (.long sq), .second] [(.int d), (.ref a)])) rfl rfl (hb hby d1_6) (fun T2 h2 W2 w2 => ?_)
  have A2 := own_at w2
  show own_WP p e _ below s Z _ n0 _ T2 (mkF m 9 #[.val (.ref a), .val (.int d), .val (.float sc), .val (.long sq), .second] [])
  have K0 : Keep h0 h2 [a] := Ka.wr W2 (Or.inl (List.mem_of_getElem? (i := 0) rfl))
  have X_0 := X0.wr W2
  have F1_0 := F1.same W2
  have F2_0 := F2.other W2 (Or.inr (slot_ne (Or.inr (hw _ (List.mem_of_getElem? (i := 17) rfl))) (Or.inr (hw _ (List.mem_of_getElem? (i := 15) rfl))) (by decide) rfl rfl))
  have F3_0 := F3.other W2 (Or.inr (slot_ne (Or.inr (hw _ (List.mem_of_getElem? (i := 19) rfl))) (Or.inr (hw _ (List.mem_of_getElem? (i := 15) rfl))) (by decide) rfl rfl))
  refine own_by (T' := T2) (g' := (mkF m 10 #[.val (.ref a), .val (.int d), .val (.float sc), .val (.long sq), .second] [(.ref a)])) (fun t hr => XS.aloadN A2 hx rfl (hb hby d1_9) rfl rfl hr) ?_
  refine own_by (T' := T2) (g' := (mkF m 11 #[.val (.ref a), .val (.int d), .val (.float sc), .val (.long sq), .second] [(.float sc), (.ref a)])) (fun t hr => XS.floadN A2 hx rfl (hb hby d1_10) rfl hr) ?_
  refine own_putF w2 hx (hw _ (List.mem_of_getElem? (i := 16) rfl)) F2_0 X_0 (Or.inr ⟨(hw _ (List.mem_of_getElem? (i := 17) rfl)), rfl, hnm⟩) (hw _ (List.mem_of_getElem? (i := 1) rfl)) (ty := .float) (by decide) rfl rfl ga trivial (g := (mkF m 11 #[.val (.ref a), .val (.int d), .val (.float sc), .val (.long sq), .second] [(.float sc), (.ref a)])) rfl rfl (hb hby d1_11) (fun T3 h3 W3 w3 => ?_)
  have A3 := own_at w3
  show own_WP p e _ below s Z _ n0 _ T3 (mkF m 14 #[.val (.ref a), .val (.int d), .val (.float sc), .val (.long sq), .second] [])
  have K1 : Keep h0 h3 [a] := K0.wr W3 (Or.inl (List.mem_of_getElem? (i := 0) rfl))
  have X_1 := X_0.wr W3
  have F1_0_1 := F1_0.other W3 (Or.inr (slot_ne (Or.inr (hw _ (List.mem_of_getElem? (i := 15) rfl))) (Or.inr (hw _ (List.mem_of_getElem? (i := 17) rfl))) (by decide) rfl rfl))
  have F2_0_1 := F2_0.same W3
  have F3_0_1 := F3_0.other W3 (Or.inr (slot_ne (Or.inr (hw _ (List.mem_of_getElem? (i := 19) rfl))) (Or.inr (hw _ (List.mem_of_getElem? (i := 17) rfl))) (by decide) rfl rfl))
  refine own_by (T' := T3) (g' := (mkF m 15 #[.val (.ref a), .val (.int d), .val (.float sc), .val (.long sq), .second] [(.ref a)])) (fun t hr => XS.aloadN A3 hx rfl (hb hby d1_14) rfl rfl hr) ?_
  refine own_by (T' := T3) (g' := (mkF m 16 #[.val (.ref a), .val (.int d), .val (.float sc), .val (.long sq), .second] [(.long sq), (.ref a)])) (fun t hr => XS.lloadN A3 hx rfl (hb hby d1_15) rfl hr) ?_
  refine own_putF w3 hx (hw _ (List.mem_of_getElem? (i := 18) rfl)) F3_0_1 X_1 (Or.inr ⟨(hw _ (List.mem_of_getElem? (i := 19) rfl)), rfl, hnm⟩) (hw _ (List.mem_of_getElem? (i := 1) rfl)) (ty := .long) (by decide) rfl rfl ga trivial (g := (mkF m 16 #[.val (.ref a), .val (.int d), .val (.float sc), .val (.long sq), .second] [(.long sq), (.ref a)])) rfl rfl (hb hby d1_16) (fun T4 h4 W4 w4 => ?_)
  have A4 := own_at w4
  show own_WP p e _ below s Z _ n0 _ T4 (mkF m 19 #[.val (.ref a), .val (.int d), .val (.float sc), .val (.long sq), .second] [])
  have K2 : Keep h0 h4 [a] := K1.wr W4 (Or.inl (List.mem_of_getElem? (i := 0) rfl))
  have X_2 := X_1.wr W4
  have F1_0_1_2 := F1_0_1.other W4 (Or.inr (slot_ne (Or.inr (hw _ (List.mem_of_getElem? (i := 15) rfl))) (Or.inr (hw _ (List.mem_of_getElem? (i := 19) rfl))) (by decide) rfl rfl))
  have F2_0_1_2 := F2_0_1.other W4 (Or.inr (slot_ne (Or.inr (hw _ (List.mem_of_getElem? (i := 17) rfl))) (Or.inr (hw _ (List.mem_of_getElem? (i := 19) rfl))) (by decide) rfl rfl))
  have F3_0_1_2 := F3_0_1.same W4
  exact own_retV w4 hx hEL hlk hret (hb hby d1_19) (by decide) (by decide) ⟨rfl, K2, X_2, F1_0_1_2, F2_0_1_2, F3_0_1_2⟩

theorem d4_0 : decode prog_5_method_2_code 0 = .ok (.new 8, 3) := by decide +kernel
theorem d4_3 : decode prog_5_method_2_code 3 = .ok (.dup, 1) := by decide +kernel
theorem d4_4 : decode prog_5_method_2_code 4 = .ok (.aload_n 0, 1) := by decide +kernel
theorem d4_5 : decode prog_5_method_2_code 5 = .ok (.getfield 7, 3) := by decide +kernel
theorem d4_8 : decode prog_5_method_2_code 8 = .ok (.fload_n 1, 1) := by decide +kernel
theorem d4_9 : decode prog_5_method_2_code 9 = .ok (.aload_n 0, 1) := by decide +kernel
theorem d4_10 : decode prog_5_method_2_code 10 = .ok (.getfield 17, 3) := by decide +kernel
theorem d4_13 : decode prog_5_method_2_code 13 = .ok (.invokespecial 21, 3) := by decide +kernel
theorem pd_836711066 : parseMethodDescriptor "(IFJ)V" = some ⟨[.int, .float, .long], none⟩ := by decide +kernel
theorem d4_16 : decode prog_5_method_2_code 16 = .ok (.areturn, 1) := by decide +kernel
theorem pn_398918048 : plainFor (⟨"com/example/second_pass/secondpass/engine/RankedHit", "withScore", "(F)Lcom/example/second_pass/secondpass/engine/RankedHit;"⟩ : MethodName) = true := by first | exact plainFor_of_name (by first | (simp [plainName, overriddenIn]; done) | decide +kernel) | decide +kernel
theorem ef_ct4 (m : MethodId) (x0 : Addr) (x1 : UInt32) : entryFrame m #[(.ref x0), (.float x1)] 2 = mkF m 0 #[.val (.ref x0), .val (.float x1)] [] := by first | (simp [entryFrame, mkF, argsToLocals, Value.category]; done) | rfl
set_option maxRecDepth 65536 in
set_option maxHeartbeats 40000000 in
theorem ct4 (l : Launch) (Z : State) (a0 : Array Value) (hw : ∀ d ∈ tables_1, d.before a0 Z = true) (n0 : Nat) (h0 : Heap) (O0 : Old Z n0 h0) (a : Addr) (d : Int32) (sc' : UInt32) (sq : Int64) (F1 : Fld Z h0 a "com/example/second_pass/secondpass/engine/RankedHit" "doc" "I" (.int d)) (F3 : Fld Z h0 a "com/example/second_pass/secondpass/engine/RankedHit" "sequence" "J" (.long sq)) :
    own_Ct l (⟨"com/example/second_pass/secondpass/engine/RankedHit", "withScore", "(F)Lcom/example/second_pass/secondpass/engine/RankedHit;"⟩ : MethodName) prog_5_method_2_code 2 (some (.object "com/example/second_pass/secondpass/engine/RankedHit")) ({ frames := 3, cells := 1, slots := 3, locals := 41 } : Room) Z [] n0 #[(.ref a), (.float sc')] h0 [] (fun v h => ∃ b, v = some (.ref b) ∧ Ext h0 h ∧ Exa Z h b "com/example/second_pass/secondpass/engine/RankedHit" ∧ Fld Z h b "com/example/second_pass/secondpass/engine/RankedHit" "doc" "I" (.int d) ∧ Fld Z h b "com/example/second_pass/secondpass/engine/RankedHit" "score" "F" (.float sc') ∧ Fld Z h b "com/example/second_pass/secondpass/engine/RankedHit" "sequence" "J" (.long sq)) := by
  have hEL := own_EL hw
  refine own_body pn_398918048 O0 (fun p e s m below meth c T0 vm0 hx hby hml0 hret hlk hnm hsf w0 => ?_)
  have hml : c.maxLocals = 2 := hml0
  have A0 := own_at w0
  refine own_entry (ef_ct4 m a sc') ?_
  refine own_new w0 hx (hw _ (List.mem_of_getElem? (i := 25) rfl)) (hw _ (List.mem_of_getElem? (i := 1) rfl)) (hw _ (List.mem_of_getElem? (i := 2) rfl)) (g := (mkF m 0 #[.val (.ref a), .val (.float sc')] [])) rfl (hb hby d4_0) (by decide) (by decide) (fun T1 h1 a1 g1 E1 ⟨X1, D1⟩ w1 => ?_)
  have A1 := own_at w1
  show own_WP p e _ below s Z _ n0 _ T1 (mkF m 3 #[.val (.ref a), .val (.float sc')] [(.ref a1)])
  refine own_by (T' := T1) (g' := (mkF m 4 #[.val (.ref a), .val (.float sc')] [(.ref a1), (.ref a1)])) (fun t hr => XS.dup A1 hx rfl (hb hby d4_3) rfl rfl hr) ?_
  refine own_by (T' := T1) (g' := (mkF m 5 #[.val (.ref a), .val (.float sc')] [(.ref a), (.ref a1), (.ref a1)])) (fun t hr => XS.aloadN A1 hx rfl (hb hby d4_4) rfl rfl hr) ?_
  refine own_getF w1 hx (hw _ (List.mem_of_getElem? (i := 14) rfl)) (F1.ext E1) (g := (mkF m 5 #[.val (.ref a), .val (.float sc')] [(.ref a), (.ref a1), (.ref a1)])) rfl rfl (hb hby d4_5) (fun T2 w2 => ?_)
  have A2 := own_at w2
  show own_WP p e _ below s Z _ n0 _ T2 (mkF m 8 #[.val (.ref a), .val (.float sc')] [(.int d), (.ref a1), (.ref a1)])
  refine own_by (T' := T2) (g' := (mkF m 9 #[.val (.ref a), .val (.float sc')] [(.float sc'), (.int d), (.ref a1), (.ref a1)])) (fun t hr => XS.floadN A2 hx rfl (hb hby d4_8) rfl hr) ?_
  refine own_by (T' := T2) (g' := (mkF m 10 #[.val (.ref a), .val (.float sc')] [(.ref a), (.float sc'), (.int d), (.ref a1), (.ref a1)])) (fun t hr => XS.aloadN A2 hx rfl (hb hby d4_9) rfl rfl hr) ?_
  refine own_getF w2 hx (hw _ (List.mem_of_getElem? (i := 18) rfl)) (F3.ext E1) (g := (mkF m 10 #[.val (.ref a), .val (.float sc')] [(.ref a), (.float sc'), (.int d), (.ref a1), (.ref a1)])) rfl rfl (hb hby d4_10) (fun T3 w3 => ?_)
  have A3 := own_at w3
  show own_WP p e _ below s Z _ n0 _ T3 (mkF m 13 #[.val (.ref a), .val (.float sc')] [(.long sq), (.float sc'), (.int d), (.ref a1), (.ref a1)])
  refine own_callC w3 hx (y := (⟨"com/example/second_pass/secondpass/engine/RankedHit", "<init>", "(IFJ)V"⟩ : MethodName)) rfl (hw _ (List.mem_of_getElem? (i := 26) rfl)) (hw _ (List.mem_of_getElem? (i := 4) rfl)) (hw _ (List.mem_of_getElem? (i := 5) rfl)) (by decide) (kc := 0) (ks := 0) (a := a1) (argsL := [(.int d), (.float sc'), (.long sq)]) (rest := [(.ref a1)]) (own_payCt (W := 1) (ct1 l Z a0 hw n0 h1 (own_old w3) a1 d sc' sq _ _ _ X1 (D1 (Or.inr (hw _ (List.mem_of_getElem? (i := 15) rfl))) (ty := .int) (by decide)) (D1 (Or.inr (hw _ (List.mem_of_getElem? (i := 17) rfl))) (ty := .float) (by decide)) (D1 (Or.inr (hw _ (List.mem_of_getElem? (i := 19) rfl))) (ty := .long) (by decide)) (by rw [g1]; exact own_n0 w0)) w3 (hw _ (List.mem_of_getElem? (i := 5) rfl)) (hw _ (List.mem_of_getElem? (i := 2) rfl)) hEL (by decide) (by decide)) (g := (mkF m 13 #[.val (.ref a), .val (.float sc')] [(.long sq), (.float sc'), (.int d), (.ref a1), (.ref a1)])) rfl (by rw [hml]; rfl) (lenOf pd_836711066 rfl) rfl (by show 2 * 0 + _ ≤ _; exact Nat.le_of_eq rfl) (hb hby d4_13) (by decide) (by decide) (fun v4 T4 vm4 h4 q4 C4 w4 => ?_)
  obtain ⟨rfl, K1, Y1, P1, S1, U1⟩ := q4
  have A4 := own_at w4
  show own_WP p e _ below s Z _ n0 _ T4 (mkF m 16 #[.val (.ref a), .val (.float sc')] [(.ref a1)])
  exact own_retA w4 hx hEL hlk hret rfl rfl (hb hby d4_16) (by decide) (by decide) ⟨_, rfl, own_extK E1 K1 (fun x hx => by cases List.mem_singleton.mp hx; rw [g1]; exact Nat.le_refl _), Y1, P1, S1, U1⟩

theorem d5_0 : decode prog_5_method_6_code 0 = .ok (.aload_n 0, 1) := by decide +kernel
theorem d5_1 : decode prog_5_method_6_code 1 = .ok (.getfield 7, 3) := by decide +kernel
theorem d5_4 : decode prog_5_method_6_code 4 = .ok (.ireturn, 1) := by decide +kernel
theorem pn_807879637 : plainFor (⟨"com/example/second_pass/secondpass/engine/RankedHit", "doc", "()I"⟩ : MethodName) = true := by first | exact plainFor_of_name (by first | (simp [plainName, overriddenIn]; done) | decide +kernel) | decide +kernel
theorem ef_ct5 (m : MethodId) (x0 : Addr) : entryFrame m #[(.ref x0)] 1 = mkF m 0 #[.val (.ref x0)] [] := by first | (simp [entryFrame, mkF, argsToLocals, Value.category]; done) | rfl
set_option maxRecDepth 65536 in
set_option maxHeartbeats 40000000 in
theorem ct5 (l : Launch) (Z : State) (a0 : Array Value) (hw : ∀ d ∈ tables_1, d.before a0 Z = true) (n0 : Nat) (h0 : Heap) (O0 : Old Z n0 h0) (a : Addr) (x : Int32) (F : Fld Z h0 a "com/example/second_pass/secondpass/engine/RankedHit" "doc" "I" (.int x)) :
    own_Ct l (⟨"com/example/second_pass/secondpass/engine/RankedHit", "doc", "()I"⟩ : MethodName) prog_5_method_6_code 1 (some .int) ({ frames := 0, cells := 0, slots := 0, locals := 0 } : Room) Z [] n0 #[(.ref a)] h0 [] (fun v h => v = some (.int x) ∧ h0 = h) := by
  have hEL := own_EL hw
  refine own_body pn_807879637 O0 (fun p e s m below meth c T0 vm0 hx hby hml0 hret hlk hnm hsf w0 => ?_)
  have hml : c.maxLocals = 1 := hml0
  have A0 := own_at w0
  refine own_entry (ef_ct5 m a) ?_
  refine own_by (T' := T0) (g' := (mkF m 1 #[.val (.ref a)] [(.ref a)])) (fun t hr => XS.aloadN A0 hx rfl (hb hby d5_0) rfl rfl hr) ?_
  refine own_getF w0 hx (hw _ (List.mem_of_getElem? (i := 14) rfl)) F (g := (mkF m 1 #[.val (.ref a)] [(.ref a)])) rfl rfl (hb hby d5_1) (fun T1 w1 => ?_)
  have A1 := own_at w1
  show own_WP p e _ below s Z _ n0 _ T1 (mkF m 4 #[.val (.ref a)] [(.int x)])
  exact own_retI w1 hx hEL hlk hret (hb hby d5_4) (by decide) (by decide) ⟨rfl, rfl⟩

theorem d6_0 : decode prog_5_method_7_code 0 = .ok (.aload_n 0, 1) := by decide +kernel
theorem d6_1 : decode prog_5_method_7_code 1 = .ok (.getfield 13, 3) := by decide +kernel
theorem d6_4 : decode prog_5_method_7_code 4 = .ok (.freturn, 1) := by decide +kernel
theorem pn_917647100 : plainFor (⟨"com/example/second_pass/secondpass/engine/RankedHit", "score", "()F"⟩ : MethodName) = true := by first | exact plainFor_of_name (by first | (simp [plainName, overriddenIn]; done) | decide +kernel) | decide +kernel
theorem ef_ct6 (m : MethodId) (x0 : Addr) : entryFrame m #[(.ref x0)] 1 = mkF m 0 #[.val (.ref x0)] [] := by first | (simp [entryFrame, mkF, argsToLocals, Value.category]; done) | rfl
set_option maxRecDepth 65536 in
set_option maxHeartbeats 40000000 in
theorem ct6 (l : Launch) (Z : State) (a0 : Array Value) (hw : ∀ d ∈ tables_1, d.before a0 Z = true) (n0 : Nat) (h0 : Heap) (O0 : Old Z n0 h0) (a : Addr) (x : UInt32) (F : Fld Z h0 a "com/example/second_pass/secondpass/engine/RankedHit" "score" "F" (.float x)) :
    own_Ct l (⟨"com/example/second_pass/secondpass/engine/RankedHit", "score", "()F"⟩ : MethodName) prog_5_method_7_code 1 (some .float) ({ frames := 0, cells := 0, slots := 0, locals := 0 } : Room) Z [] n0 #[(.ref a)] h0 [] (fun v h => v = some (.float x) ∧ h0 = h) := by
  have hEL := own_EL hw
  refine own_body pn_917647100 O0 (fun p e s m below meth c T0 vm0 hx hby hml0 hret hlk hnm hsf w0 => ?_)
  have hml : c.maxLocals = 1 := hml0
  have A0 := own_at w0
  refine own_entry (ef_ct6 m a) ?_
  refine own_by (T' := T0) (g' := (mkF m 1 #[.val (.ref a)] [(.ref a)])) (fun t hr => XS.aloadN A0 hx rfl (hb hby d6_0) rfl rfl hr) ?_
  refine own_getF w0 hx (hw _ (List.mem_of_getElem? (i := 16) rfl)) F (g := (mkF m 1 #[.val (.ref a)] [(.ref a)])) rfl rfl (hb hby d6_1) (fun T1 w1 => ?_)
  have A1 := own_at w1
  show own_WP p e _ below s Z _ n0 _ T1 (mkF m 4 #[.val (.ref a)] [(.float x)])
  exact own_retF w1 hx hEL hlk hret (hb hby d6_4) (by decide) (by decide) ⟨rfl, rfl⟩

theorem d7_0 : decode prog_5_method_8_code 0 = .ok (.aload_n 0, 1) := by decide +kernel
theorem d7_1 : decode prog_5_method_8_code 1 = .ok (.getfield 17, 3) := by decide +kernel
theorem d7_4 : decode prog_5_method_8_code 4 = .ok (.lreturn, 1) := by decide +kernel
theorem pn_951935719 : plainFor (⟨"com/example/second_pass/secondpass/engine/RankedHit", "sequence", "()J"⟩ : MethodName) = true := by first | exact plainFor_of_name (by first | (simp [plainName, overriddenIn]; done) | decide +kernel) | decide +kernel
theorem ef_ct7 (m : MethodId) (x0 : Addr) : entryFrame m #[(.ref x0)] 1 = mkF m 0 #[.val (.ref x0)] [] := by first | (simp [entryFrame, mkF, argsToLocals, Value.category]; done) | rfl
set_option maxRecDepth 65536 in
set_option maxHeartbeats 40000000 in
theorem ct7 (l : Launch) (Z : State) (a0 : Array Value) (hw : ∀ d ∈ tables_1, d.before a0 Z = true) (n0 : Nat) (h0 : Heap) (O0 : Old Z n0 h0) (a : Addr) (x : Int64) (F : Fld Z h0 a "com/example/second_pass/secondpass/engine/RankedHit" "sequence" "J" (.long x)) :
    own_Ct l (⟨"com/example/second_pass/secondpass/engine/RankedHit", "sequence", "()J"⟩ : MethodName) prog_5_method_8_code 1 (some .long) ({ frames := 0, cells := 0, slots := 0, locals := 0 } : Room) Z [] n0 #[(.ref a)] h0 [] (fun v h => v = some (.long x) ∧ h0 = h) := by
  have hEL := own_EL hw
  refine own_body pn_951935719 O0 (fun p e s m below meth c T0 vm0 hx hby hml0 hret hlk hnm hsf w0 => ?_)
  have hml : c.maxLocals = 1 := hml0
  have A0 := own_at w0
  refine own_entry (ef_ct7 m a) ?_
  refine own_by (T' := T0) (g' := (mkF m 1 #[.val (.ref a)] [(.ref a)])) (fun t hr => XS.aloadN A0 hx rfl (hb hby d7_0) rfl rfl hr) ?_
  refine own_getF w0 hx (hw _ (List.mem_of_getElem? (i := 18) rfl)) F (g := (mkF m 1 #[.val (.ref a)] [(.ref a)])) rfl rfl (hb hby d7_1) (fun T1 w1 => ?_)
  have A1 := own_at w1
  show own_WP p e _ below s Z _ n0 _ T1 (mkF m 4 #[.val (.ref a)] [(.long x)])
  exact own_retJ w1 hx hEL hlk hret (hb hby d7_4) (by decide) (by decide) ⟨rfl, rfl⟩

theorem pd_477664370 : parseMethodDescriptor "(F)Lcom/example/second_pass/secondpass/engine/RankedHit;" = some ⟨[.float], some (.object "com/example/second_pass/secondpass/engine/RankedHit")⟩ := by decide +kernel
theorem pd_691884 : parseMethodDescriptor "()I" = some ⟨[], some .int⟩ := by decide +kernel
theorem pd_691881 : parseMethodDescriptor "()F" = some ⟨[], some .float⟩ := by decide +kernel
theorem pd_691885 : parseMethodDescriptor "()J" = some ⟨[], some .long⟩ := by decide +kernel
theorem pn_120 : plainFor x = true := by first | exact plainFor_of_name (by first | (simp [plainName, overriddenIn]; done) | decide +kernel) | decide +kernel
theorem ef_ctLaw (m : MethodId) (x0 : Int32) (x1 : Int32) (x2 : Int32) (x3 : Int64) : entryFrame m #[(.int x0), (.int x1), (.int x2), (.long x3)] maxLocals = mkF m 0 #[.val (.int x0), .val (.int x1), .val (.int x2), .val (.long x3), .second, .unset, .unset, .unset, .unset, .unset, .unset, .unset, .unset] [] := by first | (simp [entryFrame, mkF, argsToLocals, Value.category, maxLocals]; done) | rfl
set_option maxRecDepth 65536 in
set_option maxHeartbeats 40000000 in
theorem ctLaw (l : Launch) (Z : State) (a0 : Array Value) (hw : ∀ d ∈ tables_1, d.before a0 Z = true) (n0 : Nat) (h0 : Heap) (O0 : Old Z n0 h0) (i0 i1 i2 : Int32) (i3 : Int64)  :
    own_Ct l x code maxLocals ret room_1 Z [] n0 #[(.int i0), (.int i1), (.int i2), (.long i3)] h0 [] (fun v h => v = some (.int 1)) := by
  have hEL := own_EL hw
  refine own_body pn_120 O0 (fun p e s m below meth c T0 vm0 hx hby hml0 hret hlk hnm hsf w0 => ?_)
  have hml : c.maxLocals = 13 := hml0
  have A0 := own_at w0
  refine own_entry (ef_ctLaw m i0 i1 i2 i3) ?_
  refine own_by (T' := T0) (g' := (mkF m 1 #[.val (.int i0), .val (.int i1), .val (.int i2), .val (.long i3), .second, .unset, .unset, .unset, .unset, .unset, .unset, .unset, .unset] [(.int i1)])) (fun t hr => XS.iloadN A0 hx rfl (hb hby at_0) rfl hr) ?_
  refine own_by (T' := T0) (g' := (mkF m 2 #[.val (.int i0), .val (.int i1), .val (.int i2), .val (.long i3), .second, .unset, .unset, .unset, .unset, .unset, .unset, .unset, .unset] [(.float (FP.i2f i1))])) (fun t hr => XS.i2fS A0 hx rfl (hb hby at_1) rfl rfl hr) ?_
  refine own_by (T' := T0) (g' := (mkF m 4 #[.val (.int i0), .val (.int i1), .val (.int i2), .val (.long i3), .second, .val (.float (FP.i2f i1)), .unset, .unset, .unset, .unset, .unset, .unset, .unset] [])) (fun t hr => XS.fstore A0 hx rfl (hb hby at_2) rfl (l' := #[.val (.int i0), .val (.int i1), .val (.int i2), .val (.long i3), .second, .val (.float (FP.i2f i1)), .unset, .unset, .unset, .unset, .unset, .unset, .unset]) rfl hr) ?_
  refine own_by (T' := T0) (g' := (mkF m 5 #[.val (.int i0), .val (.int i1), .val (.int i2), .val (.long i3), .second, .val (.float (FP.i2f i1)), .unset, .unset, .unset, .unset, .unset, .unset, .unset] [(.int i2)])) (fun t hr => XS.iloadN A0 hx rfl (hb hby at_4) rfl hr) ?_
  refine own_by (T' := T0) (g' := (mkF m 6 #[.val (.int i0), .val (.int i1), .val (.int i2), .val (.long i3), .second, .val (.float (FP.i2f i1)), .unset, .unset, .unset, .unset, .unset, .unset, .unset] [(.float (FP.i2f i2))])) (fun t hr => XS.i2fS A0 hx rfl (hb hby at_5) rfl rfl hr) ?_
  refine own_by (T' := T0) (g' := (mkF m 8 #[.val (.int i0), .val (.int i1), .val (.int i2), .val (.long i3), .second, .val (.float (FP.i2f i1)), .val (.float (FP.i2f i2)), .unset, .unset, .unset, .unset, .unset, .unset] [])) (fun t hr => XS.fstore A0 hx rfl (hb hby at_6) rfl (l' := #[.val (.int i0), .val (.int i1), .val (.int i2), .val (.long i3), .second, .val (.float (FP.i2f i1)), .val (.float (FP.i2f i2)), .unset, .unset, .unset, .unset, .unset, .unset]) rfl hr) ?_
  refine own_new w0 hx (hw _ (List.mem_of_getElem? (i := 0) rfl)) (hw _ (List.mem_of_getElem? (i := 1) rfl)) (hw _ (List.mem_of_getElem? (i := 2) rfl)) (g := (mkF m 8 #[.val (.int i0), .val (.int i1), .val (.int i2), .val (.long i3), .second, .val (.float (FP.i2f i1)), .val (.float (FP.i2f i2)), .unset, .unset, .unset, .unset, .unset, .unset] [])) rfl (hb hby at_8) (by decide) (by decide) (fun T1 h1 a1 g1 E1 ⟨X1, D1⟩ w1 => ?_)
  have A1 := own_at w1
  show own_WP p e _ below s Z _ n0 _ T1 (mkF m 11 #[.val (.int i0), .val (.int i1), .val (.int i2), .val (.long i3), .second, .val (.float (FP.i2f i1)), .val (.float (FP.i2f i2)), .unset, .unset, .unset, .unset, .unset, .unset] [(.ref a1)])
  refine own_by (T' := T1) (g' := (mkF m 12 #[.val (.int i0), .val (.int i1), .val (.int i2), .val (.long i3), .second, .val (.float (FP.i2f i1)), .val (.float (FP.i2f i2)), .unset, .unset, .unset, .unset, .unset, .unset] [(.ref a1), (.ref a1)])) (fun t hr => XS.dup A1 hx rfl (hb hby at_11) rfl rfl hr) ?_
  refine own_by (T' := T1) (g' := (mkF m 13 #[.val (.int i0), .val (.int i1), .val (.int i2), .val (.long i3), .second, .val (.float (FP.i2f i1)), .val (.float (FP.i2f i2)), .unset, .unset, .unset, .unset, .unset, .unset] [(.int i0), (.ref a1), (.ref a1)])) (fun t hr => XS.iloadN A1 hx rfl (hb hby at_12) rfl hr) ?_
  refine own_by (T' := T1) (g' := (mkF m 15 #[.val (.int i0), .val (.int i1), .val (.int i2), .val (.long i3), .second, .val (.float (FP.i2f i1)), .val (.float (FP.i2f i2)), .unset, .unset, .unset, .unset, .unset, .unset] [(.float (FP.i2f i1)), (.int i0), (.ref a1), (.ref a1)])) (fun t hr => XS.fload A1 hx rfl (hb hby at_13) rfl hr) ?_
  refine own_by (T' := T1) (g' := (mkF m 16 #[.val (.int i0), .val (.int i1), .val (.int i2), .val (.long i3), .second, .val (.float (FP.i2f i1)), .val (.float (FP.i2f i2)), .unset, .unset, .unset, .unset, .unset, .unset] [(.long i3), (.float (FP.i2f i1)), (.int i0), (.ref a1), (.ref a1)])) (fun t hr => XS.lloadN A1 hx rfl (hb hby at_15) rfl hr) ?_
  refine own_callC w1 hx (y := (⟨"com/example/second_pass/secondpass/engine/RankedHit", "<init>", "(IFJ)V"⟩ : MethodName)) rfl (hw _ (List.mem_of_getElem? (i := 3) rfl)) (hw _ (List.mem_of_getElem? (i := 4) rfl)) (hw _ (List.mem_of_getElem? (i := 5) rfl)) (by decide) (kc := 0) (ks := 0) (a := a1) (argsL := [(.int i0), (.float (FP.i2f i1)), (.long i3)]) (rest := [(.ref a1)]) (own_payCt (W := 1) (ct1 l Z a0 hw n0 h1 (own_old w1) a1 i0 (FP.i2f i1) i3 _ _ _ X1 (D1 (Or.inr (hw _ (List.mem_of_getElem? (i := 15) rfl))) (ty := .int) (by decide)) (D1 (Or.inr (hw _ (List.mem_of_getElem? (i := 17) rfl))) (ty := .float) (by decide)) (D1 (Or.inr (hw _ (List.mem_of_getElem? (i := 19) rfl))) (ty := .long) (by decide)) (by rw [g1]; exact own_n0 w0)) w1 (hw _ (List.mem_of_getElem? (i := 5) rfl)) (hw _ (List.mem_of_getElem? (i := 2) rfl)) hEL (by decide) (by decide)) (g := (mkF m 16 #[.val (.int i0), .val (.int i1), .val (.int i2), .val (.long i3), .second, .val (.float (FP.i2f i1)), .val (.float (FP.i2f i2)), .unset, .unset, .unset, .unset, .unset, .unset] [(.long i3), (.float (FP.i2f i1)), (.int i0), (.ref a1), (.ref a1)])) rfl (by rw [hml]; rfl) (lenOf pd_836711066 rfl) rfl (by show 2 * 0 + _ ≤ _; exact Nat.le_of_eq rfl) (hb hby at_16) (by decide) (by decide) (fun v2 T2 vm2 h2 q2 C2 w2 => ?_)
  obtain ⟨rfl, K1, Y1, P1, S1, U1⟩ := q2
  have A2 := own_at w2
  show own_WP p e _ below s Z _ n0 _ T2 (mkF m 19 #[.val (.int i0), .val (.int i1), .val (.int i2), .val (.long i3), .second, .val (.float (FP.i2f i1)), .val (.float (FP.i2f i2)), .unset, .unset, .unset, .unset, .unset, .unset] [(.ref a1)])
  refine own_by (T' := T2) (g' := (mkF m 21 #[.val (.int i0), .val (.int i1), .val (.int i2), .val (.long i3), .second, .val (.float (FP.i2f i1)), .val (.float (FP.i2f i2)), .val (.ref a1), .unset, .unset, .unset, .unset, .unset] [])) (fun t hr => XS.astore A2 hx rfl (hb hby at_19) rfl rfl (l' := #[.val (.int i0), .val (.int i1), .val (.int i2), .val (.long i3), .second, .val (.float (FP.i2f i1)), .val (.float (FP.i2f i2)), .val (.ref a1), .unset, .unset, .unset, .unset, .unset]) rfl hr) ?_
  refine own_by (T' := T2) (g' := (mkF m 23 #[.val (.int i0), .val (.int i1), .val (.int i2), .val (.long i3), .second, .val (.float (FP.i2f i1)), .val (.float (FP.i2f i2)), .val (.ref a1), .unset, .unset, .unset, .unset, .unset] [(.ref a1)])) (fun t hr => XS.aload A2 hx rfl (hb hby at_21) rfl rfl hr) ?_
  refine own_by (T' := T2) (g' := (mkF m 25 #[.val (.int i0), .val (.int i1), .val (.int i2), .val (.long i3), .second, .val (.float (FP.i2f i1)), .val (.float (FP.i2f i2)), .val (.ref a1), .unset, .unset, .unset, .unset, .unset] [(.float (FP.i2f i2)), (.ref a1)])) (fun t hr => XS.fload A2 hx rfl (hb hby at_23) rfl hr) ?_
  refine own_callV w2 hx (y := (⟨"com/example/second_pass/secondpass/engine/RankedHit", "withScore", "(F)Lcom/example/second_pass/secondpass/engine/RankedHit;"⟩ : MethodName)) (z := (⟨"com/example/second_pass/secondpass/engine/RankedHit", "withScore", "(F)Lcom/example/second_pass/secondpass/engine/RankedHit;"⟩ : MethodName)) (hw _ (List.mem_of_getElem? (i := 20) rfl)) (hw _ (List.mem_of_getElem? (i := 21) rfl)) (fun u hu => notFace_of_selects (args := #[]) (mvT hu (hw _ (List.mem_of_getElem? (i := 23) rfl)))) (hw _ (List.mem_of_getElem? (i := 23) rfl)) (hw _ (List.mem_of_getElem? (i := 22) rfl)) (by decide) (kc := 1) (ks := 3) (a := a1) (argsL := [(.float (FP.i2f i2))]) (rest := []) (own_payCt (W := 0) (ct4 l Z a0 hw n0 h2 (own_old w2) a1 i0 (FP.i2f i2) i3 P1 U1) w2 (hw _ (List.mem_of_getElem? (i := 24) rfl)) (hw _ (List.mem_of_getElem? (i := 2) rfl)) hEL (by decide) (by decide)) Y1 (g := (mkF m 25 #[.val (.int i0), .val (.int i1), .val (.int i2), .val (.long i3), .second, .val (.float (FP.i2f i1)), .val (.float (FP.i2f i2)), .val (.ref a1), .unset, .unset, .unset, .unset, .unset] [(.float (FP.i2f i2)), (.ref a1)])) rfl (by rw [hml]; rfl) (lenOf pd_477664370 rfl) rfl (by show 2 * 0 + _ ≤ _; exact Nat.le_of_eq rfl) (hb hby at_25) (by decide) (by decide) (fun v3 T3 vm3 h3 q3 C3 w3 => ?_)
  obtain ⟨b2, rfl, E2, Y2, P2, S2, U2⟩ := q3
  have A3 := own_at w3
  show own_WP p e _ below s Z _ n0 _ T3 (mkF m 28 #[.val (.int i0), .val (.int i1), .val (.int i2), .val (.long i3), .second, .val (.float (FP.i2f i1)), .val (.float (FP.i2f i2)), .val (.ref a1), .unset, .unset, .unset, .unset, .unset] [(.ref b2)])
  refine own_by (T' := T3) (g' := (mkF m 30 #[.val (.int i0), .val (.int i1), .val (.int i2), .val (.long i3), .second, .val (.float (FP.i2f i1)), .val (.float (FP.i2f i2)), .val (.ref a1), .val (.ref b2), .unset, .unset, .unset, .unset] [])) (fun t hr => XS.astore A3 hx rfl (hb hby at_28) rfl rfl (l' := #[.val (.int i0), .val (.int i1), .val (.int i2), .val (.long i3), .second, .val (.float (FP.i2f i1)), .val (.float (FP.i2f i2)), .val (.ref a1), .val (.ref b2), .unset, .unset, .unset, .unset]) rfl hr) ?_
  refine own_by (T' := T3) (g' := (mkF m 32 #[.val (.int i0), .val (.int i1), .val (.int i2), .val (.long i3), .second, .val (.float (FP.i2f i1)), .val (.float (FP.i2f i2)), .val (.ref a1), .val (.ref b2), .unset, .unset, .unset, .unset] [(.ref b2)])) (fun t hr => XS.aload A3 hx rfl (hb hby at_30) rfl rfl hr) ?_
  refine own_callV w3 hx (y := (⟨"com/example/second_pass/secondpass/engine/RankedHit", "doc", "()I"⟩ : MethodName)) (z := (⟨"com/example/second_pass/secondpass/engine/RankedHit", "doc", "()I"⟩ : MethodName)) (hw _ (List.mem_of_getElem? (i := 27) rfl)) (hw _ (List.mem_of_getElem? (i := 28) rfl)) (fun u hu => notFace_of_selects (args := #[]) (mvT hu (hw _ (List.mem_of_getElem? (i := 30) rfl)))) (hw _ (List.mem_of_getElem? (i := 30) rfl)) (hw _ (List.mem_of_getElem? (i := 29) rfl)) (by decide) (kc := 0) (ks := 0) (a := b2) (argsL := []) (rest := []) (own_payCt (W := 0) (ct5 l Z a0 hw n0 h3 (own_old w3) b2 i0 P2) w3 (hw _ (List.mem_of_getElem? (i := 31) rfl)) (hw _ (List.mem_of_getElem? (i := 2) rfl)) hEL (by decide) (by decide)) Y2 (g := (mkF m 32 #[.val (.int i0), .val (.int i1), .val (.int i2), .val (.long i3), .second, .val (.float (FP.i2f i1)), .val (.float (FP.i2f i2)), .val (.ref a1), .val (.ref b2), .unset, .unset, .unset, .unset] [(.ref b2)])) rfl (by rw [hml]; rfl) (lenOf pd_691884 rfl) rfl (by show 2 * 0 + _ ≤ _; exact Nat.le_of_eq rfl) (hb hby at_32) (by decide) (by decide) (fun v4 T4 vm4 h4 q4 C4 w4 => ?_)
  obtain ⟨rfl, rfl⟩ := q4
  have A4 := own_at w4
  show own_WP p e _ below s Z _ n0 _ T4 (mkF m 35 #[.val (.int i0), .val (.int i1), .val (.int i2), .val (.long i3), .second, .val (.float (FP.i2f i1)), .val (.float (FP.i2f i2)), .val (.ref a1), .val (.ref b2), .unset, .unset, .unset, .unset] [(.int i0)])
  refine own_by (T' := T4) (g' := (mkF m 36 #[.val (.int i0), .val (.int i1), .val (.int i2), .val (.long i3), .second, .val (.float (FP.i2f i1)), .val (.float (FP.i2f i2)), .val (.ref a1), .val (.ref b2), .unset, .unset, .unset, .unset] [(.int i0), (.int i0)])) (fun t hr => XS.iloadN A4 hx rfl (hb hby at_35) rfl hr) ?_
  refine own_by (T' := T4) (g' := (mkF m 39 #[.val (.int i0), .val (.int i1), .val (.int i2), .val (.long i3), .second, .val (.float (FP.i2f i1)), .val (.float (FP.i2f i2)), .val (.ref a1), .val (.ref b2), .unset, .unset, .unset, .unset] [])) (fun t hr => XS.icmpNo A4 hx rfl (hb hby at_36) rfl (teq (rfl : i0 = i0)).2 hr) ?_
  refine own_by (T' := T4) (g' := (mkF m 40 #[.val (.int i0), .val (.int i1), .val (.int i2), .val (.long i3), .second, .val (.float (FP.i2f i1)), .val (.float (FP.i2f i2)), .val (.ref a1), .val (.ref b2), .unset, .unset, .unset, .unset] [(.int (1 : Int32))])) (fun t hr => XS.iconst A4 hx rfl (hb hby at_39) hr) ?_
  refine own_by (T' := T4) (g' := (mkF m 44 #[.val (.int i0), .val (.int i1), .val (.int i2), .val (.long i3), .second, .val (.float (FP.i2f i1)), .val (.float (FP.i2f i2)), .val (.ref a1), .val (.ref b2), .unset, .unset, .unset, .unset] [(.int (1 : Int32))])) (fun t hr => XS.goto A4 hx rfl (pc0 := 40) (pc' := 44) rfl (hb hby at_40) (by decide) (by decide) hr) ?_
  refine own_by (T' := T4) (g' := (mkF m 46 #[.val (.int i0), .val (.int i1), .val (.int i2), .val (.long i3), .second, .val (.float (FP.i2f i1)), .val (.float (FP.i2f i2)), .val (.ref a1), .val (.ref b2), .val (.int (1 : Int32)), .unset, .unset, .unset] [])) (fun t hr => XS.istore A4 hx rfl (hb hby at_44) rfl (l' := #[.val (.int i0), .val (.int i1), .val (.int i2), .val (.long i3), .second, .val (.float (FP.i2f i1)), .val (.float (FP.i2f i2)), .val (.ref a1), .val (.ref b2), .val (.int (1 : Int32)), .unset, .unset, .unset]) rfl hr) ?_
  refine own_by (T' := T4) (g' := (mkF m 48 #[.val (.int i0), .val (.int i1), .val (.int i2), .val (.long i3), .second, .val (.float (FP.i2f i1)), .val (.float (FP.i2f i2)), .val (.ref a1), .val (.ref b2), .val (.int (1 : Int32)), .unset, .unset, .unset] [(.ref b2)])) (fun t hr => XS.aload A4 hx rfl (hb hby at_46) rfl rfl hr) ?_
  refine own_callV w4 hx (y := (⟨"com/example/second_pass/secondpass/engine/RankedHit", "score", "()F"⟩ : MethodName)) (z := (⟨"com/example/second_pass/secondpass/engine/RankedHit", "score", "()F"⟩ : MethodName)) (hw _ (List.mem_of_getElem? (i := 32) rfl)) (hw _ (List.mem_of_getElem? (i := 33) rfl)) (fun u hu => notFace_of_selects (args := #[]) (mvT hu (hw _ (List.mem_of_getElem? (i := 35) rfl)))) (hw _ (List.mem_of_getElem? (i := 35) rfl)) (hw _ (List.mem_of_getElem? (i := 34) rfl)) (by decide) (kc := 0) (ks := 0) (a := b2) (argsL := []) (rest := []) (own_payCt (W := 0) (ct6 l Z a0 hw n0 h3 (own_old w4) b2 (FP.i2f i2) S2) w4 (hw _ (List.mem_of_getElem? (i := 36) rfl)) (hw _ (List.mem_of_getElem? (i := 2) rfl)) hEL (by decide) (by decide)) Y2 (g := (mkF m 48 #[.val (.int i0), .val (.int i1), .val (.int i2), .val (.long i3), .second, .val (.float (FP.i2f i1)), .val (.float (FP.i2f i2)), .val (.ref a1), .val (.ref b2), .val (.int (1 : Int32)), .unset, .unset, .unset] [(.ref b2)])) rfl (by rw [hml]; rfl) (lenOf pd_691881 rfl) rfl (by show 2 * 0 + _ ≤ _; exact Nat.le_of_eq rfl) (hb hby at_48) (by decide) (by decide) (fun v5 T5 vm5 h5 q5 C5 w5 => ?_)
  obtain ⟨rfl, rfl⟩ := q5
  have A5 := own_at w5
  show own_WP p e _ below s Z _ n0 _ T5 (mkF m 51 #[.val (.int i0), .val (.int i1), .val (.int i2), .val (.long i3), .second, .val (.float (FP.i2f i1)), .val (.float (FP.i2f i2)), .val (.ref a1), .val (.ref b2), .val (.int (1 : Int32)), .unset, .unset, .unset] [(.float (FP.i2f i2))])
  refine own_by (T' := T5) (g' := (mkF m 53 #[.val (.int i0), .val (.int i1), .val (.int i2), .val (.long i3), .second, .val (.float (FP.i2f i1)), .val (.float (FP.i2f i2)), .val (.ref a1), .val (.ref b2), .val (.int (1 : Int32)), .unset, .unset, .unset] [(.float (FP.i2f i2)), (.float (FP.i2f i2))])) (fun t hr => XS.fload A5 hx rfl (hb hby at_51) rfl hr) ?_
  refine own_by (T' := T5) (g' := (mkF m 54 #[.val (.int i0), .val (.int i1), .val (.int i2), .val (.long i3), .second, .val (.float (FP.i2f i1)), .val (.float (FP.i2f i2)), .val (.ref a1), .val (.ref b2), .val (.int (1 : Int32)), .unset, .unset, .unset] [(.int (0 : Int32))])) (fun t hr => XS.fcmpS A5 hx rfl (hb hby at_53) rfl (fcmpV_self (Jvm.Free.Fl.i2f_fin _).noNaN _) hr) ?_
  refine own_by (T' := T5) (g' := (mkF m 57 #[.val (.int i0), .val (.int i1), .val (.int i2), .val (.long i3), .second, .val (.float (FP.i2f i1)), .val (.float (FP.i2f i2)), .val (.ref a1), .val (.ref b2), .val (.int (1 : Int32)), .unset, .unset, .unset] [])) (fun t hr => XS.ifNo A5 hx rfl (hb hby at_54) rfl ((if0 _ _).trans (teq (rfl : (0 : Int32) = 0)).2) hr) ?_
  refine own_by (T' := T5) (g' := (mkF m 58 #[.val (.int i0), .val (.int i1), .val (.int i2), .val (.long i3), .second, .val (.float (FP.i2f i1)), .val (.float (FP.i2f i2)), .val (.ref a1), .val (.ref b2), .val (.int (1 : Int32)), .unset, .unset, .unset] [(.int (1 : Int32))])) (fun t hr => XS.iconst A5 hx rfl (hb hby at_57) hr) ?_
  refine own_by (T' := T5) (g' := (mkF m 62 #[.val (.int i0), .val (.int i1), .val (.int i2), .val (.long i3), .second, .val (.float (FP.i2f i1)), .val (.float (FP.i2f i2)), .val (.ref a1), .val (.ref b2), .val (.int (1 : Int32)), .unset, .unset, .unset] [(.int (1 : Int32))])) (fun t hr => XS.goto A5 hx rfl (pc0 := 58) (pc' := 62) rfl (hb hby at_58) (by decide) (by decide) hr) ?_
  refine own_by (T' := T5) (g' := (mkF m 64 #[.val (.int i0), .val (.int i1), .val (.int i2), .val (.long i3), .second, .val (.float (FP.i2f i1)), .val (.float (FP.i2f i2)), .val (.ref a1), .val (.ref b2), .val (.int (1 : Int32)), .val (.int (1 : Int32)), .unset, .unset] [])) (fun t hr => XS.istore A5 hx rfl (hb hby at_62) rfl (l' := #[.val (.int i0), .val (.int i1), .val (.int i2), .val (.long i3), .second, .val (.float (FP.i2f i1)), .val (.float (FP.i2f i2)), .val (.ref a1), .val (.ref b2), .val (.int (1 : Int32)), .val (.int (1 : Int32)), .unset, .unset]) rfl hr) ?_
  refine own_by (T' := T5) (g' := (mkF m 66 #[.val (.int i0), .val (.int i1), .val (.int i2), .val (.long i3), .second, .val (.float (FP.i2f i1)), .val (.float (FP.i2f i2)), .val (.ref a1), .val (.ref b2), .val (.int (1 : Int32)), .val (.int (1 : Int32)), .unset, .unset] [(.ref b2)])) (fun t hr => XS.aload A5 hx rfl (hb hby at_64) rfl rfl hr) ?_
  refine own_callV w5 hx (y := (⟨"com/example/second_pass/secondpass/engine/RankedHit", "sequence", "()J"⟩ : MethodName)) (z := (⟨"com/example/second_pass/secondpass/engine/RankedHit", "sequence", "()J"⟩ : MethodName)) (hw _ (List.mem_of_getElem? (i := 37) rfl)) (hw _ (List.mem_of_getElem? (i := 38) rfl)) (fun u hu => notFace_of_selects (args := #[]) (mvT hu (hw _ (List.mem_of_getElem? (i := 40) rfl)))) (hw _ (List.mem_of_getElem? (i := 40) rfl)) (hw _ (List.mem_of_getElem? (i := 39) rfl)) (by decide) (kc := 0) (ks := 0) (a := b2) (argsL := []) (rest := []) (own_payCt (W := 0) (ct7 l Z a0 hw n0 h3 (own_old w5) b2 i3 U2) w5 (hw _ (List.mem_of_getElem? (i := 41) rfl)) (hw _ (List.mem_of_getElem? (i := 2) rfl)) hEL (by decide) (by decide)) Y2 (g := (mkF m 66 #[.val (.int i0), .val (.int i1), .val (.int i2), .val (.long i3), .second, .val (.float (FP.i2f i1)), .val (.float (FP.i2f i2)), .val (.ref a1), .val (.ref b2), .val (.int (1 : Int32)), .val (.int (1 : Int32)), .unset, .unset] [(.ref b2)])) rfl (by rw [hml]; rfl) (lenOf pd_691885 rfl) rfl (by show 2 * 0 + _ ≤ _; exact Nat.le_of_eq rfl) (hb hby at_66) (by decide) (by decide) (fun v6 T6 vm6 h6 q6 C6 w6 => ?_)
  obtain ⟨rfl, rfl⟩ := q6
  have A6 := own_at w6
  show own_WP p e _ below s Z _ n0 _ T6 (mkF m 69 #[.val (.int i0), .val (.int i1), .val (.int i2), .val (.long i3), .second, .val (.float (FP.i2f i1)), .val (.float (FP.i2f i2)), .val (.ref a1), .val (.ref b2), .val (.int (1 : Int32)), .val (.int (1 : Int32)), .unset, .unset] [(.long i3)])
  refine own_by (T' := T6) (g' := (mkF m 70 #[.val (.int i0), .val (.int i1), .val (.int i2), .val (.long i3), .second, .val (.float (FP.i2f i1)), .val (.float (FP.i2f i2)), .val (.ref a1), .val (.ref b2), .val (.int (1 : Int32)), .val (.int (1 : Int32)), .unset, .unset] [(.long i3), (.long i3)])) (fun t hr => XS.lloadN A6 hx rfl (hb hby at_69) rfl hr) ?_
  refine own_by (T' := T6) (g' := (mkF m 71 #[.val (.int i0), .val (.int i1), .val (.int i2), .val (.long i3), .second, .val (.float (FP.i2f i1)), .val (.float (FP.i2f i2)), .val (.ref a1), .val (.ref b2), .val (.int (1 : Int32)), .val (.int (1 : Int32)), .unset, .unset] [(.int (lcmpW i3 i3))])) (fun t hr => XS.lcmp A6 hx rfl (hb hby at_70) rfl hr) ?_
  refine own_by (T' := T6) (g' := (mkF m 74 #[.val (.int i0), .val (.int i1), .val (.int i2), .val (.long i3), .second, .val (.float (FP.i2f i1)), .val (.float (FP.i2f i2)), .val (.ref a1), .val (.ref b2), .val (.int (1 : Int32)), .val (.int (1 : Int32)), .unset, .unset] [])) (fun t hr => XS.ifNo A6 hx rfl (hb hby at_71) rfl ((if0 _ _).trans (teq ((lw_eq _ _).mpr rfl)).2) hr) ?_
  refine own_by (T' := T6) (g' := (mkF m 75 #[.val (.int i0), .val (.int i1), .val (.int i2), .val (.long i3), .second, .val (.float (FP.i2f i1)), .val (.float (FP.i2f i2)), .val (.ref a1), .val (.ref b2), .val (.int (1 : Int32)), .val (.int (1 : Int32)), .unset, .unset] [(.int (1 : Int32))])) (fun t hr => XS.iconst A6 hx rfl (hb hby at_74) hr) ?_
  refine own_by (T' := T6) (g' := (mkF m 79 #[.val (.int i0), .val (.int i1), .val (.int i2), .val (.long i3), .second, .val (.float (FP.i2f i1)), .val (.float (FP.i2f i2)), .val (.ref a1), .val (.ref b2), .val (.int (1 : Int32)), .val (.int (1 : Int32)), .unset, .unset] [(.int (1 : Int32))])) (fun t hr => XS.goto A6 hx rfl (pc0 := 75) (pc' := 79) rfl (hb hby at_75) (by decide) (by decide) hr) ?_
  refine own_by (T' := T6) (g' := (mkF m 81 #[.val (.int i0), .val (.int i1), .val (.int i2), .val (.long i3), .second, .val (.float (FP.i2f i1)), .val (.float (FP.i2f i2)), .val (.ref a1), .val (.ref b2), .val (.int (1 : Int32)), .val (.int (1 : Int32)), .val (.int (1 : Int32)), .unset] [])) (fun t hr => XS.istore A6 hx rfl (hb hby at_79) rfl (l' := #[.val (.int i0), .val (.int i1), .val (.int i2), .val (.long i3), .second, .val (.float (FP.i2f i1)), .val (.float (FP.i2f i2)), .val (.ref a1), .val (.ref b2), .val (.int (1 : Int32)), .val (.int (1 : Int32)), .val (.int (1 : Int32)), .unset]) rfl hr) ?_
  refine own_by (T' := T6) (g' := (mkF m 83 #[.val (.int i0), .val (.int i1), .val (.int i2), .val (.long i3), .second, .val (.float (FP.i2f i1)), .val (.float (FP.i2f i2)), .val (.ref a1), .val (.ref b2), .val (.int (1 : Int32)), .val (.int (1 : Int32)), .val (.int (1 : Int32)), .unset] [(.ref a1)])) (fun t hr => XS.aload A6 hx rfl (hb hby at_81) rfl rfl hr) ?_
  refine own_callV w6 hx (y := (⟨"com/example/second_pass/secondpass/engine/RankedHit", "score", "()F"⟩ : MethodName)) (z := (⟨"com/example/second_pass/secondpass/engine/RankedHit", "score", "()F"⟩ : MethodName)) (hw _ (List.mem_of_getElem? (i := 32) rfl)) (hw _ (List.mem_of_getElem? (i := 33) rfl)) (fun u hu => notFace_of_selects (args := #[]) (mvT hu (hw _ (List.mem_of_getElem? (i := 35) rfl)))) (hw _ (List.mem_of_getElem? (i := 35) rfl)) (hw _ (List.mem_of_getElem? (i := 34) rfl)) (by decide) (kc := 0) (ks := 0) (a := a1) (argsL := []) (rest := []) (own_payCt (W := 0) (ct6 l Z a0 hw n0 h3 (own_old w6) a1 (FP.i2f i1) (S1.ext E2)) w6 (hw _ (List.mem_of_getElem? (i := 36) rfl)) (hw _ (List.mem_of_getElem? (i := 2) rfl)) hEL (by decide) (by decide)) (Y1.ext E2) (g := (mkF m 83 #[.val (.int i0), .val (.int i1), .val (.int i2), .val (.long i3), .second, .val (.float (FP.i2f i1)), .val (.float (FP.i2f i2)), .val (.ref a1), .val (.ref b2), .val (.int (1 : Int32)), .val (.int (1 : Int32)), .val (.int (1 : Int32)), .unset] [(.ref a1)])) rfl (by rw [hml]; rfl) (lenOf pd_691881 rfl) rfl (by show 2 * 0 + _ ≤ _; exact Nat.le_of_eq rfl) (hb hby at_83) (by decide) (by decide) (fun v7 T7 vm7 h7 q7 C7 w7 => ?_)
  obtain ⟨rfl, rfl⟩ := q7
  have A7 := own_at w7
  show own_WP p e _ below s Z _ n0 _ T7 (mkF m 86 #[.val (.int i0), .val (.int i1), .val (.int i2), .val (.long i3), .second, .val (.float (FP.i2f i1)), .val (.float (FP.i2f i2)), .val (.ref a1), .val (.ref b2), .val (.int (1 : Int32)), .val (.int (1 : Int32)), .val (.int (1 : Int32)), .unset] [(.float (FP.i2f i1))])
  refine own_by (T' := T7) (g' := (mkF m 88 #[.val (.int i0), .val (.int i1), .val (.int i2), .val (.long i3), .second, .val (.float (FP.i2f i1)), .val (.float (FP.i2f i2)), .val (.ref a1), .val (.ref b2), .val (.int (1 : Int32)), .val (.int (1 : Int32)), .val (.int (1 : Int32)), .unset] [(.float (FP.i2f i1)), (.float (FP.i2f i1))])) (fun t hr => XS.fload A7 hx rfl (hb hby at_86) rfl hr) ?_
  refine own_by (T' := T7) (g' := (mkF m 89 #[.val (.int i0), .val (.int i1), .val (.int i2), .val (.long i3), .second, .val (.float (FP.i2f i1)), .val (.float (FP.i2f i2)), .val (.ref a1), .val (.ref b2), .val (.int (1 : Int32)), .val (.int (1 : Int32)), .val (.int (1 : Int32)), .unset] [(.int (0 : Int32))])) (fun t hr => XS.fcmpS A7 hx rfl (hb hby at_88) rfl (fcmpV_self (Jvm.Free.Fl.i2f_fin _).noNaN _) hr) ?_
  refine own_by (T' := T7) (g' := (mkF m 92 #[.val (.int i0), .val (.int i1), .val (.int i2), .val (.long i3), .second, .val (.float (FP.i2f i1)), .val (.float (FP.i2f i2)), .val (.ref a1), .val (.ref b2), .val (.int (1 : Int32)), .val (.int (1 : Int32)), .val (.int (1 : Int32)), .unset] [])) (fun t hr => XS.ifNo A7 hx rfl (hb hby at_89) rfl ((if0 _ _).trans (teq (rfl : (0 : Int32) = 0)).2) hr) ?_
  refine own_by (T' := T7) (g' := (mkF m 93 #[.val (.int i0), .val (.int i1), .val (.int i2), .val (.long i3), .second, .val (.float (FP.i2f i1)), .val (.float (FP.i2f i2)), .val (.ref a1), .val (.ref b2), .val (.int (1 : Int32)), .val (.int (1 : Int32)), .val (.int (1 : Int32)), .unset] [(.int (1 : Int32))])) (fun t hr => XS.iconst A7 hx rfl (hb hby at_92) hr) ?_
  refine own_by (T' := T7) (g' := (mkF m 97 #[.val (.int i0), .val (.int i1), .val (.int i2), .val (.long i3), .second, .val (.float (FP.i2f i1)), .val (.float (FP.i2f i2)), .val (.ref a1), .val (.ref b2), .val (.int (1 : Int32)), .val (.int (1 : Int32)), .val (.int (1 : Int32)), .unset] [(.int (1 : Int32))])) (fun t hr => XS.goto A7 hx rfl (pc0 := 93) (pc' := 97) rfl (hb hby at_93) (by decide) (by decide) hr) ?_
  refine own_by (T' := T7) (g' := (mkF m 99 #[.val (.int i0), .val (.int i1), .val (.int i2), .val (.long i3), .second, .val (.float (FP.i2f i1)), .val (.float (FP.i2f i2)), .val (.ref a1), .val (.ref b2), .val (.int (1 : Int32)), .val (.int (1 : Int32)), .val (.int (1 : Int32)), .val (.int (1 : Int32))] [])) (fun t hr => XS.istore A7 hx rfl (hb hby at_97) rfl (l' := #[.val (.int i0), .val (.int i1), .val (.int i2), .val (.long i3), .second, .val (.float (FP.i2f i1)), .val (.float (FP.i2f i2)), .val (.ref a1), .val (.ref b2), .val (.int (1 : Int32)), .val (.int (1 : Int32)), .val (.int (1 : Int32)), .val (.int (1 : Int32))]) rfl hr) ?_
  refine own_by (T' := T7) (g' := (mkF m 101 #[.val (.int i0), .val (.int i1), .val (.int i2), .val (.long i3), .second, .val (.float (FP.i2f i1)), .val (.float (FP.i2f i2)), .val (.ref a1), .val (.ref b2), .val (.int (1 : Int32)), .val (.int (1 : Int32)), .val (.int (1 : Int32)), .val (.int (1 : Int32))] [(.int (1 : Int32))])) (fun t hr => XS.iload A7 hx rfl (hb hby at_99) rfl hr) ?_
  refine own_by (T' := T7) (g' := (mkF m 104 #[.val (.int i0), .val (.int i1), .val (.int i2), .val (.long i3), .second, .val (.float (FP.i2f i1)), .val (.float (FP.i2f i2)), .val (.ref a1), .val (.ref b2), .val (.int (1 : Int32)), .val (.int (1 : Int32)), .val (.int (1 : Int32)), .val (.int (1 : Int32))] [])) (fun t hr => XS.ifNo A7 hx rfl (hb hby at_101) rfl ((if0 _ _).trans (feq (by decide : ¬ (1 : Int32) = 0)).1) hr) ?_
  refine own_by (T' := T7) (g' := (mkF m 106 #[.val (.int i0), .val (.int i1), .val (.int i2), .val (.long i3), .second, .val (.float (FP.i2f i1)), .val (.float (FP.i2f i2)), .val (.ref a1), .val (.ref b2), .val (.int (1 : Int32)), .val (.int (1 : Int32)), .val (.int (1 : Int32)), .val (.int (1 : Int32))] [(.int (1 : Int32))])) (fun t hr => XS.iload A7 hx rfl (hb hby at_104) rfl hr) ?_
  refine own_by (T' := T7) (g' := (mkF m 109 #[.val (.int i0), .val (.int i1), .val (.int i2), .val (.long i3), .second, .val (.float (FP.i2f i1)), .val (.float (FP.i2f i2)), .val (.ref a1), .val (.ref b2), .val (.int (1 : Int32)), .val (.int (1 : Int32)), .val (.int (1 : Int32)), .val (.int (1 : Int32))] [])) (fun t hr => XS.ifNo A7 hx rfl (hb hby at_106) rfl ((if0 _ _).trans (feq (by decide : ¬ (1 : Int32) = 0)).1) hr) ?_
  refine own_by (T' := T7) (g' := (mkF m 111 #[.val (.int i0), .val (.int i1), .val (.int i2), .val (.long i3), .second, .val (.float (FP.i2f i1)), .val (.float (FP.i2f i2)), .val (.ref a1), .val (.ref b2), .val (.int (1 : Int32)), .val (.int (1 : Int32)), .val (.int (1 : Int32)), .val (.int (1 : Int32))] [(.int (1 : Int32))])) (fun t hr => XS.iload A7 hx rfl (hb hby at_109) rfl hr) ?_
  refine own_by (T' := T7) (g' := (mkF m 114 #[.val (.int i0), .val (.int i1), .val (.int i2), .val (.long i3), .second, .val (.float (FP.i2f i1)), .val (.float (FP.i2f i2)), .val (.ref a1), .val (.ref b2), .val (.int (1 : Int32)), .val (.int (1 : Int32)), .val (.int (1 : Int32)), .val (.int (1 : Int32))] [])) (fun t hr => XS.ifNo A7 hx rfl (hb hby at_111) rfl ((if0 _ _).trans (feq (by decide : ¬ (1 : Int32) = 0)).1) hr) ?_
  refine own_by (T' := T7) (g' := (mkF m 116 #[.val (.int i0), .val (.int i1), .val (.int i2), .val (.long i3), .second, .val (.float (FP.i2f i1)), .val (.float (FP.i2f i2)), .val (.ref a1), .val (.ref b2), .val (.int (1 : Int32)), .val (.int (1 : Int32)), .val (.int (1 : Int32)), .val (.int (1 : Int32))] [(.int (1 : Int32))])) (fun t hr => XS.iload A7 hx rfl (hb hby at_114) rfl hr) ?_
  refine own_by (T' := T7) (g' := (mkF m 119 #[.val (.int i0), .val (.int i1), .val (.int i2), .val (.long i3), .second, .val (.float (FP.i2f i1)), .val (.float (FP.i2f i2)), .val (.ref a1), .val (.ref b2), .val (.int (1 : Int32)), .val (.int (1 : Int32)), .val (.int (1 : Int32)), .val (.int (1 : Int32))] [])) (fun t hr => XS.ifNo A7 hx rfl (hb hby at_116) rfl ((if0 _ _).trans (feq (by decide : ¬ (1 : Int32) = 0)).1) hr) ?_
  refine own_by (T' := T7) (g' := (mkF m 120 #[.val (.int i0), .val (.int i1), .val (.int i2), .val (.long i3), .second, .val (.float (FP.i2f i1)), .val (.float (FP.i2f i2)), .val (.ref a1), .val (.ref b2), .val (.int (1 : Int32)), .val (.int (1 : Int32)), .val (.int (1 : Int32)), .val (.int (1 : Int32))] [(.int (1 : Int32))])) (fun t hr => XS.iconst A7 hx rfl (hb hby at_119) hr) ?_
  refine own_by (T' := T7) (g' := (mkF m 124 #[.val (.int i0), .val (.int i1), .val (.int i2), .val (.long i3), .second, .val (.float (FP.i2f i1)), .val (.float (FP.i2f i2)), .val (.ref a1), .val (.ref b2), .val (.int (1 : Int32)), .val (.int (1 : Int32)), .val (.int (1 : Int32)), .val (.int (1 : Int32))] [(.int (1 : Int32))])) (fun t hr => XS.goto A7 hx rfl (pc0 := 120) (pc' := 124) rfl (hb hby at_120) (by decide) (by decide) hr) ?_
  exact own_retZ w7 hx hEL hlk hret (Or.inr rfl) (hb hby at_124) (by decide) (by decide) rfl

theorem own_narrow {s u : State} {v : Option Value} {L L' : List Loc} {k n k' n' : Nat} (hq : FrameEnd s (.returned v) u L k n) (N : Fr s.heap.size L) (hk : k ≤ k') (hn : n ≤ n') : FrameEnd s (.returned v) u L' k' n' := ⟨hq.1, hq.2.1, (hq.2.2.sift fun y hy => Or.inr (N y hy)).mono hk hn⟩
set_option maxRecDepth 65536 in
set_option maxHeartbeats 40000000 in
theorem comes_1 {Post : Tables → Env → Array Value → State → Outcome → State → Prop} (hpost : ∀ tb e args s v u, (limb_1_1.after args s (.returned v) u = true ∧ limb_1_2.after args s (.returned v) u = true ∧ True) → FrameEnd s (.returned v) u (Jvm.fieldLocs frame_1_writes args s ++ Jvm.arrayLocs frame_1_arrays args s ++ Jvm.staticLocs frame_1_statics s) 16 128 → Post tb e args s (.returned v) u) :
    ArmFor flags0 classFile x code maxLocals ret World_1 tables_1 room_1 Calls_1 rest_1 Pre_1 Post := by
  intro l hfl _ _ p e ha hc hk s m args below hf hA hF happ hP
  obtain ⟨hcalls, hrest, hpre⟩ := hP
  obtain ⟨-, -, -, hnamed, -, -, -, hat⟩ := (Spec.applies_iff hf).mp happ
  obtain ⟨hg, hn⟩ := and_e (Cond.before_iff.mp (show (Jvm.Cond.and given_1 narrow_1).before args s = true from hpre))
  obtain ⟨hcnt, hg0⟩ := and_e hg
  obtain ⟨ha0, hg1⟩ := and_e hg0
  obtain ⟨ha1, hg2⟩ := and_e hg1
  obtain ⟨ha2, hg3⟩ := and_e hg2
  have ha3 := hg3
  obtain ⟨w0, w1, w2, w3, rfl⟩ : ∃ w0 w1 w2 w3 : Value, args = #[w0, w1, w2, w3] := by
    have hs : args.size = 4 := by simpa [Cond.value, given_1] using hcnt
    obtain ⟨L⟩ := args
    match L, hs with
    | [w0, w1, w2, w3], _ => exact ⟨w0, w1, w2, w3, rfl⟩
  have hw := fun d (hd : d ∈ tables_1) => atoms_spec (ws := Jvm.Cond.code x code maxLocals ret :: tables_1) hat d (List.mem_cons_of_mem _ hd)
  obtain ⟨i0, ei0⟩ := is_v ha0
  obtain rfl : w0 = (.int i0) := Option.some.inj ei0
  obtain ⟨i1, ei1⟩ := is_v ha1
  obtain rfl : w1 = (.int i1) := Option.some.inj ei1
  obtain ⟨i2, ei2⟩ := is_v ha2
  obtain rfl : w2 = (.int i2) := Option.some.inj ei2
  obtain ⟨i3, ei3⟩ := isL_v ha3
  obtain rfl : w3 = (.long i3) := Option.some.inj ei3
  have hCH : CHv s [] s.vm s.heap := fun q hq => by cases hq
  obtain ⟨n, o, h1, h2, h3, _, L, rfl, ⟨rfl, N, -⟩, hq⟩ := ctLaw l s _ hw s.heap.size s.heap (Old.start s) i0 i1 i2 i3  tables_1 p e ha hc hk s m _ below hf ((Spec.applies_iff_loose hf).mp happ).1 ⟨rfl, State.Warmed39.refl s, rfl⟩ trivial
  refine ⟨n, _, h1, h2, h3, hpost _ _ _ _ _ _ ⟨Cond.after_iff.mpr rfl, Cond.after_iff.mpr (eq_i res_at (Term.int_eval (1)) rfl), trivial⟩ ?_⟩
  exact own_narrow hq N (by decide) (by decide)
theorem main_1_1 : Claimed_1_1 := comes_1 fun _ _ _ _ _ _ h hF => ⟨h.1, hF⟩
theorem main_1_2 : Claimed_1_2 := comes_1 fun _ _ _ _ _ _ h hF => ⟨h.2.1, hF⟩

end Jvm.Pilot.@@N@@
namespace Jvm.Pilot.@@N@@
open Jvm Jvm.ClassFile Sem Op Lib Jvm.Free Jvm.Stand Jvm.Pilot.@@N@@.Jvm.D
/-! MADE BY PROGRAM (witnessworld.py) out of the Statement's table words and the real class files: 10 classes; the members and pool entries that the words name. The judged class is class 1, her method 1. -/
namespace start1
open Jvm.ClassFile
def u (s : String) : CpInfo := .utf8 (stringToUtf16 s)
/-- a pool by its gaps: so many unusable entries, then the entry; so many at the end -/
def gap : Nat → List CpInfo → List CpInfo
  | 0, r => r
  | n + 1, r => .unusable :: gap n r
def poolList (es : List (Nat × CpInfo)) (last : Nat) : List CpInfo := es.foldr (fun e r => gap e.1 (e.2 :: r)) (gap last [])
def pool (es : List (Nat × CpInfo)) (last : Nat) : Array CpInfo := ⟨poolList es last⟩
def fileOf (pool : Array CpInfo) (this : Nat) (attrs : Array Attribute := #[]) (ms : Array MethodInfo := #[]) (fl : Nat := 33) (sup : Nat := 0) (ifs : Array Nat := #[]) (fds : Array FieldInfo := #[]) : ClassFile where
  minorVersion := 0
  majorVersion := 65
  constantPool := pool
  accessFlags := fl
  thisClass := this
  superClass := sup
  interfaces := ifs
  fields := fds
  methods := ms
  attributes := attrs
def plain (name : String) (sup : Option ClassId) : Class where
  name := name
  kind := .ordinary
  loader := none
  accessFlags := 33
  super := sup
  interfaces := #[]
  cf := none
  fields := #[]
  methods := #[]
  instanceTypes := #[]
  staticTypes := #[]
  resolved := #[]
  callSites := []
  init := .initialized
  statics := none
  mirror := none

def pool0 : Array CpInfo := pool [(5, u "<init>"), (0, u "()V"), (1, .class_ 10), (1, u "java/lang/Object")] 113

def k0c0 : Code := { maxStack := 0, maxLocals := 1, code := object_method_1_code, exceptionTable := #[], attributes := #[] }
def k0m0 : Method := { name := "<init>", desc := "()V", sig := { parameters := [], returnType := none }, accessFlags := 1, code := some k0c0 }
/-- java/lang/Object -/
def k0 : Class := { plain "java/lang/Object" none with
  accessFlags := 33
  interfaces := #[]
  cf := some (fileOf pool0 8 #[] #[{ accessFlags := 1, nameIndex := 5, descriptorIndex := 6, attributes := #[] }] 33 0 #[] #[])
  fields := #[]
  methods := #[k0m0]
  instanceTypes := #[]
  staticTypes := #[]
  resolved := Array.replicate 124 none
  statics := none }

def pool1 : Array CpInfo := pool [(2, .class_ 4), (1, u "java/lang/Object"), (0, u "<init>"), (0, u "()V"), (0, .class_ 8), (0, u "com/example/second_pass/secondpass/engine/RankedHit"), (0, .methodref 7 10), (0, .nameAndType 5 11), (0, u "(IFJ)V"), (0, .methodref 7 13), (0, .nameAndType 14 15), (0, u "withScore"), (0, u "(F)Lcom/example/second_pass/secondpass/engine/RankedHit;"), (0, .methodref 7 17), (0, .nameAndType 18 19), (0, u "doc"), (0, u "()I"), (0, .methodref 7 21), (0, .nameAndType 22 23), (0, u "score"), (0, u "()F"), (0, .methodref 7 25), (0, .nameAndType 26 27), (0, u "sequence"), (0, u "()J"), (0, .class_ 29), (0, u "com/example/second_pass/secondpass/engine/RankedHitWithScorePinLaw"), (2, u "law"), (0, u "(IIIJ)Z")] 3

def k1m0 : Method := { name := "<init>", desc := "()V", sig := { parameters := [], returnType := none }, accessFlags := 2, code := none }
def k1c1 : Code := { maxStack := 6, maxLocals := 13, code := code, exceptionTable := #[], attributes := #[] }
def k1m1 : Method := { name := "law", desc := "(IIIJ)Z", sig := { parameters := [.int, .int, .int, .long], returnType := some .boolean }, accessFlags := 9, code := some k1c1 }
/-- com/example/second_pass/secondpass/engine/RankedHitWithScorePinLaw -/
def k1 : Class := { plain "com/example/second_pass/secondpass/engine/RankedHitWithScorePinLaw" (some 0) with
  accessFlags := 49
  interfaces := #[]
  cf := some (fileOf pool1 28 #[] #[{ accessFlags := 2, nameIndex := 5, descriptorIndex := 6, attributes := #[] }, { accessFlags := 9, nameIndex := 32, descriptorIndex := 33, attributes := #[] }] 49 2 #[] #[])
  fields := #[]
  methods := #[k1m0, k1m1]
  instanceTypes := #[]
  staticTypes := #[]
  resolved := Array.replicate 37 none
  statics := none }

def pool2 : Array CpInfo := pool [(1, .methodref 2 3), (0, .class_ 4), (0, .nameAndType 5 6), (0, u "java/lang/Object"), (0, u "<init>"), (0, u "()V"), (0, .class_ 8), (0, u "java/lang/Record")] 13

def k2c0 : Code := { maxStack := 1, maxLocals := 1, code := jdk_30_method_1_code, exceptionTable := #[], attributes := #[] }
def k2m0 : Method := { name := "<init>", desc := "()V", sig := { parameters := [], returnType := none }, accessFlags := 4, code := some k2c0 }
/-- java/lang/Record -/
def k2 : Class := { plain "java/lang/Record" (some 0) with
  accessFlags := 1057
  interfaces := #[]
  cf := some (fileOf pool2 7 #[] #[{ accessFlags := 4, nameIndex := 5, descriptorIndex := 6, attributes := #[] }] 1057 2 #[] #[])
  fields := #[]
  methods := #[k2m0]
  instanceTypes := #[]
  staticTypes := #[]
  resolved := Array.replicate 22 none
  statics := none }

def pool3 : Array CpInfo := pool [(1, .methodref 2 3), (0, .class_ 4), (0, .nameAndType 5 6), (0, u "java/lang/Record"), (0, u "<init>"), (0, u "()V"), (0, .fieldref 8 9), (0, .class_ 10), (0, .nameAndType 11 12), (0, u "com/example/second_pass/secondpass/engine/RankedHit"), (0, u "doc"), (0, u "I"), (0, .fieldref 8 14), (0, .nameAndType 15 16), (0, u "score"), (0, u "F"), (0, .fieldref 8 18), (0, .nameAndType 19 20), (0, u "sequence"), (0, u "J"), (0, .methodref 8 22), (0, .nameAndType 5 23), (0, u "(IFJ)V"), (15, u "withScore"), (0, u "(F)Lcom/example/second_pass/secondpass/engine/RankedHit;"), (1, u "()I"), (1, u "()F"), (0, u "()J")] 22

def k3c0 : Code := { maxStack := 3, maxLocals := 5, code := prog_5_method_1_code, exceptionTable := #[], attributes := #[] }
def k3m0 : Method := { name := "<init>", desc := "(IFJ)V", sig := { parameters := [.int, .float, .long], returnType := none }, accessFlags := 1, code := some k3c0 }
def k3c1 : Code := { maxStack := 6, maxLocals := 2, code := prog_5_method_2_code, exceptionTable := #[], attributes := #[] }
def k3m1 : Method := { name := "withScore", desc := "(F)Lcom/example/second_pass/secondpass/engine/RankedHit;", sig := { parameters := [.float], returnType := some (.object "com/example/second_pass/secondpass/engine/RankedHit") }, accessFlags := 1, code := some k3c1 }
def k3c2 : Code := { maxStack := 1, maxLocals := 1, code := prog_5_method_6_code, exceptionTable := #[], attributes := #[] }
def k3m2 : Method := { name := "doc", desc := "()I", sig := { parameters := [], returnType := some .int }, accessFlags := 1, code := some k3c2 }
def k3c3 : Code := { maxStack := 1, maxLocals := 1, code := prog_5_method_7_code, exceptionTable := #[], attributes := #[] }
def k3m3 : Method := { name := "score", desc := "()F", sig := { parameters := [], returnType := some .float }, accessFlags := 1, code := some k3c3 }
def k3c4 : Code := { maxStack := 2, maxLocals := 1, code := prog_5_method_8_code, exceptionTable := #[], attributes := #[] }
def k3m4 : Method := { name := "sequence", desc := "()J", sig := { parameters := [], returnType := some .long }, accessFlags := 1, code := some k3c4 }
/-- com/example/second_pass/secondpass/engine/RankedHit -/
def k3 : Class := { plain "com/example/second_pass/secondpass/engine/RankedHit" (some 2) with
  accessFlags := 49
  interfaces := #[]
  cf := some (fileOf pool3 8 #[] #[{ accessFlags := 1, nameIndex := 5, descriptorIndex := 23, attributes := #[] }, { accessFlags := 1, nameIndex := 39, descriptorIndex := 40, attributes := #[] }, { accessFlags := 1, nameIndex := 11, descriptorIndex := 42, attributes := #[] }, { accessFlags := 1, nameIndex := 15, descriptorIndex := 44, attributes := #[] }, { accessFlags := 1, nameIndex := 19, descriptorIndex := 45, attributes := #[] }] 49 2 #[] #[{ accessFlags := 18, nameIndex := 11, descriptorIndex := 12, attributes := #[] }, { accessFlags := 18, nameIndex := 15, descriptorIndex := 16, attributes := #[] }, { accessFlags := 18, nameIndex := 19, descriptorIndex := 20, attributes := #[] }])
  fields := #[{ name := "doc", type := .int, accessFlags := 18, slot := 0, constantValue := 0 }, { name := "score", type := .float, accessFlags := 18, slot := 1, constantValue := 0 }, { name := "sequence", type := .long, accessFlags := 18, slot := 2, constantValue := 0 }]
  methods := #[k3m0, k3m1, k3m2, k3m3, k3m4]
  instanceTypes := #[.int, .float, .long]
  staticTypes := #[]
  resolved := Array.replicate 68 none
  statics := none }

def pool4 : Array CpInfo := pool [(1, u "java/lang/Cloneable"), (0, .class_ 1), (0, u "java/lang/Object"), (0, .class_ 3)] 3

/-- java/lang/Cloneable -/
def k4 : Class := { plain "java/lang/Cloneable" (some 0) with
  accessFlags := 1537
  interfaces := #[]
  cf := some (fileOf pool4 2 #[] #[] 1537 4 #[] #[])
  fields := #[]
  methods := #[]
  instanceTypes := #[]
  staticTypes := #[]
  resolved := Array.replicate 8 none
  statics := none }

def pool5 : Array CpInfo := pool [(1, u "java/io/Serializable"), (0, .class_ 1), (0, u "java/lang/Object"), (0, .class_ 3)] 3

/-- java/io/Serializable -/
def k5 : Class := { plain "java/io/Serializable" (some 0) with
  accessFlags := 1537
  interfaces := #[]
  cf := some (fileOf pool5 2 #[] #[] 1537 4 #[] #[])
  fields := #[]
  methods := #[]
  instanceTypes := #[]
  staticTypes := #[]
  resolved := Array.replicate 8 none
  statics := none }

/-- the primitive byte -/
def k6 : Class := { plain "byte" none with kind := .primitive 'B', accessFlags := 0x411 }
/-- [B -/
def k7 : Class := { plain "[B" (some 0) with kind := .array 6 .byte, interfaces := #[4, 5], accessFlags := 1041 }

/-- the primitive int -/
def k8 : Class := { plain "int" none with kind := .primitive 'I', accessFlags := 0x411 }
/-- [I -/
def k9 : Class := { plain "[I" (some 0) with kind := .array 8 .int, interfaces := #[4, 5], accessFlags := 1041 }

def heap : Heap := #[]
def classes : Array Class := #[k0, k1, k2, k3, k4, k5, k6, k7, k8, k9]
def interned : List (Array UInt16 × Addr) := []
def slotsUsed : Nat := 0
def theMethod : MethodId := ⟨1, 1⟩
def args0 : Array Value := #[.int 5, .int 7, .int 9, .long 11]
def aboutOver (below : List Frame) : State where
  vm := { classes := classes, interned := interned.toArray }
  heap := heap
  slotsUsed := slotsUsed
  threads := #[{ frames := .invoking theMethod args0 :: below }]
def below0 : List Frame := [.native { method := ⟨0, 0⟩, args := #[] }]
def about1 : State := aboutOver below0
def p0 : Program := .bare "" "" ""
def e0 : Env := launch0.env 0 0 0
theorem w_frames : about1.frames = Frame.invoking theMethod args0 :: below0 := rfl
set_option maxRecDepth 65536 in
theorem w_args : argsFit about1.vm theMethod args0 = true := by decide +kernel
set_option maxRecDepth 65536 in
theorem w_heap : heapFits about1 = true := by decide +kernel
set_option maxRecDepth 65536 in
theorem w_runnable : about1.curStatus? = some .runnable := by decide +kernel
set_option maxRecDepth 65536 in
theorem w_alone : about1.alone = true := by decide +kernel
set_option maxRecDepth 65536 in
theorem w_named : about1.methodNamed? x = some theMethod := by decide +kernel
set_option maxRecDepth 65536 in
theorem w_hears : about1.hears theMethod below0 = true := by decide +kernel
set_option maxRecDepth 65536 in
theorem w_ripe : about1.ripe theMethod args0 below0 = true := by decide +kernel
theorem w_running : about1.status = .running := rfl
set_option maxRecDepth 65536 in
theorem w_room : about1.hasRoom e0.platform room_1 = true :=
  launch0.hasRoom_least _ room_1 (by decide +kernel) (by decide +kernel) (by decide +kernel) (by decide +kernel) (by decide +kernel) (by decide +kernel)
theorem allAtoms_all (ts : List Jvm.Cond) (a : Array Jvm.Value) (st : Jvm.State) : (allAtoms ts).before a st = ts.all (fun c => c.before a st) := by
  induction ts with
  | nil => rfl
  | cons c t ih =>
    show (Jvm.Cond.and c (allAtoms t)).before a st = _
    rw [Jvm.Cond.before_and, ih, List.all_cons]
def words1 : List Jvm.Cond := Jvm.Cond.code x code maxLocals ret :: tables_1
/-- a 'code' word, met by the world's own term for the bytes: nothing is compared byte by byte -/
theorem code_word {y : MethodName} {bytes : ByteArray} {mx : Nat} {rt : Option FieldType} {a : Array Value} {s : State} {m : MethodId} {meth : Method} {c : Code} (h1 : s.methodNamed? y = some m) (h2 : s.vm.method? m = some meth) (h3 : meth.code = some c) (h4 : c.code = bytes)
    (h5 : (c.maxLocals == mx && c.exceptionTable.isEmpty && decide (c.maxStack ≤ mostOperands) && decide (meth.sig.returnType = rt) && !meth.locks && decide (parseMethodDescriptor y.desc = some meth.sig)) = true) : (Jvm.Cond.code y bytes mx rt).before a s = true := by
  simp only [Bool.and_eq_true, beq_iff_eq, Bool.not_eq_true', decide_eq_true_eq] at h5
  obtain ⟨⟨⟨⟨⟨g1, g2⟩, g3⟩, g4⟩, g5⟩, g6⟩ := h5
  simp [Cond.before, Cond.holds, Cond.value, h1, h2, h3, h4, g1, g2, g3, g4, g5, g6]
def isCode : Jvm.Cond → Bool
  | .code _ _ _ _ => true
  | _ => false
theorem all_split {L : List Jvm.Cond} {P : Jvm.Cond → Bool} (h1 : L.all (fun c => isCode c || P c) = true) (h2 : ∀ c ∈ L.filter isCode, P c = true) : L.all P = true := by
  refine List.all_eq_true.mpr fun c hc => ?_
  have h := List.all_eq_true.mp h1 c hc
  rcases Bool.eq_false_or_eq_true (isCode c) with hi | hi
  · exact h2 c (List.mem_filter.mpr ⟨hc, hi⟩)
  · simpa [hi] using h
set_option maxRecDepth 65536 in
theorem w_c0 : (Jvm.Cond.code x code maxLocals ret).before args0 about1 = true := code_word (m := ⟨1, 1⟩) (meth := k1m1) (c := k1c1) (by decide +kernel) rfl rfl rfl (by decide +kernel)
set_option maxRecDepth 65536 in
theorem w_c1 : (Jvm.Cond.code ({ cls := "com/example/second_pass/secondpass/engine/RankedHit", name := "<init>", desc := "(IFJ)V" } : Jvm.MethodName) prog_5_method_1_code (5 : Nat) (Option.none : Option Jvm.ClassFile.FieldType)).before args0 about1 = true := code_word (m := ⟨3, 0⟩) (meth := k3m0) (c := k3c0) (by decide +kernel) rfl rfl rfl (by decide +kernel)
set_option maxRecDepth 65536 in
theorem w_c2 : (Jvm.Cond.code ({ cls := "java/lang/Record", name := "<init>", desc := "()V" } : Jvm.MethodName) jdk_30_method_1_code (1 : Nat) (Option.none : Option Jvm.ClassFile.FieldType)).before args0 about1 = true := code_word (m := ⟨2, 0⟩) (meth := k2m0) (c := k2c0) (by decide +kernel) rfl rfl rfl (by decide +kernel)
set_option maxRecDepth 65536 in
theorem w_c3 : (Jvm.Cond.code ({ cls := "java/lang/Object", name := "<init>", desc := "()V" } : Jvm.MethodName) object_method_1_code (1 : Nat) (Option.none : Option Jvm.ClassFile.FieldType)).before args0 about1 = true := code_word (m := ⟨0, 0⟩) (meth := k0m0) (c := k0c0) (by decide +kernel) rfl rfl rfl (by decide +kernel)
set_option maxRecDepth 65536 in
theorem w_c4 : (Jvm.Cond.code ({ cls := "com/example/second_pass/secondpass/engine/RankedHit", name := "withScore", desc := "(F)Lcom/example/second_pass/secondpass/engine/RankedHit;" } : Jvm.MethodName) prog_5_method_2_code (2 : Nat) (Option.some (Jvm.ClassFile.FieldType.object "com/example/second_pass/secondpass/engine/RankedHit"))).before args0 about1 = true := code_word (m := ⟨3, 1⟩) (meth := k3m1) (c := k3c1) (by decide +kernel) rfl rfl rfl (by decide +kernel)
set_option maxRecDepth 65536 in
theorem w_c5 : (Jvm.Cond.code ({ cls := "com/example/second_pass/secondpass/engine/RankedHit", name := "doc", desc := "()I" } : Jvm.MethodName) prog_5_method_6_code (1 : Nat) (Option.some Jvm.ClassFile.FieldType.int)).before args0 about1 = true := code_word (m := ⟨3, 2⟩) (meth := k3m2) (c := k3c2) (by decide +kernel) rfl rfl rfl (by decide +kernel)
set_option maxRecDepth 65536 in
theorem w_c6 : (Jvm.Cond.code ({ cls := "com/example/second_pass/secondpass/engine/RankedHit", name := "score", desc := "()F" } : Jvm.MethodName) prog_5_method_7_code (1 : Nat) (Option.some Jvm.ClassFile.FieldType.float)).before args0 about1 = true := code_word (m := ⟨3, 3⟩) (meth := k3m3) (c := k3c3) (by decide +kernel) rfl rfl rfl (by decide +kernel)
set_option maxRecDepth 65536 in
theorem w_c7 : (Jvm.Cond.code ({ cls := "com/example/second_pass/secondpass/engine/RankedHit", name := "sequence", desc := "()J" } : Jvm.MethodName) prog_5_method_8_code (1 : Nat) (Option.some Jvm.ClassFile.FieldType.long)).before args0 about1 = true := code_word (m := ⟨3, 4⟩) (meth := k3m4) (c := k3c4) (by decide +kernel) rfl rfl rfl (by decide +kernel)
def codes1 : List Jvm.Cond := [Jvm.Cond.code x code maxLocals ret, Jvm.Cond.code ({ cls := "com/example/second_pass/secondpass/engine/RankedHit", name := "<init>", desc := "(IFJ)V" } : Jvm.MethodName) prog_5_method_1_code (5 : Nat) (Option.none : Option Jvm.ClassFile.FieldType), Jvm.Cond.code ({ cls := "java/lang/Record", name := "<init>", desc := "()V" } : Jvm.MethodName) jdk_30_method_1_code (1 : Nat) (Option.none : Option Jvm.ClassFile.FieldType), Jvm.Cond.code ({ cls := "java/lang/Object", name := "<init>", desc := "()V" } : Jvm.MethodName) object_method_1_code (1 : Nat) (Option.none : Option Jvm.ClassFile.FieldType), Jvm.Cond.code ({ cls := "com/example/second_pass/secondpass/engine/RankedHit", name := "withScore", desc := "(F)Lcom/example/second_pass/secondpass/engine/RankedHit;" } : Jvm.MethodName) prog_5_method_2_code (2 : Nat) (Option.some (Jvm.ClassFile.FieldType.object "com/example/second_pass/secondpass/engine/RankedHit")), Jvm.Cond.code ({ cls := "com/example/second_pass/secondpass/engine/RankedHit", name := "doc", desc := "()I" } : Jvm.MethodName) prog_5_method_6_code (1 : Nat) (Option.some Jvm.ClassFile.FieldType.int), Jvm.Cond.code ({ cls := "com/example/second_pass/secondpass/engine/RankedHit", name := "score", desc := "()F" } : Jvm.MethodName) prog_5_method_7_code (1 : Nat) (Option.some Jvm.ClassFile.FieldType.float), Jvm.Cond.code ({ cls := "com/example/second_pass/secondpass/engine/RankedHit", name := "sequence", desc := "()J" } : Jvm.MethodName) prog_5_method_8_code (1 : Nat) (Option.some Jvm.ClassFile.FieldType.long)]
set_option maxRecDepth 65536 in
theorem codes_eq : words1.filter isCode = codes1 := rfl
theorem w_codes : ∀ c ∈ words1.filter isCode, c.before args0 about1 = true := by
  rw [codes_eq]
  intro c hc
  simp only [codes1, List.mem_cons, List.not_mem_nil, or_false] at hc
  rcases hc with rfl | rfl | rfl | rfl | rfl | rfl | rfl | rfl
  · exact w_c0
  · exact w_c1
  · exact w_c2
  · exact w_c3
  · exact w_c4
  · exact w_c5
  · exact w_c6
  · exact w_c7
set_option maxRecDepth 65536 in
theorem w_t1 : (words1.take 24).all (fun c => isCode c || c.before args0 about1) = true := by decide +kernel
set_option maxRecDepth 65536 in
theorem w_t2 : (words1.drop 24).all (fun c => isCode c || c.before args0 about1) = true := by decide +kernel
theorem w_tables : (allAtoms (Jvm.Cond.code x code maxLocals ret :: tables_1)).before args0 about1 = true := by
  rw [allAtoms_all]
  show words1.all (fun c => c.before args0 about1) = true
  refine all_split ?_ w_codes
  rw [← List.take_append_drop 24 words1, List.all_append, w_t1, w_t2]
  rfl
set_option maxRecDepth 65536 in
theorem w_case : (Jvm.Cond.and given_1 narrow_1).before args0 about1 = true := by decide +kernel
theorem w_applies : (headSpec (Jvm.Cond.code x code maxLocals ret :: tables_1) room_1).applies x e0.platform about1 = true :=
  (Spec.applies_iff w_frames).mpr ⟨w_running, w_runnable, w_alone, w_named, w_hears, w_ripe, w_room, w_tables⟩
theorem atStart : AtStart classFile x code maxLocals ret World_1 tables_1 room_1 Calls_1 rest_1 Pre_1 launch0 p0 e0 about1 theMethod args0 below0 :=
  ⟨lists_1, trivial, launch0.admits_env _ _ _, launch0.least_env, fairChoices_fair.cas, fairChoices_fair.clock, w_frames, w_args, w_heap, w_applies, trivial, trivial, w_case⟩
end start1
theorem witness_1 : WitnessClaimed_1 := ⟨start1.p0, start1.e0, start1.about1, start1.theMethod, start1.args0, start1.below0, start1.atStart⟩
end Jvm.Pilot.@@N@@
