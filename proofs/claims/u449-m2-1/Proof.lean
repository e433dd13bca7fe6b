import JvmDerived
import JvmDerived.Pilot.@@N@@Statement
import JvmDerived.Pilot.@@N@@Code
set_option linter.unusedVariables false
set_option linter.unusedSimpArgs false
namespace Jvm.Pilot.@@N@@
open Jvm Jvm.ClassFile Sem Op Lib Jvm.Free Jvm.Stand Jvm.LawKit Jvm.RoadKit Bundle Jvm.Pilot.@@N@@.Jvm.D
section Own
variable {p : Program} {l : Launch} {e : Env} {R : Room} {s : State} {m : MethodId} {args : Array Value} {below : List Frame} {meth : Method} {c : Code} {T : State} {locs : List Loc} {cells slots : Nat} {C N : Nat} {Q : Option Value → Heap → List Loc → Prop} {S S' : State} {Z : State} {h h' : Heap}
/-- from the state S the invocation ends in a return, and Q holds there -/
def Go (p : Program) (e : Env) (below : List Frame) (s : State) (C N : Nat) (Q : Option Value → Heap → List Loc → Prop) (S : State) : Prop :=
  ∃ s₂ o, Steps p.tables e below S s₂ ∧ s₂.status = .running ∧ Ended s₂ below o ∧ ∃ v L, o = .returned v ∧ Q v s₂.heap L ∧ FrameEnd s o s₂ L C N
theorem Go.step (st : ∀ t, Steps p.tables e below S' t → Steps p.tables e below S t) (G : Go p e below s C N Q S') : Go p e below s C N Q S := by
  obtain ⟨s₂, o, h, r⟩ := G
  exact ⟨s₂, o, st _ h, r⟩
theorem Go.tr (st : Steps p.tables e below S S') (G : Go p e below s C N Q S') : Go p e below s C N Q S := by
  obtain ⟨s₂, o, h, r⟩ := G
  exact ⟨s₂, o, st.trans h, r⟩
theorem Go.out (X : Stand p l e R s m args below meth c T locs cells slots) {v : Option Value} {g : JFrame} (hv : meth.sig.returnType = none → v = none) (hlk : meth.locks = false)
    (hst : ∀ fs, (∀ (f : JFrame) (acts : List Action), f.method = m → f.locked = none → f.entered = [] → (doReturn e (T.setTop f) acts v).1 = T.setFrames fs) → Steps p.tables e below (T.setTop g) (T.setFrames fs))
    (hQ : Q v T.heap locs) (hc : cells ≤ C) (hn : slots ≤ N) : Go p e below s C N Q (T.setTop g) := by
  obtain ⟨fs, hr, hrun, hended, hW, hsame⟩ := X.leave (v := v) hv hlk
  exact ⟨_, _, hst fs hr, hrun, hended, _, _, rfl, hQ, ⟨_, rfl⟩, hW, hsame.mono hc hn⟩
theorem Go.retV (X : Stand p l e R s m args below meth c T locs cells slots) (hx : p.tables.exec = Jvm.exec) {pc : Nat} {Ls : Array Slot} (hret : meth.sig.returnType = none) (hlk : meth.locks = false) (hd : decode c.code pc = .ok (.return_, 1))
    (hQ : Q none T.heap locs) (hc : cells ≤ C) (hn : slots ≤ N) : Go p e below s C N Q (T.setTop (mkF m pc Ls [])) :=
  Go.out X (fun _ => rfl) hlk (fun fs hr => X.returnOut hx hret hd hr) hQ hc hn
theorem Go.retI (X : Stand p l e R s m args below meth c T locs cells slots) (hx : p.tables.exec = Jvm.exec) {pc : Nat} {Ls : Array Slot} {z : Int32} {rest : List Value} (hret : meth.sig.returnType = some .int) (hlk : meth.locks = false) (hd : decode c.code pc = .ok (.ireturn, 1))
    (hQ : Q (some (.int z)) T.heap locs) (hc : cells ≤ C) (hn : slots ≤ N) : Go p e below s C N Q (T.setTop (mkF m pc Ls (.int z :: rest))) :=
  Go.out X (fun h => by rw [hret] at h; cases h) hlk (fun fs hr => retOut X hx hret rfl (Or.inl ⟨rfl, Or.inl rfl, z, rfl⟩) hd hr) hQ hc hn
theorem Go.retN (X : Stand p l e R s m args below meth c T locs cells slots) (hx : p.tables.exec = Jvm.exec) {pc : Nat} {Ls : Array Slot} {z : Int32} {t : FieldType} {rest : List Value} (hret : meth.sig.returnType = some t) (ht : t = .boolean ∨ t = .byte ∨ t = .char ∨ t = .short) (hlk : meth.locks = false) (hd : decode c.code pc = .ok (.ireturn, 1))
    (hQ : Q (some (.int (nar t z))) T.heap locs) (hc : cells ≤ C) (hn : slots ≤ N) : Go p e below s C N Q (T.setTop (mkF m pc Ls (.int z :: rest))) :=
  Go.out X (fun h => by rw [hret] at h; cases h) hlk (fun fs hr => Jvm.RoadKit.retN X hx hret ht hd hr) hQ hc hn
theorem Go.retJ (X : Stand p l e R s m args below meth c T locs cells slots) (hx : p.tables.exec = Jvm.exec) {pc : Nat} {Ls : Array Slot} {z : Int64} {rest : List Value} (hret : meth.sig.returnType = some .long) (hlk : meth.locks = false) (hd : decode c.code pc = .ok (.lreturn, 1))
    (hQ : Q (some (.long z)) T.heap locs) (hc : cells ≤ C) (hn : slots ≤ N) : Go p e below s C N Q (T.setTop (mkF m pc Ls (.long z :: rest))) :=
  Go.out X (fun h => by rw [hret] at h; cases h) hlk (fun fs hr => retOut X hx hret rfl (Or.inr (Or.inl ⟨rfl, rfl, z, rfl⟩)) hd hr) hQ hc hn
theorem Go.retA (X : Stand p l e R s m args below meth c T locs cells slots) (hx : p.tables.exec = Jvm.exec) {pc : Nat} {Ls : Array Slot} {w : Value} {t : FieldType} {rest : List Value} (hret : meth.sig.returnType = some t) (ht : t.isReference = true) (hw : w.isRef = true) (hlk : meth.locks = false) (hd : decode c.code pc = .ok (.areturn, 1))
    (hQ : Q (some w) T.heap locs) (hc : cells ≤ C) (hn : slots ≤ N) : Go p e below s C N Q (T.setTop (mkF m pc Ls (w :: rest))) :=
  Go.out X (fun h => by rw [hret] at h; cases h) hlk (fun fs hr => retOut X hx hret (by rcases ref_cases hw with rfl | ⟨a, rfl⟩ <;> cases t <;> first | rfl | cases ht) (Or.inr (Or.inr (Or.inr (Or.inr ⟨rfl, ht, hw⟩)))) hd hr) hQ hc hn
/-- an array of ints, bytes ..: z places, the j-th holds f j -/
def Ai (Z : State) (h : Heap) (a : Addr) (ty : FieldType) (z : Int32) (f : Int32 → Int32) : Prop :=
  ∃ c : Cell, Arr Z h a c ty ∧ c.slots.size = z.toNatClampNeg ∧ ¬ z < 0 ∧ ∀ j : Int32, ¬ j < 0 → j < z → c.slots[j.toNatClampNeg]? = some (.int (f j))
theorem own_inb {cl : Cell} {z j : Int32} (S : cl.slots.size = z.toNatClampNeg) (h0 : ¬ j < 0) (h1 : j < z) : ¬ (j < 0 ∨ cl.slots.size ≤ j.toNatClampNeg) := inb_of S ⟨h0, h1⟩
theorem Ai.lt {a : Addr} {ty : FieldType} {z : Int32} {f : Int32 → Int32} (F : Ai Z h a ty z f) : a < h.size := by obtain ⟨c, A, -⟩ := F; exact A.lt
theorem Ai.nn {a : Addr} {ty : FieldType} {z : Int32} {f : Int32 → Int32} (F : Ai Z h a ty z f) : ¬ z < 0 := by obtain ⟨c, -, -, q, -⟩ := F; exact q
theorem Ai.ext {a : Addr} {ty : FieldType} {z : Int32} {f : Int32 → Int32} (F : Ai Z h a ty z f) (E : Ext h h') : Ai Z h' a ty z f := by obtain ⟨c, A, r⟩ := F; exact ⟨c, A.ext E, r⟩
theorem Ai.other {a b : Addr} {sl : Nat} {v : Value} {ty : FieldType} {z : Int32} {f : Int32 → Int32} (F : Ai Z h b ty z f) (W : Wr h h' a sl v) (q : b ≠ a) : Ai Z h' b ty z f := by obtain ⟨c, A, r⟩ := F; exact ⟨c, A.other W q, r⟩
theorem Ai.keep {a : Addr} {ws : List Addr} {ty : FieldType} {z : Int32} {f : Int32 → Int32} (F : Ai Z h a ty z f) (K : Keep h h' ws) (q : a ∉ ws) : Ai Z h' a ty z f := by obtain ⟨c, A, r⟩ := F; exact ⟨c, ⟨K.2.1 a c A.1 q, A.2⟩, r⟩
theorem Ai.new {a : Addr} {k : ClassId} {ty : FieldType} {z : Int32} (A : Arr Z h a (newA k ty z) ty) (q : ¬ z < 0) (hd : defaultValue ty = .int 0) : Ai Z h a ty z (fun _ => 0) :=
  ⟨_, A, sz_new _ _ _, q, fun j h0 h1 => by rw [get_new (sz_new k ty z ▸ own_inb (sz_new k ty z) h0 h1), hd]⟩
theorem Ai.eqf {a : Addr} {ty : FieldType} {z : Int32} {f g : Int32 → Int32} (F : Ai Z h a ty z f) (q : ∀ j : Int32, ¬ j < 0 → j < z → f j = g j) : Ai Z h a ty z g := by
  obtain ⟨c, A, S, n, H⟩ := F; exact ⟨c, A, S, n, fun j h0 h1 => by rw [← q j h0 h1]; exact H j h0 h1⟩
theorem Ai.set {a : Addr} {ty : FieldType} {z j x : Int32} {f : Int32 → Int32} (F : Ai Z h a ty z f) (h0 : ¬ j < 0) (h1 : j < z) (W : Wr h h' a j.toNatClampNeg (.int x)) : Ai Z h' a ty z (fun i => if i = j then x else f i) := by
  obtain ⟨c, A, S, n, H⟩ := F
  refine ⟨_, A.same W, by rw [sz_set]; exact S, n, fun i g0 g1 => ?_⟩
  by_cases e : i = j
  · rw [get_hit (own_inb S h0 h1) e]; simp [e]
  · rw [get_miss h0 g0 e, H i g0 g1]; simp [e]
theorem Ai.len (X : Stand p l e R s m args below meth c T locs cells slots) (hx : p.tables.exec = Jvm.exec) (hZ : Z.Warmed39 s.vm) (eT : T.heap = h) {a : Addr} {ty : FieldType} {z : Int32} {f : Int32 → Int32} (F : Ai Z h a ty z f)
    {g : JFrame} (hg : g.method = m) {rest : List Value} (hs : g.stack = .ref a :: rest) (hd : decode c.code g.pc = .ok (.arraylength, 1)) : ∀ target, Steps p.tables e below (T.setTop { g with pc := g.pc + 1, stack := .int z :: rest }) target → Steps p.tables e below (T.setTop g) target := by
  obtain ⟨cl, A, S, n, H⟩ := F
  intro t k
  refine X.arraylength hx (by rw [eT]; exact A.1) (State.isArrayOf_alike hZ.alike A.2.1) hg hs hd _ ?_
  rw [len_of S n]; exact k
theorem Ai.iaload (X : Stand p l e R s m args below meth c T locs cells slots) (hx : p.tables.exec = Jvm.exec) (hZ : Z.Warmed39 s.vm) (eT : T.heap = h) {a : Addr} {z j : Int32} {f : Int32 → Int32} (F : Ai Z h a .int z f) (h0 : ¬ j < 0) (h1 : j < z)
    {g : JFrame} (hg : g.method = m) {rest : List Value} (hs : g.stack = .int j :: .ref a :: rest) (hd : decode c.code g.pc = .ok (.iaload, 1)) : ∀ target, Steps p.tables e below (T.setTop { g with pc := g.pc + 1, stack := .int (f j) :: rest }) target → Steps p.tables e below (T.setTop g) target := by
  obtain ⟨cl, A, S, n, H⟩ := F
  exact X.iaload hx (by rw [eT]; exact A.1) (State.isArrayOf_alike hZ.alike A.2.1) A.2.2 (own_inb S h0 h1) (H j h0 h1) hg hs hd
theorem Ai.baload (X : Stand p l e R s m args below meth c T locs cells slots) (hx : p.tables.exec = Jvm.exec) (hZ : Z.Warmed39 s.vm) (eT : T.heap = h) {a : Addr} {z j : Int32} {f : Int32 → Int32} (F : Ai Z h a .byte z f) (h0 : ¬ j < 0) (h1 : j < z)
    {g : JFrame} (hg : g.method = m) {rest : List Value} (hs : g.stack = .int j :: .ref a :: rest) (hd : decode c.code g.pc = .ok (.baload, 1)) : ∀ target, Steps p.tables e below (T.setTop { g with pc := g.pc + 1, stack := .int (f j) :: rest }) target → Steps p.tables e below (T.setTop g) target := by
  obtain ⟨cl, A, S, n, H⟩ := F
  exact X.baloadBytes hx (by rw [eT]; exact A.1) (State.isArrayOf_alike hZ.alike A.2.1) A.2.2 (own_inb S h0 h1) (H j h0 h1) hg hs hd
theorem Ai.stI (X : Stand p l e R s m args below meth c T locs cells slots) (hx : p.tables.exec = Jvm.exec) (hZ : Z.Warmed39 s.vm) (eT : T.heap = h) {a : Addr} {z j x : Int32} {f : Int32 → Int32} (F : Ai Z h a .int z f) (h0 : ¬ j < 0) (h1 : j < z)
    {g : JFrame} (hg : g.method = m) {rest : List Value} (hs : g.stack = .int x :: .int j :: .ref a :: rest) (hd : decode c.code g.pc = .ok (.iastore, 1)) :
    ∃ T' h', Stand p l e R s m args below meth c T' (locs ++ [⟨a, j.toNatClampNeg⟩]) cells slots ∧ T'.heap = h' ∧ Wr h h' a j.toNatClampNeg (.int x) ∧ Ai Z h' a .int z (fun i => if i = j then x else f i) ∧ ∀ target, Steps p.tables e below (T'.setTop { g with pc := g.pc + 1, stack := rest }) target → Steps p.tables e below (T.setTop g) target := by
  obtain ⟨cl, A, S, n, H⟩ := F
  obtain ⟨T', h', X', e', W, st⟩ := Jvm.RoadKit.stI X hx hZ eT A (own_inb S h0 h1) hg hs hd
  exact ⟨T', h', X', e', W, Ai.set ⟨cl, A, S, n, H⟩ h0 h1 W, st⟩
theorem Ai.stB (X : Stand p l e R s m args below meth c T locs cells slots) (hx : p.tables.exec = Jvm.exec) (hZ : Z.Warmed39 s.vm) (eT : T.heap = h) {a : Addr} {z j x : Int32} {f : Int32 → Int32} (F : Ai Z h a .byte z f) (h0 : ¬ j < 0) (h1 : j < z)
    {g : JFrame} (hg : g.method = m) {rest : List Value} (hs : g.stack = .int x :: .int j :: .ref a :: rest) (hd : decode c.code g.pc = .ok (.bastore, 1)) :
    ∃ T' h', Stand p l e R s m args below meth c T' (locs ++ [⟨a, j.toNatClampNeg⟩]) cells slots ∧ T'.heap = h' ∧ Wr h h' a j.toNatClampNeg (.int (nar .byte x)) ∧ Ai Z h' a .byte z (fun i => if i = j then nar .byte x else f i) ∧ ∀ target, Steps p.tables e below (T'.setTop { g with pc := g.pc + 1, stack := rest }) target → Steps p.tables e below (T.setTop g) target := by
  obtain ⟨cl, A, S, n, H⟩ := F
  obtain ⟨T', h', X', e', W, st⟩ := Jvm.RoadKit.stB X hx hZ eT A (own_inb S h0 h1) hg hs hd
  exact ⟨T', h', X', e', W, Ai.set ⟨cl, A, S, n, H⟩ h0 h1 W, st⟩
end Own
theorem narrow_ref {t : FieldType} {v : Value} (hv : v.isRef = true) (ht : t.isReference = true) : narrow t v = v := by rcases ref_cases hv with rfl | ⟨a, rfl⟩ <;> cases t <;> first | rfl | cases ht
theorem fits_refV {t : FieldType} {v : Value} (hv : v.isRef = true) (ht : t.isReference = true) : fits t v = true := by rcases ref_cases hv with rfl | ⟨a, rfl⟩ <;> cases t <;> first | rfl | cases ht
theorem own_iincW {tb : Tables} [Ours tb] {e : Env} {below : List Frame} {T target : State} {m : MethodId} {c : Code} {g : JFrame} (h : At T m c below) (hx : tb.exec = Jvm.exec) (hg : g.method = m) {k : Nat} {cst : Int} {x : Int32} {l' : Array Slot} (hd : decode c.code g.pc = .ok (.iinc k cst, 6)) (hl : g.locals[k]? = some (.val (.int x))) (hl' : storeLocals g.locals k (.int (x + Int32.ofInt cst)) = some l')
    (hr : Steps tb e below (T.setTop { g with pc := g.pc + 6, locals := l' }) target) : Steps tb e below (T.setTop g) target := by
  subst hg
  jvm_step h [h.top, hx, hd, hl, hl']
  exact hr

section Wide
variable {p : Program} {l : Launch} {e : Env} {R : Room} {s : State} {m : MethodId} {args : Array Value} {below : List Frame} {meth : Method} {c : Code} {T : State} {locs : List Loc} {cells slots : Nat} {C N : Nat} {Q : Option Value → Heap → List Loc → Prop} {S S' : State} {Z : State} {h h' : Heap} {vm0 : Vm} {k0 : Nat}
/-- as Go, for a body that may load String constants: the end is the wide one -/
def GoW (p : Program) (e : Env) (below : List Frame) (s : State) (C N : Nat) (Q : Option Value → Heap → List Loc → Prop) (S : State) : Prop :=
  ∃ s₂ o, Steps p.tables e below S s₂ ∧ s₂.status = .running ∧ Ended s₂ below o ∧ ∃ v L, o = .returned v ∧ Q v s₂.heap L ∧ ReturnedEndW s o s₂ L C N
theorem GoW.step (st : ∀ t, Steps p.tables e below S' t → Steps p.tables e below S t) (G : GoW p e below s C N Q S') : GoW p e below s C N Q S := by
  obtain ⟨s₂, o, h, r⟩ := G
  exact ⟨s₂, o, st _ h, r⟩
theorem GoW.tr (st : Steps p.tables e below S S') (G : GoW p e below s C N Q S') : GoW p e below s C N Q S := by
  obtain ⟨s₂, o, h, r⟩ := G
  exact ⟨s₂, o, st.trans h, r⟩
theorem GoW.out (X : Stand p l e R (s.setVm vm0) m args below meth c T locs cells slots) (hS : s.Since vm0 k0) (hk : k0 ≤ T.heap.size) {v : Option Value} {g : JFrame} (hv : meth.sig.returnType = none → v = none) (hlk : meth.locks = false)
    (hst : ∀ fs, (∀ (f : JFrame) (acts : List Action), f.method = m → f.locked = none → f.entered = [] → (doReturn e (T.setTop f) acts v).1 = T.setFrames fs) → Steps p.tables e below (T.setTop g) (T.setFrames fs))
    (hQ : Q v T.heap locs) (hc : cells ≤ C) (hn : slots ≤ N) : GoW p e below s C N Q (T.setTop g) := by
  obtain ⟨fs, hr, hrun, hended, hW, hsame⟩ := X.leave (v := v) hv hlk
  have q := hS.ended hW hk hsame
  exact ⟨_, _, hst fs hr, hrun, hended, _, _, rfl, hQ, ⟨_, rfl⟩, q.1, q.2.1, q.2.2.mono hc hn⟩
theorem GoW.retV (X : Stand p l e R (s.setVm vm0) m args below meth c T locs cells slots) (hS : s.Since vm0 k0) (hk : k0 ≤ T.heap.size) (hx : p.tables.exec = Jvm.exec) {pc : Nat} {Ls : Array Slot} (hret : meth.sig.returnType = none) (hlk : meth.locks = false) (hd : decode c.code pc = .ok (.return_, 1))
    (hQ : Q none T.heap locs) (hc : cells ≤ C) (hn : slots ≤ N) : GoW p e below s C N Q (T.setTop (mkF m pc Ls [])) :=
  GoW.out X hS hk (fun _ => rfl) hlk (fun fs hr => X.returnOut hx hret hd hr) hQ hc hn
theorem GoW.retN (X : Stand p l e R (s.setVm vm0) m args below meth c T locs cells slots) (hS : s.Since vm0 k0) (hk : k0 ≤ T.heap.size) (hx : p.tables.exec = Jvm.exec) {pc : Nat} {Ls : Array Slot} {z : Int32} {t : FieldType} {rest : List Value} (hret : meth.sig.returnType = some t) (ht : t = .boolean ∨ t = .byte ∨ t = .char ∨ t = .short) (hlk : meth.locks = false) (hd : decode c.code pc = .ok (.ireturn, 1))
    (hQ : Q (some (.int (nar t z))) T.heap locs) (hc : cells ≤ C) (hn : slots ≤ N) : GoW p e below s C N Q (T.setTop (mkF m pc Ls (.int z :: rest))) :=
  GoW.out X hS hk (fun h => by rw [hret] at h; cases h) hlk (fun fs hr => Jvm.RoadKit.retN X hx hret ht hd hr) hQ hc hn
end Wide

theorem own_nb1 : nar .boolean 1 = 1 := by decide
theorem own_nb0 : nar .boolean 0 = 0 := by decide
theorem own_lirr {a : Int32} : ¬ a < a := by rw [Int32.lt_iff_toInt_lt]; omega
theorem own_lasym {a b : Int32} (h : a < b) : ¬ b < a := by rw [Int32.lt_iff_toInt_lt] at *; omega
theorem own_lneg {a b : Int32} (h0 : ¬ a < 0) (h : a < b) : ¬ b < 0 := by rw [Int32.lt_iff_toInt_lt] at *; omega
theorem own_clamp {z : Int32} {n : Nat} (h : z.toInt ≤ n) : z.toNatClampNeg ≤ n := by
  show z.toInt.toNat ≤ n
  omega
theorem own_i_0 : (0 : Int32).toInt = 0 := by decide
theorem own_i_1 : (1 : Int32).toInt = 1 := by decide
theorem own_i_2 : (2 : Int32).toInt = 2 := by decide
theorem own_i_3 : (3 : Int32).toInt = 3 := by decide
theorem own_n3 (x : Int32) : (x &&& (3 : Int32)) = 0 ∨ (x &&& (3 : Int32)) = 1 ∨ (x &&& (3 : Int32)) = 2 ∨ (x &&& (3 : Int32)) = 3 := by
  have h := c_mask x 3 2 (by decide) (by decide)
  simp only [← Int32.toInt_inj, own_i_0, own_i_1, own_i_2, own_i_3]; omega
theorem pn_4 : plainName "java/util/AbstractCollection" = true := by first | (simp [plainName, overriddenIn]; done) | decide +kernel
theorem d5_0 : decode jdk_22_method_1_code 0 = .ok (.aload_n 0, 1) := by decide +kernel
theorem d5_1 : decode jdk_22_method_1_code 1 = .ok (.invokespecial 1, 3) := by decide +kernel
theorem d5_4 : decode jdk_22_method_1_code 4 = .ok (.return_, 1) := by decide +kernel
theorem ef_5 (m : MethodId) (a0 : Addr) : entryFrame m #[(.ref a0)] 1 = mkF m 0 #[.val (.ref a0)] [] := by first | (simp [entryFrame, mkF, argsToLocals, Value.category]; done) | rfl
def Q5 (Z : State) (a0 : Addr) (h0 : Heap) (n0 : Nat) (v : Option Value) (h : Heap) (L : List Loc) : Prop := (v = none) ∧ (Fr n0 L) ∧ (h = h0)
set_option maxRecDepth 65536 in
set_option maxHeartbeats 40000000 in
theorem rm5 (l : Launch) (Z : State) (aZ : Array Value) (hw : ∀ d ∈ tables_1, d.before aZ Z = true) (ws : List Jvm.Cond) (a0 : Addr) (h0 : Heap) (n0 : Nat) (Z0 : n0 ≤ h0.size)  :
    MetFree l (⟨"java/util/AbstractCollection", "<init>", "()V"⟩ : MethodName) (head1 (Jvm.Cond.code (⟨"java/util/AbstractCollection", "<init>", "()V"⟩ : MethodName) jdk_22_method_1_code 1 none :: ws) ({ frames := 1, cells := 0, slots := 0, locals := 12 } : Room)) (fun a U => a = #[(.ref a0)] ∧ Z.Warmed39 U.vm ∧ U.heap = h0) (fun _ _ _ _ _ => True) (fun _ U o U' => ∃ v L, o = .returned v ∧ Q5 Z a0 h0 n0 v U'.heap L ∧ FrameEnd U o U' L ({ frames := 1, cells := 0, slots := 0, locals := 12 } : Room).cells ({ frames := 1, cells := 0, slots := 0, locals := 12 } : Room).slots) := by
  refine MetFree.of_bodySF (plainFor_of_name pn_4) hisR ?_
  intro p e s m args below meth c s₁ Bd hml0 hP hK
  obtain ⟨rfl, hZ, hh⟩ := hP
  have hx := Bd.exec
  have hby := Bd.bytes
  have hml : c.maxLocals = 1 := hml0
  have hown : s.vm.findClass "java/util/AbstractCollection" = some m.cls := findClass_of_methodNamed Bd.named
  have hnm := (name_of_methodNamed Bd.named Bd.method).1
  have hlk : meth.locks = false := BodyLoose.notSynchronized Bd
  have X0 : Stand p l e ({ frames := 1, cells := 0, slots := 0, locals := 12 } : Room) s m #[(.ref a0)] below meth c s₁ [] 0 0 := Stand.of_body Bd
  have e0 : s₁.heap = h0 := by rw [← hh, Bd.state]; rfl
  have N0 := Fr.nil n0
  have sq0 : h0.size ≤ h0.size := Nat.le_refl _
  change Go p e below s ({ frames := 1, cells := 0, slots := 0, locals := 12 } : Room).cells ({ frames := 1, cells := 0, slots := 0, locals := 12 } : Room).slots (Q5 Z a0 h0 n0) (s₁.setTop (entryFrame m #[(.ref a0)] 1))
  rw [ef_5 m a0]
  show Go _ _ _ _ _ _ _ (s₁.setTop (mkF m 0 #[.val (.ref a0)] []))
  refine Go.step (fun _ k => XS.aloadN X0.here hx rfl (hb hby d5_0) rfl rfl  k) ?_
  show Go _ _ _ _ _ _ _ (s₁.setTop (mkF m 1 #[.val (.ref a0)] [(.ref a0)]))
  obtain ⟨T1, X1, e1, st1⟩ := initO X0 hx hZ hown (hw _ (List.mem_of_getElem? (i := 36) rfl)) (hw _ (List.mem_of_getElem? (i := 7) rfl)) (hw _ (List.mem_of_getElem? (i := 8) rfl)) e0 (g := (mkF m 1 #[.val (.ref a0)] [(.ref a0)])) rfl (by rw [hml]; rfl) rfl (hb hby d5_1) (by decide) (W := 0) (by show 2 * 0 + _ ≤ _; exact Nat.le_of_eq rfl) (by decide)
  refine Go.step st1 ?_
  show Go _ _ _ _ _ _ _ (T1.setTop (mkF m 4 #[.val (.ref a0)] []))
  refine Go.retV X1 hx Bd.returns hlk (hb hby d5_4) ?_ (by decide) (by decide)
  rw [e1]
  exact ⟨(rfl), N0, rfl⟩
theorem pn_5 : plainName "com/example/steward/steward/runtime/Group" = true := by first | (simp [plainName, overriddenIn]; done) | decide +kernel
theorem d1_0 : decode prog_44_method_1_code 0 = .ok (.aload_n 0, 1) := by decide +kernel
theorem d1_1 : decode prog_44_method_1_code 1 = .ok (.invokespecial 1, 3) := by decide +kernel
theorem d1_4 : decode prog_44_method_1_code 4 = .ok (.return_, 1) := by decide +kernel
theorem ef_1 (m : MethodId) (a0 : Addr) : entryFrame m #[(.ref a0)] 1 = mkF m 0 #[.val (.ref a0)] [] := by first | (simp [entryFrame, mkF, argsToLocals, Value.category]; done) | rfl
def Q1 (Z : State) (a0 : Addr) (h0 : Heap) (n0 : Nat) (v : Option Value) (h : Heap) (L : List Loc) : Prop := (v = none) ∧ (Fr n0 L) ∧ (h = h0)
set_option maxRecDepth 65536 in
set_option maxHeartbeats 40000000 in
theorem rm1 (l : Launch) (Z : State) (aZ : Array Value) (hw : ∀ d ∈ tables_1, d.before aZ Z = true) (ws : List Jvm.Cond) (a0 : Addr) (h0 : Heap) (n0 : Nat) (Z0 : n0 ≤ h0.size)  :
    MetFree l (⟨"com/example/steward/steward/runtime/Group", "<init>", "()V"⟩ : MethodName) (head1 (Jvm.Cond.code (⟨"com/example/steward/steward/runtime/Group", "<init>", "()V"⟩ : MethodName) prog_44_method_1_code 1 none :: ws) ({ frames := 1, cells := 0, slots := 0, locals := 12 } : Room)) (fun a U => a = #[(.ref a0)] ∧ Z.Warmed39 U.vm ∧ U.heap = h0) (fun _ _ _ _ _ => True) (fun _ U o U' => ∃ v L, o = .returned v ∧ Q1 Z a0 h0 n0 v U'.heap L ∧ FrameEnd U o U' L ({ frames := 1, cells := 0, slots := 0, locals := 12 } : Room).cells ({ frames := 1, cells := 0, slots := 0, locals := 12 } : Room).slots) := by
  refine MetFree.of_bodySF (plainFor_of_name pn_5) hisR ?_
  intro p e s m args below meth c s₁ Bd hml0 hP hK
  obtain ⟨rfl, hZ, hh⟩ := hP
  have hx := Bd.exec
  have hby := Bd.bytes
  have hml : c.maxLocals = 1 := hml0
  have hown : s.vm.findClass "com/example/steward/steward/runtime/Group" = some m.cls := findClass_of_methodNamed Bd.named
  have hnm := (name_of_methodNamed Bd.named Bd.method).1
  have hlk : meth.locks = false := BodyLoose.notSynchronized Bd
  have X0 : Stand p l e ({ frames := 1, cells := 0, slots := 0, locals := 12 } : Room) s m #[(.ref a0)] below meth c s₁ [] 0 0 := Stand.of_body Bd
  have e0 : s₁.heap = h0 := by rw [← hh, Bd.state]; rfl
  have N0 := Fr.nil n0
  have sq0 : h0.size ≤ h0.size := Nat.le_refl _
  change Go p e below s ({ frames := 1, cells := 0, slots := 0, locals := 12 } : Room).cells ({ frames := 1, cells := 0, slots := 0, locals := 12 } : Room).slots (Q1 Z a0 h0 n0) (s₁.setTop (entryFrame m #[(.ref a0)] 1))
  rw [ef_1 m a0]
  show Go _ _ _ _ _ _ _ (s₁.setTop (mkF m 0 #[.val (.ref a0)] []))
  refine Go.step (fun _ k => XS.aloadN X0.here hx rfl (hb hby d1_0) rfl rfl  k) ?_
  show Go _ _ _ _ _ _ _ (s₁.setTop (mkF m 1 #[.val (.ref a0)] [(.ref a0)]))
  obtain ⟨T1, X1, e1, st1⟩ := initO X0 hx hZ hown (hw _ (List.mem_of_getElem? (i := 6) rfl)) (hw _ (List.mem_of_getElem? (i := 7) rfl)) (hw _ (List.mem_of_getElem? (i := 8) rfl)) e0 (g := (mkF m 1 #[.val (.ref a0)] [(.ref a0)])) rfl (by rw [hml]; rfl) rfl (hb hby d1_1) (by decide) (W := 0) (by show 2 * 0 + _ ≤ _; exact Nat.le_of_eq rfl) (by decide)
  refine Go.step st1 ?_
  show Go _ _ _ _ _ _ _ (T1.setTop (mkF m 4 #[.val (.ref a0)] []))
  refine Go.retV X1 hx Bd.returns hlk (hb hby d1_4) ?_ (by decide) (by decide)
  rw [e1]
  exact ⟨(rfl), N0, rfl⟩
theorem pn_6 : plainName "java/util/ArrayDeque" = true := by first | (simp [plainName, overriddenIn]; done) | decide +kernel
theorem pd_0 : parseMethodDescriptor "()V" = some ⟨[], none⟩ := by decide +kernel
theorem d4_0 : decode jdk_21_method_4_code 0 = .ok (.aload_n 0, 1) := by decide +kernel
theorem d4_1 : decode jdk_21_method_4_code 1 = .ok (.invokespecial 42, 3) := by decide +kernel
theorem d4_4 : decode jdk_21_method_4_code 4 = .ok (.aload_n 0, 1) := by decide +kernel
theorem d4_5 : decode jdk_21_method_4_code 5 = .ok (.iload_n 1, 1) := by decide +kernel
theorem d4_6 : decode jdk_21_method_4_code 6 = .ok (.iconst 1, 1) := by decide +kernel
theorem d4_7 : decode jdk_21_method_4_code 7 = .ok (.if_icmp .ge 7, 3) := by decide +kernel
theorem d4_14 : decode jdk_21_method_4_code 14 = .ok (.iload_n 1, 1) := by decide +kernel
theorem d4_15 : decode jdk_21_method_4_code 15 = .ok (.ldc 41, 2) := by decide +kernel
theorem d4_17 : decode jdk_21_method_4_code 17 = .ok (.if_icmp .ne 8, 3) := by decide +kernel
theorem d4_25 : decode jdk_21_method_4_code 25 = .ok (.iload_n 1, 1) := by decide +kernel
theorem d4_26 : decode jdk_21_method_4_code 26 = .ok (.iconst 1, 1) := by decide +kernel
theorem d4_27 : decode jdk_21_method_4_code 27 = .ok (.iadd, 1) := by decide +kernel
theorem d4_28 : decode jdk_21_method_4_code 28 = .ok (.anewarray 47, 3) := by decide +kernel
theorem d4_31 : decode jdk_21_method_4_code 31 = .ok (.putfield 3, 3) := by decide +kernel
theorem d4_34 : decode jdk_21_method_4_code 34 = .ok (.return_, 1) := by decide +kernel
theorem ef_4 (m : MethodId) (a0 : Addr) (p1 : Int32) : entryFrame m #[(.ref a0), (.int p1)] 2 = mkF m 0 #[.val (.ref a0), .val (.int p1)] [] := by first | (simp [entryFrame, mkF, argsToLocals, Value.category]; done) | rfl
def Q4 (Z : State) (a0 : Addr) (p1 : Int32) (h0 : Heap) (n0 : Nat) (v : Option Value) (h : Heap) (L : List Loc) : Prop := (v = none) ∧ (Fr n0 L) ∧ (Keep h0 h [a0]) ∧ (Exa Z h a0 "java/util/ArrayDeque")
set_option maxRecDepth 65536 in
set_option maxHeartbeats 40000000 in
theorem rm4 (l : Launch) (Z : State) (aZ : Array Value) (hw : ∀ d ∈ tables_1, d.before aZ Z = true) (ws : List Jvm.Cond) (a0 : Addr) (p1 : Int32) (h0 : Heap) (n0 : Nat) (Z0 : n0 ≤ h0.size) (E_0 : Exa Z h0 a0 "java/util/ArrayDeque") (F_1 : Fld Z h0 a0 "java/util/ArrayDeque" "elements" "[Ljava/lang/Object;" .null) (g_2 : n0 ≤ a0) (hp1 : p1 = (1 : Int32)) :
    MetFree l (⟨"java/util/ArrayDeque", "<init>", "(I)V"⟩ : MethodName) (head1 (Jvm.Cond.code (⟨"java/util/ArrayDeque", "<init>", "(I)V"⟩ : MethodName) jdk_21_method_4_code 2 none :: ws) ({ frames := 2, cells := 1, slots := 2, locals := 24 } : Room)) (fun a U => a = #[(.ref a0), (.int p1)] ∧ Z.Warmed39 U.vm ∧ U.heap = h0) (fun _ _ _ _ _ => True) (fun _ U o U' => ∃ v L, o = .returned v ∧ Q4 Z a0 p1 h0 n0 v U'.heap L ∧ FrameEnd U o U' L ({ frames := 2, cells := 1, slots := 2, locals := 24 } : Room).cells ({ frames := 2, cells := 1, slots := 2, locals := 24 } : Room).slots) := by
  refine MetFree.of_bodySF (plainFor_of_name pn_6) hisR ?_
  intro p e s m args below meth c s₁ Bd hml0 hP hK
  obtain ⟨rfl, hZ, hh⟩ := hP
  have hx := Bd.exec
  have hby := Bd.bytes
  have hml : c.maxLocals = 2 := hml0
  have hown : s.vm.findClass "java/util/ArrayDeque" = some m.cls := findClass_of_methodNamed Bd.named
  have hnm := (name_of_methodNamed Bd.named Bd.method).1
  have hlk : meth.locks = false := BodyLoose.notSynchronized Bd
  have X0 : Stand p l e ({ frames := 2, cells := 1, slots := 2, locals := 24 } : Room) s m #[(.ref a0), (.int p1)] below meth c s₁ [] 0 0 := Stand.of_body Bd
  have e0 : s₁.heap = h0 := by rw [← hh, Bd.state]; rfl
  have N0 := Fr.nil n0
  have sq0 : h0.size ≤ h0.size := Nat.le_refl _
  have k0 : Keep h0 h0 [a0] := Keep.refl _ _
  change Go p e below s ({ frames := 2, cells := 1, slots := 2, locals := 24 } : Room).cells ({ frames := 2, cells := 1, slots := 2, locals := 24 } : Room).slots (Q4 Z a0 p1 h0 n0) (s₁.setTop (entryFrame m #[(.ref a0), (.int p1)] 2))
  rw [ef_4 m a0 p1]
  subst hp1
  show Go _ _ _ _ _ _ _ (s₁.setTop (mkF m 0 #[.val (.ref a0), .val (.int (1 : Int32))] []))
  refine Go.step (fun _ k => XS.aloadN X0.here hx rfl (hb hby d4_0) rfl rfl  k) ?_
  show Go _ _ _ _ _ _ _ (s₁.setTop (mkF m 1 #[.val (.ref a0), .val (.int (1 : Int32))] [(.ref a0)]))
  obtain ⟨_, _, ⟨T1, L1, k1, n1⟩, -, X1, ⟨Lc1, hQ1, l1, y1, z1⟩, st1⟩ := X0.specialBack hx (y := (⟨"java/util/AbstractCollection", "<init>", "()V"⟩ : MethodName)) rfl hown (mvT hZ (hw _ (List.mem_of_getElem? (i := 30) rfl))) (mvT hZ (hw _ (List.mem_of_getElem? (i := 31) rfl))) (mvT hZ (hw _ (List.mem_of_getElem? (i := 35) rfl))) (by decide) (backOf (W := 0) (rm5 l Z aZ hw [] a0 h0 n0 Z0 ) hZ (hw _ (List.mem_of_getElem? (i := 35) rfl)) (hw _ (List.mem_of_getElem? (i := 34) rfl)) (by decide) (by decide)) (g := (mkF m 1 #[.val (.ref a0), .val (.int (1 : Int32))] [(.ref a0)])) rfl (by rw [hml]; rfl) (Steps.refl _) (a := a0) (argsL := []) (rest := []) (lenOf pd_0 rfl) rfl (by show 2 * 0 + _ ≤ _; exact Nat.le_of_eq rfl) (hb hby d4_1) (fun _ _ => ⟨rfl, e0, (by decide : 0 + 0 ≤ _), (by decide : 0 + 0 ≤ _)⟩)
  dsimp only [Pt.U, Pt.locs, Pt.cells, Pt.slots] at X1 l1 y1 z1 st1 hQ1
  subst l1 y1 z1
  obtain ⟨rfl, Nq1, e1⟩ := hQ1
  have N1 := Fr.app N0 Nq1
  refine Go.tr st1 ?_
  show Go _ _ _ _ _ _ _ (T1.setTop (mkF m 4 #[.val (.ref a0), .val (.int (1 : Int32))] []))
  refine Go.step (fun _ k => XS.aloadN X1.here hx rfl (hb hby d4_4) rfl rfl  k) ?_
  show Go _ _ _ _ _ _ _ (T1.setTop (mkF m 5 #[.val (.ref a0), .val (.int (1 : Int32))] [(.ref a0)]))
  refine Go.step (fun _ k => XS.iloadN X1.here hx rfl (hb hby d4_5) rfl  k) ?_
  show Go _ _ _ _ _ _ _ (T1.setTop (mkF m 6 #[.val (.ref a0), .val (.int (1 : Int32))] [(.int (1 : Int32)), (.ref a0)]))
  refine Go.step (fun _ k => XS.iconst X1.here hx rfl (hb hby d4_6) k) ?_
  show Go _ _ _ _ _ _ _ (T1.setTop (mkF m 7 #[.val (.ref a0), .val (.int (1 : Int32))] [(.int (1 : Int32)), (.int (1 : Int32)), (.ref a0)]))
  have hc7 : ¬ ((1 : Int32) < (1 : Int32)) := by decide
  refine Go.step (fun _ k => XS.icmpYes X1.here hx rfl (pc0 := 7) (pc' := 14) rfl (hb hby d4_7) rfl (flt hc7).2.1 (by decide) (by decide) k) ?_
  show Go _ _ _ _ _ _ _ (T1.setTop (mkF m 14 #[.val (.ref a0), .val (.int (1 : Int32))] [(.ref a0)]))
  refine Go.step (fun _ k => XS.iloadN X1.here hx rfl (hb hby d4_14) rfl  k) ?_
  show Go _ _ _ _ _ _ _ (T1.setTop (mkF m 15 #[.val (.ref a0), .val (.int (1 : Int32))] [(.int (1 : Int32)), (.ref a0)]))
  refine Go.step (X1.ldcInt hx hown (mvT hZ (hw _ (List.mem_of_getElem? (i := 37) rfl))) (g := (mkF m 15 #[.val (.ref a0), .val (.int (1 : Int32))] [(.int (1 : Int32)), (.ref a0)])) rfl (hb hby d4_15)) ?_
  show Go _ _ _ _ _ _ _ (T1.setTop (mkF m 17 #[.val (.ref a0), .val (.int (1 : Int32))] [(.int (2147483647 : Int32)), (.int (1 : Int32)), (.ref a0)]))
  have hc17 : ¬ ((1 : Int32) = (2147483647 : Int32)) := by decide
  refine Go.step (fun _ k => XS.icmpYes X1.here hx rfl (pc0 := 17) (pc' := 25) rfl (hb hby d4_17) rfl (feq hc17).2 (by decide) (by decide) k) ?_
  show Go _ _ _ _ _ _ _ (T1.setTop (mkF m 25 #[.val (.ref a0), .val (.int (1 : Int32))] [(.ref a0)]))
  refine Go.step (fun _ k => XS.iloadN X1.here hx rfl (hb hby d4_25) rfl  k) ?_
  show Go _ _ _ _ _ _ _ (T1.setTop (mkF m 26 #[.val (.ref a0), .val (.int (1 : Int32))] [(.int (1 : Int32)), (.ref a0)]))
  refine Go.step (fun _ k => XS.iconst X1.here hx rfl (hb hby d4_26) k) ?_
  show Go _ _ _ _ _ _ _ (T1.setTop (mkF m 27 #[.val (.ref a0), .val (.int (1 : Int32))] [(.int (1 : Int32)), (.int (1 : Int32)), (.ref a0)]))
  refine Go.step (fun _ k => XS.iadd X1.here hx rfl (hb hby d4_27) rfl k) ?_
  show Go _ _ _ _ _ _ _ (T1.setTop (mkF m 28 #[.val (.ref a0), .val (.int (1 : Int32))] [(.int (2 : Int32)), (.ref a0)]))
  obtain ⟨T2, h2, k2, X2, e2, E2, A2, O2, st2⟩ := newR X1 hx hZ hown (hw _ (List.mem_of_getElem? (i := 38) rfl)) (hw _ (List.mem_of_getElem? (i := 39) rfl)) e1 (g := (mkF m 28 #[.val (.ref a0), .val (.int (1 : Int32))] [(.int (2 : Int32)), (.ref a0)])) rfl (hb hby d4_28) rfl (by decide) (cap := 2) (by decide) (by decide) (by decide) (by decide)
  obtain ⟨b2, g2⟩ : ∃ z, z = h0.size := ⟨_, rfl⟩
  rw [← g2] at A2 st2
  refine Go.step st2 ?_
  have gn2 : n0 ≤ b2 := Nat.le_trans Z0 (Nat.le_of_eq g2.symm)
  have sz2 : h0.size ≤ b2 := Nat.le_trans sq0 (Nat.le_of_eq g2.symm)
  have ne3 : a0 ≠ b2 := Nat.ne_of_lt (Nat.lt_of_lt_of_le E_0.lt (Nat.le_of_eq g2.symm))
  have z4 : n0 ≤ h2.size := Nat.le_trans Z0 E2.1
  have sqz4 : h0.size ≤ h2.size := Nat.le_trans sq0 E2.1
  have k5 : Keep h0 h2 [a0] := k0.ext E2
  show Go _ _ _ _ _ _ _ (T2.setTop (mkF m 31 #[.val (.ref a0), .val (.int (1 : Int32))] [(.ref b2), (.ref a0)]))
  have f6 : Exa Z h2 a0 "java/util/ArrayDeque" := (E_0.ext E2)
  have f7 : Fld Z h2 a0 "java/util/ArrayDeque" "elements" "[Ljava/lang/Object;" .null := (F_1.ext E2)
  obtain ⟨T8, h8, X8, e8, W8, st8⟩ := putF X2 hx hZ hown (host := "") (Or.inl (hw _ (List.mem_of_getElem? (i := 40) rfl))) Via.refl e2 f7 f6 (Or.inl (hw _ (List.mem_of_getElem? (i := 41) rfl))) (hw _ (List.mem_of_getElem? (i := 25) rfl)) (ty := (.array (.object "java/lang/Object"))) (v := (.ref b2)) (by decide) rfl rfl (g := (mkF m 31 #[.val (.ref a0), .val (.int (1 : Int32))] [(.ref b2), (.ref a0)])) rfl rfl (hb hby d4_31)
  refine Go.step st8 ?_
  have N8 := Fr.snoc X8 N1 g_2
  have z9 : n0 ≤ h8.size := Nat.le_trans z4 (Keep.of_wr W8).1
  have sqz9 : h0.size ≤ h8.size := Nat.le_trans sqz4 (Keep.of_wr W8).1
  have k10 : Keep h0 h8 [a0] := k5.wr W8 (Or.inl (List.mem_of_getElem? (i := 0) rfl))
  have f11 : Fld Z h8 a0 "java/util/ArrayDeque" "elements" "[Ljava/lang/Object;" (.ref b2) := f7.same W8
  show Go _ _ _ _ _ _ _ (T8.setTop (mkF m 34 #[.val (.ref a0), .val (.int (1 : Int32))] []))
  have f12 : Exa Z h8 a0 "java/util/ArrayDeque" := (f6.wr W8)
  refine Go.retV X8 hx Bd.returns hlk (hb hby d4_34) ?_ (by decide) (by decide)
  rw [e8]
  exact ⟨(rfl), N8, k10, f12⟩
theorem pn_7 : plainName "com/example/steward/steward/runtime/Agent" = true := by first | (simp [plainName, overriddenIn]; done) | decide +kernel
theorem pd_1 : parseMethodDescriptor "(I)V" = some ⟨[.int], none⟩ := by decide +kernel
theorem d3_0 : decode prog_29_method_1_code 0 = .ok (.aload_n 0, 1) := by decide +kernel
theorem d3_1 : decode prog_29_method_1_code 1 = .ok (.invokespecial 1, 3) := by decide +kernel
theorem d3_4 : decode prog_29_method_1_code 4 = .ok (.aload_n 0, 1) := by decide +kernel
theorem d3_5 : decode prog_29_method_1_code 5 = .ok (.new 7, 3) := by decide +kernel
theorem d3_8 : decode prog_29_method_1_code 8 = .ok (.dup, 1) := by decide +kernel
theorem d3_9 : decode prog_29_method_1_code 9 = .ok (.iconst 1, 1) := by decide +kernel
theorem d3_10 : decode prog_29_method_1_code 10 = .ok (.invokespecial 9, 3) := by decide +kernel
theorem d3_13 : decode prog_29_method_1_code 13 = .ok (.putfield 12, 3) := by decide +kernel
theorem d3_16 : decode prog_29_method_1_code 16 = .ok (.aload_n 0, 1) := by decide +kernel
theorem d3_17 : decode prog_29_method_1_code 17 = .ok (.aload_n 1, 1) := by decide +kernel
theorem d3_18 : decode prog_29_method_1_code 18 = .ok (.putfield 18, 3) := by decide +kernel
theorem d3_21 : decode prog_29_method_1_code 21 = .ok (.return_, 1) := by decide +kernel
theorem ef_3 (m : MethodId) (a0 : Addr) (s0 : Addr) : entryFrame m #[(.ref a0), (.ref s0)] 2 = mkF m 0 #[.val (.ref a0), .val (.ref s0)] [] := by first | (simp [entryFrame, mkF, argsToLocals, Value.category]; done) | rfl
def Q3 (Z : State) (a0 : Addr) (s0 : Addr) (h0 : Heap) (n0 : Nat) (v : Option Value) (h : Heap) (L : List Loc) : Prop := (v = none) ∧ (Fr n0 L) ∧ (Keep h0 h [a0]) ∧ (Exa Z h a0 "com/example/steward/steward/runtime/Agent") ∧ (Fld Z h a0 "com/example/steward/steward/runtime/Agent" "group" "Lcom/example/steward/steward/runtime/Group;" .null) ∧ (Fld Z h a0 "com/example/steward/steward/runtime/Agent" "ahead" "Lcom/example/steward/steward/runtime/Agent;" .null) ∧ (Fld Z h a0 "com/example/steward/steward/runtime/Agent" "behind" "Lcom/example/steward/steward/runtime/Agent;" .null)
set_option maxRecDepth 65536 in
set_option maxHeartbeats 40000000 in
theorem rm3 (l : Launch) (Z : State) (aZ : Array Value) (hw : ∀ d ∈ tables_1, d.before aZ Z = true) (ws : List Jvm.Cond) (a0 : Addr) (s0 : Addr) (h0 : Heap) (n0 : Nat) (Z0 : n0 ≤ h0.size) (E_0 : Exa Z h0 a0 "com/example/steward/steward/runtime/Agent") (F_1 : Fld Z h0 a0 "com/example/steward/steward/runtime/Agent" "normal" "Ljava/util/ArrayDeque;" .null) (F_2 : Fld Z h0 a0 "com/example/steward/steward/runtime/Agent" "key" "Ljava/lang/String;" .null) (F_3 : Fld Z h0 a0 "com/example/steward/steward/runtime/Agent" "group" "Lcom/example/steward/steward/runtime/Group;" .null) (F_4 : Fld Z h0 a0 "com/example/steward/steward/runtime/Agent" "ahead" "Lcom/example/steward/steward/runtime/Agent;" .null) (F_5 : Fld Z h0 a0 "com/example/steward/steward/runtime/Agent" "behind" "Lcom/example/steward/steward/runtime/Agent;" .null) (g_6 : n0 ≤ a0) :
    MetFree l (⟨"com/example/steward/steward/runtime/Agent", "<init>", "(Ljava/lang/String;)V"⟩ : MethodName) (head1 (Jvm.Cond.code (⟨"com/example/steward/steward/runtime/Agent", "<init>", "(Ljava/lang/String;)V"⟩ : MethodName) prog_29_method_1_code 2 none :: ws) ({ frames := 3, cells := 2, slots := 5, locals := 39 } : Room)) (fun a U => a = #[(.ref a0), (.ref s0)] ∧ Z.Warmed39 U.vm ∧ U.heap = h0) (fun _ _ _ _ _ => True) (fun _ U o U' => ∃ v L, o = .returned v ∧ Q3 Z a0 s0 h0 n0 v U'.heap L ∧ FrameEnd U o U' L ({ frames := 3, cells := 2, slots := 5, locals := 39 } : Room).cells ({ frames := 3, cells := 2, slots := 5, locals := 39 } : Room).slots) := by
  refine MetFree.of_bodySF (plainFor_of_name pn_7) hisR ?_
  intro p e s m args below meth c s₁ Bd hml0 hP hK
  obtain ⟨rfl, hZ, hh⟩ := hP
  have hx := Bd.exec
  have hby := Bd.bytes
  have hml : c.maxLocals = 2 := hml0
  have hown : s.vm.findClass "com/example/steward/steward/runtime/Agent" = some m.cls := findClass_of_methodNamed Bd.named
  have hnm := (name_of_methodNamed Bd.named Bd.method).1
  have hlk : meth.locks = false := BodyLoose.notSynchronized Bd
  have X0 : Stand p l e ({ frames := 3, cells := 2, slots := 5, locals := 39 } : Room) s m #[(.ref a0), (.ref s0)] below meth c s₁ [] 0 0 := Stand.of_body Bd
  have e0 : s₁.heap = h0 := by rw [← hh, Bd.state]; rfl
  have N0 := Fr.nil n0
  have sq0 : h0.size ≤ h0.size := Nat.le_refl _
  have k0 : Keep h0 h0 [a0] := Keep.refl _ _
  change Go p e below s ({ frames := 3, cells := 2, slots := 5, locals := 39 } : Room).cells ({ frames := 3, cells := 2, slots := 5, locals := 39 } : Room).slots (Q3 Z a0 s0 h0 n0) (s₁.setTop (entryFrame m #[(.ref a0), (.ref s0)] 2))
  rw [ef_3 m a0 s0]
  show Go _ _ _ _ _ _ _ (s₁.setTop (mkF m 0 #[.val (.ref a0), .val (.ref s0)] []))
  refine Go.step (fun _ k => XS.aloadN X0.here hx rfl (hb hby d3_0) rfl rfl  k) ?_
  show Go _ _ _ _ _ _ _ (s₁.setTop (mkF m 1 #[.val (.ref a0), .val (.ref s0)] [(.ref a0)]))
  obtain ⟨T1, X1, e1, st1⟩ := initO X0 hx hZ hown (hw _ (List.mem_of_getElem? (i := 23) rfl)) (hw _ (List.mem_of_getElem? (i := 7) rfl)) (hw _ (List.mem_of_getElem? (i := 8) rfl)) e0 (g := (mkF m 1 #[.val (.ref a0), .val (.ref s0)] [(.ref a0)])) rfl (by rw [hml]; rfl) rfl (hb hby d3_1) (by decide) (W := 0) (by show 2 * 0 + _ ≤ _; exact Nat.le_of_eq rfl) (by decide)
  refine Go.step st1 ?_
  show Go _ _ _ _ _ _ _ (T1.setTop (mkF m 4 #[.val (.ref a0), .val (.ref s0)] []))
  refine Go.step (fun _ k => XS.aloadN X1.here hx rfl (hb hby d3_4) rfl rfl  k) ?_
  show Go _ _ _ _ _ _ _ (T1.setTop (mkF m 5 #[.val (.ref a0), .val (.ref s0)] [(.ref a0)]))
  obtain ⟨T2, h2, X2, e2, E2, A2, D2, -, st2⟩ := newO X1 hx hZ hown (hw _ (List.mem_of_getElem? (i := 24) rfl)) (hw _ (List.mem_of_getElem? (i := 25) rfl)) (hw _ (List.mem_of_getElem? (i := 26) rfl)) e1 (g := (mkF m 5 #[.val (.ref a0), .val (.ref s0)] [(.ref a0)])) rfl (hb hby d3_5) (by decide) (by decide)
  obtain ⟨b2, g2⟩ : ∃ z, z = h0.size := ⟨_, rfl⟩
  rw [← g2] at A2 D2 st2
  refine Go.step st2 ?_
  have gn2 : n0 ≤ b2 := Nat.le_trans Z0 (Nat.le_of_eq g2.symm)
  have sz2 : h0.size ≤ b2 := Nat.le_trans sq0 (Nat.le_of_eq g2.symm)
  have ne3 : a0 ≠ b2 := Nat.ne_of_lt (Nat.lt_of_lt_of_le E_0.lt (Nat.le_of_eq g2.symm))
  have z4 : n0 ≤ h2.size := Nat.le_trans Z0 E2.1
  have sqz4 : h0.size ≤ h2.size := Nat.le_trans sq0 E2.1
  have k5 : Keep h0 h2 [a0] := k0.ext E2
  have f6 : Fld Z h2 b2 "java/util/ArrayDeque" "elements" "[Ljava/lang/Object;" .null := D2 (Or.inl (hw _ (List.mem_of_getElem? (i := 41) rfl))) (ty := (.array (.object "java/lang/Object"))) (by decide)
  show Go _ _ _ _ _ _ _ (T2.setTop (mkF m 8 #[.val (.ref a0), .val (.ref s0)] [(.ref b2), (.ref a0)]))
  refine Go.step (fun _ k => XS.dup X2.here hx rfl (hb hby d3_8) rfl rfl k) ?_
  show Go _ _ _ _ _ _ _ (T2.setTop (mkF m 9 #[.val (.ref a0), .val (.ref s0)] [(.ref b2), (.ref b2), (.ref a0)]))
  refine Go.step (fun _ k => XS.iconst X2.here hx rfl (hb hby d3_9) k) ?_
  show Go _ _ _ _ _ _ _ (T2.setTop (mkF m 10 #[.val (.ref a0), .val (.ref s0)] [(.int (1 : Int32)), (.ref b2), (.ref b2), (.ref a0)]))
  have pq7 : (1 : Int32) = (1 : Int32) := rfl
  obtain ⟨_, _, ⟨T8, L8, k8, n8⟩, -, X8, ⟨Lc8, hQ8, l8, y8, z8⟩, st8⟩ := X2.specialBack hx (y := (⟨"java/util/ArrayDeque", "<init>", "(I)V"⟩ : MethodName)) rfl hown (mvT hZ (hw _ (List.mem_of_getElem? (i := 27) rfl))) (mvT hZ (hw _ (List.mem_of_getElem? (i := 28) rfl))) (mvT hZ (hw _ (List.mem_of_getElem? (i := 29) rfl))) (by decide) (backOf (W := 2) (rm4 l Z aZ hw [] b2 (1 : Int32) h2 n0 z4 A2 f6 gn2 pq7) hZ (hw _ (List.mem_of_getElem? (i := 29) rfl)) (hw _ (List.mem_of_getElem? (i := 26) rfl)) (by decide) (by decide)) (g := (mkF m 10 #[.val (.ref a0), .val (.ref s0)] [(.int (1 : Int32)), (.ref b2), (.ref b2), (.ref a0)])) rfl (by rw [hml]; rfl) (Steps.refl _) (a := b2) (argsL := [(.int (1 : Int32))]) (rest := [(.ref b2), (.ref a0)]) (lenOf pd_1 rfl) rfl (by show 2 * 0 + _ ≤ _; exact Nat.le_of_eq rfl) (hb hby d3_10) (fun _ _ => ⟨rfl, e2, (by decide : 1 + 1 ≤ _), (by decide : 3 + 2 ≤ _)⟩)
  dsimp only [Pt.U, Pt.locs, Pt.cells, Pt.slots] at X8 l8 y8 z8 st8 hQ8
  subst l8 y8 z8
  obtain ⟨rfl, Nq8, K8, c8_0⟩ := hQ8
  have N8 := Fr.app N0 Nq8
  refine Go.tr st8 ?_
  have z9 : n0 ≤ T8.heap.size := Nat.le_trans z4 K8.1
  have sqz9 : h0.size ≤ T8.heap.size := Nat.le_trans sqz4 K8.1
  have k10 : Keep h0 T8.heap [a0] := k5.trans K8 (allS (Or.inr sz2) all0)
  show Go _ _ _ _ _ _ _ (T8.setTop (mkF m 13 #[.val (.ref a0), .val (.ref s0)] [(.ref b2), (.ref a0)]))
  have f11 : Exa Z T8.heap a0 "com/example/steward/steward/runtime/Agent" := ((E_0.ext E2).keep K8)
  have f12 : Fld Z T8.heap a0 "com/example/steward/steward/runtime/Agent" "normal" "Ljava/util/ArrayDeque;" .null := ((F_1.ext E2).keep K8 (ninS ne3 nin0))
  obtain ⟨T13, h13, X13, e13, W13, st13⟩ := putF X8 hx hZ hown (host := "") (Or.inl (hw _ (List.mem_of_getElem? (i := 42) rfl))) Via.refl rfl f12 f11 (Or.inr ⟨(hw _ (List.mem_of_getElem? (i := 43) rfl)), rfl, hnm⟩) (hw _ (List.mem_of_getElem? (i := 10) rfl)) (ty := (.object "java/util/ArrayDeque")) (v := (.ref b2)) (by decide) rfl rfl (g := (mkF m 13 #[.val (.ref a0), .val (.ref s0)] [(.ref b2), (.ref a0)])) rfl rfl (hb hby d3_13)
  refine Go.step st13 ?_
  have N13 := Fr.snoc X13 N8 g_6
  have z14 : n0 ≤ h13.size := Nat.le_trans z9 (Keep.of_wr W13).1
  have sqz14 : h0.size ≤ h13.size := Nat.le_trans sqz9 (Keep.of_wr W13).1
  have k15 : Keep h0 h13 [a0] := k10.wr W13 (Or.inl (List.mem_of_getElem? (i := 0) rfl))
  have f16 : Fld Z h13 a0 "com/example/steward/steward/runtime/Agent" "normal" "Ljava/util/ArrayDeque;" (.ref b2) := f12.same W13
  show Go _ _ _ _ _ _ _ (T13.setTop (mkF m 16 #[.val (.ref a0), .val (.ref s0)] []))
  refine Go.step (fun _ k => XS.aloadN X13.here hx rfl (hb hby d3_16) rfl rfl  k) ?_
  show Go _ _ _ _ _ _ _ (T13.setTop (mkF m 17 #[.val (.ref a0), .val (.ref s0)] [(.ref a0)]))
  refine Go.step (fun _ k => XS.aloadN X13.here hx rfl (hb hby d3_17) rfl rfl  k) ?_
  show Go _ _ _ _ _ _ _ (T13.setTop (mkF m 18 #[.val (.ref a0), .val (.ref s0)] [(.ref s0), (.ref a0)]))
  have f17 : Exa Z h13 a0 "com/example/steward/steward/runtime/Agent" := (f11.wr W13)
  have f18 : Fld Z h13 a0 "com/example/steward/steward/runtime/Agent" "key" "Ljava/lang/String;" .null := (((F_2.ext E2).keep K8 (ninS ne3 nin0)).other W13 (Or.inr (slot_ne (Or.inr (hw _ (List.mem_of_getElem? (i := 45) rfl))) (Or.inr (hw _ (List.mem_of_getElem? (i := 43) rfl))) (by decide) (t := (.object "java/lang/String")) (t' := (.object "java/util/ArrayDeque")) (by decide) (by decide))))
  obtain ⟨T19, h19, X19, e19, W19, st19⟩ := putF X13 hx hZ hown (host := "") (Or.inl (hw _ (List.mem_of_getElem? (i := 44) rfl))) Via.refl e13 f18 f17 (Or.inr ⟨(hw _ (List.mem_of_getElem? (i := 45) rfl)), rfl, hnm⟩) (hw _ (List.mem_of_getElem? (i := 10) rfl)) (ty := (.object "java/lang/String")) (v := (.ref s0)) (by decide) rfl rfl (g := (mkF m 18 #[.val (.ref a0), .val (.ref s0)] [(.ref s0), (.ref a0)])) rfl rfl (hb hby d3_18)
  refine Go.step st19 ?_
  have N19 := Fr.snoc X19 N13 g_6
  have z20 : n0 ≤ h19.size := Nat.le_trans z14 (Keep.of_wr W19).1
  have sqz20 : h0.size ≤ h19.size := Nat.le_trans sqz14 (Keep.of_wr W19).1
  have k21 : Keep h0 h19 [a0] := k15.wr W19 (Or.inl (List.mem_of_getElem? (i := 0) rfl))
  have f22 : Fld Z h19 a0 "com/example/steward/steward/runtime/Agent" "key" "Ljava/lang/String;" (.ref s0) := f18.same W19
  show Go _ _ _ _ _ _ _ (T19.setTop (mkF m 21 #[.val (.ref a0), .val (.ref s0)] []))
  have f23 : Exa Z h19 a0 "com/example/steward/steward/runtime/Agent" := (f17.wr W19)
  have f24 : Fld Z h19 a0 "com/example/steward/steward/runtime/Agent" "group" "Lcom/example/steward/steward/runtime/Group;" .null := ((((F_3.ext E2).keep K8 (ninS ne3 nin0)).other W13 (Or.inr (slot_ne (Or.inl (hw _ (List.mem_of_getElem? (i := 69) rfl))) (Or.inr (hw _ (List.mem_of_getElem? (i := 43) rfl))) (by decide) (t := (.object "com/example/steward/steward/runtime/Group")) (t' := (.object "java/util/ArrayDeque")) (by decide) (by decide)))).other W19 (Or.inr (slot_ne (Or.inl (hw _ (List.mem_of_getElem? (i := 69) rfl))) (Or.inr (hw _ (List.mem_of_getElem? (i := 45) rfl))) (by decide) (t := (.object "com/example/steward/steward/runtime/Group")) (t' := (.object "java/lang/String")) (by decide) (by decide))))
  have f25 : Fld Z h19 a0 "com/example/steward/steward/runtime/Agent" "ahead" "Lcom/example/steward/steward/runtime/Agent;" .null := ((((F_4.ext E2).keep K8 (ninS ne3 nin0)).other W13 (Or.inr (slot_ne (Or.inl (hw _ (List.mem_of_getElem? (i := 49) rfl))) (Or.inr (hw _ (List.mem_of_getElem? (i := 43) rfl))) (by decide) (t := (.object "com/example/steward/steward/runtime/Agent")) (t' := (.object "java/util/ArrayDeque")) (by decide) (by decide)))).other W19 (Or.inr (slot_ne (Or.inl (hw _ (List.mem_of_getElem? (i := 49) rfl))) (Or.inr (hw _ (List.mem_of_getElem? (i := 45) rfl))) (by decide) (t := (.object "com/example/steward/steward/runtime/Agent")) (t' := (.object "java/lang/String")) (by decide) (by decide))))
  have f26 : Fld Z h19 a0 "com/example/steward/steward/runtime/Agent" "behind" "Lcom/example/steward/steward/runtime/Agent;" .null := ((((F_5.ext E2).keep K8 (ninS ne3 nin0)).other W13 (Or.inr (slot_ne (Or.inl (hw _ (List.mem_of_getElem? (i := 51) rfl))) (Or.inr (hw _ (List.mem_of_getElem? (i := 43) rfl))) (by decide) (t := (.object "com/example/steward/steward/runtime/Agent")) (t' := (.object "java/util/ArrayDeque")) (by decide) (by decide)))).other W19 (Or.inr (slot_ne (Or.inl (hw _ (List.mem_of_getElem? (i := 51) rfl))) (Or.inr (hw _ (List.mem_of_getElem? (i := 45) rfl))) (by decide) (t := (.object "com/example/steward/steward/runtime/Agent")) (t' := (.object "java/lang/String")) (by decide) (by decide))))
  refine Go.retV X19 hx Bd.returns hlk (hb hby d3_21) ?_ (by decide) (by decide)
  rw [e19]
  exact ⟨(rfl), N19, k21, f23, f24, f25, f26⟩
theorem d10_0 : decode prog_44_method_4_code 0 = .ok (.aload_n 1, 1) := by decide +kernel
theorem d10_1 : decode prog_44_method_4_code 1 = .ok (.aload_n 0, 1) := by decide +kernel
theorem d10_2 : decode prog_44_method_4_code 2 = .ok (.putfield 13, 3) := by decide +kernel
theorem d10_5 : decode prog_44_method_4_code 5 = .ok (.aload_n 1, 1) := by decide +kernel
theorem d10_6 : decode prog_44_method_4_code 6 = .ok (.aload_n 0, 1) := by decide +kernel
theorem d10_7 : decode prog_44_method_4_code 7 = .ok (.getfield 19, 3) := by decide +kernel
theorem d10_10 : decode prog_44_method_4_code 10 = .ok (.putfield 22, 3) := by decide +kernel
theorem d10_13 : decode prog_44_method_4_code 13 = .ok (.aload_n 1, 1) := by decide +kernel
theorem d10_14 : decode prog_44_method_4_code 14 = .ok (.aconst_null, 1) := by decide +kernel
theorem d10_15 : decode prog_44_method_4_code 15 = .ok (.putfield 25, 3) := by decide +kernel
theorem d10_18 : decode prog_44_method_4_code 18 = .ok (.aload_n 0, 1) := by decide +kernel
theorem d10_19 : decode prog_44_method_4_code 19 = .ok (.getfield 19, 3) := by decide +kernel
theorem d10_22 : decode prog_44_method_4_code 22 = .ok (.ifnonnull 11, 3) := by decide +kernel
theorem d10_25 : decode prog_44_method_4_code 25 = .ok (.aload_n 0, 1) := by decide +kernel
theorem d10_26 : decode prog_44_method_4_code 26 = .ok (.aload_n 1, 1) := by decide +kernel
theorem d10_27 : decode prog_44_method_4_code 27 = .ok (.putfield 7, 3) := by decide +kernel
theorem d10_30 : decode prog_44_method_4_code 30 = .ok (.goto 11, 3) := by decide +kernel
theorem d10_41 : decode prog_44_method_4_code 41 = .ok (.aload_n 0, 1) := by decide +kernel
theorem d10_42 : decode prog_44_method_4_code 42 = .ok (.aload_n 1, 1) := by decide +kernel
theorem d10_43 : decode prog_44_method_4_code 43 = .ok (.putfield 19, 3) := by decide +kernel
theorem d10_46 : decode prog_44_method_4_code 46 = .ok (.return_, 1) := by decide +kernel
theorem ef_add0 (m : MethodId) (g0 : Addr) (x0 : Addr) : entryFrame m #[(.ref g0), (.ref x0)] 2 = mkF m 0 #[.val (.ref g0), .val (.ref x0)] [] := by first | (simp [entryFrame, mkF, argsToLocals, Value.category]; done) | rfl
def Qadd0 (Z : State) (g0 : Addr) (x0 : Addr) (u1 : Value) (u2 : Value) (u3 : Value) (u4 : Value) (h0 : Heap) (n0 : Nat) (v : Option Value) (h : Heap) (L : List Loc) : Prop := (v = none) ∧ (Fr n0 L) ∧ (Keep h0 h [g0, x0]) ∧ (Exa Z h g0 "com/example/steward/steward/runtime/Group") ∧ (Exa Z h x0 "com/example/steward/steward/runtime/Agent") ∧ (Fld Z h x0 "com/example/steward/steward/runtime/Agent" "group" "Lcom/example/steward/steward/runtime/Group;" (.ref g0)) ∧ (Fld Z h x0 "com/example/steward/steward/runtime/Agent" "ahead" "Lcom/example/steward/steward/runtime/Agent;" .null) ∧ (Fld Z h x0 "com/example/steward/steward/runtime/Agent" "behind" "Lcom/example/steward/steward/runtime/Agent;" .null) ∧ (Fld Z h g0 "com/example/steward/steward/runtime/Group" "first" "Lcom/example/steward/steward/runtime/Agent;" (.ref x0)) ∧ (Fld Z h g0 "com/example/steward/steward/runtime/Group" "last" "Lcom/example/steward/steward/runtime/Agent;" (.ref x0))
set_option maxRecDepth 65536 in
set_option maxHeartbeats 40000000 in
theorem rmadd0 (l : Launch) (Z : State) (aZ : Array Value) (hw : ∀ d ∈ tables_1, d.before aZ Z = true) (ws : List Jvm.Cond) (g0 : Addr) (x0 : Addr) (u1 : Value) (u2 : Value) (u3 : Value) (u4 : Value) (h0 : Heap) (n0 : Nat) (Z0 : n0 ≤ h0.size) (E_0 : Exa Z h0 g0 "com/example/steward/steward/runtime/Group") (E_1 : Exa Z h0 x0 "com/example/steward/steward/runtime/Agent") (F_2 : Fld Z h0 x0 "com/example/steward/steward/runtime/Agent" "group" "Lcom/example/steward/steward/runtime/Group;" u1) (F_3 : Fld Z h0 x0 "com/example/steward/steward/runtime/Agent" "ahead" "Lcom/example/steward/steward/runtime/Agent;" u2) (F_4 : Fld Z h0 x0 "com/example/steward/steward/runtime/Agent" "behind" "Lcom/example/steward/steward/runtime/Agent;" u3) (F_5 : Fld Z h0 g0 "com/example/steward/steward/runtime/Group" "first" "Lcom/example/steward/steward/runtime/Agent;" u4) (F_6 : Fld Z h0 g0 "com/example/steward/steward/runtime/Group" "last" "Lcom/example/steward/steward/runtime/Agent;" .null) (g_7 : n0 ≤ g0) (g_8 : n0 ≤ x0) :
    MetFree l (⟨"com/example/steward/steward/runtime/Group", "add", "(Lcom/example/steward/steward/runtime/Agent;)V"⟩ : MethodName) (head1 (Jvm.Cond.code (⟨"com/example/steward/steward/runtime/Group", "add", "(Lcom/example/steward/steward/runtime/Agent;)V"⟩ : MethodName) prog_44_method_4_code 2 none :: ws) ({ frames := 0, cells := 0, slots := 0, locals := 0 } : Room)) (fun a U => a = #[(.ref g0), (.ref x0)] ∧ Z.Warmed39 U.vm ∧ U.heap = h0) (fun _ _ _ _ _ => True) (fun _ U o U' => ∃ v L, o = .returned v ∧ Qadd0 Z g0 x0 u1 u2 u3 u4 h0 n0 v U'.heap L ∧ FrameEnd U o U' L ({ frames := 0, cells := 0, slots := 0, locals := 0 } : Room).cells ({ frames := 0, cells := 0, slots := 0, locals := 0 } : Room).slots) := by
  refine MetFree.of_bodySF (plainFor_of_name pn_5) hisR ?_
  intro p e s m args below meth c s₁ Bd hml0 hP hK
  obtain ⟨rfl, hZ, hh⟩ := hP
  have hx := Bd.exec
  have hby := Bd.bytes
  have hml : c.maxLocals = 2 := hml0
  have hown : s.vm.findClass "com/example/steward/steward/runtime/Group" = some m.cls := findClass_of_methodNamed Bd.named
  have hnm := (name_of_methodNamed Bd.named Bd.method).1
  have hlk : meth.locks = false := BodyLoose.notSynchronized Bd
  have X0 : Stand p l e ({ frames := 0, cells := 0, slots := 0, locals := 0 } : Room) s m #[(.ref g0), (.ref x0)] below meth c s₁ [] 0 0 := Stand.of_body Bd
  have e0 : s₁.heap = h0 := by rw [← hh, Bd.state]; rfl
  have N0 := Fr.nil n0
  have sq0 : h0.size ≤ h0.size := Nat.le_refl _
  have k0 : Keep h0 h0 [g0, x0] := Keep.refl _ _
  change Go p e below s ({ frames := 0, cells := 0, slots := 0, locals := 0 } : Room).cells ({ frames := 0, cells := 0, slots := 0, locals := 0 } : Room).slots (Qadd0 Z g0 x0 u1 u2 u3 u4 h0 n0) (s₁.setTop (entryFrame m #[(.ref g0), (.ref x0)] 2))
  rw [ef_add0 m g0 x0]
  show Go _ _ _ _ _ _ _ (s₁.setTop (mkF m 0 #[.val (.ref g0), .val (.ref x0)] []))
  refine Go.step (fun _ k => XS.aloadN X0.here hx rfl (hb hby d10_0) rfl rfl  k) ?_
  show Go _ _ _ _ _ _ _ (s₁.setTop (mkF m 1 #[.val (.ref g0), .val (.ref x0)] [(.ref x0)]))
  refine Go.step (fun _ k => XS.aloadN X0.here hx rfl (hb hby d10_1) rfl rfl  k) ?_
  show Go _ _ _ _ _ _ _ (s₁.setTop (mkF m 2 #[.val (.ref g0), .val (.ref x0)] [(.ref g0), (.ref x0)]))
  obtain ⟨T1, h1, X1, e1, W1, st1⟩ := putF X0 hx hZ hown (host := "") (Or.inl (hw _ (List.mem_of_getElem? (i := 80) rfl))) Via.refl e0 F_2 E_1 (Or.inl (hw _ (List.mem_of_getElem? (i := 69) rfl))) (hw _ (List.mem_of_getElem? (i := 10) rfl)) (ty := (.object "com/example/steward/steward/runtime/Group")) (v := (.ref g0)) (by decide) rfl rfl (g := (mkF m 2 #[.val (.ref g0), .val (.ref x0)] [(.ref g0), (.ref x0)])) rfl rfl (hb hby d10_2)
  refine Go.step st1 ?_
  have N1 := Fr.snoc X1 N0 g_8
  have z2 : n0 ≤ h1.size := Nat.le_trans Z0 (Keep.of_wr W1).1
  have sqz2 : h0.size ≤ h1.size := Nat.le_trans sq0 (Keep.of_wr W1).1
  have k3 : Keep h0 h1 [g0, x0] := k0.wr W1 (Or.inl (List.mem_of_getElem? (i := 1) rfl))
  have f4 : Fld Z h1 x0 "com/example/steward/steward/runtime/Agent" "group" "Lcom/example/steward/steward/runtime/Group;" (.ref g0) := F_2.same W1
  show Go _ _ _ _ _ _ _ (T1.setTop (mkF m 5 #[.val (.ref g0), .val (.ref x0)] []))
  refine Go.step (fun _ k => XS.aloadN X1.here hx rfl (hb hby d10_5) rfl rfl  k) ?_
  show Go _ _ _ _ _ _ _ (T1.setTop (mkF m 6 #[.val (.ref g0), .val (.ref x0)] [(.ref x0)]))
  refine Go.step (fun _ k => XS.aloadN X1.here hx rfl (hb hby d10_6) rfl rfl  k) ?_
  show Go _ _ _ _ _ _ _ (T1.setTop (mkF m 7 #[.val (.ref g0), .val (.ref x0)] [(.ref g0), (.ref x0)]))
  have f5 : Exa Z h1 g0 "com/example/steward/steward/runtime/Group" := (E_0.wr W1)
  have f6 : Exa Z h1 x0 "com/example/steward/steward/runtime/Agent" := (E_1.wr W1)
  have ne7 : g0 ≠ x0 := ne_exa f5 f6 (by decide)
  have f8 : Fld Z h1 g0 "com/example/steward/steward/runtime/Group" "last" "Lcom/example/steward/steward/runtime/Agent;" .null := (F_6.other W1 (Or.inl ne7))
  obtain ⟨T9, X9, e9, st9⟩ := getF X1 hx hZ hown (host := "") (Or.inl (hw _ (List.mem_of_getElem? (i := 81) rfl))) Via.refl e1 f8 (g := (mkF m 7 #[.val (.ref g0), .val (.ref x0)] [(.ref g0), (.ref x0)])) rfl rfl (hb hby d10_7)
  refine Go.step st9 ?_
  show Go _ _ _ _ _ _ _ (T9.setTop (mkF m 10 #[.val (.ref g0), .val (.ref x0)] [.null, (.ref x0)]))
  have f10 : Fld Z h1 x0 "com/example/steward/steward/runtime/Agent" "ahead" "Lcom/example/steward/steward/runtime/Agent;" u2 := (F_3.other W1 (Or.inr (slot_ne (Or.inl (hw _ (List.mem_of_getElem? (i := 49) rfl))) (Or.inl (hw _ (List.mem_of_getElem? (i := 69) rfl))) (by decide) (t := (.object "com/example/steward/steward/runtime/Agent")) (t' := (.object "com/example/steward/steward/runtime/Group")) (by decide) (by decide))))
  obtain ⟨T11, h11, X11, e11, W11, st11⟩ := putF X9 hx hZ hown (host := "") (Or.inl (hw _ (List.mem_of_getElem? (i := 83) rfl))) Via.refl e9 f10 f6 (Or.inl (hw _ (List.mem_of_getElem? (i := 49) rfl))) (hw _ (List.mem_of_getElem? (i := 10) rfl)) (ty := (.object "com/example/steward/steward/runtime/Agent")) (v := .null) (by decide) rfl rfl (g := (mkF m 10 #[.val (.ref g0), .val (.ref x0)] [.null, (.ref x0)])) rfl rfl (hb hby d10_10)
  refine Go.step st11 ?_
  have N11 := Fr.snoc X11 N1 g_8
  have z12 : n0 ≤ h11.size := Nat.le_trans z2 (Keep.of_wr W11).1
  have sqz12 : h0.size ≤ h11.size := Nat.le_trans sqz2 (Keep.of_wr W11).1
  have k13 : Keep h0 h11 [g0, x0] := k3.wr W11 (Or.inl (List.mem_of_getElem? (i := 1) rfl))
  have f14 : Fld Z h11 x0 "com/example/steward/steward/runtime/Agent" "ahead" "Lcom/example/steward/steward/runtime/Agent;" .null := f10.same W11
  show Go _ _ _ _ _ _ _ (T11.setTop (mkF m 13 #[.val (.ref g0), .val (.ref x0)] []))
  refine Go.step (fun _ k => XS.aloadN X11.here hx rfl (hb hby d10_13) rfl rfl  k) ?_
  show Go _ _ _ _ _ _ _ (T11.setTop (mkF m 14 #[.val (.ref g0), .val (.ref x0)] [(.ref x0)]))
  refine Go.step (fun _ k => XS.aconstNull X11.here hx rfl (hb hby d10_14) k) ?_
  show Go _ _ _ _ _ _ _ (T11.setTop (mkF m 15 #[.val (.ref g0), .val (.ref x0)] [.null, (.ref x0)]))
  have f15 : Exa Z h11 x0 "com/example/steward/steward/runtime/Agent" := (f6.wr W11)
  have f16 : Fld Z h11 x0 "com/example/steward/steward/runtime/Agent" "behind" "Lcom/example/steward/steward/runtime/Agent;" u3 := ((F_4.other W1 (Or.inr (slot_ne (Or.inl (hw _ (List.mem_of_getElem? (i := 51) rfl))) (Or.inl (hw _ (List.mem_of_getElem? (i := 69) rfl))) (by decide) (t := (.object "com/example/steward/steward/runtime/Agent")) (t' := (.object "com/example/steward/steward/runtime/Group")) (by decide) (by decide)))).other W11 (Or.inr (slot_ne (Or.inl (hw _ (List.mem_of_getElem? (i := 51) rfl))) (Or.inl (hw _ (List.mem_of_getElem? (i := 49) rfl))) (by decide) (t := (.object "com/example/steward/steward/runtime/Agent")) (t' := (.object "com/example/steward/steward/runtime/Agent")) (by decide) (by decide))))
  obtain ⟨T17, h17, X17, e17, W17, st17⟩ := putF X11 hx hZ hown (host := "") (Or.inl (hw _ (List.mem_of_getElem? (i := 84) rfl))) Via.refl e11 f16 f15 (Or.inl (hw _ (List.mem_of_getElem? (i := 51) rfl))) (hw _ (List.mem_of_getElem? (i := 10) rfl)) (ty := (.object "com/example/steward/steward/runtime/Agent")) (v := .null) (by decide) rfl rfl (g := (mkF m 15 #[.val (.ref g0), .val (.ref x0)] [.null, (.ref x0)])) rfl rfl (hb hby d10_15)
  refine Go.step st17 ?_
  have N17 := Fr.snoc X17 N11 g_8
  have z18 : n0 ≤ h17.size := Nat.le_trans z12 (Keep.of_wr W17).1
  have sqz18 : h0.size ≤ h17.size := Nat.le_trans sqz12 (Keep.of_wr W17).1
  have k19 : Keep h0 h17 [g0, x0] := k13.wr W17 (Or.inl (List.mem_of_getElem? (i := 1) rfl))
  have f20 : Fld Z h17 x0 "com/example/steward/steward/runtime/Agent" "behind" "Lcom/example/steward/steward/runtime/Agent;" .null := f16.same W17
  show Go _ _ _ _ _ _ _ (T17.setTop (mkF m 18 #[.val (.ref g0), .val (.ref x0)] []))
  refine Go.step (fun _ k => XS.aloadN X17.here hx rfl (hb hby d10_18) rfl rfl  k) ?_
  show Go _ _ _ _ _ _ _ (T17.setTop (mkF m 19 #[.val (.ref g0), .val (.ref x0)] [(.ref g0)]))
  have f21 : Fld Z h17 g0 "com/example/steward/steward/runtime/Group" "last" "Lcom/example/steward/steward/runtime/Agent;" .null := ((f8.other W11 (Or.inl ne7)).other W17 (Or.inl ne7))
  obtain ⟨T22, X22, e22, st22⟩ := getF X17 hx hZ hown (host := "") (Or.inl (hw _ (List.mem_of_getElem? (i := 81) rfl))) Via.refl e17 f21 (g := (mkF m 19 #[.val (.ref g0), .val (.ref x0)] [(.ref g0)])) rfl rfl (hb hby d10_19)
  refine Go.step st22 ?_
  show Go _ _ _ _ _ _ _ (T22.setTop (mkF m 22 #[.val (.ref g0), .val (.ref x0)] [.null]))
  refine Go.step (fun _ k => XS.ifnonnullNo X22.here hx rfl (hb hby d10_22) rfl k) ?_
  show Go _ _ _ _ _ _ _ (T22.setTop (mkF m 25 #[.val (.ref g0), .val (.ref x0)] []))
  refine Go.step (fun _ k => XS.aloadN X22.here hx rfl (hb hby d10_25) rfl rfl  k) ?_
  show Go _ _ _ _ _ _ _ (T22.setTop (mkF m 26 #[.val (.ref g0), .val (.ref x0)] [(.ref g0)]))
  refine Go.step (fun _ k => XS.aloadN X22.here hx rfl (hb hby d10_26) rfl rfl  k) ?_
  show Go _ _ _ _ _ _ _ (T22.setTop (mkF m 27 #[.val (.ref g0), .val (.ref x0)] [(.ref x0), (.ref g0)]))
  have f23 : Exa Z h17 g0 "com/example/steward/steward/runtime/Group" := ((f5.wr W11).wr W17)
  have f24 : Fld Z h17 g0 "com/example/steward/steward/runtime/Group" "first" "Lcom/example/steward/steward/runtime/Agent;" u4 := (((F_5.other W1 (Or.inl ne7)).other W11 (Or.inl ne7)).other W17 (Or.inl ne7))
  obtain ⟨T25, h25, X25, e25, W25, st25⟩ := putF X22 hx hZ hown (host := "") (Or.inl (hw _ (List.mem_of_getElem? (i := 57) rfl))) Via.refl e22 f24 f23 (Or.inl (hw _ (List.mem_of_getElem? (i := 58) rfl))) (hw _ (List.mem_of_getElem? (i := 1) rfl)) (ty := (.object "com/example/steward/steward/runtime/Agent")) (v := (.ref x0)) (by decide) rfl rfl (g := (mkF m 27 #[.val (.ref g0), .val (.ref x0)] [(.ref x0), (.ref g0)])) rfl rfl (hb hby d10_27)
  refine Go.step st25 ?_
  have N25 := Fr.snoc X25 N17 g_7
  have z26 : n0 ≤ h25.size := Nat.le_trans z18 (Keep.of_wr W25).1
  have sqz26 : h0.size ≤ h25.size := Nat.le_trans sqz18 (Keep.of_wr W25).1
  have k27 : Keep h0 h25 [g0, x0] := k19.wr W25 (Or.inl (List.mem_of_getElem? (i := 0) rfl))
  have f28 : Fld Z h25 g0 "com/example/steward/steward/runtime/Group" "first" "Lcom/example/steward/steward/runtime/Agent;" (.ref x0) := f24.same W25
  show Go _ _ _ _ _ _ _ (T25.setTop (mkF m 30 #[.val (.ref g0), .val (.ref x0)] []))
  refine Go.step (fun _ k => XS.goto X25.here hx rfl (pc0 := 30) (pc' := 41) rfl (hb hby d10_30) (by decide) (by decide) k) ?_
  show Go _ _ _ _ _ _ _ (T25.setTop (mkF m 41 #[.val (.ref g0), .val (.ref x0)] []))
  refine Go.step (fun _ k => XS.aloadN X25.here hx rfl (hb hby d10_41) rfl rfl  k) ?_
  show Go _ _ _ _ _ _ _ (T25.setTop (mkF m 42 #[.val (.ref g0), .val (.ref x0)] [(.ref g0)]))
  refine Go.step (fun _ k => XS.aloadN X25.here hx rfl (hb hby d10_42) rfl rfl  k) ?_
  show Go _ _ _ _ _ _ _ (T25.setTop (mkF m 43 #[.val (.ref g0), .val (.ref x0)] [(.ref x0), (.ref g0)]))
  have f29 : Exa Z h25 g0 "com/example/steward/steward/runtime/Group" := (f23.wr W25)
  have f30 : Fld Z h25 g0 "com/example/steward/steward/runtime/Group" "last" "Lcom/example/steward/steward/runtime/Agent;" .null := (f21.other W25 (Or.inr (slot_ne (Or.inl (hw _ (List.mem_of_getElem? (i := 82) rfl))) (Or.inl (hw _ (List.mem_of_getElem? (i := 58) rfl))) (by decide) (t := (.object "com/example/steward/steward/runtime/Agent")) (t' := (.object "com/example/steward/steward/runtime/Agent")) (by decide) (by decide))))
  obtain ⟨T31, h31, X31, e31, W31, st31⟩ := putF X25 hx hZ hown (host := "") (Or.inl (hw _ (List.mem_of_getElem? (i := 81) rfl))) Via.refl e25 f30 f29 (Or.inl (hw _ (List.mem_of_getElem? (i := 82) rfl))) (hw _ (List.mem_of_getElem? (i := 1) rfl)) (ty := (.object "com/example/steward/steward/runtime/Agent")) (v := (.ref x0)) (by decide) rfl rfl (g := (mkF m 43 #[.val (.ref g0), .val (.ref x0)] [(.ref x0), (.ref g0)])) rfl rfl (hb hby d10_43)
  refine Go.step st31 ?_
  have N31 := Fr.snoc X31 N25 g_7
  have z32 : n0 ≤ h31.size := Nat.le_trans z26 (Keep.of_wr W31).1
  have sqz32 : h0.size ≤ h31.size := Nat.le_trans sqz26 (Keep.of_wr W31).1
  have k33 : Keep h0 h31 [g0, x0] := k27.wr W31 (Or.inl (List.mem_of_getElem? (i := 0) rfl))
  have f34 : Fld Z h31 g0 "com/example/steward/steward/runtime/Group" "last" "Lcom/example/steward/steward/runtime/Agent;" (.ref x0) := f30.same W31
  show Go _ _ _ _ _ _ _ (T31.setTop (mkF m 46 #[.val (.ref g0), .val (.ref x0)] []))
  have f35 : Exa Z h31 g0 "com/example/steward/steward/runtime/Group" := (f29.wr W31)
  have f36 : Exa Z h31 x0 "com/example/steward/steward/runtime/Agent" := (((f15.wr W17).wr W25).wr W31)
  have f37 : Fld Z h31 x0 "com/example/steward/steward/runtime/Agent" "group" "Lcom/example/steward/steward/runtime/Group;" (.ref g0) := ((((f4.other W11 (Or.inr (slot_ne (Or.inl (hw _ (List.mem_of_getElem? (i := 69) rfl))) (Or.inl (hw _ (List.mem_of_getElem? (i := 49) rfl))) (by decide) (t := (.object "com/example/steward/steward/runtime/Group")) (t' := (.object "com/example/steward/steward/runtime/Agent")) (by decide) (by decide)))).other W17 (Or.inr (slot_ne (Or.inl (hw _ (List.mem_of_getElem? (i := 69) rfl))) (Or.inl (hw _ (List.mem_of_getElem? (i := 51) rfl))) (by decide) (t := (.object "com/example/steward/steward/runtime/Group")) (t' := (.object "com/example/steward/steward/runtime/Agent")) (by decide) (by decide)))).other W25 (Or.inl (Ne.symm ne7))).other W31 (Or.inl (Ne.symm ne7)))
  have f38 : Fld Z h31 x0 "com/example/steward/steward/runtime/Agent" "ahead" "Lcom/example/steward/steward/runtime/Agent;" .null := (((f14.other W17 (Or.inr (slot_ne (Or.inl (hw _ (List.mem_of_getElem? (i := 49) rfl))) (Or.inl (hw _ (List.mem_of_getElem? (i := 51) rfl))) (by decide) (t := (.object "com/example/steward/steward/runtime/Agent")) (t' := (.object "com/example/steward/steward/runtime/Agent")) (by decide) (by decide)))).other W25 (Or.inl (Ne.symm ne7))).other W31 (Or.inl (Ne.symm ne7)))
  have f39 : Fld Z h31 x0 "com/example/steward/steward/runtime/Agent" "behind" "Lcom/example/steward/steward/runtime/Agent;" .null := ((f20.other W25 (Or.inl (Ne.symm ne7))).other W31 (Or.inl (Ne.symm ne7)))
  have f40 : Fld Z h31 g0 "com/example/steward/steward/runtime/Group" "first" "Lcom/example/steward/steward/runtime/Agent;" (.ref x0) := (f28.other W31 (Or.inr (slot_ne (Or.inl (hw _ (List.mem_of_getElem? (i := 58) rfl))) (Or.inl (hw _ (List.mem_of_getElem? (i := 82) rfl))) (by decide) (t := (.object "com/example/steward/steward/runtime/Agent")) (t' := (.object "com/example/steward/steward/runtime/Agent")) (by decide) (by decide))))
  refine Go.retV X31 hx Bd.returns hlk (hb hby d10_46) ?_ (by decide) (by decide)
  rw [e31]
  exact ⟨(rfl), N31, k33, f35, f36, f37, f38, f39, f40, f34⟩
theorem d10_33 : decode prog_44_method_4_code 33 = .ok (.aload_n 0, 1) := by decide +kernel
theorem d10_34 : decode prog_44_method_4_code 34 = .ok (.getfield 19, 3) := by decide +kernel
theorem d10_37 : decode prog_44_method_4_code 37 = .ok (.aload_n 1, 1) := by decide +kernel
theorem d10_38 : decode prog_44_method_4_code 38 = .ok (.putfield 25, 3) := by decide +kernel
theorem ef_add1 (m : MethodId) (g0 : Addr) (x0 : Addr) : entryFrame m #[(.ref g0), (.ref x0)] 2 = mkF m 0 #[.val (.ref g0), .val (.ref x0)] [] := by first | (simp [entryFrame, mkF, argsToLocals, Value.category]; done) | rfl
def Qadd1 (Z : State) (g0 : Addr) (x0 : Addr) (u1 : Value) (u2 : Value) (u3 : Value) (u4 : Value) (y0 : Addr) (u5 : Value) (u6 : Value) (u7 : Value) (h0 : Heap) (n0 : Nat) (v : Option Value) (h : Heap) (L : List Loc) : Prop := (v = none) ∧ (Fr n0 L) ∧ (Keep h0 h [g0, x0, y0]) ∧ (Exa Z h g0 "com/example/steward/steward/runtime/Group") ∧ (Exa Z h x0 "com/example/steward/steward/runtime/Agent") ∧ (Exa Z h y0 "com/example/steward/steward/runtime/Agent") ∧ (Fld Z h x0 "com/example/steward/steward/runtime/Agent" "group" "Lcom/example/steward/steward/runtime/Group;" (.ref g0)) ∧ (Fld Z h x0 "com/example/steward/steward/runtime/Agent" "ahead" "Lcom/example/steward/steward/runtime/Agent;" (.ref y0)) ∧ (Fld Z h x0 "com/example/steward/steward/runtime/Agent" "behind" "Lcom/example/steward/steward/runtime/Agent;" .null) ∧ (Fld Z h y0 "com/example/steward/steward/runtime/Agent" "behind" "Lcom/example/steward/steward/runtime/Agent;" (.ref x0)) ∧ (Fld Z h y0 "com/example/steward/steward/runtime/Agent" "group" "Lcom/example/steward/steward/runtime/Group;" u6) ∧ (Fld Z h y0 "com/example/steward/steward/runtime/Agent" "ahead" "Lcom/example/steward/steward/runtime/Agent;" u7) ∧ (Fld Z h g0 "com/example/steward/steward/runtime/Group" "first" "Lcom/example/steward/steward/runtime/Agent;" u4) ∧ (Fld Z h g0 "com/example/steward/steward/runtime/Group" "last" "Lcom/example/steward/steward/runtime/Agent;" (.ref x0))
set_option maxRecDepth 65536 in
set_option maxHeartbeats 40000000 in
theorem rmadd1 (l : Launch) (Z : State) (aZ : Array Value) (hw : ∀ d ∈ tables_1, d.before aZ Z = true) (ws : List Jvm.Cond) (g0 : Addr) (x0 : Addr) (u1 : Value) (u2 : Value) (u3 : Value) (u4 : Value) (y0 : Addr) (u5 : Value) (u6 : Value) (u7 : Value) (h0 : Heap) (n0 : Nat) (Z0 : n0 ≤ h0.size) (E_0 : Exa Z h0 g0 "com/example/steward/steward/runtime/Group") (E_1 : Exa Z h0 x0 "com/example/steward/steward/runtime/Agent") (F_2 : Fld Z h0 x0 "com/example/steward/steward/runtime/Agent" "group" "Lcom/example/steward/steward/runtime/Group;" u1) (F_3 : Fld Z h0 x0 "com/example/steward/steward/runtime/Agent" "ahead" "Lcom/example/steward/steward/runtime/Agent;" u2) (F_4 : Fld Z h0 x0 "com/example/steward/steward/runtime/Agent" "behind" "Lcom/example/steward/steward/runtime/Agent;" u3) (F_5 : Fld Z h0 g0 "com/example/steward/steward/runtime/Group" "first" "Lcom/example/steward/steward/runtime/Agent;" u4) (F_6 : Fld Z h0 g0 "com/example/steward/steward/runtime/Group" "last" "Lcom/example/steward/steward/runtime/Agent;" (.ref y0)) (E_7 : Exa Z h0 y0 "com/example/steward/steward/runtime/Agent") (F_8 : Fld Z h0 y0 "com/example/steward/steward/runtime/Agent" "behind" "Lcom/example/steward/steward/runtime/Agent;" u5) (F_9 : Fld Z h0 y0 "com/example/steward/steward/runtime/Agent" "group" "Lcom/example/steward/steward/runtime/Group;" u6) (F_10 : Fld Z h0 y0 "com/example/steward/steward/runtime/Agent" "ahead" "Lcom/example/steward/steward/runtime/Agent;" u7) (ne_11 : x0 ≠ y0) (g_12 : n0 ≤ g0) (g_13 : n0 ≤ x0) (g_14 : n0 ≤ y0) :
    MetFree l (⟨"com/example/steward/steward/runtime/Group", "add", "(Lcom/example/steward/steward/runtime/Agent;)V"⟩ : MethodName) (head1 (Jvm.Cond.code (⟨"com/example/steward/steward/runtime/Group", "add", "(Lcom/example/steward/steward/runtime/Agent;)V"⟩ : MethodName) prog_44_method_4_code 2 none :: ws) ({ frames := 0, cells := 0, slots := 0, locals := 0 } : Room)) (fun a U => a = #[(.ref g0), (.ref x0)] ∧ Z.Warmed39 U.vm ∧ U.heap = h0) (fun _ _ _ _ _ => True) (fun _ U o U' => ∃ v L, o = .returned v ∧ Qadd1 Z g0 x0 u1 u2 u3 u4 y0 u5 u6 u7 h0 n0 v U'.heap L ∧ FrameEnd U o U' L ({ frames := 0, cells := 0, slots := 0, locals := 0 } : Room).cells ({ frames := 0, cells := 0, slots := 0, locals := 0 } : Room).slots) := by
  refine MetFree.of_bodySF (plainFor_of_name pn_5) hisR ?_
  intro p e s m args below meth c s₁ Bd hml0 hP hK
  obtain ⟨rfl, hZ, hh⟩ := hP
  have hx := Bd.exec
  have hby := Bd.bytes
  have hml : c.maxLocals = 2 := hml0
  have hown : s.vm.findClass "com/example/steward/steward/runtime/Group" = some m.cls := findClass_of_methodNamed Bd.named
  have hnm := (name_of_methodNamed Bd.named Bd.method).1
  have hlk : meth.locks = false := BodyLoose.notSynchronized Bd
  have X0 : Stand p l e ({ frames := 0, cells := 0, slots := 0, locals := 0 } : Room) s m #[(.ref g0), (.ref x0)] below meth c s₁ [] 0 0 := Stand.of_body Bd
  have e0 : s₁.heap = h0 := by rw [← hh, Bd.state]; rfl
  have N0 := Fr.nil n0
  have sq0 : h0.size ≤ h0.size := Nat.le_refl _
  have k0 : Keep h0 h0 [g0, x0, y0] := Keep.refl _ _
  change Go p e below s ({ frames := 0, cells := 0, slots := 0, locals := 0 } : Room).cells ({ frames := 0, cells := 0, slots := 0, locals := 0 } : Room).slots (Qadd1 Z g0 x0 u1 u2 u3 u4 y0 u5 u6 u7 h0 n0) (s₁.setTop (entryFrame m #[(.ref g0), (.ref x0)] 2))
  rw [ef_add1 m g0 x0]
  show Go _ _ _ _ _ _ _ (s₁.setTop (mkF m 0 #[.val (.ref g0), .val (.ref x0)] []))
  refine Go.step (fun _ k => XS.aloadN X0.here hx rfl (hb hby d10_0) rfl rfl  k) ?_
  show Go _ _ _ _ _ _ _ (s₁.setTop (mkF m 1 #[.val (.ref g0), .val (.ref x0)] [(.ref x0)]))
  refine Go.step (fun _ k => XS.aloadN X0.here hx rfl (hb hby d10_1) rfl rfl  k) ?_
  show Go _ _ _ _ _ _ _ (s₁.setTop (mkF m 2 #[.val (.ref g0), .val (.ref x0)] [(.ref g0), (.ref x0)]))
  obtain ⟨T1, h1, X1, e1, W1, st1⟩ := putF X0 hx hZ hown (host := "") (Or.inl (hw _ (List.mem_of_getElem? (i := 80) rfl))) Via.refl e0 F_2 E_1 (Or.inl (hw _ (List.mem_of_getElem? (i := 69) rfl))) (hw _ (List.mem_of_getElem? (i := 10) rfl)) (ty := (.object "com/example/steward/steward/runtime/Group")) (v := (.ref g0)) (by decide) rfl rfl (g := (mkF m 2 #[.val (.ref g0), .val (.ref x0)] [(.ref g0), (.ref x0)])) rfl rfl (hb hby d10_2)
  refine Go.step st1 ?_
  have N1 := Fr.snoc X1 N0 g_13
  have z2 : n0 ≤ h1.size := Nat.le_trans Z0 (Keep.of_wr W1).1
  have sqz2 : h0.size ≤ h1.size := Nat.le_trans sq0 (Keep.of_wr W1).1
  have k3 : Keep h0 h1 [g0, x0, y0] := k0.wr W1 (Or.inl (List.mem_of_getElem? (i := 1) rfl))
  have f4 : Fld Z h1 x0 "com/example/steward/steward/runtime/Agent" "group" "Lcom/example/steward/steward/runtime/Group;" (.ref g0) := F_2.same W1
  show Go _ _ _ _ _ _ _ (T1.setTop (mkF m 5 #[.val (.ref g0), .val (.ref x0)] []))
  refine Go.step (fun _ k => XS.aloadN X1.here hx rfl (hb hby d10_5) rfl rfl  k) ?_
  show Go _ _ _ _ _ _ _ (T1.setTop (mkF m 6 #[.val (.ref g0), .val (.ref x0)] [(.ref x0)]))
  refine Go.step (fun _ k => XS.aloadN X1.here hx rfl (hb hby d10_6) rfl rfl  k) ?_
  show Go _ _ _ _ _ _ _ (T1.setTop (mkF m 7 #[.val (.ref g0), .val (.ref x0)] [(.ref g0), (.ref x0)]))
  have f5 : Exa Z h1 g0 "com/example/steward/steward/runtime/Group" := (E_0.wr W1)
  have f6 : Exa Z h1 x0 "com/example/steward/steward/runtime/Agent" := (E_1.wr W1)
  have ne7 : g0 ≠ x0 := ne_exa f5 f6 (by decide)
  have f8 : Fld Z h1 g0 "com/example/steward/steward/runtime/Group" "last" "Lcom/example/steward/steward/runtime/Agent;" (.ref y0) := (F_6.other W1 (Or.inl ne7))
  obtain ⟨T9, X9, e9, st9⟩ := getF X1 hx hZ hown (host := "") (Or.inl (hw _ (List.mem_of_getElem? (i := 81) rfl))) Via.refl e1 f8 (g := (mkF m 7 #[.val (.ref g0), .val (.ref x0)] [(.ref g0), (.ref x0)])) rfl rfl (hb hby d10_7)
  refine Go.step st9 ?_
  show Go _ _ _ _ _ _ _ (T9.setTop (mkF m 10 #[.val (.ref g0), .val (.ref x0)] [(.ref y0), (.ref x0)]))
  have f10 : Fld Z h1 x0 "com/example/steward/steward/runtime/Agent" "ahead" "Lcom/example/steward/steward/runtime/Agent;" u2 := (F_3.other W1 (Or.inr (slot_ne (Or.inl (hw _ (List.mem_of_getElem? (i := 49) rfl))) (Or.inl (hw _ (List.mem_of_getElem? (i := 69) rfl))) (by decide) (t := (.object "com/example/steward/steward/runtime/Agent")) (t' := (.object "com/example/steward/steward/runtime/Group")) (by decide) (by decide))))
  obtain ⟨T11, h11, X11, e11, W11, st11⟩ := putF X9 hx hZ hown (host := "") (Or.inl (hw _ (List.mem_of_getElem? (i := 83) rfl))) Via.refl e9 f10 f6 (Or.inl (hw _ (List.mem_of_getElem? (i := 49) rfl))) (hw _ (List.mem_of_getElem? (i := 10) rfl)) (ty := (.object "com/example/steward/steward/runtime/Agent")) (v := (.ref y0)) (by decide) rfl rfl (g := (mkF m 10 #[.val (.ref g0), .val (.ref x0)] [(.ref y0), (.ref x0)])) rfl rfl (hb hby d10_10)
  refine Go.step st11 ?_
  have N11 := Fr.snoc X11 N1 g_13
  have z12 : n0 ≤ h11.size := Nat.le_trans z2 (Keep.of_wr W11).1
  have sqz12 : h0.size ≤ h11.size := Nat.le_trans sqz2 (Keep.of_wr W11).1
  have k13 : Keep h0 h11 [g0, x0, y0] := k3.wr W11 (Or.inl (List.mem_of_getElem? (i := 1) rfl))
  have f14 : Fld Z h11 x0 "com/example/steward/steward/runtime/Agent" "ahead" "Lcom/example/steward/steward/runtime/Agent;" (.ref y0) := f10.same W11
  show Go _ _ _ _ _ _ _ (T11.setTop (mkF m 13 #[.val (.ref g0), .val (.ref x0)] []))
  refine Go.step (fun _ k => XS.aloadN X11.here hx rfl (hb hby d10_13) rfl rfl  k) ?_
  show Go _ _ _ _ _ _ _ (T11.setTop (mkF m 14 #[.val (.ref g0), .val (.ref x0)] [(.ref x0)]))
  refine Go.step (fun _ k => XS.aconstNull X11.here hx rfl (hb hby d10_14) k) ?_
  show Go _ _ _ _ _ _ _ (T11.setTop (mkF m 15 #[.val (.ref g0), .val (.ref x0)] [.null, (.ref x0)]))
  have f15 : Exa Z h11 x0 "com/example/steward/steward/runtime/Agent" := (f6.wr W11)
  have f16 : Fld Z h11 x0 "com/example/steward/steward/runtime/Agent" "behind" "Lcom/example/steward/steward/runtime/Agent;" u3 := ((F_4.other W1 (Or.inr (slot_ne (Or.inl (hw _ (List.mem_of_getElem? (i := 51) rfl))) (Or.inl (hw _ (List.mem_of_getElem? (i := 69) rfl))) (by decide) (t := (.object "com/example/steward/steward/runtime/Agent")) (t' := (.object "com/example/steward/steward/runtime/Group")) (by decide) (by decide)))).other W11 (Or.inr (slot_ne (Or.inl (hw _ (List.mem_of_getElem? (i := 51) rfl))) (Or.inl (hw _ (List.mem_of_getElem? (i := 49) rfl))) (by decide) (t := (.object "com/example/steward/steward/runtime/Agent")) (t' := (.object "com/example/steward/steward/runtime/Agent")) (by decide) (by decide))))
  obtain ⟨T17, h17, X17, e17, W17, st17⟩ := putF X11 hx hZ hown (host := "") (Or.inl (hw _ (List.mem_of_getElem? (i := 84) rfl))) Via.refl e11 f16 f15 (Or.inl (hw _ (List.mem_of_getElem? (i := 51) rfl))) (hw _ (List.mem_of_getElem? (i := 10) rfl)) (ty := (.object "com/example/steward/steward/runtime/Agent")) (v := .null) (by decide) rfl rfl (g := (mkF m 15 #[.val (.ref g0), .val (.ref x0)] [.null, (.ref x0)])) rfl rfl (hb hby d10_15)
  refine Go.step st17 ?_
  have N17 := Fr.snoc X17 N11 g_13
  have z18 : n0 ≤ h17.size := Nat.le_trans z12 (Keep.of_wr W17).1
  have sqz18 : h0.size ≤ h17.size := Nat.le_trans sqz12 (Keep.of_wr W17).1
  have k19 : Keep h0 h17 [g0, x0, y0] := k13.wr W17 (Or.inl (List.mem_of_getElem? (i := 1) rfl))
  have f20 : Fld Z h17 x0 "com/example/steward/steward/runtime/Agent" "behind" "Lcom/example/steward/steward/runtime/Agent;" .null := f16.same W17
  show Go _ _ _ _ _ _ _ (T17.setTop (mkF m 18 #[.val (.ref g0), .val (.ref x0)] []))
  refine Go.step (fun _ k => XS.aloadN X17.here hx rfl (hb hby d10_18) rfl rfl  k) ?_
  show Go _ _ _ _ _ _ _ (T17.setTop (mkF m 19 #[.val (.ref g0), .val (.ref x0)] [(.ref g0)]))
  have f21 : Fld Z h17 g0 "com/example/steward/steward/runtime/Group" "last" "Lcom/example/steward/steward/runtime/Agent;" (.ref y0) := ((f8.other W11 (Or.inl ne7)).other W17 (Or.inl ne7))
  obtain ⟨T22, X22, e22, st22⟩ := getF X17 hx hZ hown (host := "") (Or.inl (hw _ (List.mem_of_getElem? (i := 81) rfl))) Via.refl e17 f21 (g := (mkF m 19 #[.val (.ref g0), .val (.ref x0)] [(.ref g0)])) rfl rfl (hb hby d10_19)
  refine Go.step st22 ?_
  show Go _ _ _ _ _ _ _ (T22.setTop (mkF m 22 #[.val (.ref g0), .val (.ref x0)] [(.ref y0)]))
  refine Go.step (fun _ k => XS.ifnonnullYes X22.here hx rfl (pc0 := 22) (pc' := 33) rfl (hb hby d10_22) rfl (by decide) (by decide) k) ?_
  show Go _ _ _ _ _ _ _ (T22.setTop (mkF m 33 #[.val (.ref g0), .val (.ref x0)] []))
  refine Go.step (fun _ k => XS.aloadN X22.here hx rfl (hb hby d10_33) rfl rfl  k) ?_
  show Go _ _ _ _ _ _ _ (T22.setTop (mkF m 34 #[.val (.ref g0), .val (.ref x0)] [(.ref g0)]))
  obtain ⟨T23, X23, e23, st23⟩ := getF X22 hx hZ hown (host := "") (Or.inl (hw _ (List.mem_of_getElem? (i := 81) rfl))) Via.refl e22 f21 (g := (mkF m 34 #[.val (.ref g0), .val (.ref x0)] [(.ref g0)])) rfl rfl (hb hby d10_34)
  refine Go.step st23 ?_
  show Go _ _ _ _ _ _ _ (T23.setTop (mkF m 37 #[.val (.ref g0), .val (.ref x0)] [(.ref y0)]))
  refine Go.step (fun _ k => XS.aloadN X23.here hx rfl (hb hby d10_37) rfl rfl  k) ?_
  show Go _ _ _ _ _ _ _ (T23.setTop (mkF m 38 #[.val (.ref g0), .val (.ref x0)] [(.ref x0), (.ref y0)]))
  have f24 : Exa Z h17 y0 "com/example/steward/steward/runtime/Agent" := (((E_7.wr W1).wr W11).wr W17)
  have f25 : Fld Z h17 y0 "com/example/steward/steward/runtime/Agent" "behind" "Lcom/example/steward/steward/runtime/Agent;" u5 := (((F_8.other W1 (Or.inl (Ne.symm ne_11))).other W11 (Or.inl (Ne.symm ne_11))).other W17 (Or.inl (Ne.symm ne_11)))
  obtain ⟨T26, h26, X26, e26, W26, st26⟩ := putF X23 hx hZ hown (host := "") (Or.inl (hw _ (List.mem_of_getElem? (i := 84) rfl))) Via.refl e23 f25 f24 (Or.inl (hw _ (List.mem_of_getElem? (i := 51) rfl))) (hw _ (List.mem_of_getElem? (i := 10) rfl)) (ty := (.object "com/example/steward/steward/runtime/Agent")) (v := (.ref x0)) (by decide) rfl rfl (g := (mkF m 38 #[.val (.ref g0), .val (.ref x0)] [(.ref x0), (.ref y0)])) rfl rfl (hb hby d10_38)
  refine Go.step st26 ?_
  have N26 := Fr.snoc X26 N17 g_14
  have z27 : n0 ≤ h26.size := Nat.le_trans z18 (Keep.of_wr W26).1
  have sqz27 : h0.size ≤ h26.size := Nat.le_trans sqz18 (Keep.of_wr W26).1
  have k28 : Keep h0 h26 [g0, x0, y0] := k19.wr W26 (Or.inl (List.mem_of_getElem? (i := 2) rfl))
  have f29 : Fld Z h26 y0 "com/example/steward/steward/runtime/Agent" "behind" "Lcom/example/steward/steward/runtime/Agent;" (.ref x0) := f25.same W26
  show Go _ _ _ _ _ _ _ (T26.setTop (mkF m 41 #[.val (.ref g0), .val (.ref x0)] []))
  refine Go.step (fun _ k => XS.aloadN X26.here hx rfl (hb hby d10_41) rfl rfl  k) ?_
  show Go _ _ _ _ _ _ _ (T26.setTop (mkF m 42 #[.val (.ref g0), .val (.ref x0)] [(.ref g0)]))
  refine Go.step (fun _ k => XS.aloadN X26.here hx rfl (hb hby d10_42) rfl rfl  k) ?_
  show Go _ _ _ _ _ _ _ (T26.setTop (mkF m 43 #[.val (.ref g0), .val (.ref x0)] [(.ref x0), (.ref g0)]))
  have f30 : Exa Z h26 g0 "com/example/steward/steward/runtime/Group" := (((f5.wr W11).wr W17).wr W26)
  have f31 : Exa Z h26 y0 "com/example/steward/steward/runtime/Agent" := (f24.wr W26)
  have ne32 : g0 ≠ y0 := ne_exa f30 f31 (by decide)
  have f33 : Fld Z h26 g0 "com/example/steward/steward/runtime/Group" "last" "Lcom/example/steward/steward/runtime/Agent;" (.ref y0) := (f21.other W26 (Or.inl ne32))
  obtain ⟨T34, h34, X34, e34, W34, st34⟩ := putF X26 hx hZ hown (host := "") (Or.inl (hw _ (List.mem_of_getElem? (i := 81) rfl))) Via.refl e26 f33 f30 (Or.inl (hw _ (List.mem_of_getElem? (i := 82) rfl))) (hw _ (List.mem_of_getElem? (i := 1) rfl)) (ty := (.object "com/example/steward/steward/runtime/Agent")) (v := (.ref x0)) (by decide) rfl rfl (g := (mkF m 43 #[.val (.ref g0), .val (.ref x0)] [(.ref x0), (.ref g0)])) rfl rfl (hb hby d10_43)
  refine Go.step st34 ?_
  have N34 := Fr.snoc X34 N26 g_12
  have z35 : n0 ≤ h34.size := Nat.le_trans z27 (Keep.of_wr W34).1
  have sqz35 : h0.size ≤ h34.size := Nat.le_trans sqz27 (Keep.of_wr W34).1
  have k36 : Keep h0 h34 [g0, x0, y0] := k28.wr W34 (Or.inl (List.mem_of_getElem? (i := 0) rfl))
  have f37 : Fld Z h34 g0 "com/example/steward/steward/runtime/Group" "last" "Lcom/example/steward/steward/runtime/Agent;" (.ref x0) := f33.same W34
  show Go _ _ _ _ _ _ _ (T34.setTop (mkF m 46 #[.val (.ref g0), .val (.ref x0)] []))
  have f38 : Exa Z h34 g0 "com/example/steward/steward/runtime/Group" := (f30.wr W34)
  have f39 : Exa Z h34 x0 "com/example/steward/steward/runtime/Agent" := (((f15.wr W17).wr W26).wr W34)
  have f40 : Exa Z h34 y0 "com/example/steward/steward/runtime/Agent" := (f31.wr W34)
  have f41 : Fld Z h34 x0 "com/example/steward/steward/runtime/Agent" "group" "Lcom/example/steward/steward/runtime/Group;" (.ref g0) := ((((f4.other W11 (Or.inr (slot_ne (Or.inl (hw _ (List.mem_of_getElem? (i := 69) rfl))) (Or.inl (hw _ (List.mem_of_getElem? (i := 49) rfl))) (by decide) (t := (.object "com/example/steward/steward/runtime/Group")) (t' := (.object "com/example/steward/steward/runtime/Agent")) (by decide) (by decide)))).other W17 (Or.inr (slot_ne (Or.inl (hw _ (List.mem_of_getElem? (i := 69) rfl))) (Or.inl (hw _ (List.mem_of_getElem? (i := 51) rfl))) (by decide) (t := (.object "com/example/steward/steward/runtime/Group")) (t' := (.object "com/example/steward/steward/runtime/Agent")) (by decide) (by decide)))).other W26 (Or.inl ne_11)).other W34 (Or.inl (Ne.symm ne7)))
  have f42 : Fld Z h34 x0 "com/example/steward/steward/runtime/Agent" "ahead" "Lcom/example/steward/steward/runtime/Agent;" (.ref y0) := (((f14.other W17 (Or.inr (slot_ne (Or.inl (hw _ (List.mem_of_getElem? (i := 49) rfl))) (Or.inl (hw _ (List.mem_of_getElem? (i := 51) rfl))) (by decide) (t := (.object "com/example/steward/steward/runtime/Agent")) (t' := (.object "com/example/steward/steward/runtime/Agent")) (by decide) (by decide)))).other W26 (Or.inl ne_11)).other W34 (Or.inl (Ne.symm ne7)))
  have f43 : Fld Z h34 x0 "com/example/steward/steward/runtime/Agent" "behind" "Lcom/example/steward/steward/runtime/Agent;" .null := ((f20.other W26 (Or.inl ne_11)).other W34 (Or.inl (Ne.symm ne7)))
  have f44 : Fld Z h34 y0 "com/example/steward/steward/runtime/Agent" "behind" "Lcom/example/steward/steward/runtime/Agent;" (.ref x0) := (f29.other W34 (Or.inl (Ne.symm ne32)))
  have f45 : Fld Z h34 y0 "com/example/steward/steward/runtime/Agent" "group" "Lcom/example/steward/steward/runtime/Group;" u6 := (((((F_9.other W1 (Or.inl (Ne.symm ne_11))).other W11 (Or.inl (Ne.symm ne_11))).other W17 (Or.inl (Ne.symm ne_11))).other W26 (Or.inr (slot_ne (Or.inl (hw _ (List.mem_of_getElem? (i := 69) rfl))) (Or.inl (hw _ (List.mem_of_getElem? (i := 51) rfl))) (by decide) (t := (.object "com/example/steward/steward/runtime/Group")) (t' := (.object "com/example/steward/steward/runtime/Agent")) (by decide) (by decide)))).other W34 (Or.inl (Ne.symm ne32)))
  have f46 : Fld Z h34 y0 "com/example/steward/steward/runtime/Agent" "ahead" "Lcom/example/steward/steward/runtime/Agent;" u7 := (((((F_10.other W1 (Or.inl (Ne.symm ne_11))).other W11 (Or.inl (Ne.symm ne_11))).other W17 (Or.inl (Ne.symm ne_11))).other W26 (Or.inr (slot_ne (Or.inl (hw _ (List.mem_of_getElem? (i := 49) rfl))) (Or.inl (hw _ (List.mem_of_getElem? (i := 51) rfl))) (by decide) (t := (.object "com/example/steward/steward/runtime/Agent")) (t' := (.object "com/example/steward/steward/runtime/Agent")) (by decide) (by decide)))).other W34 (Or.inl (Ne.symm ne32)))
  have f47 : Fld Z h34 g0 "com/example/steward/steward/runtime/Group" "first" "Lcom/example/steward/steward/runtime/Agent;" u4 := (((((F_5.other W1 (Or.inl ne7)).other W11 (Or.inl ne7)).other W17 (Or.inl ne7)).other W26 (Or.inl ne32)).other W34 (Or.inr (slot_ne (Or.inl (hw _ (List.mem_of_getElem? (i := 58) rfl))) (Or.inl (hw _ (List.mem_of_getElem? (i := 82) rfl))) (by decide) (t := (.object "com/example/steward/steward/runtime/Agent")) (t' := (.object "com/example/steward/steward/runtime/Agent")) (by decide) (by decide))))
  refine Go.retV X34 hx Bd.returns hlk (hb hby d10_46) ?_ (by decide) (by decide)
  rw [e34]
  exact ⟨(rfl), N34, k36, f38, f39, f40, f41, f42, f43, f44, f45, f46, f47, f37⟩
theorem d11_0 : decode prog_44_method_5_code 0 = .ok (.aload_n 1, 1) := by decide +kernel
theorem d11_1 : decode prog_44_method_5_code 1 = .ok (.getfield 22, 3) := by decide +kernel
theorem d11_4 : decode prog_44_method_5_code 4 = .ok (.ifnonnull 14, 3) := by decide +kernel
theorem d11_7 : decode prog_44_method_5_code 7 = .ok (.aload_n 0, 1) := by decide +kernel
theorem d11_8 : decode prog_44_method_5_code 8 = .ok (.aload_n 1, 1) := by decide +kernel
theorem d11_9 : decode prog_44_method_5_code 9 = .ok (.getfield 25, 3) := by decide +kernel
theorem d11_12 : decode prog_44_method_5_code 12 = .ok (.putfield 7, 3) := by decide +kernel
theorem d11_15 : decode prog_44_method_5_code 15 = .ok (.goto 14, 3) := by decide +kernel
theorem d11_29 : decode prog_44_method_5_code 29 = .ok (.aload_n 1, 1) := by decide +kernel
theorem d11_30 : decode prog_44_method_5_code 30 = .ok (.getfield 25, 3) := by decide +kernel
theorem d11_33 : decode prog_44_method_5_code 33 = .ok (.ifnonnull 14, 3) := by decide +kernel
theorem d11_36 : decode prog_44_method_5_code 36 = .ok (.aload_n 0, 1) := by decide +kernel
theorem d11_37 : decode prog_44_method_5_code 37 = .ok (.aload_n 1, 1) := by decide +kernel
theorem d11_38 : decode prog_44_method_5_code 38 = .ok (.getfield 22, 3) := by decide +kernel
theorem d11_41 : decode prog_44_method_5_code 41 = .ok (.putfield 19, 3) := by decide +kernel
theorem d11_44 : decode prog_44_method_5_code 44 = .ok (.goto 14, 3) := by decide +kernel
theorem d11_58 : decode prog_44_method_5_code 58 = .ok (.aload_n 1, 1) := by decide +kernel
theorem d11_59 : decode prog_44_method_5_code 59 = .ok (.aconst_null, 1) := by decide +kernel
theorem d11_60 : decode prog_44_method_5_code 60 = .ok (.putfield 13, 3) := by decide +kernel
theorem d11_63 : decode prog_44_method_5_code 63 = .ok (.aload_n 1, 1) := by decide +kernel
theorem d11_64 : decode prog_44_method_5_code 64 = .ok (.aconst_null, 1) := by decide +kernel
theorem d11_65 : decode prog_44_method_5_code 65 = .ok (.putfield 22, 3) := by decide +kernel
theorem d11_68 : decode prog_44_method_5_code 68 = .ok (.aload_n 1, 1) := by decide +kernel
theorem d11_69 : decode prog_44_method_5_code 69 = .ok (.aconst_null, 1) := by decide +kernel
theorem d11_70 : decode prog_44_method_5_code 70 = .ok (.putfield 25, 3) := by decide +kernel
theorem d11_73 : decode prog_44_method_5_code 73 = .ok (.return_, 1) := by decide +kernel
theorem ef_rem00 (m : MethodId) (g0 : Addr) (x0 : Addr) : entryFrame m #[(.ref g0), (.ref x0)] 2 = mkF m 0 #[.val (.ref g0), .val (.ref x0)] [] := by first | (simp [entryFrame, mkF, argsToLocals, Value.category]; done) | rfl
def Qrem00 (Z : State) (g0 : Addr) (x0 : Addr) (u1 : Value) (u4 : Value) (u5 : Value) (h0 : Heap) (n0 : Nat) (v : Option Value) (h : Heap) (L : List Loc) : Prop := (v = none) ∧ (Fr n0 L) ∧ (Keep h0 h [g0, x0]) ∧ (Exa Z h g0 "com/example/steward/steward/runtime/Group") ∧ (Exa Z h x0 "com/example/steward/steward/runtime/Agent") ∧ (Fld Z h x0 "com/example/steward/steward/runtime/Agent" "group" "Lcom/example/steward/steward/runtime/Group;" .null) ∧ (Fld Z h x0 "com/example/steward/steward/runtime/Agent" "ahead" "Lcom/example/steward/steward/runtime/Agent;" .null) ∧ (Fld Z h x0 "com/example/steward/steward/runtime/Agent" "behind" "Lcom/example/steward/steward/runtime/Agent;" .null) ∧ (Fld Z h g0 "com/example/steward/steward/runtime/Group" "first" "Lcom/example/steward/steward/runtime/Agent;" .null) ∧ (Fld Z h g0 "com/example/steward/steward/runtime/Group" "last" "Lcom/example/steward/steward/runtime/Agent;" .null)
set_option maxRecDepth 65536 in
set_option maxHeartbeats 40000000 in
theorem rmrem00 (l : Launch) (Z : State) (aZ : Array Value) (hw : ∀ d ∈ tables_1, d.before aZ Z = true) (ws : List Jvm.Cond) (g0 : Addr) (x0 : Addr) (u1 : Value) (u4 : Value) (u5 : Value) (h0 : Heap) (n0 : Nat) (Z0 : n0 ≤ h0.size) (E_0 : Exa Z h0 g0 "com/example/steward/steward/runtime/Group") (E_1 : Exa Z h0 x0 "com/example/steward/steward/runtime/Agent") (F_2 : Fld Z h0 x0 "com/example/steward/steward/runtime/Agent" "group" "Lcom/example/steward/steward/runtime/Group;" u1) (F_3 : Fld Z h0 g0 "com/example/steward/steward/runtime/Group" "first" "Lcom/example/steward/steward/runtime/Agent;" u4) (F_4 : Fld Z h0 g0 "com/example/steward/steward/runtime/Group" "last" "Lcom/example/steward/steward/runtime/Agent;" u5) (F_5 : Fld Z h0 x0 "com/example/steward/steward/runtime/Agent" "ahead" "Lcom/example/steward/steward/runtime/Agent;" .null) (F_6 : Fld Z h0 x0 "com/example/steward/steward/runtime/Agent" "behind" "Lcom/example/steward/steward/runtime/Agent;" .null) (g_7 : n0 ≤ g0) (g_8 : n0 ≤ x0) :
    MetFree l (⟨"com/example/steward/steward/runtime/Group", "remove", "(Lcom/example/steward/steward/runtime/Agent;)V"⟩ : MethodName) (head1 (Jvm.Cond.code (⟨"com/example/steward/steward/runtime/Group", "remove", "(Lcom/example/steward/steward/runtime/Agent;)V"⟩ : MethodName) prog_44_method_5_code 2 none :: ws) ({ frames := 0, cells := 0, slots := 0, locals := 0 } : Room)) (fun a U => a = #[(.ref g0), (.ref x0)] ∧ Z.Warmed39 U.vm ∧ U.heap = h0) (fun _ _ _ _ _ => True) (fun _ U o U' => ∃ v L, o = .returned v ∧ Qrem00 Z g0 x0 u1 u4 u5 h0 n0 v U'.heap L ∧ FrameEnd U o U' L ({ frames := 0, cells := 0, slots := 0, locals := 0 } : Room).cells ({ frames := 0, cells := 0, slots := 0, locals := 0 } : Room).slots) := by
  refine MetFree.of_bodySF (plainFor_of_name pn_5) hisR ?_
  intro p e s m args below meth c s₁ Bd hml0 hP hK
  obtain ⟨rfl, hZ, hh⟩ := hP
  have hx := Bd.exec
  have hby := Bd.bytes
  have hml : c.maxLocals = 2 := hml0
  have hown : s.vm.findClass "com/example/steward/steward/runtime/Group" = some m.cls := findClass_of_methodNamed Bd.named
  have hnm := (name_of_methodNamed Bd.named Bd.method).1
  have hlk : meth.locks = false := BodyLoose.notSynchronized Bd
  have X0 : Stand p l e ({ frames := 0, cells := 0, slots := 0, locals := 0 } : Room) s m #[(.ref g0), (.ref x0)] below meth c s₁ [] 0 0 := Stand.of_body Bd
  have e0 : s₁.heap = h0 := by rw [← hh, Bd.state]; rfl
  have N0 := Fr.nil n0
  have sq0 : h0.size ≤ h0.size := Nat.le_refl _
  have k0 : Keep h0 h0 [g0, x0] := Keep.refl _ _
  change Go p e below s ({ frames := 0, cells := 0, slots := 0, locals := 0 } : Room).cells ({ frames := 0, cells := 0, slots := 0, locals := 0 } : Room).slots (Qrem00 Z g0 x0 u1 u4 u5 h0 n0) (s₁.setTop (entryFrame m #[(.ref g0), (.ref x0)] 2))
  rw [ef_rem00 m g0 x0]
  show Go _ _ _ _ _ _ _ (s₁.setTop (mkF m 0 #[.val (.ref g0), .val (.ref x0)] []))
  refine Go.step (fun _ k => XS.aloadN X0.here hx rfl (hb hby d11_0) rfl rfl  k) ?_
  show Go _ _ _ _ _ _ _ (s₁.setTop (mkF m 1 #[.val (.ref g0), .val (.ref x0)] [(.ref x0)]))
  obtain ⟨T1, X1, e1, st1⟩ := getF X0 hx hZ hown (host := "") (Or.inl (hw _ (List.mem_of_getElem? (i := 83) rfl))) Via.refl e0 F_5 (g := (mkF m 1 #[.val (.ref g0), .val (.ref x0)] [(.ref x0)])) rfl rfl (hb hby d11_1)
  refine Go.step st1 ?_
  show Go _ _ _ _ _ _ _ (T1.setTop (mkF m 4 #[.val (.ref g0), .val (.ref x0)] [.null]))
  refine Go.step (fun _ k => XS.ifnonnullNo X1.here hx rfl (hb hby d11_4) rfl k) ?_
  show Go _ _ _ _ _ _ _ (T1.setTop (mkF m 7 #[.val (.ref g0), .val (.ref x0)] []))
  refine Go.step (fun _ k => XS.aloadN X1.here hx rfl (hb hby d11_7) rfl rfl  k) ?_
  show Go _ _ _ _ _ _ _ (T1.setTop (mkF m 8 #[.val (.ref g0), .val (.ref x0)] [(.ref g0)]))
  refine Go.step (fun _ k => XS.aloadN X1.here hx rfl (hb hby d11_8) rfl rfl  k) ?_
  show Go _ _ _ _ _ _ _ (T1.setTop (mkF m 9 #[.val (.ref g0), .val (.ref x0)] [(.ref x0), (.ref g0)]))
  obtain ⟨T2, X2, e2, st2⟩ := getF X1 hx hZ hown (host := "") (Or.inl (hw _ (List.mem_of_getElem? (i := 84) rfl))) Via.refl e1 F_6 (g := (mkF m 9 #[.val (.ref g0), .val (.ref x0)] [(.ref x0), (.ref g0)])) rfl rfl (hb hby d11_9)
  refine Go.step st2 ?_
  show Go _ _ _ _ _ _ _ (T2.setTop (mkF m 12 #[.val (.ref g0), .val (.ref x0)] [.null, (.ref g0)]))
  obtain ⟨T3, h3, X3, e3, W3, st3⟩ := putF X2 hx hZ hown (host := "") (Or.inl (hw _ (List.mem_of_getElem? (i := 57) rfl))) Via.refl e2 F_3 E_0 (Or.inl (hw _ (List.mem_of_getElem? (i := 58) rfl))) (hw _ (List.mem_of_getElem? (i := 1) rfl)) (ty := (.object "com/example/steward/steward/runtime/Agent")) (v := .null) (by decide) rfl rfl (g := (mkF m 12 #[.val (.ref g0), .val (.ref x0)] [.null, (.ref g0)])) rfl rfl (hb hby d11_12)
  refine Go.step st3 ?_
  have N3 := Fr.snoc X3 N0 g_7
  have z4 : n0 ≤ h3.size := Nat.le_trans Z0 (Keep.of_wr W3).1
  have sqz4 : h0.size ≤ h3.size := Nat.le_trans sq0 (Keep.of_wr W3).1
  have k5 : Keep h0 h3 [g0, x0] := k0.wr W3 (Or.inl (List.mem_of_getElem? (i := 0) rfl))
  have f6 : Fld Z h3 g0 "com/example/steward/steward/runtime/Group" "first" "Lcom/example/steward/steward/runtime/Agent;" .null := F_3.same W3
  show Go _ _ _ _ _ _ _ (T3.setTop (mkF m 15 #[.val (.ref g0), .val (.ref x0)] []))
  refine Go.step (fun _ k => XS.goto X3.here hx rfl (pc0 := 15) (pc' := 29) rfl (hb hby d11_15) (by decide) (by decide) k) ?_
  show Go _ _ _ _ _ _ _ (T3.setTop (mkF m 29 #[.val (.ref g0), .val (.ref x0)] []))
  refine Go.step (fun _ k => XS.aloadN X3.here hx rfl (hb hby d11_29) rfl rfl  k) ?_
  show Go _ _ _ _ _ _ _ (T3.setTop (mkF m 30 #[.val (.ref g0), .val (.ref x0)] [(.ref x0)]))
  have f7 : Exa Z h3 x0 "com/example/steward/steward/runtime/Agent" := (E_1.wr W3)
  have f8 : Exa Z h3 g0 "com/example/steward/steward/runtime/Group" := (E_0.wr W3)
  have ne9 : x0 ≠ g0 := ne_exa f7 f8 (by decide)
  have f10 : Fld Z h3 x0 "com/example/steward/steward/runtime/Agent" "behind" "Lcom/example/steward/steward/runtime/Agent;" .null := (F_6.other W3 (Or.inl ne9))
  obtain ⟨T11, X11, e11, st11⟩ := getF X3 hx hZ hown (host := "") (Or.inl (hw _ (List.mem_of_getElem? (i := 84) rfl))) Via.refl e3 f10 (g := (mkF m 30 #[.val (.ref g0), .val (.ref x0)] [(.ref x0)])) rfl rfl (hb hby d11_30)
  refine Go.step st11 ?_
  show Go _ _ _ _ _ _ _ (T11.setTop (mkF m 33 #[.val (.ref g0), .val (.ref x0)] [.null]))
  refine Go.step (fun _ k => XS.ifnonnullNo X11.here hx rfl (hb hby d11_33) rfl k) ?_
  show Go _ _ _ _ _ _ _ (T11.setTop (mkF m 36 #[.val (.ref g0), .val (.ref x0)] []))
  refine Go.step (fun _ k => XS.aloadN X11.here hx rfl (hb hby d11_36) rfl rfl  k) ?_
  show Go _ _ _ _ _ _ _ (T11.setTop (mkF m 37 #[.val (.ref g0), .val (.ref x0)] [(.ref g0)]))
  refine Go.step (fun _ k => XS.aloadN X11.here hx rfl (hb hby d11_37) rfl rfl  k) ?_
  show Go _ _ _ _ _ _ _ (T11.setTop (mkF m 38 #[.val (.ref g0), .val (.ref x0)] [(.ref x0), (.ref g0)]))
  have f12 : Fld Z h3 x0 "com/example/steward/steward/runtime/Agent" "ahead" "Lcom/example/steward/steward/runtime/Agent;" .null := (F_5.other W3 (Or.inl ne9))
  obtain ⟨T13, X13, e13, st13⟩ := getF X11 hx hZ hown (host := "") (Or.inl (hw _ (List.mem_of_getElem? (i := 83) rfl))) Via.refl e11 f12 (g := (mkF m 38 #[.val (.ref g0), .val (.ref x0)] [(.ref x0), (.ref g0)])) rfl rfl (hb hby d11_38)
  refine Go.step st13 ?_
  show Go _ _ _ _ _ _ _ (T13.setTop (mkF m 41 #[.val (.ref g0), .val (.ref x0)] [.null, (.ref g0)]))
  have f14 : Fld Z h3 g0 "com/example/steward/steward/runtime/Group" "last" "Lcom/example/steward/steward/runtime/Agent;" u5 := (F_4.other W3 (Or.inr (slot_ne (Or.inl (hw _ (List.mem_of_getElem? (i := 82) rfl))) (Or.inl (hw _ (List.mem_of_getElem? (i := 58) rfl))) (by decide) (t := (.object "com/example/steward/steward/runtime/Agent")) (t' := (.object "com/example/steward/steward/runtime/Agent")) (by decide) (by decide))))
  obtain ⟨T15, h15, X15, e15, W15, st15⟩ := putF X13 hx hZ hown (host := "") (Or.inl (hw _ (List.mem_of_getElem? (i := 81) rfl))) Via.refl e13 f14 f8 (Or.inl (hw _ (List.mem_of_getElem? (i := 82) rfl))) (hw _ (List.mem_of_getElem? (i := 1) rfl)) (ty := (.object "com/example/steward/steward/runtime/Agent")) (v := .null) (by decide) rfl rfl (g := (mkF m 41 #[.val (.ref g0), .val (.ref x0)] [.null, (.ref g0)])) rfl rfl (hb hby d11_41)
  refine Go.step st15 ?_
  have N15 := Fr.snoc X15 N3 g_7
  have z16 : n0 ≤ h15.size := Nat.le_trans z4 (Keep.of_wr W15).1
  have sqz16 : h0.size ≤ h15.size := Nat.le_trans sqz4 (Keep.of_wr W15).1
  have k17 : Keep h0 h15 [g0, x0] := k5.wr W15 (Or.inl (List.mem_of_getElem? (i := 0) rfl))
  have f18 : Fld Z h15 g0 "com/example/steward/steward/runtime/Group" "last" "Lcom/example/steward/steward/runtime/Agent;" .null := f14.same W15
  show Go _ _ _ _ _ _ _ (T15.setTop (mkF m 44 #[.val (.ref g0), .val (.ref x0)] []))
  refine Go.step (fun _ k => XS.goto X15.here hx rfl (pc0 := 44) (pc' := 58) rfl (hb hby d11_44) (by decide) (by decide) k) ?_
  show Go _ _ _ _ _ _ _ (T15.setTop (mkF m 58 #[.val (.ref g0), .val (.ref x0)] []))
  refine Go.step (fun _ k => XS.aloadN X15.here hx rfl (hb hby d11_58) rfl rfl  k) ?_
  show Go _ _ _ _ _ _ _ (T15.setTop (mkF m 59 #[.val (.ref g0), .val (.ref x0)] [(.ref x0)]))
  refine Go.step (fun _ k => XS.aconstNull X15.here hx rfl (hb hby d11_59) k) ?_
  show Go _ _ _ _ _ _ _ (T15.setTop (mkF m 60 #[.val (.ref g0), .val (.ref x0)] [.null, (.ref x0)]))
  have f19 : Exa Z h15 x0 "com/example/steward/steward/runtime/Agent" := (f7.wr W15)
  have f20 : Fld Z h15 x0 "com/example/steward/steward/runtime/Agent" "group" "Lcom/example/steward/steward/runtime/Group;" u1 := ((F_2.other W3 (Or.inl ne9)).other W15 (Or.inl ne9))
  obtain ⟨T21, h21, X21, e21, W21, st21⟩ := putF X15 hx hZ hown (host := "") (Or.inl (hw _ (List.mem_of_getElem? (i := 80) rfl))) Via.refl e15 f20 f19 (Or.inl (hw _ (List.mem_of_getElem? (i := 69) rfl))) (hw _ (List.mem_of_getElem? (i := 10) rfl)) (ty := (.object "com/example/steward/steward/runtime/Group")) (v := .null) (by decide) rfl rfl (g := (mkF m 60 #[.val (.ref g0), .val (.ref x0)] [.null, (.ref x0)])) rfl rfl (hb hby d11_60)
  refine Go.step st21 ?_
  have N21 := Fr.snoc X21 N15 g_8
  have z22 : n0 ≤ h21.size := Nat.le_trans z16 (Keep.of_wr W21).1
  have sqz22 : h0.size ≤ h21.size := Nat.le_trans sqz16 (Keep.of_wr W21).1
  have k23 : Keep h0 h21 [g0, x0] := k17.wr W21 (Or.inl (List.mem_of_getElem? (i := 1) rfl))
  have f24 : Fld Z h21 x0 "com/example/steward/steward/runtime/Agent" "group" "Lcom/example/steward/steward/runtime/Group;" .null := f20.same W21
  show Go _ _ _ _ _ _ _ (T21.setTop (mkF m 63 #[.val (.ref g0), .val (.ref x0)] []))
  refine Go.step (fun _ k => XS.aloadN X21.here hx rfl (hb hby d11_63) rfl rfl  k) ?_
  show Go _ _ _ _ _ _ _ (T21.setTop (mkF m 64 #[.val (.ref g0), .val (.ref x0)] [(.ref x0)]))
  refine Go.step (fun _ k => XS.aconstNull X21.here hx rfl (hb hby d11_64) k) ?_
  show Go _ _ _ _ _ _ _ (T21.setTop (mkF m 65 #[.val (.ref g0), .val (.ref x0)] [.null, (.ref x0)]))
  have f25 : Exa Z h21 x0 "com/example/steward/steward/runtime/Agent" := (f19.wr W21)
  have f26 : Fld Z h21 x0 "com/example/steward/steward/runtime/Agent" "ahead" "Lcom/example/steward/steward/runtime/Agent;" .null := ((f12.other W15 (Or.inl ne9)).other W21 (Or.inr (slot_ne (Or.inl (hw _ (List.mem_of_getElem? (i := 49) rfl))) (Or.inl (hw _ (List.mem_of_getElem? (i := 69) rfl))) (by decide) (t := (.object "com/example/steward/steward/runtime/Agent")) (t' := (.object "com/example/steward/steward/runtime/Group")) (by decide) (by decide))))
  obtain ⟨T27, h27, X27, e27, W27, st27⟩ := putF X21 hx hZ hown (host := "") (Or.inl (hw _ (List.mem_of_getElem? (i := 83) rfl))) Via.refl e21 f26 f25 (Or.inl (hw _ (List.mem_of_getElem? (i := 49) rfl))) (hw _ (List.mem_of_getElem? (i := 10) rfl)) (ty := (.object "com/example/steward/steward/runtime/Agent")) (v := .null) (by decide) rfl rfl (g := (mkF m 65 #[.val (.ref g0), .val (.ref x0)] [.null, (.ref x0)])) rfl rfl (hb hby d11_65)
  refine Go.step st27 ?_
  have N27 := Fr.snoc X27 N21 g_8
  have z28 : n0 ≤ h27.size := Nat.le_trans z22 (Keep.of_wr W27).1
  have sqz28 : h0.size ≤ h27.size := Nat.le_trans sqz22 (Keep.of_wr W27).1
  have k29 : Keep h0 h27 [g0, x0] := k23.wr W27 (Or.inl (List.mem_of_getElem? (i := 1) rfl))
  have f30 : Fld Z h27 x0 "com/example/steward/steward/runtime/Agent" "ahead" "Lcom/example/steward/steward/runtime/Agent;" .null := f26.same W27
  show Go _ _ _ _ _ _ _ (T27.setTop (mkF m 68 #[.val (.ref g0), .val (.ref x0)] []))
  refine Go.step (fun _ k => XS.aloadN X27.here hx rfl (hb hby d11_68) rfl rfl  k) ?_
  show Go _ _ _ _ _ _ _ (T27.setTop (mkF m 69 #[.val (.ref g0), .val (.ref x0)] [(.ref x0)]))
  refine Go.step (fun _ k => XS.aconstNull X27.here hx rfl (hb hby d11_69) k) ?_
  show Go _ _ _ _ _ _ _ (T27.setTop (mkF m 70 #[.val (.ref g0), .val (.ref x0)] [.null, (.ref x0)]))
  have f31 : Exa Z h27 x0 "com/example/steward/steward/runtime/Agent" := (f25.wr W27)
  have f32 : Fld Z h27 x0 "com/example/steward/steward/runtime/Agent" "behind" "Lcom/example/steward/steward/runtime/Agent;" .null := (((f10.other W15 (Or.inl ne9)).other W21 (Or.inr (slot_ne (Or.inl (hw _ (List.mem_of_getElem? (i := 51) rfl))) (Or.inl (hw _ (List.mem_of_getElem? (i := 69) rfl))) (by decide) (t := (.object "com/example/steward/steward/runtime/Agent")) (t' := (.object "com/example/steward/steward/runtime/Group")) (by decide) (by decide)))).other W27 (Or.inr (slot_ne (Or.inl (hw _ (List.mem_of_getElem? (i := 51) rfl))) (Or.inl (hw _ (List.mem_of_getElem? (i := 49) rfl))) (by decide) (t := (.object "com/example/steward/steward/runtime/Agent")) (t' := (.object "com/example/steward/steward/runtime/Agent")) (by decide) (by decide))))
  obtain ⟨T33, h33, X33, e33, W33, st33⟩ := putF X27 hx hZ hown (host := "") (Or.inl (hw _ (List.mem_of_getElem? (i := 84) rfl))) Via.refl e27 f32 f31 (Or.inl (hw _ (List.mem_of_getElem? (i := 51) rfl))) (hw _ (List.mem_of_getElem? (i := 10) rfl)) (ty := (.object "com/example/steward/steward/runtime/Agent")) (v := .null) (by decide) rfl rfl (g := (mkF m 70 #[.val (.ref g0), .val (.ref x0)] [.null, (.ref x0)])) rfl rfl (hb hby d11_70)
  refine Go.step st33 ?_
  have N33 := Fr.snoc X33 N27 g_8
  have z34 : n0 ≤ h33.size := Nat.le_trans z28 (Keep.of_wr W33).1
  have sqz34 : h0.size ≤ h33.size := Nat.le_trans sqz28 (Keep.of_wr W33).1
  have k35 : Keep h0 h33 [g0, x0] := k29.wr W33 (Or.inl (List.mem_of_getElem? (i := 1) rfl))
  have f36 : Fld Z h33 x0 "com/example/steward/steward/runtime/Agent" "behind" "Lcom/example/steward/steward/runtime/Agent;" .null := f32.same W33
  show Go _ _ _ _ _ _ _ (T33.setTop (mkF m 73 #[.val (.ref g0), .val (.ref x0)] []))
  have f37 : Exa Z h33 g0 "com/example/steward/steward/runtime/Group" := ((((f8.wr W15).wr W21).wr W27).wr W33)
  have f38 : Exa Z h33 x0 "com/example/steward/steward/runtime/Agent" := (f31.wr W33)
  have f39 : Fld Z h33 x0 "com/example/steward/steward/runtime/Agent" "group" "Lcom/example/steward/steward/runtime/Group;" .null := ((f24.other W27 (Or.inr (slot_ne (Or.inl (hw _ (List.mem_of_getElem? (i := 69) rfl))) (Or.inl (hw _ (List.mem_of_getElem? (i := 49) rfl))) (by decide) (t := (.object "com/example/steward/steward/runtime/Group")) (t' := (.object "com/example/steward/steward/runtime/Agent")) (by decide) (by decide)))).other W33 (Or.inr (slot_ne (Or.inl (hw _ (List.mem_of_getElem? (i := 69) rfl))) (Or.inl (hw _ (List.mem_of_getElem? (i := 51) rfl))) (by decide) (t := (.object "com/example/steward/steward/runtime/Group")) (t' := (.object "com/example/steward/steward/runtime/Agent")) (by decide) (by decide))))
  have f40 : Fld Z h33 x0 "com/example/steward/steward/runtime/Agent" "ahead" "Lcom/example/steward/steward/runtime/Agent;" .null := (f30.other W33 (Or.inr (slot_ne (Or.inl (hw _ (List.mem_of_getElem? (i := 49) rfl))) (Or.inl (hw _ (List.mem_of_getElem? (i := 51) rfl))) (by decide) (t := (.object "com/example/steward/steward/runtime/Agent")) (t' := (.object "com/example/steward/steward/runtime/Agent")) (by decide) (by decide))))
  have f41 : Fld Z h33 g0 "com/example/steward/steward/runtime/Group" "first" "Lcom/example/steward/steward/runtime/Agent;" .null := ((((f6.other W15 (Or.inr (slot_ne (Or.inl (hw _ (List.mem_of_getElem? (i := 58) rfl))) (Or.inl (hw _ (List.mem_of_getElem? (i := 82) rfl))) (by decide) (t := (.object "com/example/steward/steward/runtime/Agent")) (t' := (.object "com/example/steward/steward/runtime/Agent")) (by decide) (by decide)))).other W21 (Or.inl (Ne.symm ne9))).other W27 (Or.inl (Ne.symm ne9))).other W33 (Or.inl (Ne.symm ne9)))
  have f42 : Fld Z h33 g0 "com/example/steward/steward/runtime/Group" "last" "Lcom/example/steward/steward/runtime/Agent;" .null := (((f18.other W21 (Or.inl (Ne.symm ne9))).other W27 (Or.inl (Ne.symm ne9))).other W33 (Or.inl (Ne.symm ne9)))
  refine Go.retV X33 hx Bd.returns hlk (hb hby d11_73) ?_ (by decide) (by decide)
  rw [e33]
  exact ⟨(rfl), N33, k35, f37, f38, f39, f40, f36, f41, f42⟩
theorem d11_47 : decode prog_44_method_5_code 47 = .ok (.aload_n 1, 1) := by decide +kernel
theorem d11_48 : decode prog_44_method_5_code 48 = .ok (.getfield 25, 3) := by decide +kernel
theorem d11_51 : decode prog_44_method_5_code 51 = .ok (.aload_n 1, 1) := by decide +kernel
theorem d11_52 : decode prog_44_method_5_code 52 = .ok (.getfield 22, 3) := by decide +kernel
theorem d11_55 : decode prog_44_method_5_code 55 = .ok (.putfield 22, 3) := by decide +kernel
theorem ef_rem01 (m : MethodId) (g0 : Addr) (x0 : Addr) : entryFrame m #[(.ref g0), (.ref x0)] 2 = mkF m 0 #[.val (.ref g0), .val (.ref x0)] [] := by first | (simp [entryFrame, mkF, argsToLocals, Value.category]; done) | rfl
def Qrem01 (Z : State) (g0 : Addr) (x0 : Addr) (u1 : Value) (u4 : Value) (u5 : Value) (z0 : Addr) (c1 : Value) (c2 : Value) (c3 : Value) (h0 : Heap) (n0 : Nat) (v : Option Value) (h : Heap) (L : List Loc) : Prop := (v = none) ∧ (Fr n0 L) ∧ (Keep h0 h [g0, x0, z0]) ∧ (Exa Z h g0 "com/example/steward/steward/runtime/Group") ∧ (Exa Z h x0 "com/example/steward/steward/runtime/Agent") ∧ (Fld Z h x0 "com/example/steward/steward/runtime/Agent" "group" "Lcom/example/steward/steward/runtime/Group;" .null) ∧ (Fld Z h x0 "com/example/steward/steward/runtime/Agent" "ahead" "Lcom/example/steward/steward/runtime/Agent;" .null) ∧ (Fld Z h x0 "com/example/steward/steward/runtime/Agent" "behind" "Lcom/example/steward/steward/runtime/Agent;" .null) ∧ (Exa Z h z0 "com/example/steward/steward/runtime/Agent") ∧ (Fld Z h z0 "com/example/steward/steward/runtime/Agent" "ahead" "Lcom/example/steward/steward/runtime/Agent;" .null) ∧ (Fld Z h z0 "com/example/steward/steward/runtime/Agent" "group" "Lcom/example/steward/steward/runtime/Group;" c2) ∧ (Fld Z h z0 "com/example/steward/steward/runtime/Agent" "behind" "Lcom/example/steward/steward/runtime/Agent;" c3) ∧ (Fld Z h g0 "com/example/steward/steward/runtime/Group" "first" "Lcom/example/steward/steward/runtime/Agent;" (.ref z0)) ∧ (Fld Z h g0 "com/example/steward/steward/runtime/Group" "last" "Lcom/example/steward/steward/runtime/Agent;" u5)
set_option maxRecDepth 65536 in
set_option maxHeartbeats 40000000 in
theorem rmrem01 (l : Launch) (Z : State) (aZ : Array Value) (hw : ∀ d ∈ tables_1, d.before aZ Z = true) (ws : List Jvm.Cond) (g0 : Addr) (x0 : Addr) (u1 : Value) (u4 : Value) (u5 : Value) (z0 : Addr) (c1 : Value) (c2 : Value) (c3 : Value) (h0 : Heap) (n0 : Nat) (Z0 : n0 ≤ h0.size) (E_0 : Exa Z h0 g0 "com/example/steward/steward/runtime/Group") (E_1 : Exa Z h0 x0 "com/example/steward/steward/runtime/Agent") (F_2 : Fld Z h0 x0 "com/example/steward/steward/runtime/Agent" "group" "Lcom/example/steward/steward/runtime/Group;" u1) (F_3 : Fld Z h0 g0 "com/example/steward/steward/runtime/Group" "first" "Lcom/example/steward/steward/runtime/Agent;" u4) (F_4 : Fld Z h0 g0 "com/example/steward/steward/runtime/Group" "last" "Lcom/example/steward/steward/runtime/Agent;" u5) (F_5 : Fld Z h0 x0 "com/example/steward/steward/runtime/Agent" "ahead" "Lcom/example/steward/steward/runtime/Agent;" .null) (F_6 : Fld Z h0 x0 "com/example/steward/steward/runtime/Agent" "behind" "Lcom/example/steward/steward/runtime/Agent;" (.ref z0)) (g_7 : n0 ≤ g0) (g_8 : n0 ≤ x0) (E_9 : Exa Z h0 z0 "com/example/steward/steward/runtime/Agent") (F_10 : Fld Z h0 z0 "com/example/steward/steward/runtime/Agent" "ahead" "Lcom/example/steward/steward/runtime/Agent;" c1) (F_11 : Fld Z h0 z0 "com/example/steward/steward/runtime/Agent" "group" "Lcom/example/steward/steward/runtime/Group;" c2) (F_12 : Fld Z h0 z0 "com/example/steward/steward/runtime/Agent" "behind" "Lcom/example/steward/steward/runtime/Agent;" c3) (ne_13 : x0 ≠ z0) (g_14 : n0 ≤ z0) :
    MetFree l (⟨"com/example/steward/steward/runtime/Group", "remove", "(Lcom/example/steward/steward/runtime/Agent;)V"⟩ : MethodName) (head1 (Jvm.Cond.code (⟨"com/example/steward/steward/runtime/Group", "remove", "(Lcom/example/steward/steward/runtime/Agent;)V"⟩ : MethodName) prog_44_method_5_code 2 none :: ws) ({ frames := 0, cells := 0, slots := 0, locals := 0 } : Room)) (fun a U => a = #[(.ref g0), (.ref x0)] ∧ Z.Warmed39 U.vm ∧ U.heap = h0) (fun _ _ _ _ _ => True) (fun _ U o U' => ∃ v L, o = .returned v ∧ Qrem01 Z g0 x0 u1 u4 u5 z0 c1 c2 c3 h0 n0 v U'.heap L ∧ FrameEnd U o U' L ({ frames := 0, cells := 0, slots := 0, locals := 0 } : Room).cells ({ frames := 0, cells := 0, slots := 0, locals := 0 } : Room).slots) := by
  refine MetFree.of_bodySF (plainFor_of_name pn_5) hisR ?_
  intro p e s m args below meth c s₁ Bd hml0 hP hK
  obtain ⟨rfl, hZ, hh⟩ := hP
  have hx := Bd.exec
  have hby := Bd.bytes
  have hml : c.maxLocals = 2 := hml0
  have hown : s.vm.findClass "com/example/steward/steward/runtime/Group" = some m.cls := findClass_of_methodNamed Bd.named
  have hnm := (name_of_methodNamed Bd.named Bd.method).1
  have hlk : meth.locks = false := BodyLoose.notSynchronized Bd
  have X0 : Stand p l e ({ frames := 0, cells := 0, slots := 0, locals := 0 } : Room) s m #[(.ref g0), (.ref x0)] below meth c s₁ [] 0 0 := Stand.of_body Bd
  have e0 : s₁.heap = h0 := by rw [← hh, Bd.state]; rfl
  have N0 := Fr.nil n0
  have sq0 : h0.size ≤ h0.size := Nat.le_refl _
  have k0 : Keep h0 h0 [g0, x0, z0] := Keep.refl _ _
  change Go p e below s ({ frames := 0, cells := 0, slots := 0, locals := 0 } : Room).cells ({ frames := 0, cells := 0, slots := 0, locals := 0 } : Room).slots (Qrem01 Z g0 x0 u1 u4 u5 z0 c1 c2 c3 h0 n0) (s₁.setTop (entryFrame m #[(.ref g0), (.ref x0)] 2))
  rw [ef_rem01 m g0 x0]
  show Go _ _ _ _ _ _ _ (s₁.setTop (mkF m 0 #[.val (.ref g0), .val (.ref x0)] []))
  refine Go.step (fun _ k => XS.aloadN X0.here hx rfl (hb hby d11_0) rfl rfl  k) ?_
  show Go _ _ _ _ _ _ _ (s₁.setTop (mkF m 1 #[.val (.ref g0), .val (.ref x0)] [(.ref x0)]))
  obtain ⟨T1, X1, e1, st1⟩ := getF X0 hx hZ hown (host := "") (Or.inl (hw _ (List.mem_of_getElem? (i := 83) rfl))) Via.refl e0 F_5 (g := (mkF m 1 #[.val (.ref g0), .val (.ref x0)] [(.ref x0)])) rfl rfl (hb hby d11_1)
  refine Go.step st1 ?_
  show Go _ _ _ _ _ _ _ (T1.setTop (mkF m 4 #[.val (.ref g0), .val (.ref x0)] [.null]))
  refine Go.step (fun _ k => XS.ifnonnullNo X1.here hx rfl (hb hby d11_4) rfl k) ?_
  show Go _ _ _ _ _ _ _ (T1.setTop (mkF m 7 #[.val (.ref g0), .val (.ref x0)] []))
  refine Go.step (fun _ k => XS.aloadN X1.here hx rfl (hb hby d11_7) rfl rfl  k) ?_
  show Go _ _ _ _ _ _ _ (T1.setTop (mkF m 8 #[.val (.ref g0), .val (.ref x0)] [(.ref g0)]))
  refine Go.step (fun _ k => XS.aloadN X1.here hx rfl (hb hby d11_8) rfl rfl  k) ?_
  show Go _ _ _ _ _ _ _ (T1.setTop (mkF m 9 #[.val (.ref g0), .val (.ref x0)] [(.ref x0), (.ref g0)]))
  obtain ⟨T2, X2, e2, st2⟩ := getF X1 hx hZ hown (host := "") (Or.inl (hw _ (List.mem_of_getElem? (i := 84) rfl))) Via.refl e1 F_6 (g := (mkF m 9 #[.val (.ref g0), .val (.ref x0)] [(.ref x0), (.ref g0)])) rfl rfl (hb hby d11_9)
  refine Go.step st2 ?_
  show Go _ _ _ _ _ _ _ (T2.setTop (mkF m 12 #[.val (.ref g0), .val (.ref x0)] [(.ref z0), (.ref g0)]))
  obtain ⟨T3, h3, X3, e3, W3, st3⟩ := putF X2 hx hZ hown (host := "") (Or.inl (hw _ (List.mem_of_getElem? (i := 57) rfl))) Via.refl e2 F_3 E_0 (Or.inl (hw _ (List.mem_of_getElem? (i := 58) rfl))) (hw _ (List.mem_of_getElem? (i := 1) rfl)) (ty := (.object "com/example/steward/steward/runtime/Agent")) (v := (.ref z0)) (by decide) rfl rfl (g := (mkF m 12 #[.val (.ref g0), .val (.ref x0)] [(.ref z0), (.ref g0)])) rfl rfl (hb hby d11_12)
  refine Go.step st3 ?_
  have N3 := Fr.snoc X3 N0 g_7
  have z4 : n0 ≤ h3.size := Nat.le_trans Z0 (Keep.of_wr W3).1
  have sqz4 : h0.size ≤ h3.size := Nat.le_trans sq0 (Keep.of_wr W3).1
  have k5 : Keep h0 h3 [g0, x0, z0] := k0.wr W3 (Or.inl (List.mem_of_getElem? (i := 0) rfl))
  have f6 : Fld Z h3 g0 "com/example/steward/steward/runtime/Group" "first" "Lcom/example/steward/steward/runtime/Agent;" (.ref z0) := F_3.same W3
  show Go _ _ _ _ _ _ _ (T3.setTop (mkF m 15 #[.val (.ref g0), .val (.ref x0)] []))
  refine Go.step (fun _ k => XS.goto X3.here hx rfl (pc0 := 15) (pc' := 29) rfl (hb hby d11_15) (by decide) (by decide) k) ?_
  show Go _ _ _ _ _ _ _ (T3.setTop (mkF m 29 #[.val (.ref g0), .val (.ref x0)] []))
  refine Go.step (fun _ k => XS.aloadN X3.here hx rfl (hb hby d11_29) rfl rfl  k) ?_
  show Go _ _ _ _ _ _ _ (T3.setTop (mkF m 30 #[.val (.ref g0), .val (.ref x0)] [(.ref x0)]))
  have f7 : Exa Z h3 x0 "com/example/steward/steward/runtime/Agent" := (E_1.wr W3)
  have f8 : Exa Z h3 g0 "com/example/steward/steward/runtime/Group" := (E_0.wr W3)
  have ne9 : x0 ≠ g0 := ne_exa f7 f8 (by decide)
  have f10 : Fld Z h3 x0 "com/example/steward/steward/runtime/Agent" "behind" "Lcom/example/steward/steward/runtime/Agent;" (.ref z0) := (F_6.other W3 (Or.inl ne9))
  obtain ⟨T11, X11, e11, st11⟩ := getF X3 hx hZ hown (host := "") (Or.inl (hw _ (List.mem_of_getElem? (i := 84) rfl))) Via.refl e3 f10 (g := (mkF m 30 #[.val (.ref g0), .val (.ref x0)] [(.ref x0)])) rfl rfl (hb hby d11_30)
  refine Go.step st11 ?_
  show Go _ _ _ _ _ _ _ (T11.setTop (mkF m 33 #[.val (.ref g0), .val (.ref x0)] [(.ref z0)]))
  refine Go.step (fun _ k => XS.ifnonnullYes X11.here hx rfl (pc0 := 33) (pc' := 47) rfl (hb hby d11_33) rfl (by decide) (by decide) k) ?_
  show Go _ _ _ _ _ _ _ (T11.setTop (mkF m 47 #[.val (.ref g0), .val (.ref x0)] []))
  refine Go.step (fun _ k => XS.aloadN X11.here hx rfl (hb hby d11_47) rfl rfl  k) ?_
  show Go _ _ _ _ _ _ _ (T11.setTop (mkF m 48 #[.val (.ref g0), .val (.ref x0)] [(.ref x0)]))
  obtain ⟨T12, X12, e12, st12⟩ := getF X11 hx hZ hown (host := "") (Or.inl (hw _ (List.mem_of_getElem? (i := 84) rfl))) Via.refl e11 f10 (g := (mkF m 48 #[.val (.ref g0), .val (.ref x0)] [(.ref x0)])) rfl rfl (hb hby d11_48)
  refine Go.step st12 ?_
  show Go _ _ _ _ _ _ _ (T12.setTop (mkF m 51 #[.val (.ref g0), .val (.ref x0)] [(.ref z0)]))
  refine Go.step (fun _ k => XS.aloadN X12.here hx rfl (hb hby d11_51) rfl rfl  k) ?_
  show Go _ _ _ _ _ _ _ (T12.setTop (mkF m 52 #[.val (.ref g0), .val (.ref x0)] [(.ref x0), (.ref z0)]))
  have f13 : Fld Z h3 x0 "com/example/steward/steward/runtime/Agent" "ahead" "Lcom/example/steward/steward/runtime/Agent;" .null := (F_5.other W3 (Or.inl ne9))
  obtain ⟨T14, X14, e14, st14⟩ := getF X12 hx hZ hown (host := "") (Or.inl (hw _ (List.mem_of_getElem? (i := 83) rfl))) Via.refl e12 f13 (g := (mkF m 52 #[.val (.ref g0), .val (.ref x0)] [(.ref x0), (.ref z0)])) rfl rfl (hb hby d11_52)
  refine Go.step st14 ?_
  show Go _ _ _ _ _ _ _ (T14.setTop (mkF m 55 #[.val (.ref g0), .val (.ref x0)] [.null, (.ref z0)]))
  have f15 : Exa Z h3 z0 "com/example/steward/steward/runtime/Agent" := (E_9.wr W3)
  have ne16 : z0 ≠ g0 := ne_exa f15 f8 (by decide)
  have f17 : Fld Z h3 z0 "com/example/steward/steward/runtime/Agent" "ahead" "Lcom/example/steward/steward/runtime/Agent;" c1 := (F_10.other W3 (Or.inl ne16))
  obtain ⟨T18, h18, X18, e18, W18, st18⟩ := putF X14 hx hZ hown (host := "") (Or.inl (hw _ (List.mem_of_getElem? (i := 83) rfl))) Via.refl e14 f17 f15 (Or.inl (hw _ (List.mem_of_getElem? (i := 49) rfl))) (hw _ (List.mem_of_getElem? (i := 10) rfl)) (ty := (.object "com/example/steward/steward/runtime/Agent")) (v := .null) (by decide) rfl rfl (g := (mkF m 55 #[.val (.ref g0), .val (.ref x0)] [.null, (.ref z0)])) rfl rfl (hb hby d11_55)
  refine Go.step st18 ?_
  have N18 := Fr.snoc X18 N3 g_14
  have z19 : n0 ≤ h18.size := Nat.le_trans z4 (Keep.of_wr W18).1
  have sqz19 : h0.size ≤ h18.size := Nat.le_trans sqz4 (Keep.of_wr W18).1
  have k20 : Keep h0 h18 [g0, x0, z0] := k5.wr W18 (Or.inl (List.mem_of_getElem? (i := 2) rfl))
  have f21 : Fld Z h18 z0 "com/example/steward/steward/runtime/Agent" "ahead" "Lcom/example/steward/steward/runtime/Agent;" .null := f17.same W18
  show Go _ _ _ _ _ _ _ (T18.setTop (mkF m 58 #[.val (.ref g0), .val (.ref x0)] []))
  refine Go.step (fun _ k => XS.aloadN X18.here hx rfl (hb hby d11_58) rfl rfl  k) ?_
  show Go _ _ _ _ _ _ _ (T18.setTop (mkF m 59 #[.val (.ref g0), .val (.ref x0)] [(.ref x0)]))
  refine Go.step (fun _ k => XS.aconstNull X18.here hx rfl (hb hby d11_59) k) ?_
  show Go _ _ _ _ _ _ _ (T18.setTop (mkF m 60 #[.val (.ref g0), .val (.ref x0)] [.null, (.ref x0)]))
  have f22 : Exa Z h18 x0 "com/example/steward/steward/runtime/Agent" := (f7.wr W18)
  have f23 : Fld Z h18 x0 "com/example/steward/steward/runtime/Agent" "group" "Lcom/example/steward/steward/runtime/Group;" u1 := ((F_2.other W3 (Or.inl ne9)).other W18 (Or.inl ne_13))
  obtain ⟨T24, h24, X24, e24, W24, st24⟩ := putF X18 hx hZ hown (host := "") (Or.inl (hw _ (List.mem_of_getElem? (i := 80) rfl))) Via.refl e18 f23 f22 (Or.inl (hw _ (List.mem_of_getElem? (i := 69) rfl))) (hw _ (List.mem_of_getElem? (i := 10) rfl)) (ty := (.object "com/example/steward/steward/runtime/Group")) (v := .null) (by decide) rfl rfl (g := (mkF m 60 #[.val (.ref g0), .val (.ref x0)] [.null, (.ref x0)])) rfl rfl (hb hby d11_60)
  refine Go.step st24 ?_
  have N24 := Fr.snoc X24 N18 g_8
  have z25 : n0 ≤ h24.size := Nat.le_trans z19 (Keep.of_wr W24).1
  have sqz25 : h0.size ≤ h24.size := Nat.le_trans sqz19 (Keep.of_wr W24).1
  have k26 : Keep h0 h24 [g0, x0, z0] := k20.wr W24 (Or.inl (List.mem_of_getElem? (i := 1) rfl))
  have f27 : Fld Z h24 x0 "com/example/steward/steward/runtime/Agent" "group" "Lcom/example/steward/steward/runtime/Group;" .null := f23.same W24
  show Go _ _ _ _ _ _ _ (T24.setTop (mkF m 63 #[.val (.ref g0), .val (.ref x0)] []))
  refine Go.step (fun _ k => XS.aloadN X24.here hx rfl (hb hby d11_63) rfl rfl  k) ?_
  show Go _ _ _ _ _ _ _ (T24.setTop (mkF m 64 #[.val (.ref g0), .val (.ref x0)] [(.ref x0)]))
  refine Go.step (fun _ k => XS.aconstNull X24.here hx rfl (hb hby d11_64) k) ?_
  show Go _ _ _ _ _ _ _ (T24.setTop (mkF m 65 #[.val (.ref g0), .val (.ref x0)] [.null, (.ref x0)]))
  have f28 : Exa Z h24 x0 "com/example/steward/steward/runtime/Agent" := (f22.wr W24)
  have f29 : Fld Z h24 x0 "com/example/steward/steward/runtime/Agent" "ahead" "Lcom/example/steward/steward/runtime/Agent;" .null := ((f13.other W18 (Or.inl ne_13)).other W24 (Or.inr (slot_ne (Or.inl (hw _ (List.mem_of_getElem? (i := 49) rfl))) (Or.inl (hw _ (List.mem_of_getElem? (i := 69) rfl))) (by decide) (t := (.object "com/example/steward/steward/runtime/Agent")) (t' := (.object "com/example/steward/steward/runtime/Group")) (by decide) (by decide))))
  obtain ⟨T30, h30, X30, e30, W30, st30⟩ := putF X24 hx hZ hown (host := "") (Or.inl (hw _ (List.mem_of_getElem? (i := 83) rfl))) Via.refl e24 f29 f28 (Or.inl (hw _ (List.mem_of_getElem? (i := 49) rfl))) (hw _ (List.mem_of_getElem? (i := 10) rfl)) (ty := (.object "com/example/steward/steward/runtime/Agent")) (v := .null) (by decide) rfl rfl (g := (mkF m 65 #[.val (.ref g0), .val (.ref x0)] [.null, (.ref x0)])) rfl rfl (hb hby d11_65)
  refine Go.step st30 ?_
  have N30 := Fr.snoc X30 N24 g_8
  have z31 : n0 ≤ h30.size := Nat.le_trans z25 (Keep.of_wr W30).1
  have sqz31 : h0.size ≤ h30.size := Nat.le_trans sqz25 (Keep.of_wr W30).1
  have k32 : Keep h0 h30 [g0, x0, z0] := k26.wr W30 (Or.inl (List.mem_of_getElem? (i := 1) rfl))
  have f33 : Fld Z h30 x0 "com/example/steward/steward/runtime/Agent" "ahead" "Lcom/example/steward/steward/runtime/Agent;" .null := f29.same W30
  show Go _ _ _ _ _ _ _ (T30.setTop (mkF m 68 #[.val (.ref g0), .val (.ref x0)] []))
  refine Go.step (fun _ k => XS.aloadN X30.here hx rfl (hb hby d11_68) rfl rfl  k) ?_
  show Go _ _ _ _ _ _ _ (T30.setTop (mkF m 69 #[.val (.ref g0), .val (.ref x0)] [(.ref x0)]))
  refine Go.step (fun _ k => XS.aconstNull X30.here hx rfl (hb hby d11_69) k) ?_
  show Go _ _ _ _ _ _ _ (T30.setTop (mkF m 70 #[.val (.ref g0), .val (.ref x0)] [.null, (.ref x0)]))
  have f34 : Exa Z h30 x0 "com/example/steward/steward/runtime/Agent" := (f28.wr W30)
  have f35 : Fld Z h30 x0 "com/example/steward/steward/runtime/Agent" "behind" "Lcom/example/steward/steward/runtime/Agent;" (.ref z0) := (((f10.other W18 (Or.inl ne_13)).other W24 (Or.inr (slot_ne (Or.inl (hw _ (List.mem_of_getElem? (i := 51) rfl))) (Or.inl (hw _ (List.mem_of_getElem? (i := 69) rfl))) (by decide) (t := (.object "com/example/steward/steward/runtime/Agent")) (t' := (.object "com/example/steward/steward/runtime/Group")) (by decide) (by decide)))).other W30 (Or.inr (slot_ne (Or.inl (hw _ (List.mem_of_getElem? (i := 51) rfl))) (Or.inl (hw _ (List.mem_of_getElem? (i := 49) rfl))) (by decide) (t := (.object "com/example/steward/steward/runtime/Agent")) (t' := (.object "com/example/steward/steward/runtime/Agent")) (by decide) (by decide))))
  obtain ⟨T36, h36, X36, e36, W36, st36⟩ := putF X30 hx hZ hown (host := "") (Or.inl (hw _ (List.mem_of_getElem? (i := 84) rfl))) Via.refl e30 f35 f34 (Or.inl (hw _ (List.mem_of_getElem? (i := 51) rfl))) (hw _ (List.mem_of_getElem? (i := 10) rfl)) (ty := (.object "com/example/steward/steward/runtime/Agent")) (v := .null) (by decide) rfl rfl (g := (mkF m 70 #[.val (.ref g0), .val (.ref x0)] [.null, (.ref x0)])) rfl rfl (hb hby d11_70)
  refine Go.step st36 ?_
  have N36 := Fr.snoc X36 N30 g_8
  have z37 : n0 ≤ h36.size := Nat.le_trans z31 (Keep.of_wr W36).1
  have sqz37 : h0.size ≤ h36.size := Nat.le_trans sqz31 (Keep.of_wr W36).1
  have k38 : Keep h0 h36 [g0, x0, z0] := k32.wr W36 (Or.inl (List.mem_of_getElem? (i := 1) rfl))
  have f39 : Fld Z h36 x0 "com/example/steward/steward/runtime/Agent" "behind" "Lcom/example/steward/steward/runtime/Agent;" .null := f35.same W36
  show Go _ _ _ _ _ _ _ (T36.setTop (mkF m 73 #[.val (.ref g0), .val (.ref x0)] []))
  have f40 : Exa Z h36 g0 "com/example/steward/steward/runtime/Group" := ((((f8.wr W18).wr W24).wr W30).wr W36)
  have f41 : Exa Z h36 x0 "com/example/steward/steward/runtime/Agent" := (f34.wr W36)
  have f42 : Fld Z h36 x0 "com/example/steward/steward/runtime/Agent" "group" "Lcom/example/steward/steward/runtime/Group;" .null := ((f27.other W30 (Or.inr (slot_ne (Or.inl (hw _ (List.mem_of_getElem? (i := 69) rfl))) (Or.inl (hw _ (List.mem_of_getElem? (i := 49) rfl))) (by decide) (t := (.object "com/example/steward/steward/runtime/Group")) (t' := (.object "com/example/steward/steward/runtime/Agent")) (by decide) (by decide)))).other W36 (Or.inr (slot_ne (Or.inl (hw _ (List.mem_of_getElem? (i := 69) rfl))) (Or.inl (hw _ (List.mem_of_getElem? (i := 51) rfl))) (by decide) (t := (.object "com/example/steward/steward/runtime/Group")) (t' := (.object "com/example/steward/steward/runtime/Agent")) (by decide) (by decide))))
  have f43 : Fld Z h36 x0 "com/example/steward/steward/runtime/Agent" "ahead" "Lcom/example/steward/steward/runtime/Agent;" .null := (f33.other W36 (Or.inr (slot_ne (Or.inl (hw _ (List.mem_of_getElem? (i := 49) rfl))) (Or.inl (hw _ (List.mem_of_getElem? (i := 51) rfl))) (by decide) (t := (.object "com/example/steward/steward/runtime/Agent")) (t' := (.object "com/example/steward/steward/runtime/Agent")) (by decide) (by decide))))
  have f44 : Exa Z h36 z0 "com/example/steward/steward/runtime/Agent" := ((((f15.wr W18).wr W24).wr W30).wr W36)
  have f45 : Fld Z h36 z0 "com/example/steward/steward/runtime/Agent" "ahead" "Lcom/example/steward/steward/runtime/Agent;" .null := (((f21.other W24 (Or.inl (Ne.symm ne_13))).other W30 (Or.inl (Ne.symm ne_13))).other W36 (Or.inl (Ne.symm ne_13)))
  have f46 : Fld Z h36 z0 "com/example/steward/steward/runtime/Agent" "group" "Lcom/example/steward/steward/runtime/Group;" c2 := (((((F_11.other W3 (Or.inl ne16)).other W18 (Or.inr (slot_ne (Or.inl (hw _ (List.mem_of_getElem? (i := 69) rfl))) (Or.inl (hw _ (List.mem_of_getElem? (i := 49) rfl))) (by decide) (t := (.object "com/example/steward/steward/runtime/Group")) (t' := (.object "com/example/steward/steward/runtime/Agent")) (by decide) (by decide)))).other W24 (Or.inl (Ne.symm ne_13))).other W30 (Or.inl (Ne.symm ne_13))).other W36 (Or.inl (Ne.symm ne_13)))
  have f47 : Fld Z h36 z0 "com/example/steward/steward/runtime/Agent" "behind" "Lcom/example/steward/steward/runtime/Agent;" c3 := (((((F_12.other W3 (Or.inl ne16)).other W18 (Or.inr (slot_ne (Or.inl (hw _ (List.mem_of_getElem? (i := 51) rfl))) (Or.inl (hw _ (List.mem_of_getElem? (i := 49) rfl))) (by decide) (t := (.object "com/example/steward/steward/runtime/Agent")) (t' := (.object "com/example/steward/steward/runtime/Agent")) (by decide) (by decide)))).other W24 (Or.inl (Ne.symm ne_13))).other W30 (Or.inl (Ne.symm ne_13))).other W36 (Or.inl (Ne.symm ne_13)))
  have f48 : Fld Z h36 g0 "com/example/steward/steward/runtime/Group" "first" "Lcom/example/steward/steward/runtime/Agent;" (.ref z0) := ((((f6.other W18 (Or.inl (Ne.symm ne16))).other W24 (Or.inl (Ne.symm ne9))).other W30 (Or.inl (Ne.symm ne9))).other W36 (Or.inl (Ne.symm ne9)))
  have f49 : Fld Z h36 g0 "com/example/steward/steward/runtime/Group" "last" "Lcom/example/steward/steward/runtime/Agent;" u5 := (((((F_4.other W3 (Or.inr (slot_ne (Or.inl (hw _ (List.mem_of_getElem? (i := 82) rfl))) (Or.inl (hw _ (List.mem_of_getElem? (i := 58) rfl))) (by decide) (t := (.object "com/example/steward/steward/runtime/Agent")) (t' := (.object "com/example/steward/steward/runtime/Agent")) (by decide) (by decide)))).other W18 (Or.inl (Ne.symm ne16))).other W24 (Or.inl (Ne.symm ne9))).other W30 (Or.inl (Ne.symm ne9))).other W36 (Or.inl (Ne.symm ne9)))
  refine Go.retV X36 hx Bd.returns hlk (hb hby d11_73) ?_ (by decide) (by decide)
  rw [e36]
  exact ⟨(rfl), N36, k38, f40, f41, f42, f43, f39, f44, f45, f46, f47, f48, f49⟩
theorem d11_18 : decode prog_44_method_5_code 18 = .ok (.aload_n 1, 1) := by decide +kernel
theorem d11_19 : decode prog_44_method_5_code 19 = .ok (.getfield 22, 3) := by decide +kernel
theorem d11_22 : decode prog_44_method_5_code 22 = .ok (.aload_n 1, 1) := by decide +kernel
theorem d11_23 : decode prog_44_method_5_code 23 = .ok (.getfield 25, 3) := by decide +kernel
theorem d11_26 : decode prog_44_method_5_code 26 = .ok (.putfield 25, 3) := by decide +kernel
theorem ef_rem10 (m : MethodId) (g0 : Addr) (x0 : Addr) : entryFrame m #[(.ref g0), (.ref x0)] 2 = mkF m 0 #[.val (.ref g0), .val (.ref x0)] [] := by first | (simp [entryFrame, mkF, argsToLocals, Value.category]; done) | rfl
def Qrem10 (Z : State) (g0 : Addr) (x0 : Addr) (u1 : Value) (u4 : Value) (u5 : Value) (y0 : Addr) (a1 : Value) (a2 : Value) (a3 : Value) (h0 : Heap) (n0 : Nat) (v : Option Value) (h : Heap) (L : List Loc) : Prop := (v = none) ∧ (Fr n0 L) ∧ (Keep h0 h [g0, x0, y0]) ∧ (Exa Z h g0 "com/example/steward/steward/runtime/Group") ∧ (Exa Z h x0 "com/example/steward/steward/runtime/Agent") ∧ (Fld Z h x0 "com/example/steward/steward/runtime/Agent" "group" "Lcom/example/steward/steward/runtime/Group;" .null) ∧ (Fld Z h x0 "com/example/steward/steward/runtime/Agent" "ahead" "Lcom/example/steward/steward/runtime/Agent;" .null) ∧ (Fld Z h x0 "com/example/steward/steward/runtime/Agent" "behind" "Lcom/example/steward/steward/runtime/Agent;" .null) ∧ (Exa Z h y0 "com/example/steward/steward/runtime/Agent") ∧ (Fld Z h y0 "com/example/steward/steward/runtime/Agent" "behind" "Lcom/example/steward/steward/runtime/Agent;" .null) ∧ (Fld Z h y0 "com/example/steward/steward/runtime/Agent" "group" "Lcom/example/steward/steward/runtime/Group;" a2) ∧ (Fld Z h y0 "com/example/steward/steward/runtime/Agent" "ahead" "Lcom/example/steward/steward/runtime/Agent;" a3) ∧ (Fld Z h g0 "com/example/steward/steward/runtime/Group" "first" "Lcom/example/steward/steward/runtime/Agent;" u4) ∧ (Fld Z h g0 "com/example/steward/steward/runtime/Group" "last" "Lcom/example/steward/steward/runtime/Agent;" (.ref y0))
set_option maxRecDepth 65536 in
set_option maxHeartbeats 40000000 in
theorem rmrem10 (l : Launch) (Z : State) (aZ : Array Value) (hw : ∀ d ∈ tables_1, d.before aZ Z = true) (ws : List Jvm.Cond) (g0 : Addr) (x0 : Addr) (u1 : Value) (u4 : Value) (u5 : Value) (y0 : Addr) (a1 : Value) (a2 : Value) (a3 : Value) (h0 : Heap) (n0 : Nat) (Z0 : n0 ≤ h0.size) (E_0 : Exa Z h0 g0 "com/example/steward/steward/runtime/Group") (E_1 : Exa Z h0 x0 "com/example/steward/steward/runtime/Agent") (F_2 : Fld Z h0 x0 "com/example/steward/steward/runtime/Agent" "group" "Lcom/example/steward/steward/runtime/Group;" u1) (F_3 : Fld Z h0 g0 "com/example/steward/steward/runtime/Group" "first" "Lcom/example/steward/steward/runtime/Agent;" u4) (F_4 : Fld Z h0 g0 "com/example/steward/steward/runtime/Group" "last" "Lcom/example/steward/steward/runtime/Agent;" u5) (F_5 : Fld Z h0 x0 "com/example/steward/steward/runtime/Agent" "ahead" "Lcom/example/steward/steward/runtime/Agent;" (.ref y0)) (F_6 : Fld Z h0 x0 "com/example/steward/steward/runtime/Agent" "behind" "Lcom/example/steward/steward/runtime/Agent;" .null) (g_7 : n0 ≤ g0) (g_8 : n0 ≤ x0) (E_9 : Exa Z h0 y0 "com/example/steward/steward/runtime/Agent") (F_10 : Fld Z h0 y0 "com/example/steward/steward/runtime/Agent" "behind" "Lcom/example/steward/steward/runtime/Agent;" a1) (F_11 : Fld Z h0 y0 "com/example/steward/steward/runtime/Agent" "group" "Lcom/example/steward/steward/runtime/Group;" a2) (F_12 : Fld Z h0 y0 "com/example/steward/steward/runtime/Agent" "ahead" "Lcom/example/steward/steward/runtime/Agent;" a3) (ne_13 : x0 ≠ y0) (g_14 : n0 ≤ y0) :
    MetFree l (⟨"com/example/steward/steward/runtime/Group", "remove", "(Lcom/example/steward/steward/runtime/Agent;)V"⟩ : MethodName) (head1 (Jvm.Cond.code (⟨"com/example/steward/steward/runtime/Group", "remove", "(Lcom/example/steward/steward/runtime/Agent;)V"⟩ : MethodName) prog_44_method_5_code 2 none :: ws) ({ frames := 0, cells := 0, slots := 0, locals := 0 } : Room)) (fun a U => a = #[(.ref g0), (.ref x0)] ∧ Z.Warmed39 U.vm ∧ U.heap = h0) (fun _ _ _ _ _ => True) (fun _ U o U' => ∃ v L, o = .returned v ∧ Qrem10 Z g0 x0 u1 u4 u5 y0 a1 a2 a3 h0 n0 v U'.heap L ∧ FrameEnd U o U' L ({ frames := 0, cells := 0, slots := 0, locals := 0 } : Room).cells ({ frames := 0, cells := 0, slots := 0, locals := 0 } : Room).slots) := by
  refine MetFree.of_bodySF (plainFor_of_name pn_5) hisR ?_
  intro p e s m args below meth c s₁ Bd hml0 hP hK
  obtain ⟨rfl, hZ, hh⟩ := hP
  have hx := Bd.exec
  have hby := Bd.bytes
  have hml : c.maxLocals = 2 := hml0
  have hown : s.vm.findClass "com/example/steward/steward/runtime/Group" = some m.cls := findClass_of_methodNamed Bd.named
  have hnm := (name_of_methodNamed Bd.named Bd.method).1
  have hlk : meth.locks = false := BodyLoose.notSynchronized Bd
  have X0 : Stand p l e ({ frames := 0, cells := 0, slots := 0, locals := 0 } : Room) s m #[(.ref g0), (.ref x0)] below meth c s₁ [] 0 0 := Stand.of_body Bd
  have e0 : s₁.heap = h0 := by rw [← hh, Bd.state]; rfl
  have N0 := Fr.nil n0
  have sq0 : h0.size ≤ h0.size := Nat.le_refl _
  have k0 : Keep h0 h0 [g0, x0, y0] := Keep.refl _ _
  change Go p e below s ({ frames := 0, cells := 0, slots := 0, locals := 0 } : Room).cells ({ frames := 0, cells := 0, slots := 0, locals := 0 } : Room).slots (Qrem10 Z g0 x0 u1 u4 u5 y0 a1 a2 a3 h0 n0) (s₁.setTop (entryFrame m #[(.ref g0), (.ref x0)] 2))
  rw [ef_rem10 m g0 x0]
  show Go _ _ _ _ _ _ _ (s₁.setTop (mkF m 0 #[.val (.ref g0), .val (.ref x0)] []))
  refine Go.step (fun _ k => XS.aloadN X0.here hx rfl (hb hby d11_0) rfl rfl  k) ?_
  show Go _ _ _ _ _ _ _ (s₁.setTop (mkF m 1 #[.val (.ref g0), .val (.ref x0)] [(.ref x0)]))
  obtain ⟨T1, X1, e1, st1⟩ := getF X0 hx hZ hown (host := "") (Or.inl (hw _ (List.mem_of_getElem? (i := 83) rfl))) Via.refl e0 F_5 (g := (mkF m 1 #[.val (.ref g0), .val (.ref x0)] [(.ref x0)])) rfl rfl (hb hby d11_1)
  refine Go.step st1 ?_
  show Go _ _ _ _ _ _ _ (T1.setTop (mkF m 4 #[.val (.ref g0), .val (.ref x0)] [(.ref y0)]))
  refine Go.step (fun _ k => XS.ifnonnullYes X1.here hx rfl (pc0 := 4) (pc' := 18) rfl (hb hby d11_4) rfl (by decide) (by decide) k) ?_
  show Go _ _ _ _ _ _ _ (T1.setTop (mkF m 18 #[.val (.ref g0), .val (.ref x0)] []))
  refine Go.step (fun _ k => XS.aloadN X1.here hx rfl (hb hby d11_18) rfl rfl  k) ?_
  show Go _ _ _ _ _ _ _ (T1.setTop (mkF m 19 #[.val (.ref g0), .val (.ref x0)] [(.ref x0)]))
  obtain ⟨T2, X2, e2, st2⟩ := getF X1 hx hZ hown (host := "") (Or.inl (hw _ (List.mem_of_getElem? (i := 83) rfl))) Via.refl e1 F_5 (g := (mkF m 19 #[.val (.ref g0), .val (.ref x0)] [(.ref x0)])) rfl rfl (hb hby d11_19)
  refine Go.step st2 ?_
  show Go _ _ _ _ _ _ _ (T2.setTop (mkF m 22 #[.val (.ref g0), .val (.ref x0)] [(.ref y0)]))
  refine Go.step (fun _ k => XS.aloadN X2.here hx rfl (hb hby d11_22) rfl rfl  k) ?_
  show Go _ _ _ _ _ _ _ (T2.setTop (mkF m 23 #[.val (.ref g0), .val (.ref x0)] [(.ref x0), (.ref y0)]))
  obtain ⟨T3, X3, e3, st3⟩ := getF X2 hx hZ hown (host := "") (Or.inl (hw _ (List.mem_of_getElem? (i := 84) rfl))) Via.refl e2 F_6 (g := (mkF m 23 #[.val (.ref g0), .val (.ref x0)] [(.ref x0), (.ref y0)])) rfl rfl (hb hby d11_23)
  refine Go.step st3 ?_
  show Go _ _ _ _ _ _ _ (T3.setTop (mkF m 26 #[.val (.ref g0), .val (.ref x0)] [.null, (.ref y0)]))
  obtain ⟨T4, h4, X4, e4, W4, st4⟩ := putF X3 hx hZ hown (host := "") (Or.inl (hw _ (List.mem_of_getElem? (i := 84) rfl))) Via.refl e3 F_10 E_9 (Or.inl (hw _ (List.mem_of_getElem? (i := 51) rfl))) (hw _ (List.mem_of_getElem? (i := 10) rfl)) (ty := (.object "com/example/steward/steward/runtime/Agent")) (v := .null) (by decide) rfl rfl (g := (mkF m 26 #[.val (.ref g0), .val (.ref x0)] [.null, (.ref y0)])) rfl rfl (hb hby d11_26)
  refine Go.step st4 ?_
  have N4 := Fr.snoc X4 N0 g_14
  have z5 : n0 ≤ h4.size := Nat.le_trans Z0 (Keep.of_wr W4).1
  have sqz5 : h0.size ≤ h4.size := Nat.le_trans sq0 (Keep.of_wr W4).1
  have k6 : Keep h0 h4 [g0, x0, y0] := k0.wr W4 (Or.inl (List.mem_of_getElem? (i := 2) rfl))
  have f7 : Fld Z h4 y0 "com/example/steward/steward/runtime/Agent" "behind" "Lcom/example/steward/steward/runtime/Agent;" .null := F_10.same W4
  show Go _ _ _ _ _ _ _ (T4.setTop (mkF m 29 #[.val (.ref g0), .val (.ref x0)] []))
  refine Go.step (fun _ k => XS.aloadN X4.here hx rfl (hb hby d11_29) rfl rfl  k) ?_
  show Go _ _ _ _ _ _ _ (T4.setTop (mkF m 30 #[.val (.ref g0), .val (.ref x0)] [(.ref x0)]))
  have f8 : Fld Z h4 x0 "com/example/steward/steward/runtime/Agent" "behind" "Lcom/example/steward/steward/runtime/Agent;" .null := (F_6.other W4 (Or.inl ne_13))
  obtain ⟨T9, X9, e9, st9⟩ := getF X4 hx hZ hown (host := "") (Or.inl (hw _ (List.mem_of_getElem? (i := 84) rfl))) Via.refl e4 f8 (g := (mkF m 30 #[.val (.ref g0), .val (.ref x0)] [(.ref x0)])) rfl rfl (hb hby d11_30)
  refine Go.step st9 ?_
  show Go _ _ _ _ _ _ _ (T9.setTop (mkF m 33 #[.val (.ref g0), .val (.ref x0)] [.null]))
  refine Go.step (fun _ k => XS.ifnonnullNo X9.here hx rfl (hb hby d11_33) rfl k) ?_
  show Go _ _ _ _ _ _ _ (T9.setTop (mkF m 36 #[.val (.ref g0), .val (.ref x0)] []))
  refine Go.step (fun _ k => XS.aloadN X9.here hx rfl (hb hby d11_36) rfl rfl  k) ?_
  show Go _ _ _ _ _ _ _ (T9.setTop (mkF m 37 #[.val (.ref g0), .val (.ref x0)] [(.ref g0)]))
  refine Go.step (fun _ k => XS.aloadN X9.here hx rfl (hb hby d11_37) rfl rfl  k) ?_
  show Go _ _ _ _ _ _ _ (T9.setTop (mkF m 38 #[.val (.ref g0), .val (.ref x0)] [(.ref x0), (.ref g0)]))
  have f10 : Fld Z h4 x0 "com/example/steward/steward/runtime/Agent" "ahead" "Lcom/example/steward/steward/runtime/Agent;" (.ref y0) := (F_5.other W4 (Or.inl ne_13))
  obtain ⟨T11, X11, e11, st11⟩ := getF X9 hx hZ hown (host := "") (Or.inl (hw _ (List.mem_of_getElem? (i := 83) rfl))) Via.refl e9 f10 (g := (mkF m 38 #[.val (.ref g0), .val (.ref x0)] [(.ref x0), (.ref g0)])) rfl rfl (hb hby d11_38)
  refine Go.step st11 ?_
  show Go _ _ _ _ _ _ _ (T11.setTop (mkF m 41 #[.val (.ref g0), .val (.ref x0)] [(.ref y0), (.ref g0)]))
  have f12 : Exa Z h4 g0 "com/example/steward/steward/runtime/Group" := (E_0.wr W4)
  have f13 : Exa Z h4 y0 "com/example/steward/steward/runtime/Agent" := (E_9.wr W4)
  have ne14 : g0 ≠ y0 := ne_exa f12 f13 (by decide)
  have f15 : Fld Z h4 g0 "com/example/steward/steward/runtime/Group" "last" "Lcom/example/steward/steward/runtime/Agent;" u5 := (F_4.other W4 (Or.inl ne14))
  obtain ⟨T16, h16, X16, e16, W16, st16⟩ := putF X11 hx hZ hown (host := "") (Or.inl (hw _ (List.mem_of_getElem? (i := 81) rfl))) Via.refl e11 f15 f12 (Or.inl (hw _ (List.mem_of_getElem? (i := 82) rfl))) (hw _ (List.mem_of_getElem? (i := 1) rfl)) (ty := (.object "com/example/steward/steward/runtime/Agent")) (v := (.ref y0)) (by decide) rfl rfl (g := (mkF m 41 #[.val (.ref g0), .val (.ref x0)] [(.ref y0), (.ref g0)])) rfl rfl (hb hby d11_41)
  refine Go.step st16 ?_
  have N16 := Fr.snoc X16 N4 g_7
  have z17 : n0 ≤ h16.size := Nat.le_trans z5 (Keep.of_wr W16).1
  have sqz17 : h0.size ≤ h16.size := Nat.le_trans sqz5 (Keep.of_wr W16).1
  have k18 : Keep h0 h16 [g0, x0, y0] := k6.wr W16 (Or.inl (List.mem_of_getElem? (i := 0) rfl))
  have f19 : Fld Z h16 g0 "com/example/steward/steward/runtime/Group" "last" "Lcom/example/steward/steward/runtime/Agent;" (.ref y0) := f15.same W16
  show Go _ _ _ _ _ _ _ (T16.setTop (mkF m 44 #[.val (.ref g0), .val (.ref x0)] []))
  refine Go.step (fun _ k => XS.goto X16.here hx rfl (pc0 := 44) (pc' := 58) rfl (hb hby d11_44) (by decide) (by decide) k) ?_
  show Go _ _ _ _ _ _ _ (T16.setTop (mkF m 58 #[.val (.ref g0), .val (.ref x0)] []))
  refine Go.step (fun _ k => XS.aloadN X16.here hx rfl (hb hby d11_58) rfl rfl  k) ?_
  show Go _ _ _ _ _ _ _ (T16.setTop (mkF m 59 #[.val (.ref g0), .val (.ref x0)] [(.ref x0)]))
  refine Go.step (fun _ k => XS.aconstNull X16.here hx rfl (hb hby d11_59) k) ?_
  show Go _ _ _ _ _ _ _ (T16.setTop (mkF m 60 #[.val (.ref g0), .val (.ref x0)] [.null, (.ref x0)]))
  have f20 : Exa Z h16 x0 "com/example/steward/steward/runtime/Agent" := ((E_1.wr W4).wr W16)
  have f21 : Exa Z h16 g0 "com/example/steward/steward/runtime/Group" := (f12.wr W16)
  have ne22 : x0 ≠ g0 := ne_exa f20 f21 (by decide)
  have f23 : Fld Z h16 x0 "com/example/steward/steward/runtime/Agent" "group" "Lcom/example/steward/steward/runtime/Group;" u1 := ((F_2.other W4 (Or.inl ne_13)).other W16 (Or.inl ne22))
  obtain ⟨T24, h24, X24, e24, W24, st24⟩ := putF X16 hx hZ hown (host := "") (Or.inl (hw _ (List.mem_of_getElem? (i := 80) rfl))) Via.refl e16 f23 f20 (Or.inl (hw _ (List.mem_of_getElem? (i := 69) rfl))) (hw _ (List.mem_of_getElem? (i := 10) rfl)) (ty := (.object "com/example/steward/steward/runtime/Group")) (v := .null) (by decide) rfl rfl (g := (mkF m 60 #[.val (.ref g0), .val (.ref x0)] [.null, (.ref x0)])) rfl rfl (hb hby d11_60)
  refine Go.step st24 ?_
  have N24 := Fr.snoc X24 N16 g_8
  have z25 : n0 ≤ h24.size := Nat.le_trans z17 (Keep.of_wr W24).1
  have sqz25 : h0.size ≤ h24.size := Nat.le_trans sqz17 (Keep.of_wr W24).1
  have k26 : Keep h0 h24 [g0, x0, y0] := k18.wr W24 (Or.inl (List.mem_of_getElem? (i := 1) rfl))
  have f27 : Fld Z h24 x0 "com/example/steward/steward/runtime/Agent" "group" "Lcom/example/steward/steward/runtime/Group;" .null := f23.same W24
  show Go _ _ _ _ _ _ _ (T24.setTop (mkF m 63 #[.val (.ref g0), .val (.ref x0)] []))
  refine Go.step (fun _ k => XS.aloadN X24.here hx rfl (hb hby d11_63) rfl rfl  k) ?_
  show Go _ _ _ _ _ _ _ (T24.setTop (mkF m 64 #[.val (.ref g0), .val (.ref x0)] [(.ref x0)]))
  refine Go.step (fun _ k => XS.aconstNull X24.here hx rfl (hb hby d11_64) k) ?_
  show Go _ _ _ _ _ _ _ (T24.setTop (mkF m 65 #[.val (.ref g0), .val (.ref x0)] [.null, (.ref x0)]))
  have f28 : Exa Z h24 x0 "com/example/steward/steward/runtime/Agent" := (f20.wr W24)
  have f29 : Fld Z h24 x0 "com/example/steward/steward/runtime/Agent" "ahead" "Lcom/example/steward/steward/runtime/Agent;" (.ref y0) := ((f10.other W16 (Or.inl ne22)).other W24 (Or.inr (slot_ne (Or.inl (hw _ (List.mem_of_getElem? (i := 49) rfl))) (Or.inl (hw _ (List.mem_of_getElem? (i := 69) rfl))) (by decide) (t := (.object "com/example/steward/steward/runtime/Agent")) (t' := (.object "com/example/steward/steward/runtime/Group")) (by decide) (by decide))))
  obtain ⟨T30, h30, X30, e30, W30, st30⟩ := putF X24 hx hZ hown (host := "") (Or.inl (hw _ (List.mem_of_getElem? (i := 83) rfl))) Via.refl e24 f29 f28 (Or.inl (hw _ (List.mem_of_getElem? (i := 49) rfl))) (hw _ (List.mem_of_getElem? (i := 10) rfl)) (ty := (.object "com/example/steward/steward/runtime/Agent")) (v := .null) (by decide) rfl rfl (g := (mkF m 65 #[.val (.ref g0), .val (.ref x0)] [.null, (.ref x0)])) rfl rfl (hb hby d11_65)
  refine Go.step st30 ?_
  have N30 := Fr.snoc X30 N24 g_8
  have z31 : n0 ≤ h30.size := Nat.le_trans z25 (Keep.of_wr W30).1
  have sqz31 : h0.size ≤ h30.size := Nat.le_trans sqz25 (Keep.of_wr W30).1
  have k32 : Keep h0 h30 [g0, x0, y0] := k26.wr W30 (Or.inl (List.mem_of_getElem? (i := 1) rfl))
  have f33 : Fld Z h30 x0 "com/example/steward/steward/runtime/Agent" "ahead" "Lcom/example/steward/steward/runtime/Agent;" .null := f29.same W30
  show Go _ _ _ _ _ _ _ (T30.setTop (mkF m 68 #[.val (.ref g0), .val (.ref x0)] []))
  refine Go.step (fun _ k => XS.aloadN X30.here hx rfl (hb hby d11_68) rfl rfl  k) ?_
  show Go _ _ _ _ _ _ _ (T30.setTop (mkF m 69 #[.val (.ref g0), .val (.ref x0)] [(.ref x0)]))
  refine Go.step (fun _ k => XS.aconstNull X30.here hx rfl (hb hby d11_69) k) ?_
  show Go _ _ _ _ _ _ _ (T30.setTop (mkF m 70 #[.val (.ref g0), .val (.ref x0)] [.null, (.ref x0)]))
  have f34 : Exa Z h30 x0 "com/example/steward/steward/runtime/Agent" := (f28.wr W30)
  have f35 : Fld Z h30 x0 "com/example/steward/steward/runtime/Agent" "behind" "Lcom/example/steward/steward/runtime/Agent;" .null := (((f8.other W16 (Or.inl ne22)).other W24 (Or.inr (slot_ne (Or.inl (hw _ (List.mem_of_getElem? (i := 51) rfl))) (Or.inl (hw _ (List.mem_of_getElem? (i := 69) rfl))) (by decide) (t := (.object "com/example/steward/steward/runtime/Agent")) (t' := (.object "com/example/steward/steward/runtime/Group")) (by decide) (by decide)))).other W30 (Or.inr (slot_ne (Or.inl (hw _ (List.mem_of_getElem? (i := 51) rfl))) (Or.inl (hw _ (List.mem_of_getElem? (i := 49) rfl))) (by decide) (t := (.object "com/example/steward/steward/runtime/Agent")) (t' := (.object "com/example/steward/steward/runtime/Agent")) (by decide) (by decide))))
  obtain ⟨T36, h36, X36, e36, W36, st36⟩ := putF X30 hx hZ hown (host := "") (Or.inl (hw _ (List.mem_of_getElem? (i := 84) rfl))) Via.refl e30 f35 f34 (Or.inl (hw _ (List.mem_of_getElem? (i := 51) rfl))) (hw _ (List.mem_of_getElem? (i := 10) rfl)) (ty := (.object "com/example/steward/steward/runtime/Agent")) (v := .null) (by decide) rfl rfl (g := (mkF m 70 #[.val (.ref g0), .val (.ref x0)] [.null, (.ref x0)])) rfl rfl (hb hby d11_70)
  refine Go.step st36 ?_
  have N36 := Fr.snoc X36 N30 g_8
  have z37 : n0 ≤ h36.size := Nat.le_trans z31 (Keep.of_wr W36).1
  have sqz37 : h0.size ≤ h36.size := Nat.le_trans sqz31 (Keep.of_wr W36).1
  have k38 : Keep h0 h36 [g0, x0, y0] := k32.wr W36 (Or.inl (List.mem_of_getElem? (i := 1) rfl))
  have f39 : Fld Z h36 x0 "com/example/steward/steward/runtime/Agent" "behind" "Lcom/example/steward/steward/runtime/Agent;" .null := f35.same W36
  show Go _ _ _ _ _ _ _ (T36.setTop (mkF m 73 #[.val (.ref g0), .val (.ref x0)] []))
  have f40 : Exa Z h36 g0 "com/example/steward/steward/runtime/Group" := (((f21.wr W24).wr W30).wr W36)
  have f41 : Exa Z h36 x0 "com/example/steward/steward/runtime/Agent" := (f34.wr W36)
  have f42 : Fld Z h36 x0 "com/example/steward/steward/runtime/Agent" "group" "Lcom/example/steward/steward/runtime/Group;" .null := ((f27.other W30 (Or.inr (slot_ne (Or.inl (hw _ (List.mem_of_getElem? (i := 69) rfl))) (Or.inl (hw _ (List.mem_of_getElem? (i := 49) rfl))) (by decide) (t := (.object "com/example/steward/steward/runtime/Group")) (t' := (.object "com/example/steward/steward/runtime/Agent")) (by decide) (by decide)))).other W36 (Or.inr (slot_ne (Or.inl (hw _ (List.mem_of_getElem? (i := 69) rfl))) (Or.inl (hw _ (List.mem_of_getElem? (i := 51) rfl))) (by decide) (t := (.object "com/example/steward/steward/runtime/Group")) (t' := (.object "com/example/steward/steward/runtime/Agent")) (by decide) (by decide))))
  have f43 : Fld Z h36 x0 "com/example/steward/steward/runtime/Agent" "ahead" "Lcom/example/steward/steward/runtime/Agent;" .null := (f33.other W36 (Or.inr (slot_ne (Or.inl (hw _ (List.mem_of_getElem? (i := 49) rfl))) (Or.inl (hw _ (List.mem_of_getElem? (i := 51) rfl))) (by decide) (t := (.object "com/example/steward/steward/runtime/Agent")) (t' := (.object "com/example/steward/steward/runtime/Agent")) (by decide) (by decide))))
  have f44 : Exa Z h36 y0 "com/example/steward/steward/runtime/Agent" := ((((f13.wr W16).wr W24).wr W30).wr W36)
  have f45 : Fld Z h36 y0 "com/example/steward/steward/runtime/Agent" "behind" "Lcom/example/steward/steward/runtime/Agent;" .null := ((((f7.other W16 (Or.inl (Ne.symm ne14))).other W24 (Or.inl (Ne.symm ne_13))).other W30 (Or.inl (Ne.symm ne_13))).other W36 (Or.inl (Ne.symm ne_13)))
  have f46 : Fld Z h36 y0 "com/example/steward/steward/runtime/Agent" "group" "Lcom/example/steward/steward/runtime/Group;" a2 := (((((F_11.other W4 (Or.inr (slot_ne (Or.inl (hw _ (List.mem_of_getElem? (i := 69) rfl))) (Or.inl (hw _ (List.mem_of_getElem? (i := 51) rfl))) (by decide) (t := (.object "com/example/steward/steward/runtime/Group")) (t' := (.object "com/example/steward/steward/runtime/Agent")) (by decide) (by decide)))).other W16 (Or.inl (Ne.symm ne14))).other W24 (Or.inl (Ne.symm ne_13))).other W30 (Or.inl (Ne.symm ne_13))).other W36 (Or.inl (Ne.symm ne_13)))
  have f47 : Fld Z h36 y0 "com/example/steward/steward/runtime/Agent" "ahead" "Lcom/example/steward/steward/runtime/Agent;" a3 := (((((F_12.other W4 (Or.inr (slot_ne (Or.inl (hw _ (List.mem_of_getElem? (i := 49) rfl))) (Or.inl (hw _ (List.mem_of_getElem? (i := 51) rfl))) (by decide) (t := (.object "com/example/steward/steward/runtime/Agent")) (t' := (.object "com/example/steward/steward/runtime/Agent")) (by decide) (by decide)))).other W16 (Or.inl (Ne.symm ne14))).other W24 (Or.inl (Ne.symm ne_13))).other W30 (Or.inl (Ne.symm ne_13))).other W36 (Or.inl (Ne.symm ne_13)))
  have f48 : Fld Z h36 g0 "com/example/steward/steward/runtime/Group" "first" "Lcom/example/steward/steward/runtime/Agent;" u4 := (((((F_3.other W4 (Or.inl ne14)).other W16 (Or.inr (slot_ne (Or.inl (hw _ (List.mem_of_getElem? (i := 58) rfl))) (Or.inl (hw _ (List.mem_of_getElem? (i := 82) rfl))) (by decide) (t := (.object "com/example/steward/steward/runtime/Agent")) (t' := (.object "com/example/steward/steward/runtime/Agent")) (by decide) (by decide)))).other W24 (Or.inl (Ne.symm ne22))).other W30 (Or.inl (Ne.symm ne22))).other W36 (Or.inl (Ne.symm ne22)))
  have f49 : Fld Z h36 g0 "com/example/steward/steward/runtime/Group" "last" "Lcom/example/steward/steward/runtime/Agent;" (.ref y0) := (((f19.other W24 (Or.inl (Ne.symm ne22))).other W30 (Or.inl (Ne.symm ne22))).other W36 (Or.inl (Ne.symm ne22)))
  refine Go.retV X36 hx Bd.returns hlk (hb hby d11_73) ?_ (by decide) (by decide)
  rw [e36]
  exact ⟨(rfl), N36, k38, f40, f41, f42, f43, f39, f44, f45, f46, f47, f48, f49⟩
theorem ef_rem11 (m : MethodId) (g0 : Addr) (x0 : Addr) : entryFrame m #[(.ref g0), (.ref x0)] 2 = mkF m 0 #[.val (.ref g0), .val (.ref x0)] [] := by first | (simp [entryFrame, mkF, argsToLocals, Value.category]; done) | rfl
def Qrem11 (Z : State) (g0 : Addr) (x0 : Addr) (u1 : Value) (u4 : Value) (u5 : Value) (y0 : Addr) (a1 : Value) (a2 : Value) (a3 : Value) (z0 : Addr) (c1 : Value) (c2 : Value) (c3 : Value) (h0 : Heap) (n0 : Nat) (v : Option Value) (h : Heap) (L : List Loc) : Prop := (v = none) ∧ (Fr n0 L) ∧ (Keep h0 h [g0, x0, y0, z0]) ∧ (Exa Z h g0 "com/example/steward/steward/runtime/Group") ∧ (Exa Z h x0 "com/example/steward/steward/runtime/Agent") ∧ (Fld Z h x0 "com/example/steward/steward/runtime/Agent" "group" "Lcom/example/steward/steward/runtime/Group;" .null) ∧ (Fld Z h x0 "com/example/steward/steward/runtime/Agent" "ahead" "Lcom/example/steward/steward/runtime/Agent;" .null) ∧ (Fld Z h x0 "com/example/steward/steward/runtime/Agent" "behind" "Lcom/example/steward/steward/runtime/Agent;" .null) ∧ (Exa Z h y0 "com/example/steward/steward/runtime/Agent") ∧ (Fld Z h y0 "com/example/steward/steward/runtime/Agent" "behind" "Lcom/example/steward/steward/runtime/Agent;" (.ref z0)) ∧ (Fld Z h y0 "com/example/steward/steward/runtime/Agent" "group" "Lcom/example/steward/steward/runtime/Group;" a2) ∧ (Fld Z h y0 "com/example/steward/steward/runtime/Agent" "ahead" "Lcom/example/steward/steward/runtime/Agent;" a3) ∧ (Exa Z h z0 "com/example/steward/steward/runtime/Agent") ∧ (Fld Z h z0 "com/example/steward/steward/runtime/Agent" "ahead" "Lcom/example/steward/steward/runtime/Agent;" (.ref y0)) ∧ (Fld Z h z0 "com/example/steward/steward/runtime/Agent" "group" "Lcom/example/steward/steward/runtime/Group;" c2) ∧ (Fld Z h z0 "com/example/steward/steward/runtime/Agent" "behind" "Lcom/example/steward/steward/runtime/Agent;" c3) ∧ (Fld Z h g0 "com/example/steward/steward/runtime/Group" "first" "Lcom/example/steward/steward/runtime/Agent;" u4) ∧ (Fld Z h g0 "com/example/steward/steward/runtime/Group" "last" "Lcom/example/steward/steward/runtime/Agent;" u5)
set_option maxRecDepth 65536 in
set_option maxHeartbeats 40000000 in
theorem rmrem11 (l : Launch) (Z : State) (aZ : Array Value) (hw : ∀ d ∈ tables_1, d.before aZ Z = true) (ws : List Jvm.Cond) (g0 : Addr) (x0 : Addr) (u1 : Value) (u4 : Value) (u5 : Value) (y0 : Addr) (a1 : Value) (a2 : Value) (a3 : Value) (z0 : Addr) (c1 : Value) (c2 : Value) (c3 : Value) (h0 : Heap) (n0 : Nat) (Z0 : n0 ≤ h0.size) (E_0 : Exa Z h0 g0 "com/example/steward/steward/runtime/Group") (E_1 : Exa Z h0 x0 "com/example/steward/steward/runtime/Agent") (F_2 : Fld Z h0 x0 "com/example/steward/steward/runtime/Agent" "group" "Lcom/example/steward/steward/runtime/Group;" u1) (F_3 : Fld Z h0 g0 "com/example/steward/steward/runtime/Group" "first" "Lcom/example/steward/steward/runtime/Agent;" u4) (F_4 : Fld Z h0 g0 "com/example/steward/steward/runtime/Group" "last" "Lcom/example/steward/steward/runtime/Agent;" u5) (F_5 : Fld Z h0 x0 "com/example/steward/steward/runtime/Agent" "ahead" "Lcom/example/steward/steward/runtime/Agent;" (.ref y0)) (F_6 : Fld Z h0 x0 "com/example/steward/steward/runtime/Agent" "behind" "Lcom/example/steward/steward/runtime/Agent;" (.ref z0)) (g_7 : n0 ≤ g0) (g_8 : n0 ≤ x0) (E_9 : Exa Z h0 y0 "com/example/steward/steward/runtime/Agent") (F_10 : Fld Z h0 y0 "com/example/steward/steward/runtime/Agent" "behind" "Lcom/example/steward/steward/runtime/Agent;" a1) (F_11 : Fld Z h0 y0 "com/example/steward/steward/runtime/Agent" "group" "Lcom/example/steward/steward/runtime/Group;" a2) (F_12 : Fld Z h0 y0 "com/example/steward/steward/runtime/Agent" "ahead" "Lcom/example/steward/steward/runtime/Agent;" a3) (ne_13 : x0 ≠ y0) (g_14 : n0 ≤ y0) (E_15 : Exa Z h0 z0 "com/example/steward/steward/runtime/Agent") (F_16 : Fld Z h0 z0 "com/example/steward/steward/runtime/Agent" "ahead" "Lcom/example/steward/steward/runtime/Agent;" c1) (F_17 : Fld Z h0 z0 "com/example/steward/steward/runtime/Agent" "group" "Lcom/example/steward/steward/runtime/Group;" c2) (F_18 : Fld Z h0 z0 "com/example/steward/steward/runtime/Agent" "behind" "Lcom/example/steward/steward/runtime/Agent;" c3) (ne_19 : x0 ≠ z0) (g_20 : n0 ≤ z0) (ne_21 : y0 ≠ z0) :
    MetFree l (⟨"com/example/steward/steward/runtime/Group", "remove", "(Lcom/example/steward/steward/runtime/Agent;)V"⟩ : MethodName) (head1 (Jvm.Cond.code (⟨"com/example/steward/steward/runtime/Group", "remove", "(Lcom/example/steward/steward/runtime/Agent;)V"⟩ : MethodName) prog_44_method_5_code 2 none :: ws) ({ frames := 0, cells := 0, slots := 0, locals := 0 } : Room)) (fun a U => a = #[(.ref g0), (.ref x0)] ∧ Z.Warmed39 U.vm ∧ U.heap = h0) (fun _ _ _ _ _ => True) (fun _ U o U' => ∃ v L, o = .returned v ∧ Qrem11 Z g0 x0 u1 u4 u5 y0 a1 a2 a3 z0 c1 c2 c3 h0 n0 v U'.heap L ∧ FrameEnd U o U' L ({ frames := 0, cells := 0, slots := 0, locals := 0 } : Room).cells ({ frames := 0, cells := 0, slots := 0, locals := 0 } : Room).slots) := by
  refine MetFree.of_bodySF (plainFor_of_name pn_5) hisR ?_
  intro p e s m args below meth c s₁ Bd hml0 hP hK
  obtain ⟨rfl, hZ, hh⟩ := hP
  have hx := Bd.exec
  have hby := Bd.bytes
  have hml : c.maxLocals = 2 := hml0
  have hown : s.vm.findClass "com/example/steward/steward/runtime/Group" = some m.cls := findClass_of_methodNamed Bd.named
  have hnm := (name_of_methodNamed Bd.named Bd.method).1
  have hlk : meth.locks = false := BodyLoose.notSynchronized Bd
  have X0 : Stand p l e ({ frames := 0, cells := 0, slots := 0, locals := 0 } : Room) s m #[(.ref g0), (.ref x0)] below meth c s₁ [] 0 0 := Stand.of_body Bd
  have e0 : s₁.heap = h0 := by rw [← hh, Bd.state]; rfl
  have N0 := Fr.nil n0
  have sq0 : h0.size ≤ h0.size := Nat.le_refl _
  have k0 : Keep h0 h0 [g0, x0, y0, z0] := Keep.refl _ _
  change Go p e below s ({ frames := 0, cells := 0, slots := 0, locals := 0 } : Room).cells ({ frames := 0, cells := 0, slots := 0, locals := 0 } : Room).slots (Qrem11 Z g0 x0 u1 u4 u5 y0 a1 a2 a3 z0 c1 c2 c3 h0 n0) (s₁.setTop (entryFrame m #[(.ref g0), (.ref x0)] 2))
  rw [ef_rem11 m g0 x0]
  show Go _ _ _ _ _ _ _ (s₁.setTop (mkF m 0 #[.val (.ref g0), .val (.ref x0)] []))
  refine Go.step (fun _ k => XS.aloadN X0.here hx rfl (hb hby d11_0) rfl rfl  k) ?_
  show Go _ _ _ _ _ _ _ (s₁.setTop (mkF m 1 #[.val (.ref g0), .val (.ref x0)] [(.ref x0)]))
  obtain ⟨T1, X1, e1, st1⟩ := getF X0 hx hZ hown (host := "") (Or.inl (hw _ (List.mem_of_getElem? (i := 83) rfl))) Via.refl e0 F_5 (g := (mkF m 1 #[.val (.ref g0), .val (.ref x0)] [(.ref x0)])) rfl rfl (hb hby d11_1)
  refine Go.step st1 ?_
  show Go _ _ _ _ _ _ _ (T1.setTop (mkF m 4 #[.val (.ref g0), .val (.ref x0)] [(.ref y0)]))
  refine Go.step (fun _ k => XS.ifnonnullYes X1.here hx rfl (pc0 := 4) (pc' := 18) rfl (hb hby d11_4) rfl (by decide) (by decide) k) ?_
  show Go _ _ _ _ _ _ _ (T1.setTop (mkF m 18 #[.val (.ref g0), .val (.ref x0)] []))
  refine Go.step (fun _ k => XS.aloadN X1.here hx rfl (hb hby d11_18) rfl rfl  k) ?_
  show Go _ _ _ _ _ _ _ (T1.setTop (mkF m 19 #[.val (.ref g0), .val (.ref x0)] [(.ref x0)]))
  obtain ⟨T2, X2, e2, st2⟩ := getF X1 hx hZ hown (host := "") (Or.inl (hw _ (List.mem_of_getElem? (i := 83) rfl))) Via.refl e1 F_5 (g := (mkF m 19 #[.val (.ref g0), .val (.ref x0)] [(.ref x0)])) rfl rfl (hb hby d11_19)
  refine Go.step st2 ?_
  show Go _ _ _ _ _ _ _ (T2.setTop (mkF m 22 #[.val (.ref g0), .val (.ref x0)] [(.ref y0)]))
  refine Go.step (fun _ k => XS.aloadN X2.here hx rfl (hb hby d11_22) rfl rfl  k) ?_
  show Go _ _ _ _ _ _ _ (T2.setTop (mkF m 23 #[.val (.ref g0), .val (.ref x0)] [(.ref x0), (.ref y0)]))
  obtain ⟨T3, X3, e3, st3⟩ := getF X2 hx hZ hown (host := "") (Or.inl (hw _ (List.mem_of_getElem? (i := 84) rfl))) Via.refl e2 F_6 (g := (mkF m 23 #[.val (.ref g0), .val (.ref x0)] [(.ref x0), (.ref y0)])) rfl rfl (hb hby d11_23)
  refine Go.step st3 ?_
  show Go _ _ _ _ _ _ _ (T3.setTop (mkF m 26 #[.val (.ref g0), .val (.ref x0)] [(.ref z0), (.ref y0)]))
  obtain ⟨T4, h4, X4, e4, W4, st4⟩ := putF X3 hx hZ hown (host := "") (Or.inl (hw _ (List.mem_of_getElem? (i := 84) rfl))) Via.refl e3 F_10 E_9 (Or.inl (hw _ (List.mem_of_getElem? (i := 51) rfl))) (hw _ (List.mem_of_getElem? (i := 10) rfl)) (ty := (.object "com/example/steward/steward/runtime/Agent")) (v := (.ref z0)) (by decide) rfl rfl (g := (mkF m 26 #[.val (.ref g0), .val (.ref x0)] [(.ref z0), (.ref y0)])) rfl rfl (hb hby d11_26)
  refine Go.step st4 ?_
  have N4 := Fr.snoc X4 N0 g_14
  have z5 : n0 ≤ h4.size := Nat.le_trans Z0 (Keep.of_wr W4).1
  have sqz5 : h0.size ≤ h4.size := Nat.le_trans sq0 (Keep.of_wr W4).1
  have k6 : Keep h0 h4 [g0, x0, y0, z0] := k0.wr W4 (Or.inl (List.mem_of_getElem? (i := 2) rfl))
  have f7 : Fld Z h4 y0 "com/example/steward/steward/runtime/Agent" "behind" "Lcom/example/steward/steward/runtime/Agent;" (.ref z0) := F_10.same W4
  show Go _ _ _ _ _ _ _ (T4.setTop (mkF m 29 #[.val (.ref g0), .val (.ref x0)] []))
  refine Go.step (fun _ k => XS.aloadN X4.here hx rfl (hb hby d11_29) rfl rfl  k) ?_
  show Go _ _ _ _ _ _ _ (T4.setTop (mkF m 30 #[.val (.ref g0), .val (.ref x0)] [(.ref x0)]))
  have f8 : Fld Z h4 x0 "com/example/steward/steward/runtime/Agent" "behind" "Lcom/example/steward/steward/runtime/Agent;" (.ref z0) := (F_6.other W4 (Or.inl ne_13))
  obtain ⟨T9, X9, e9, st9⟩ := getF X4 hx hZ hown (host := "") (Or.inl (hw _ (List.mem_of_getElem? (i := 84) rfl))) Via.refl e4 f8 (g := (mkF m 30 #[.val (.ref g0), .val (.ref x0)] [(.ref x0)])) rfl rfl (hb hby d11_30)
  refine Go.step st9 ?_
  show Go _ _ _ _ _ _ _ (T9.setTop (mkF m 33 #[.val (.ref g0), .val (.ref x0)] [(.ref z0)]))
  refine Go.step (fun _ k => XS.ifnonnullYes X9.here hx rfl (pc0 := 33) (pc' := 47) rfl (hb hby d11_33) rfl (by decide) (by decide) k) ?_
  show Go _ _ _ _ _ _ _ (T9.setTop (mkF m 47 #[.val (.ref g0), .val (.ref x0)] []))
  refine Go.step (fun _ k => XS.aloadN X9.here hx rfl (hb hby d11_47) rfl rfl  k) ?_
  show Go _ _ _ _ _ _ _ (T9.setTop (mkF m 48 #[.val (.ref g0), .val (.ref x0)] [(.ref x0)]))
  obtain ⟨T10, X10, e10, st10⟩ := getF X9 hx hZ hown (host := "") (Or.inl (hw _ (List.mem_of_getElem? (i := 84) rfl))) Via.refl e9 f8 (g := (mkF m 48 #[.val (.ref g0), .val (.ref x0)] [(.ref x0)])) rfl rfl (hb hby d11_48)
  refine Go.step st10 ?_
  show Go _ _ _ _ _ _ _ (T10.setTop (mkF m 51 #[.val (.ref g0), .val (.ref x0)] [(.ref z0)]))
  refine Go.step (fun _ k => XS.aloadN X10.here hx rfl (hb hby d11_51) rfl rfl  k) ?_
  show Go _ _ _ _ _ _ _ (T10.setTop (mkF m 52 #[.val (.ref g0), .val (.ref x0)] [(.ref x0), (.ref z0)]))
  have f11 : Fld Z h4 x0 "com/example/steward/steward/runtime/Agent" "ahead" "Lcom/example/steward/steward/runtime/Agent;" (.ref y0) := (F_5.other W4 (Or.inl ne_13))
  obtain ⟨T12, X12, e12, st12⟩ := getF X10 hx hZ hown (host := "") (Or.inl (hw _ (List.mem_of_getElem? (i := 83) rfl))) Via.refl e10 f11 (g := (mkF m 52 #[.val (.ref g0), .val (.ref x0)] [(.ref x0), (.ref z0)])) rfl rfl (hb hby d11_52)
  refine Go.step st12 ?_
  show Go _ _ _ _ _ _ _ (T12.setTop (mkF m 55 #[.val (.ref g0), .val (.ref x0)] [(.ref y0), (.ref z0)]))
  have f13 : Exa Z h4 z0 "com/example/steward/steward/runtime/Agent" := (E_15.wr W4)
  have f14 : Fld Z h4 z0 "com/example/steward/steward/runtime/Agent" "ahead" "Lcom/example/steward/steward/runtime/Agent;" c1 := (F_16.other W4 (Or.inl (Ne.symm ne_21)))
  obtain ⟨T15, h15, X15, e15, W15, st15⟩ := putF X12 hx hZ hown (host := "") (Or.inl (hw _ (List.mem_of_getElem? (i := 83) rfl))) Via.refl e12 f14 f13 (Or.inl (hw _ (List.mem_of_getElem? (i := 49) rfl))) (hw _ (List.mem_of_getElem? (i := 10) rfl)) (ty := (.object "com/example/steward/steward/runtime/Agent")) (v := (.ref y0)) (by decide) rfl rfl (g := (mkF m 55 #[.val (.ref g0), .val (.ref x0)] [(.ref y0), (.ref z0)])) rfl rfl (hb hby d11_55)
  refine Go.step st15 ?_
  have N15 := Fr.snoc X15 N4 g_20
  have z16 : n0 ≤ h15.size := Nat.le_trans z5 (Keep.of_wr W15).1
  have sqz16 : h0.size ≤ h15.size := Nat.le_trans sqz5 (Keep.of_wr W15).1
  have k17 : Keep h0 h15 [g0, x0, y0, z0] := k6.wr W15 (Or.inl (List.mem_of_getElem? (i := 3) rfl))
  have f18 : Fld Z h15 z0 "com/example/steward/steward/runtime/Agent" "ahead" "Lcom/example/steward/steward/runtime/Agent;" (.ref y0) := f14.same W15
  show Go _ _ _ _ _ _ _ (T15.setTop (mkF m 58 #[.val (.ref g0), .val (.ref x0)] []))
  refine Go.step (fun _ k => XS.aloadN X15.here hx rfl (hb hby d11_58) rfl rfl  k) ?_
  show Go _ _ _ _ _ _ _ (T15.setTop (mkF m 59 #[.val (.ref g0), .val (.ref x0)] [(.ref x0)]))
  refine Go.step (fun _ k => XS.aconstNull X15.here hx rfl (hb hby d11_59) k) ?_
  show Go _ _ _ _ _ _ _ (T15.setTop (mkF m 60 #[.val (.ref g0), .val (.ref x0)] [.null, (.ref x0)]))
  have f19 : Exa Z h15 x0 "com/example/steward/steward/runtime/Agent" := ((E_1.wr W4).wr W15)
  have f20 : Fld Z h15 x0 "com/example/steward/steward/runtime/Agent" "group" "Lcom/example/steward/steward/runtime/Group;" u1 := ((F_2.other W4 (Or.inl ne_13)).other W15 (Or.inl ne_19))
  obtain ⟨T21, h21, X21, e21, W21, st21⟩ := putF X15 hx hZ hown (host := "") (Or.inl (hw _ (List.mem_of_getElem? (i := 80) rfl))) Via.refl e15 f20 f19 (Or.inl (hw _ (List.mem_of_getElem? (i := 69) rfl))) (hw _ (List.mem_of_getElem? (i := 10) rfl)) (ty := (.object "com/example/steward/steward/runtime/Group")) (v := .null) (by decide) rfl rfl (g := (mkF m 60 #[.val (.ref g0), .val (.ref x0)] [.null, (.ref x0)])) rfl rfl (hb hby d11_60)
  refine Go.step st21 ?_
  have N21 := Fr.snoc X21 N15 g_8
  have z22 : n0 ≤ h21.size := Nat.le_trans z16 (Keep.of_wr W21).1
  have sqz22 : h0.size ≤ h21.size := Nat.le_trans sqz16 (Keep.of_wr W21).1
  have k23 : Keep h0 h21 [g0, x0, y0, z0] := k17.wr W21 (Or.inl (List.mem_of_getElem? (i := 1) rfl))
  have f24 : Fld Z h21 x0 "com/example/steward/steward/runtime/Agent" "group" "Lcom/example/steward/steward/runtime/Group;" .null := f20.same W21
  show Go _ _ _ _ _ _ _ (T21.setTop (mkF m 63 #[.val (.ref g0), .val (.ref x0)] []))
  refine Go.step (fun _ k => XS.aloadN X21.here hx rfl (hb hby d11_63) rfl rfl  k) ?_
  show Go _ _ _ _ _ _ _ (T21.setTop (mkF m 64 #[.val (.ref g0), .val (.ref x0)] [(.ref x0)]))
  refine Go.step (fun _ k => XS.aconstNull X21.here hx rfl (hb hby d11_64) k) ?_
  show Go _ _ _ _ _ _ _ (T21.setTop (mkF m 65 #[.val (.ref g0), .val (.ref x0)] [.null, (.ref x0)]))
  have f25 : Exa Z h21 x0 "com/example/steward/steward/runtime/Agent" := (f19.wr W21)
  have f26 : Fld Z h21 x0 "com/example/steward/steward/runtime/Agent" "ahead" "Lcom/example/steward/steward/runtime/Agent;" (.ref y0) := ((f11.other W15 (Or.inl ne_19)).other W21 (Or.inr (slot_ne (Or.inl (hw _ (List.mem_of_getElem? (i := 49) rfl))) (Or.inl (hw _ (List.mem_of_getElem? (i := 69) rfl))) (by decide) (t := (.object "com/example/steward/steward/runtime/Agent")) (t' := (.object "com/example/steward/steward/runtime/Group")) (by decide) (by decide))))
  obtain ⟨T27, h27, X27, e27, W27, st27⟩ := putF X21 hx hZ hown (host := "") (Or.inl (hw _ (List.mem_of_getElem? (i := 83) rfl))) Via.refl e21 f26 f25 (Or.inl (hw _ (List.mem_of_getElem? (i := 49) rfl))) (hw _ (List.mem_of_getElem? (i := 10) rfl)) (ty := (.object "com/example/steward/steward/runtime/Agent")) (v := .null) (by decide) rfl rfl (g := (mkF m 65 #[.val (.ref g0), .val (.ref x0)] [.null, (.ref x0)])) rfl rfl (hb hby d11_65)
  refine Go.step st27 ?_
  have N27 := Fr.snoc X27 N21 g_8
  have z28 : n0 ≤ h27.size := Nat.le_trans z22 (Keep.of_wr W27).1
  have sqz28 : h0.size ≤ h27.size := Nat.le_trans sqz22 (Keep.of_wr W27).1
  have k29 : Keep h0 h27 [g0, x0, y0, z0] := k23.wr W27 (Or.inl (List.mem_of_getElem? (i := 1) rfl))
  have f30 : Fld Z h27 x0 "com/example/steward/steward/runtime/Agent" "ahead" "Lcom/example/steward/steward/runtime/Agent;" .null := f26.same W27
  show Go _ _ _ _ _ _ _ (T27.setTop (mkF m 68 #[.val (.ref g0), .val (.ref x0)] []))
  refine Go.step (fun _ k => XS.aloadN X27.here hx rfl (hb hby d11_68) rfl rfl  k) ?_
  show Go _ _ _ _ _ _ _ (T27.setTop (mkF m 69 #[.val (.ref g0), .val (.ref x0)] [(.ref x0)]))
  refine Go.step (fun _ k => XS.aconstNull X27.here hx rfl (hb hby d11_69) k) ?_
  show Go _ _ _ _ _ _ _ (T27.setTop (mkF m 70 #[.val (.ref g0), .val (.ref x0)] [.null, (.ref x0)]))
  have f31 : Exa Z h27 x0 "com/example/steward/steward/runtime/Agent" := (f25.wr W27)
  have f32 : Fld Z h27 x0 "com/example/steward/steward/runtime/Agent" "behind" "Lcom/example/steward/steward/runtime/Agent;" (.ref z0) := (((f8.other W15 (Or.inl ne_19)).other W21 (Or.inr (slot_ne (Or.inl (hw _ (List.mem_of_getElem? (i := 51) rfl))) (Or.inl (hw _ (List.mem_of_getElem? (i := 69) rfl))) (by decide) (t := (.object "com/example/steward/steward/runtime/Agent")) (t' := (.object "com/example/steward/steward/runtime/Group")) (by decide) (by decide)))).other W27 (Or.inr (slot_ne (Or.inl (hw _ (List.mem_of_getElem? (i := 51) rfl))) (Or.inl (hw _ (List.mem_of_getElem? (i := 49) rfl))) (by decide) (t := (.object "com/example/steward/steward/runtime/Agent")) (t' := (.object "com/example/steward/steward/runtime/Agent")) (by decide) (by decide))))
  obtain ⟨T33, h33, X33, e33, W33, st33⟩ := putF X27 hx hZ hown (host := "") (Or.inl (hw _ (List.mem_of_getElem? (i := 84) rfl))) Via.refl e27 f32 f31 (Or.inl (hw _ (List.mem_of_getElem? (i := 51) rfl))) (hw _ (List.mem_of_getElem? (i := 10) rfl)) (ty := (.object "com/example/steward/steward/runtime/Agent")) (v := .null) (by decide) rfl rfl (g := (mkF m 70 #[.val (.ref g0), .val (.ref x0)] [.null, (.ref x0)])) rfl rfl (hb hby d11_70)
  refine Go.step st33 ?_
  have N33 := Fr.snoc X33 N27 g_8
  have z34 : n0 ≤ h33.size := Nat.le_trans z28 (Keep.of_wr W33).1
  have sqz34 : h0.size ≤ h33.size := Nat.le_trans sqz28 (Keep.of_wr W33).1
  have k35 : Keep h0 h33 [g0, x0, y0, z0] := k29.wr W33 (Or.inl (List.mem_of_getElem? (i := 1) rfl))
  have f36 : Fld Z h33 x0 "com/example/steward/steward/runtime/Agent" "behind" "Lcom/example/steward/steward/runtime/Agent;" .null := f32.same W33
  show Go _ _ _ _ _ _ _ (T33.setTop (mkF m 73 #[.val (.ref g0), .val (.ref x0)] []))
  have f37 : Exa Z h33 g0 "com/example/steward/steward/runtime/Group" := (((((E_0.wr W4).wr W15).wr W21).wr W27).wr W33)
  have f38 : Exa Z h33 x0 "com/example/steward/steward/runtime/Agent" := (f31.wr W33)
  have f39 : Fld Z h33 x0 "com/example/steward/steward/runtime/Agent" "group" "Lcom/example/steward/steward/runtime/Group;" .null := ((f24.other W27 (Or.inr (slot_ne (Or.inl (hw _ (List.mem_of_getElem? (i := 69) rfl))) (Or.inl (hw _ (List.mem_of_getElem? (i := 49) rfl))) (by decide) (t := (.object "com/example/steward/steward/runtime/Group")) (t' := (.object "com/example/steward/steward/runtime/Agent")) (by decide) (by decide)))).other W33 (Or.inr (slot_ne (Or.inl (hw _ (List.mem_of_getElem? (i := 69) rfl))) (Or.inl (hw _ (List.mem_of_getElem? (i := 51) rfl))) (by decide) (t := (.object "com/example/steward/steward/runtime/Group")) (t' := (.object "com/example/steward/steward/runtime/Agent")) (by decide) (by decide))))
  have f40 : Fld Z h33 x0 "com/example/steward/steward/runtime/Agent" "ahead" "Lcom/example/steward/steward/runtime/Agent;" .null := (f30.other W33 (Or.inr (slot_ne (Or.inl (hw _ (List.mem_of_getElem? (i := 49) rfl))) (Or.inl (hw _ (List.mem_of_getElem? (i := 51) rfl))) (by decide) (t := (.object "com/example/steward/steward/runtime/Agent")) (t' := (.object "com/example/steward/steward/runtime/Agent")) (by decide) (by decide))))
  have f41 : Exa Z h33 y0 "com/example/steward/steward/runtime/Agent" := (((((E_9.wr W4).wr W15).wr W21).wr W27).wr W33)
  have f42 : Fld Z h33 y0 "com/example/steward/steward/runtime/Agent" "behind" "Lcom/example/steward/steward/runtime/Agent;" (.ref z0) := ((((f7.other W15 (Or.inl ne_21)).other W21 (Or.inl (Ne.symm ne_13))).other W27 (Or.inl (Ne.symm ne_13))).other W33 (Or.inl (Ne.symm ne_13)))
  have f43 : Fld Z h33 y0 "com/example/steward/steward/runtime/Agent" "group" "Lcom/example/steward/steward/runtime/Group;" a2 := (((((F_11.other W4 (Or.inr (slot_ne (Or.inl (hw _ (List.mem_of_getElem? (i := 69) rfl))) (Or.inl (hw _ (List.mem_of_getElem? (i := 51) rfl))) (by decide) (t := (.object "com/example/steward/steward/runtime/Group")) (t' := (.object "com/example/steward/steward/runtime/Agent")) (by decide) (by decide)))).other W15 (Or.inl ne_21)).other W21 (Or.inl (Ne.symm ne_13))).other W27 (Or.inl (Ne.symm ne_13))).other W33 (Or.inl (Ne.symm ne_13)))
  have f44 : Fld Z h33 y0 "com/example/steward/steward/runtime/Agent" "ahead" "Lcom/example/steward/steward/runtime/Agent;" a3 := (((((F_12.other W4 (Or.inr (slot_ne (Or.inl (hw _ (List.mem_of_getElem? (i := 49) rfl))) (Or.inl (hw _ (List.mem_of_getElem? (i := 51) rfl))) (by decide) (t := (.object "com/example/steward/steward/runtime/Agent")) (t' := (.object "com/example/steward/steward/runtime/Agent")) (by decide) (by decide)))).other W15 (Or.inl ne_21)).other W21 (Or.inl (Ne.symm ne_13))).other W27 (Or.inl (Ne.symm ne_13))).other W33 (Or.inl (Ne.symm ne_13)))
  have f45 : Exa Z h33 z0 "com/example/steward/steward/runtime/Agent" := ((((f13.wr W15).wr W21).wr W27).wr W33)
  have f46 : Fld Z h33 z0 "com/example/steward/steward/runtime/Agent" "ahead" "Lcom/example/steward/steward/runtime/Agent;" (.ref y0) := (((f18.other W21 (Or.inl (Ne.symm ne_19))).other W27 (Or.inl (Ne.symm ne_19))).other W33 (Or.inl (Ne.symm ne_19)))
  have f47 : Fld Z h33 z0 "com/example/steward/steward/runtime/Agent" "group" "Lcom/example/steward/steward/runtime/Group;" c2 := (((((F_17.other W4 (Or.inl (Ne.symm ne_21))).other W15 (Or.inr (slot_ne (Or.inl (hw _ (List.mem_of_getElem? (i := 69) rfl))) (Or.inl (hw _ (List.mem_of_getElem? (i := 49) rfl))) (by decide) (t := (.object "com/example/steward/steward/runtime/Group")) (t' := (.object "com/example/steward/steward/runtime/Agent")) (by decide) (by decide)))).other W21 (Or.inl (Ne.symm ne_19))).other W27 (Or.inl (Ne.symm ne_19))).other W33 (Or.inl (Ne.symm ne_19)))
  have f48 : Fld Z h33 z0 "com/example/steward/steward/runtime/Agent" "behind" "Lcom/example/steward/steward/runtime/Agent;" c3 := (((((F_18.other W4 (Or.inl (Ne.symm ne_21))).other W15 (Or.inr (slot_ne (Or.inl (hw _ (List.mem_of_getElem? (i := 51) rfl))) (Or.inl (hw _ (List.mem_of_getElem? (i := 49) rfl))) (by decide) (t := (.object "com/example/steward/steward/runtime/Agent")) (t' := (.object "com/example/steward/steward/runtime/Agent")) (by decide) (by decide)))).other W21 (Or.inl (Ne.symm ne_19))).other W27 (Or.inl (Ne.symm ne_19))).other W33 (Or.inl (Ne.symm ne_19)))
  have ne49 : g0 ≠ y0 := ne_exa f37 f41 (by decide)
  have ne50 : g0 ≠ z0 := ne_exa f37 f45 (by decide)
  have ne51 : g0 ≠ x0 := ne_exa f37 f38 (by decide)
  have f52 : Fld Z h33 g0 "com/example/steward/steward/runtime/Group" "first" "Lcom/example/steward/steward/runtime/Agent;" u4 := (((((F_3.other W4 (Or.inl ne49)).other W15 (Or.inl ne50)).other W21 (Or.inl ne51)).other W27 (Or.inl ne51)).other W33 (Or.inl ne51))
  have f53 : Fld Z h33 g0 "com/example/steward/steward/runtime/Group" "last" "Lcom/example/steward/steward/runtime/Agent;" u5 := (((((F_4.other W4 (Or.inl ne49)).other W15 (Or.inl ne50)).other W21 (Or.inl ne51)).other W27 (Or.inl ne51)).other W33 (Or.inl ne51))
  refine Go.retV X33 hx Bd.returns hlk (hb hby d11_73) ?_ (by decide) (by decide)
  rw [e33]
  exact ⟨(rfl), N33, k35, f37, f38, f39, f40, f36, f41, f42, f43, f44, f45, f46, f47, f48, f52, f53⟩
theorem d7_0 : decode prog_44_method_3_code 0 = .ok (.aload_n 0, 1) := by decide +kernel
theorem d7_1 : decode prog_44_method_3_code 1 = .ok (.getfield 7, 3) := by decide +kernel
theorem d7_4 : decode prog_44_method_3_code 4 = .ok (.areturn, 1) := by decide +kernel
theorem ef_7 (m : MethodId) (g0 : Addr) : entryFrame m #[(.ref g0)] 1 = mkF m 0 #[.val (.ref g0)] [] := by first | (simp [entryFrame, mkF, argsToLocals, Value.category]; done) | rfl
def Q7 (Z : State) (g0 : Addr) (u : Value) (h0 : Heap) (n0 : Nat) (v : Option Value) (h : Heap) (L : List Loc) : Prop := (v = some u) ∧ (Fr n0 L) ∧ (h = h0)
set_option maxRecDepth 65536 in
set_option maxHeartbeats 40000000 in
theorem rm7 (l : Launch) (Z : State) (aZ : Array Value) (hw : ∀ d ∈ tables_1, d.before aZ Z = true) (ws : List Jvm.Cond) (g0 : Addr) (u : Value) (h0 : Heap) (n0 : Nat) (Z0 : n0 ≤ h0.size) (F_0 : Fld Z h0 g0 "com/example/steward/steward/runtime/Group" "first" "Lcom/example/steward/steward/runtime/Agent;" u) (hu : u.isRef = true) :
    MetFree l (⟨"com/example/steward/steward/runtime/Group", "first", "()Lcom/example/steward/steward/runtime/Agent;"⟩ : MethodName) (head1 (Jvm.Cond.code (⟨"com/example/steward/steward/runtime/Group", "first", "()Lcom/example/steward/steward/runtime/Agent;"⟩ : MethodName) prog_44_method_3_code 1 (some (.object "com/example/steward/steward/runtime/Agent")) :: ws) ({ frames := 0, cells := 0, slots := 0, locals := 0 } : Room)) (fun a U => a = #[(.ref g0)] ∧ Z.Warmed39 U.vm ∧ U.heap = h0) (fun _ _ _ _ _ => True) (fun _ U o U' => ∃ v L, o = .returned v ∧ Q7 Z g0 u h0 n0 v U'.heap L ∧ FrameEnd U o U' L ({ frames := 0, cells := 0, slots := 0, locals := 0 } : Room).cells ({ frames := 0, cells := 0, slots := 0, locals := 0 } : Room).slots) := by
  refine MetFree.of_bodySF (plainFor_of_name pn_5) hisR ?_
  intro p e s m args below meth c s₁ Bd hml0 hP hK
  obtain ⟨rfl, hZ, hh⟩ := hP
  have hx := Bd.exec
  have hby := Bd.bytes
  have hml : c.maxLocals = 1 := hml0
  have hown : s.vm.findClass "com/example/steward/steward/runtime/Group" = some m.cls := findClass_of_methodNamed Bd.named
  have hnm := (name_of_methodNamed Bd.named Bd.method).1
  have hlk : meth.locks = false := BodyLoose.notSynchronized Bd
  have X0 : Stand p l e ({ frames := 0, cells := 0, slots := 0, locals := 0 } : Room) s m #[(.ref g0)] below meth c s₁ [] 0 0 := Stand.of_body Bd
  have e0 : s₁.heap = h0 := by rw [← hh, Bd.state]; rfl
  have N0 := Fr.nil n0
  have sq0 : h0.size ≤ h0.size := Nat.le_refl _
  change Go p e below s ({ frames := 0, cells := 0, slots := 0, locals := 0 } : Room).cells ({ frames := 0, cells := 0, slots := 0, locals := 0 } : Room).slots (Q7 Z g0 u h0 n0) (s₁.setTop (entryFrame m #[(.ref g0)] 1))
  rw [ef_7 m g0]
  show Go _ _ _ _ _ _ _ (s₁.setTop (mkF m 0 #[.val (.ref g0)] []))
  refine Go.step (fun _ k => XS.aloadN X0.here hx rfl (hb hby d7_0) rfl rfl  k) ?_
  show Go _ _ _ _ _ _ _ (s₁.setTop (mkF m 1 #[.val (.ref g0)] [(.ref g0)]))
  obtain ⟨T1, X1, e1, st1⟩ := getF X0 hx hZ hown (host := "") (Or.inl (hw _ (List.mem_of_getElem? (i := 57) rfl))) Via.refl e0 F_0 (g := (mkF m 1 #[.val (.ref g0)] [(.ref g0)])) rfl rfl (hb hby d7_1)
  refine Go.step st1 ?_
  show Go _ _ _ _ _ _ _ (T1.setTop (mkF m 4 #[.val (.ref g0)] [u]))
  refine Go.retA X1 hx Bd.returns rfl (by assumption) hlk (hb hby d7_4) ?_ (by decide) (by decide)
  rw [e1]
  exact ⟨(rfl), N0, rfl⟩
theorem d6_0 : decode prog_44_method_2_code 0 = .ok (.aload_n 0, 1) := by decide +kernel
theorem d6_1 : decode prog_44_method_2_code 1 = .ok (.getfield 7, 3) := by decide +kernel
theorem d6_4 : decode prog_44_method_2_code 4 = .ok (.ifnonnull 7, 3) := by decide +kernel
theorem d6_7 : decode prog_44_method_2_code 7 = .ok (.iconst 1, 1) := by decide +kernel
theorem d6_8 : decode prog_44_method_2_code 8 = .ok (.goto 4, 3) := by decide +kernel
theorem d6_12 : decode prog_44_method_2_code 12 = .ok (.ireturn, 1) := by decide +kernel
theorem ef_em0 (m : MethodId) (g0 : Addr) : entryFrame m #[(.ref g0)] 1 = mkF m 0 #[.val (.ref g0)] [] := by first | (simp [entryFrame, mkF, argsToLocals, Value.category]; done) | rfl
def Qem0 (Z : State) (g0 : Addr) (h0 : Heap) (n0 : Nat) (v : Option Value) (h : Heap) (L : List Loc) : Prop := (v = some (.int (1 : Int32))) ∧ (Fr n0 L) ∧ (h = h0)
set_option maxRecDepth 65536 in
set_option maxHeartbeats 40000000 in
theorem rmem0 (l : Launch) (Z : State) (aZ : Array Value) (hw : ∀ d ∈ tables_1, d.before aZ Z = true) (ws : List Jvm.Cond) (g0 : Addr) (h0 : Heap) (n0 : Nat) (Z0 : n0 ≤ h0.size) (F_0 : Fld Z h0 g0 "com/example/steward/steward/runtime/Group" "first" "Lcom/example/steward/steward/runtime/Agent;" .null) :
    MetFree l (⟨"com/example/steward/steward/runtime/Group", "isEmpty", "()Z"⟩ : MethodName) (head1 (Jvm.Cond.code (⟨"com/example/steward/steward/runtime/Group", "isEmpty", "()Z"⟩ : MethodName) prog_44_method_2_code 1 (some .boolean) :: ws) ({ frames := 0, cells := 0, slots := 0, locals := 0 } : Room)) (fun a U => a = #[(.ref g0)] ∧ Z.Warmed39 U.vm ∧ U.heap = h0) (fun _ _ _ _ _ => True) (fun _ U o U' => ∃ v L, o = .returned v ∧ Qem0 Z g0 h0 n0 v U'.heap L ∧ FrameEnd U o U' L ({ frames := 0, cells := 0, slots := 0, locals := 0 } : Room).cells ({ frames := 0, cells := 0, slots := 0, locals := 0 } : Room).slots) := by
  refine MetFree.of_bodySF (plainFor_of_name pn_5) hisR ?_
  intro p e s m args below meth c s₁ Bd hml0 hP hK
  obtain ⟨rfl, hZ, hh⟩ := hP
  have hx := Bd.exec
  have hby := Bd.bytes
  have hml : c.maxLocals = 1 := hml0
  have hown : s.vm.findClass "com/example/steward/steward/runtime/Group" = some m.cls := findClass_of_methodNamed Bd.named
  have hnm := (name_of_methodNamed Bd.named Bd.method).1
  have hlk : meth.locks = false := BodyLoose.notSynchronized Bd
  have X0 : Stand p l e ({ frames := 0, cells := 0, slots := 0, locals := 0 } : Room) s m #[(.ref g0)] below meth c s₁ [] 0 0 := Stand.of_body Bd
  have e0 : s₁.heap = h0 := by rw [← hh, Bd.state]; rfl
  have N0 := Fr.nil n0
  have sq0 : h0.size ≤ h0.size := Nat.le_refl _
  change Go p e below s ({ frames := 0, cells := 0, slots := 0, locals := 0 } : Room).cells ({ frames := 0, cells := 0, slots := 0, locals := 0 } : Room).slots (Qem0 Z g0 h0 n0) (s₁.setTop (entryFrame m #[(.ref g0)] 1))
  rw [ef_em0 m g0]
  show Go _ _ _ _ _ _ _ (s₁.setTop (mkF m 0 #[.val (.ref g0)] []))
  refine Go.step (fun _ k => XS.aloadN X0.here hx rfl (hb hby d6_0) rfl rfl  k) ?_
  show Go _ _ _ _ _ _ _ (s₁.setTop (mkF m 1 #[.val (.ref g0)] [(.ref g0)]))
  obtain ⟨T1, X1, e1, st1⟩ := getF X0 hx hZ hown (host := "") (Or.inl (hw _ (List.mem_of_getElem? (i := 57) rfl))) Via.refl e0 F_0 (g := (mkF m 1 #[.val (.ref g0)] [(.ref g0)])) rfl rfl (hb hby d6_1)
  refine Go.step st1 ?_
  show Go _ _ _ _ _ _ _ (T1.setTop (mkF m 4 #[.val (.ref g0)] [.null]))
  refine Go.step (fun _ k => XS.ifnonnullNo X1.here hx rfl (hb hby d6_4) rfl k) ?_
  show Go _ _ _ _ _ _ _ (T1.setTop (mkF m 7 #[.val (.ref g0)] []))
  refine Go.step (fun _ k => XS.iconst X1.here hx rfl (hb hby d6_7) k) ?_
  show Go _ _ _ _ _ _ _ (T1.setTop (mkF m 8 #[.val (.ref g0)] [(.int (1 : Int32))]))
  refine Go.step (fun _ k => XS.goto X1.here hx rfl (pc0 := 8) (pc' := 12) rfl (hb hby d6_8) (by decide) (by decide) k) ?_
  show Go _ _ _ _ _ _ _ (T1.setTop (mkF m 12 #[.val (.ref g0)] [(.int (1 : Int32))]))
  refine Go.retN X1 hx (t := .boolean) Bd.returns (by simp) hlk (hb hby d6_12) ?_ (by decide) (by decide)
  rw [e1]
  exact ⟨(by first | rfl | (simp_all [own_nb1, own_nb0]; done)), N0, rfl⟩
theorem d6_11 : decode prog_44_method_2_code 11 = .ok (.iconst 0, 1) := by decide +kernel
theorem ef_em1 (m : MethodId) (g0 : Addr) : entryFrame m #[(.ref g0)] 1 = mkF m 0 #[.val (.ref g0)] [] := by first | (simp [entryFrame, mkF, argsToLocals, Value.category]; done) | rfl
def Qem1 (Z : State) (g0 : Addr) (x0 : Addr) (h0 : Heap) (n0 : Nat) (v : Option Value) (h : Heap) (L : List Loc) : Prop := (v = some (.int (0 : Int32))) ∧ (Fr n0 L) ∧ (h = h0)
set_option maxRecDepth 65536 in
set_option maxHeartbeats 40000000 in
theorem rmem1 (l : Launch) (Z : State) (aZ : Array Value) (hw : ∀ d ∈ tables_1, d.before aZ Z = true) (ws : List Jvm.Cond) (g0 : Addr) (x0 : Addr) (h0 : Heap) (n0 : Nat) (Z0 : n0 ≤ h0.size) (F_0 : Fld Z h0 g0 "com/example/steward/steward/runtime/Group" "first" "Lcom/example/steward/steward/runtime/Agent;" (.ref x0)) :
    MetFree l (⟨"com/example/steward/steward/runtime/Group", "isEmpty", "()Z"⟩ : MethodName) (head1 (Jvm.Cond.code (⟨"com/example/steward/steward/runtime/Group", "isEmpty", "()Z"⟩ : MethodName) prog_44_method_2_code 1 (some .boolean) :: ws) ({ frames := 0, cells := 0, slots := 0, locals := 0 } : Room)) (fun a U => a = #[(.ref g0)] ∧ Z.Warmed39 U.vm ∧ U.heap = h0) (fun _ _ _ _ _ => True) (fun _ U o U' => ∃ v L, o = .returned v ∧ Qem1 Z g0 x0 h0 n0 v U'.heap L ∧ FrameEnd U o U' L ({ frames := 0, cells := 0, slots := 0, locals := 0 } : Room).cells ({ frames := 0, cells := 0, slots := 0, locals := 0 } : Room).slots) := by
  refine MetFree.of_bodySF (plainFor_of_name pn_5) hisR ?_
  intro p e s m args below meth c s₁ Bd hml0 hP hK
  obtain ⟨rfl, hZ, hh⟩ := hP
  have hx := Bd.exec
  have hby := Bd.bytes
  have hml : c.maxLocals = 1 := hml0
  have hown : s.vm.findClass "com/example/steward/steward/runtime/Group" = some m.cls := findClass_of_methodNamed Bd.named
  have hnm := (name_of_methodNamed Bd.named Bd.method).1
  have hlk : meth.locks = false := BodyLoose.notSynchronized Bd
  have X0 : Stand p l e ({ frames := 0, cells := 0, slots := 0, locals := 0 } : Room) s m #[(.ref g0)] below meth c s₁ [] 0 0 := Stand.of_body Bd
  have e0 : s₁.heap = h0 := by rw [← hh, Bd.state]; rfl
  have N0 := Fr.nil n0
  have sq0 : h0.size ≤ h0.size := Nat.le_refl _
  change Go p e below s ({ frames := 0, cells := 0, slots := 0, locals := 0 } : Room).cells ({ frames := 0, cells := 0, slots := 0, locals := 0 } : Room).slots (Qem1 Z g0 x0 h0 n0) (s₁.setTop (entryFrame m #[(.ref g0)] 1))
  rw [ef_em1 m g0]
  show Go _ _ _ _ _ _ _ (s₁.setTop (mkF m 0 #[.val (.ref g0)] []))
  refine Go.step (fun _ k => XS.aloadN X0.here hx rfl (hb hby d6_0) rfl rfl  k) ?_
  show Go _ _ _ _ _ _ _ (s₁.setTop (mkF m 1 #[.val (.ref g0)] [(.ref g0)]))
  obtain ⟨T1, X1, e1, st1⟩ := getF X0 hx hZ hown (host := "") (Or.inl (hw _ (List.mem_of_getElem? (i := 57) rfl))) Via.refl e0 F_0 (g := (mkF m 1 #[.val (.ref g0)] [(.ref g0)])) rfl rfl (hb hby d6_1)
  refine Go.step st1 ?_
  show Go _ _ _ _ _ _ _ (T1.setTop (mkF m 4 #[.val (.ref g0)] [(.ref x0)]))
  refine Go.step (fun _ k => XS.ifnonnullYes X1.here hx rfl (pc0 := 4) (pc' := 11) rfl (hb hby d6_4) rfl (by decide) (by decide) k) ?_
  show Go _ _ _ _ _ _ _ (T1.setTop (mkF m 11 #[.val (.ref g0)] []))
  refine Go.step (fun _ k => XS.iconst X1.here hx rfl (hb hby d6_11) k) ?_
  show Go _ _ _ _ _ _ _ (T1.setTop (mkF m 12 #[.val (.ref g0)] [(.int (0 : Int32))]))
  refine Go.retN X1 hx (t := .boolean) Bd.returns (by simp) hlk (hb hby d6_12) ?_ (by decide) (by decide)
  rw [e1]
  exact ⟨(by first | rfl | (simp_all [own_nb1, own_nb0]; done)), N0, rfl⟩
theorem pn_8 : plainName "com/example/steward/steward/runtime/GroupAddPinLaw" = true := by first | (simp [plainName, overriddenIn]; done) | decide +kernel
theorem d8_0 : decode method_3_code 0 = .ok (.iload_n 1, 1) := by decide +kernel
theorem d8_1 : decode method_3_code 1 = .ok (.ifCond .ne 16, 3) := by decide +kernel
theorem d8_4 : decode method_3_code 4 = .ok (.aload_n 0, 1) := by decide +kernel
theorem d8_5 : decode method_3_code 5 = .ok (.getfield 52, 3) := by decide +kernel
theorem d8_8 : decode method_3_code 8 = .ok (.ifnonnull 7, 3) := by decide +kernel
theorem d8_11 : decode method_3_code 11 = .ok (.iconst 1, 1) := by decide +kernel
theorem d8_12 : decode method_3_code 12 = .ok (.goto 4, 3) := by decide +kernel
theorem d8_16 : decode method_3_code 16 = .ok (.ireturn, 1) := by decide +kernel
theorem ef_li0 (m : MethodId) (x0 : Addr) (p1 : Int32) (g0 : Addr) (ah : Value) (be : Value) (hah : ah.isRef = true) (hbe : be.isRef = true) : entryFrame m #[(.ref x0), (.int p1), (.ref g0), ah, be] 5 = mkF m 0 #[.val (.ref x0), .val (.int p1), .val (.ref g0), .val ah, .val be] [] := by rcases ref_cases hah with rfl | ⟨zah, rfl⟩ <;> rcases ref_cases hbe with rfl | ⟨zbe, rfl⟩ <;> first | (simp [entryFrame, mkF, argsToLocals, Value.category]; done) | rfl
def Qli0 (Z : State) (x0 : Addr) (p1 : Int32) (g0 : Addr) (ah : Value) (be : Value) (h0 : Heap) (n0 : Nat) (v : Option Value) (h : Heap) (L : List Loc) : Prop := (v = some (.int (1 : Int32))) ∧ (Fr n0 L) ∧ (h = h0)
set_option maxRecDepth 65536 in
set_option maxHeartbeats 40000000 in
theorem rmli0 (l : Launch) (Z : State) (aZ : Array Value) (hw : ∀ d ∈ tables_1, d.before aZ Z = true) (ws : List Jvm.Cond) (x0 : Addr) (p1 : Int32) (g0 : Addr) (ah : Value) (be : Value) (h0 : Heap) (n0 : Nat) (Z0 : n0 ≤ h0.size) (hah : ah.isRef = true) (hbe : be.isRef = true) (F_2 : Fld Z h0 x0 "com/example/steward/steward/runtime/Agent" "group" "Lcom/example/steward/steward/runtime/Group;" .null) (hp1 : p1 = (0 : Int32)) :
    MetFree l (⟨"com/example/steward/steward/runtime/GroupAddPinLaw", "linked", "(Lcom/example/steward/steward/runtime/Agent;ZLcom/example/steward/steward/runtime/Group;Lcom/example/steward/steward/runtime/Agent;Lcom/example/steward/steward/runtime/Agent;)Z"⟩ : MethodName) (head1 (Jvm.Cond.code (⟨"com/example/steward/steward/runtime/GroupAddPinLaw", "linked", "(Lcom/example/steward/steward/runtime/Agent;ZLcom/example/steward/steward/runtime/Group;Lcom/example/steward/steward/runtime/Agent;Lcom/example/steward/steward/runtime/Agent;)Z"⟩ : MethodName) method_3_code 5 (some .boolean) :: ws) ({ frames := 0, cells := 0, slots := 0, locals := 0 } : Room)) (fun a U => a = #[(.ref x0), (.int p1), (.ref g0), ah, be] ∧ Z.Warmed39 U.vm ∧ U.heap = h0) (fun _ _ _ _ _ => True) (fun _ U o U' => ∃ v L, o = .returned v ∧ Qli0 Z x0 p1 g0 ah be h0 n0 v U'.heap L ∧ FrameEnd U o U' L ({ frames := 0, cells := 0, slots := 0, locals := 0 } : Room).cells ({ frames := 0, cells := 0, slots := 0, locals := 0 } : Room).slots) := by
  refine MetFree.of_bodySF (plainFor_of_name pn_8) hisR ?_
  intro p e s m args below meth c s₁ Bd hml0 hP hK
  obtain ⟨rfl, hZ, hh⟩ := hP
  have hx := Bd.exec
  have hby := Bd.bytes
  have hml : c.maxLocals = 5 := hml0
  have hown : s.vm.findClass "com/example/steward/steward/runtime/GroupAddPinLaw" = some m.cls := findClass_of_methodNamed Bd.named
  have hnm := (name_of_methodNamed Bd.named Bd.method).1
  have hlk : meth.locks = false := BodyLoose.notSynchronized Bd
  have X0 : Stand p l e ({ frames := 0, cells := 0, slots := 0, locals := 0 } : Room) s m #[(.ref x0), (.int p1), (.ref g0), ah, be] below meth c s₁ [] 0 0 := Stand.of_body Bd
  have e0 : s₁.heap = h0 := by rw [← hh, Bd.state]; rfl
  have N0 := Fr.nil n0
  have sq0 : h0.size ≤ h0.size := Nat.le_refl _
  change Go p e below s ({ frames := 0, cells := 0, slots := 0, locals := 0 } : Room).cells ({ frames := 0, cells := 0, slots := 0, locals := 0 } : Room).slots (Qli0 Z x0 p1 g0 ah be h0 n0) (s₁.setTop (entryFrame m #[(.ref x0), (.int p1), (.ref g0), ah, be] 5))
  rw [ef_li0 m x0 p1 g0 ah be hah hbe]
  show Go _ _ _ _ _ _ _ (s₁.setTop (mkF m 0 #[.val (.ref x0), .val (.int p1), .val (.ref g0), .val ah, .val be] []))
  refine Go.step (fun _ k => XS.iloadN X0.here hx rfl (hb hby d8_0) rfl  k) ?_
  show Go _ _ _ _ _ _ _ (s₁.setTop (mkF m 1 #[.val (.ref x0), .val (.int p1), .val (.ref g0), .val ah, .val be] [(.int p1)]))
  have hc1 : p1 = (0 : Int32) := hp1
  refine Go.step (fun _ k => XS.ifNo X0.here hx rfl (hb hby d8_1) rfl ((if0 _ _).trans (teq hc1).2) k) ?_
  show Go _ _ _ _ _ _ _ (s₁.setTop (mkF m 4 #[.val (.ref x0), .val (.int p1), .val (.ref g0), .val ah, .val be] []))
  refine Go.step (fun _ k => XS.aloadN X0.here hx rfl (hb hby d8_4) rfl rfl  k) ?_
  show Go _ _ _ _ _ _ _ (s₁.setTop (mkF m 5 #[.val (.ref x0), .val (.int p1), .val (.ref g0), .val ah, .val be] [(.ref x0)]))
  obtain ⟨T1, X1, e1, st1⟩ := getF X0 hx hZ hown (host := "") (Or.inl (hw _ (List.mem_of_getElem? (i := 68) rfl))) Via.refl e0 F_2 (g := (mkF m 5 #[.val (.ref x0), .val (.int p1), .val (.ref g0), .val ah, .val be] [(.ref x0)])) rfl rfl (hb hby d8_5)
  refine Go.step st1 ?_
  show Go _ _ _ _ _ _ _ (T1.setTop (mkF m 8 #[.val (.ref x0), .val (.int p1), .val (.ref g0), .val ah, .val be] [.null]))
  refine Go.step (fun _ k => XS.ifnonnullNo X1.here hx rfl (hb hby d8_8) rfl k) ?_
  show Go _ _ _ _ _ _ _ (T1.setTop (mkF m 11 #[.val (.ref x0), .val (.int p1), .val (.ref g0), .val ah, .val be] []))
  refine Go.step (fun _ k => XS.iconst X1.here hx rfl (hb hby d8_11) k) ?_
  show Go _ _ _ _ _ _ _ (T1.setTop (mkF m 12 #[.val (.ref x0), .val (.int p1), .val (.ref g0), .val ah, .val be] [(.int (1 : Int32))]))
  refine Go.step (fun _ k => XS.goto X1.here hx rfl (pc0 := 12) (pc' := 16) rfl (hb hby d8_12) (by decide) (by decide) k) ?_
  show Go _ _ _ _ _ _ _ (T1.setTop (mkF m 16 #[.val (.ref x0), .val (.int p1), .val (.ref g0), .val ah, .val be] [(.int (1 : Int32))]))
  refine Go.retN X1 hx (t := .boolean) Bd.returns (by simp) hlk (hb hby d8_16) ?_ (by decide) (by decide)
  rw [e1]
  exact ⟨(by first | rfl | (simp_all [own_nb1, own_nb0]; done)), N0, rfl⟩
theorem d8_17 : decode method_3_code 17 = .ok (.aload_n 0, 1) := by decide +kernel
theorem d8_18 : decode method_3_code 18 = .ok (.getfield 52, 3) := by decide +kernel
theorem d8_21 : decode method_3_code 21 = .ok (.aload_n 2, 1) := by decide +kernel
theorem d8_22 : decode method_3_code 22 = .ok (.if_acmp .ne 24, 3) := by decide +kernel
theorem d8_25 : decode method_3_code 25 = .ok (.aload_n 0, 1) := by decide +kernel
theorem d8_26 : decode method_3_code 26 = .ok (.getfield 21, 3) := by decide +kernel
theorem d8_29 : decode method_3_code 29 = .ok (.aload_n 3, 1) := by decide +kernel
theorem d8_30 : decode method_3_code 30 = .ok (.if_acmp .ne 16, 3) := by decide +kernel
theorem d8_33 : decode method_3_code 33 = .ok (.aload_n 0, 1) := by decide +kernel
theorem d8_34 : decode method_3_code 34 = .ok (.getfield 25, 3) := by decide +kernel
theorem d8_37 : decode method_3_code 37 = .ok (.aload 4, 2) := by decide +kernel
theorem d8_39 : decode method_3_code 39 = .ok (.if_acmp .ne 7, 3) := by decide +kernel
theorem d8_42 : decode method_3_code 42 = .ok (.iconst 1, 1) := by decide +kernel
theorem d8_43 : decode method_3_code 43 = .ok (.goto 4, 3) := by decide +kernel
theorem d8_47 : decode method_3_code 47 = .ok (.ireturn, 1) := by decide +kernel
theorem ef_li1 (m : MethodId) (x0 : Addr) (p1 : Int32) (g0 : Addr) (ah : Value) (be : Value) (hah : ah.isRef = true) (hbe : be.isRef = true) : entryFrame m #[(.ref x0), (.int p1), (.ref g0), ah, be] 5 = mkF m 0 #[.val (.ref x0), .val (.int p1), .val (.ref g0), .val ah, .val be] [] := by rcases ref_cases hah with rfl | ⟨zah, rfl⟩ <;> rcases ref_cases hbe with rfl | ⟨zbe, rfl⟩ <;> first | (simp [entryFrame, mkF, argsToLocals, Value.category]; done) | rfl
def Qli1 (Z : State) (x0 : Addr) (p1 : Int32) (g0 : Addr) (ah : Value) (be : Value) (h0 : Heap) (n0 : Nat) (v : Option Value) (h : Heap) (L : List Loc) : Prop := (v = some (.int (1 : Int32))) ∧ (Fr n0 L) ∧ (h = h0)
set_option maxRecDepth 65536 in
set_option maxHeartbeats 40000000 in
theorem rmli1 (l : Launch) (Z : State) (aZ : Array Value) (hw : ∀ d ∈ tables_1, d.before aZ Z = true) (ws : List Jvm.Cond) (x0 : Addr) (p1 : Int32) (g0 : Addr) (ah : Value) (be : Value) (h0 : Heap) (n0 : Nat) (Z0 : n0 ≤ h0.size) (hah : ah.isRef = true) (hbe : be.isRef = true) (F_2 : Fld Z h0 x0 "com/example/steward/steward/runtime/Agent" "group" "Lcom/example/steward/steward/runtime/Group;" (.ref g0)) (F_3 : Fld Z h0 x0 "com/example/steward/steward/runtime/Agent" "ahead" "Lcom/example/steward/steward/runtime/Agent;" ah) (F_4 : Fld Z h0 x0 "com/example/steward/steward/runtime/Agent" "behind" "Lcom/example/steward/steward/runtime/Agent;" be) (hp1 : p1 = (1 : Int32)) :
    MetFree l (⟨"com/example/steward/steward/runtime/GroupAddPinLaw", "linked", "(Lcom/example/steward/steward/runtime/Agent;ZLcom/example/steward/steward/runtime/Group;Lcom/example/steward/steward/runtime/Agent;Lcom/example/steward/steward/runtime/Agent;)Z"⟩ : MethodName) (head1 (Jvm.Cond.code (⟨"com/example/steward/steward/runtime/GroupAddPinLaw", "linked", "(Lcom/example/steward/steward/runtime/Agent;ZLcom/example/steward/steward/runtime/Group;Lcom/example/steward/steward/runtime/Agent;Lcom/example/steward/steward/runtime/Agent;)Z"⟩ : MethodName) method_3_code 5 (some .boolean) :: ws) ({ frames := 0, cells := 0, slots := 0, locals := 0 } : Room)) (fun a U => a = #[(.ref x0), (.int p1), (.ref g0), ah, be] ∧ Z.Warmed39 U.vm ∧ U.heap = h0) (fun _ _ _ _ _ => True) (fun _ U o U' => ∃ v L, o = .returned v ∧ Qli1 Z x0 p1 g0 ah be h0 n0 v U'.heap L ∧ FrameEnd U o U' L ({ frames := 0, cells := 0, slots := 0, locals := 0 } : Room).cells ({ frames := 0, cells := 0, slots := 0, locals := 0 } : Room).slots) := by
  refine MetFree.of_bodySF (plainFor_of_name pn_8) hisR ?_
  intro p e s m args below meth c s₁ Bd hml0 hP hK
  obtain ⟨rfl, hZ, hh⟩ := hP
  have hx := Bd.exec
  have hby := Bd.bytes
  have hml : c.maxLocals = 5 := hml0
  have hown : s.vm.findClass "com/example/steward/steward/runtime/GroupAddPinLaw" = some m.cls := findClass_of_methodNamed Bd.named
  have hnm := (name_of_methodNamed Bd.named Bd.method).1
  have hlk : meth.locks = false := BodyLoose.notSynchronized Bd
  have X0 : Stand p l e ({ frames := 0, cells := 0, slots := 0, locals := 0 } : Room) s m #[(.ref x0), (.int p1), (.ref g0), ah, be] below meth c s₁ [] 0 0 := Stand.of_body Bd
  have e0 : s₁.heap = h0 := by rw [← hh, Bd.state]; rfl
  have N0 := Fr.nil n0
  have sq0 : h0.size ≤ h0.size := Nat.le_refl _
  change Go p e below s ({ frames := 0, cells := 0, slots := 0, locals := 0 } : Room).cells ({ frames := 0, cells := 0, slots := 0, locals := 0 } : Room).slots (Qli1 Z x0 p1 g0 ah be h0 n0) (s₁.setTop (entryFrame m #[(.ref x0), (.int p1), (.ref g0), ah, be] 5))
  rw [ef_li1 m x0 p1 g0 ah be hah hbe]
  show Go _ _ _ _ _ _ _ (s₁.setTop (mkF m 0 #[.val (.ref x0), .val (.int p1), .val (.ref g0), .val ah, .val be] []))
  refine Go.step (fun _ k => XS.iloadN X0.here hx rfl (hb hby d8_0) rfl  k) ?_
  show Go _ _ _ _ _ _ _ (s₁.setTop (mkF m 1 #[.val (.ref x0), .val (.int p1), .val (.ref g0), .val ah, .val be] [(.int p1)]))
  have hc1 : ¬ (p1 = (0 : Int32)) := (by rw [hp1]; decide)
  refine Go.step (fun _ k => XS.ifYes X0.here hx rfl (pc0 := 1) (pc' := 17) rfl (hb hby d8_1) rfl ((if0 _ _).trans (feq hc1).2) (by decide) (by decide) k) ?_
  show Go _ _ _ _ _ _ _ (s₁.setTop (mkF m 17 #[.val (.ref x0), .val (.int p1), .val (.ref g0), .val ah, .val be] []))
  refine Go.step (fun _ k => XS.aloadN X0.here hx rfl (hb hby d8_17) rfl rfl  k) ?_
  show Go _ _ _ _ _ _ _ (s₁.setTop (mkF m 18 #[.val (.ref x0), .val (.int p1), .val (.ref g0), .val ah, .val be] [(.ref x0)]))
  obtain ⟨T1, X1, e1, st1⟩ := getF X0 hx hZ hown (host := "") (Or.inl (hw _ (List.mem_of_getElem? (i := 68) rfl))) Via.refl e0 F_2 (g := (mkF m 18 #[.val (.ref x0), .val (.int p1), .val (.ref g0), .val ah, .val be] [(.ref x0)])) rfl rfl (hb hby d8_18)
  refine Go.step st1 ?_
  show Go _ _ _ _ _ _ _ (T1.setTop (mkF m 21 #[.val (.ref x0), .val (.int p1), .val (.ref g0), .val ah, .val be] [(.ref g0)]))
  refine Go.step (fun _ k => XS.aloadN X1.here hx rfl (hb hby d8_21) rfl rfl  k) ?_
  show Go _ _ _ _ _ _ _ (T1.setTop (mkF m 22 #[.val (.ref x0), .val (.int p1), .val (.ref g0), .val ah, .val be] [(.ref g0), (.ref g0)]))
  refine Go.step (fun _ k => Jvm.RoadKit.acmp (g := (mkF m 22 #[.val (.ref x0), .val (.int p1), .val (.ref g0), .val ah, .val be] [(.ref g0), (.ref g0)])) X1 hx rfl rfl rfl (pc0 := 22) (pc' := 25) (same := true) rfl (hb hby d8_22) rfl (decide_eq_true rfl) (by decide) (by decide) k) ?_
  show Go _ _ _ _ _ _ _ (T1.setTop (mkF m 25 #[.val (.ref x0), .val (.int p1), .val (.ref g0), .val ah, .val be] []))
  refine Go.step (fun _ k => XS.aloadN X1.here hx rfl (hb hby d8_25) rfl rfl  k) ?_
  show Go _ _ _ _ _ _ _ (T1.setTop (mkF m 26 #[.val (.ref x0), .val (.int p1), .val (.ref g0), .val ah, .val be] [(.ref x0)]))
  obtain ⟨T2, X2, e2, st2⟩ := getF X1 hx hZ hown (host := "") (Or.inl (hw _ (List.mem_of_getElem? (i := 48) rfl))) Via.refl e1 F_3 (g := (mkF m 26 #[.val (.ref x0), .val (.int p1), .val (.ref g0), .val ah, .val be] [(.ref x0)])) rfl rfl (hb hby d8_26)
  refine Go.step st2 ?_
  show Go _ _ _ _ _ _ _ (T2.setTop (mkF m 29 #[.val (.ref x0), .val (.int p1), .val (.ref g0), .val ah, .val be] [ah]))
  refine Go.step (fun _ k => XS.aloadN X2.here hx rfl (hb hby d8_29) rfl (by assumption)  k) ?_
  show Go _ _ _ _ _ _ _ (T2.setTop (mkF m 30 #[.val (.ref x0), .val (.int p1), .val (.ref g0), .val ah, .val be] [ah, ah]))
  refine Go.step (fun _ k => Jvm.RoadKit.acmp (g := (mkF m 30 #[.val (.ref x0), .val (.int p1), .val (.ref g0), .val ah, .val be] [ah, ah])) X2 hx rfl (by assumption) (by assumption) (pc0 := 30) (pc' := 33) (same := true) rfl (hb hby d8_30) rfl (decide_eq_true rfl) (by decide) (by decide) k) ?_
  show Go _ _ _ _ _ _ _ (T2.setTop (mkF m 33 #[.val (.ref x0), .val (.int p1), .val (.ref g0), .val ah, .val be] []))
  refine Go.step (fun _ k => XS.aloadN X2.here hx rfl (hb hby d8_33) rfl rfl  k) ?_
  show Go _ _ _ _ _ _ _ (T2.setTop (mkF m 34 #[.val (.ref x0), .val (.int p1), .val (.ref g0), .val ah, .val be] [(.ref x0)]))
  obtain ⟨T3, X3, e3, st3⟩ := getF X2 hx hZ hown (host := "") (Or.inl (hw _ (List.mem_of_getElem? (i := 50) rfl))) Via.refl e2 F_4 (g := (mkF m 34 #[.val (.ref x0), .val (.int p1), .val (.ref g0), .val ah, .val be] [(.ref x0)])) rfl rfl (hb hby d8_34)
  refine Go.step st3 ?_
  show Go _ _ _ _ _ _ _ (T3.setTop (mkF m 37 #[.val (.ref x0), .val (.int p1), .val (.ref g0), .val ah, .val be] [be]))
  refine Go.step (fun _ k => XS.aload X3.here hx rfl (hb hby d8_37) rfl (by assumption)  k) ?_
  show Go _ _ _ _ _ _ _ (T3.setTop (mkF m 39 #[.val (.ref x0), .val (.int p1), .val (.ref g0), .val ah, .val be] [be, be]))
  refine Go.step (fun _ k => Jvm.RoadKit.acmp (g := (mkF m 39 #[.val (.ref x0), .val (.int p1), .val (.ref g0), .val ah, .val be] [be, be])) X3 hx rfl (by assumption) (by assumption) (pc0 := 39) (pc' := 42) (same := true) rfl (hb hby d8_39) rfl (decide_eq_true rfl) (by decide) (by decide) k) ?_
  show Go _ _ _ _ _ _ _ (T3.setTop (mkF m 42 #[.val (.ref x0), .val (.int p1), .val (.ref g0), .val ah, .val be] []))
  refine Go.step (fun _ k => XS.iconst X3.here hx rfl (hb hby d8_42) k) ?_
  show Go _ _ _ _ _ _ _ (T3.setTop (mkF m 43 #[.val (.ref x0), .val (.int p1), .val (.ref g0), .val ah, .val be] [(.int (1 : Int32))]))
  refine Go.step (fun _ k => XS.goto X3.here hx rfl (pc0 := 43) (pc' := 47) rfl (hb hby d8_43) (by decide) (by decide) k) ?_
  show Go _ _ _ _ _ _ _ (T3.setTop (mkF m 47 #[.val (.ref x0), .val (.int p1), .val (.ref g0), .val ah, .val be] [(.int (1 : Int32))]))
  refine Go.retN X3 hx (t := .boolean) Bd.returns (by simp) hlk (hb hby d8_47) ?_ (by decide) (by decide)
  rw [e3]
  exact ⟨(by first | rfl | (simp_all [own_nb1, own_nb0]; done)), N0, rfl⟩
theorem d9_0 : decode prog_44_method_6_code 0 = .ok (.aload_n 0, 1) := by decide +kernel
theorem d9_1 : decode prog_44_method_6_code 1 = .ok (.getfield 7, 3) := by decide +kernel
theorem d9_4 : decode prog_44_method_6_code 4 = .ok (.astore_n 1, 1) := by decide +kernel
theorem d9_5 : decode prog_44_method_6_code 5 = .ok (.aload_n 1, 1) := by decide +kernel
theorem d9_6 : decode prog_44_method_6_code 6 = .ok (.ifnull 8, 3) := by decide +kernel
theorem d9_14 : decode prog_44_method_6_code 14 = .ok (.aload_n 1, 1) := by decide +kernel
theorem d9_15 : decode prog_44_method_6_code 15 = .ok (.areturn, 1) := by decide +kernel
theorem ef_pollFirst0 (m : MethodId) (g0 : Addr) : entryFrame m #[(.ref g0)] 2 = mkF m 0 #[.val (.ref g0), .unset] [] := by first | (simp [entryFrame, mkF, argsToLocals, Value.category]; done) | rfl
def QpollFirst0 (Z : State) (g0 : Addr) (h0 : Heap) (n0 : Nat) (v : Option Value) (h : Heap) (L : List Loc) : Prop := (v = some .null) ∧ (Fr n0 L) ∧ (h = h0)
set_option maxRecDepth 65536 in
set_option maxHeartbeats 40000000 in
theorem rmpollFirst0 (l : Launch) (Z : State) (aZ : Array Value) (hw : ∀ d ∈ tables_1, d.before aZ Z = true) (ws : List Jvm.Cond) (g0 : Addr) (h0 : Heap) (n0 : Nat) (Z0 : n0 ≤ h0.size) (F_0 : Fld Z h0 g0 "com/example/steward/steward/runtime/Group" "first" "Lcom/example/steward/steward/runtime/Agent;" .null) :
    MetFree l (⟨"com/example/steward/steward/runtime/Group", "pollFirst", "()Lcom/example/steward/steward/runtime/Agent;"⟩ : MethodName) (head1 (Jvm.Cond.code (⟨"com/example/steward/steward/runtime/Group", "pollFirst", "()Lcom/example/steward/steward/runtime/Agent;"⟩ : MethodName) prog_44_method_6_code 2 (some (.object "com/example/steward/steward/runtime/Agent")) :: ws) ({ frames := 0, cells := 0, slots := 0, locals := 0 } : Room)) (fun a U => a = #[(.ref g0)] ∧ Z.Warmed39 U.vm ∧ U.heap = h0) (fun _ _ _ _ _ => True) (fun _ U o U' => ∃ v L, o = .returned v ∧ QpollFirst0 Z g0 h0 n0 v U'.heap L ∧ FrameEnd U o U' L ({ frames := 0, cells := 0, slots := 0, locals := 0 } : Room).cells ({ frames := 0, cells := 0, slots := 0, locals := 0 } : Room).slots) := by
  refine MetFree.of_bodySF (plainFor_of_name pn_5) hisR ?_
  intro p e s m args below meth c s₁ Bd hml0 hP hK
  obtain ⟨rfl, hZ, hh⟩ := hP
  have hx := Bd.exec
  have hby := Bd.bytes
  have hml : c.maxLocals = 2 := hml0
  have hown : s.vm.findClass "com/example/steward/steward/runtime/Group" = some m.cls := findClass_of_methodNamed Bd.named
  have hnm := (name_of_methodNamed Bd.named Bd.method).1
  have hlk : meth.locks = false := BodyLoose.notSynchronized Bd
  have X0 : Stand p l e ({ frames := 0, cells := 0, slots := 0, locals := 0 } : Room) s m #[(.ref g0)] below meth c s₁ [] 0 0 := Stand.of_body Bd
  have e0 : s₁.heap = h0 := by rw [← hh, Bd.state]; rfl
  have N0 := Fr.nil n0
  have sq0 : h0.size ≤ h0.size := Nat.le_refl _
  change Go p e below s ({ frames := 0, cells := 0, slots := 0, locals := 0 } : Room).cells ({ frames := 0, cells := 0, slots := 0, locals := 0 } : Room).slots (QpollFirst0 Z g0 h0 n0) (s₁.setTop (entryFrame m #[(.ref g0)] 2))
  rw [ef_pollFirst0 m g0]
  show Go _ _ _ _ _ _ _ (s₁.setTop (mkF m 0 #[.val (.ref g0), .unset] []))
  refine Go.step (fun _ k => XS.aloadN X0.here hx rfl (hb hby d9_0) rfl rfl  k) ?_
  show Go _ _ _ _ _ _ _ (s₁.setTop (mkF m 1 #[.val (.ref g0), .unset] [(.ref g0)]))
  obtain ⟨T1, X1, e1, st1⟩ := getF X0 hx hZ hown (host := "") (Or.inl (hw _ (List.mem_of_getElem? (i := 57) rfl))) Via.refl e0 F_0 (g := (mkF m 1 #[.val (.ref g0), .unset] [(.ref g0)])) rfl rfl (hb hby d9_1)
  refine Go.step st1 ?_
  show Go _ _ _ _ _ _ _ (T1.setTop (mkF m 4 #[.val (.ref g0), .unset] [.null]))
  refine Go.step (fun _ k => XS.astoreN X1.here hx rfl (hb hby d9_4) rfl rfl (l' := #[.val (.ref g0), .val .null]) rfl k) ?_
  show Go _ _ _ _ _ _ _ (T1.setTop (mkF m 5 #[.val (.ref g0), .val .null] []))
  refine Go.step (fun _ k => XS.aloadN X1.here hx rfl (hb hby d9_5) rfl rfl  k) ?_
  show Go _ _ _ _ _ _ _ (T1.setTop (mkF m 6 #[.val (.ref g0), .val .null] [.null]))
  refine Go.step (fun _ k => XS.ifnullYes X1.here hx rfl (pc0 := 6) (pc' := 14) rfl (hb hby d9_6) rfl (by decide) (by decide) k) ?_
  show Go _ _ _ _ _ _ _ (T1.setTop (mkF m 14 #[.val (.ref g0), .val .null] []))
  refine Go.step (fun _ k => XS.aloadN X1.here hx rfl (hb hby d9_14) rfl rfl  k) ?_
  show Go _ _ _ _ _ _ _ (T1.setTop (mkF m 15 #[.val (.ref g0), .val .null] [.null]))
  refine Go.retA X1 hx Bd.returns rfl rfl hlk (hb hby d9_15) ?_ (by decide) (by decide)
  rw [e1]
  exact ⟨(rfl), N0, rfl⟩
theorem pd_2 : parseMethodDescriptor "(Lcom/example/steward/steward/runtime/Agent;)V" = some ⟨[(.object "com/example/steward/steward/runtime/Agent")], none⟩ := by decide +kernel
theorem d9_9 : decode prog_44_method_6_code 9 = .ok (.aload_n 0, 1) := by decide +kernel
theorem d9_10 : decode prog_44_method_6_code 10 = .ok (.aload_n 1, 1) := by decide +kernel
theorem d9_11 : decode prog_44_method_6_code 11 = .ok (.invokevirtual 28, 3) := by decide +kernel
theorem ef_pollFirst1 (m : MethodId) (g0 : Addr) : entryFrame m #[(.ref g0)] 2 = mkF m 0 #[.val (.ref g0), .unset] [] := by first | (simp [entryFrame, mkF, argsToLocals, Value.category]; done) | rfl
def QpollFirst1 (Z : State) (g0 : Addr) (x0 : Addr) (u1 : Value) (u5 : Value) (h0 : Heap) (n0 : Nat) (v : Option Value) (h : Heap) (L : List Loc) : Prop := (v = some (.ref x0)) ∧ (Fr n0 L) ∧ (Keep h0 h [g0, x0])
set_option maxRecDepth 65536 in
set_option maxHeartbeats 40000000 in
theorem rmpollFirst1 (l : Launch) (Z : State) (aZ : Array Value) (hw : ∀ d ∈ tables_1, d.before aZ Z = true) (ws : List Jvm.Cond) (g0 : Addr) (x0 : Addr) (u1 : Value) (u5 : Value) (h0 : Heap) (n0 : Nat) (Z0 : n0 ≤ h0.size) (F_0 : Fld Z h0 g0 "com/example/steward/steward/runtime/Group" "first" "Lcom/example/steward/steward/runtime/Agent;" (.ref x0)) (E_1 : Exa Z h0 g0 "com/example/steward/steward/runtime/Group") (E_2 : Exa Z h0 x0 "com/example/steward/steward/runtime/Agent") (F_3 : Fld Z h0 x0 "com/example/steward/steward/runtime/Agent" "group" "Lcom/example/steward/steward/runtime/Group;" u1) (F_4 : Fld Z h0 g0 "com/example/steward/steward/runtime/Group" "first" "Lcom/example/steward/steward/runtime/Agent;" (.ref x0)) (g_5 : n0 ≤ g0) (g_6 : n0 ≤ x0) (F_7 : Fld Z h0 g0 "com/example/steward/steward/runtime/Group" "last" "Lcom/example/steward/steward/runtime/Agent;" u5) (F_8 : Fld Z h0 x0 "com/example/steward/steward/runtime/Agent" "ahead" "Lcom/example/steward/steward/runtime/Agent;" .null) (F_9 : Fld Z h0 x0 "com/example/steward/steward/runtime/Agent" "behind" "Lcom/example/steward/steward/runtime/Agent;" .null) :
    MetFree l (⟨"com/example/steward/steward/runtime/Group", "pollFirst", "()Lcom/example/steward/steward/runtime/Agent;"⟩ : MethodName) (head1 (Jvm.Cond.code (⟨"com/example/steward/steward/runtime/Group", "pollFirst", "()Lcom/example/steward/steward/runtime/Agent;"⟩ : MethodName) prog_44_method_6_code 2 (some (.object "com/example/steward/steward/runtime/Agent")) :: ws) ({ frames := 1, cells := 0, slots := 0, locals := 13 } : Room)) (fun a U => a = #[(.ref g0)] ∧ Z.Warmed39 U.vm ∧ U.heap = h0) (fun _ _ _ _ _ => True) (fun _ U o U' => ∃ v L, o = .returned v ∧ QpollFirst1 Z g0 x0 u1 u5 h0 n0 v U'.heap L ∧ FrameEnd U o U' L ({ frames := 1, cells := 0, slots := 0, locals := 13 } : Room).cells ({ frames := 1, cells := 0, slots := 0, locals := 13 } : Room).slots) := by
  refine MetFree.of_bodySF (plainFor_of_name pn_5) hisR ?_
  intro p e s m args below meth c s₁ Bd hml0 hP hK
  obtain ⟨rfl, hZ, hh⟩ := hP
  have hx := Bd.exec
  have hby := Bd.bytes
  have hml : c.maxLocals = 2 := hml0
  have hown : s.vm.findClass "com/example/steward/steward/runtime/Group" = some m.cls := findClass_of_methodNamed Bd.named
  have hnm := (name_of_methodNamed Bd.named Bd.method).1
  have hlk : meth.locks = false := BodyLoose.notSynchronized Bd
  have X0 : Stand p l e ({ frames := 1, cells := 0, slots := 0, locals := 13 } : Room) s m #[(.ref g0)] below meth c s₁ [] 0 0 := Stand.of_body Bd
  have e0 : s₁.heap = h0 := by rw [← hh, Bd.state]; rfl
  have N0 := Fr.nil n0
  have sq0 : h0.size ≤ h0.size := Nat.le_refl _
  have k0 : Keep h0 h0 [g0, x0] := Keep.refl _ _
  change Go p e below s ({ frames := 1, cells := 0, slots := 0, locals := 13 } : Room).cells ({ frames := 1, cells := 0, slots := 0, locals := 13 } : Room).slots (QpollFirst1 Z g0 x0 u1 u5 h0 n0) (s₁.setTop (entryFrame m #[(.ref g0)] 2))
  rw [ef_pollFirst1 m g0]
  show Go _ _ _ _ _ _ _ (s₁.setTop (mkF m 0 #[.val (.ref g0), .unset] []))
  refine Go.step (fun _ k => XS.aloadN X0.here hx rfl (hb hby d9_0) rfl rfl  k) ?_
  show Go _ _ _ _ _ _ _ (s₁.setTop (mkF m 1 #[.val (.ref g0), .unset] [(.ref g0)]))
  obtain ⟨T1, X1, e1, st1⟩ := getF X0 hx hZ hown (host := "") (Or.inl (hw _ (List.mem_of_getElem? (i := 57) rfl))) Via.refl e0 F_4 (g := (mkF m 1 #[.val (.ref g0), .unset] [(.ref g0)])) rfl rfl (hb hby d9_1)
  refine Go.step st1 ?_
  show Go _ _ _ _ _ _ _ (T1.setTop (mkF m 4 #[.val (.ref g0), .unset] [(.ref x0)]))
  refine Go.step (fun _ k => XS.astoreN X1.here hx rfl (hb hby d9_4) rfl rfl (l' := #[.val (.ref g0), .val (.ref x0)]) rfl k) ?_
  show Go _ _ _ _ _ _ _ (T1.setTop (mkF m 5 #[.val (.ref g0), .val (.ref x0)] []))
  refine Go.step (fun _ k => XS.aloadN X1.here hx rfl (hb hby d9_5) rfl rfl  k) ?_
  show Go _ _ _ _ _ _ _ (T1.setTop (mkF m 6 #[.val (.ref g0), .val (.ref x0)] [(.ref x0)]))
  refine Go.step (fun _ k => XS.ifnullNo X1.here hx rfl (hb hby d9_6) rfl k) ?_
  show Go _ _ _ _ _ _ _ (T1.setTop (mkF m 9 #[.val (.ref g0), .val (.ref x0)] []))
  refine Go.step (fun _ k => XS.aloadN X1.here hx rfl (hb hby d9_9) rfl rfl  k) ?_
  show Go _ _ _ _ _ _ _ (T1.setTop (mkF m 10 #[.val (.ref g0), .val (.ref x0)] [(.ref g0)]))
  refine Go.step (fun _ k => XS.aloadN X1.here hx rfl (hb hby d9_10) rfl rfl  k) ?_
  show Go _ _ _ _ _ _ _ (T1.setTop (mkF m 11 #[.val (.ref g0), .val (.ref x0)] [(.ref x0), (.ref g0)]))
  obtain ⟨cq2, kq2, q2a, q2b, q2c⟩ := isOf hZ e1 E_1
  obtain ⟨_, _, ⟨T2, L2, k2, n2⟩, -, X2, ⟨Lc2, hQ2, l2, y2, z2⟩, st2⟩ := X1.virtualBack hx (y := (⟨"com/example/steward/steward/runtime/Group", "remove", "(Lcom/example/steward/steward/runtime/Agent;)V"⟩ : MethodName)) (z := (⟨"com/example/steward/steward/runtime/Group", "remove", "(Lcom/example/steward/steward/runtime/Agent;)V"⟩ : MethodName)) hown (mvT hZ (hw _ (List.mem_of_getElem? (i := 85) rfl))) (mvT hZ (hw _ (List.mem_of_getElem? (i := 86) rfl))) (notFace_of_selects (args := #[]) (mvT hZ (hw _ (List.mem_of_getElem? (i := 88) rfl)))) (mvT hZ (hw _ (List.mem_of_getElem? (i := 88) rfl))) (mvT hZ (hw _ (List.mem_of_getElem? (i := 87) rfl))) (by decide) (backOf (W := 0) (rmrem00 l Z aZ hw [] g0 x0 u1 (Value.ref x0) u5 h0 n0 Z0 E_1 E_2 F_3 F_4 F_7 F_8 F_9 g_5 g_6) hZ (hw _ (List.mem_of_getElem? (i := 89) rfl)) (hw _ (List.mem_of_getElem? (i := 2) rfl)) (by decide) (by decide)) q2a q2c (g := (mkF m 11 #[.val (.ref g0), .val (.ref x0)] [(.ref x0), (.ref g0)])) rfl (by rw [hml]; rfl) (Steps.refl _) (argsL := [(.ref x0)]) (rest := []) (lenOf pd_2 rfl) rfl (by show 2 * 0 + _ ≤ _; exact Nat.le_of_eq rfl) (hb hby d9_11) (fun _ _ => ⟨rfl, e1, (by decide : 0 + 0 ≤ _), (by decide : 0 + 0 ≤ _)⟩)
  dsimp only [Pt.U, Pt.locs, Pt.cells, Pt.slots] at X2 l2 y2 z2 st2 hQ2
  subst l2 y2 z2
  obtain ⟨rfl, Nq2, K2, c2_0, c2_1, c2_2, c2_3, c2_4, c2_5, c2_6⟩ := hQ2
  have N2 := Fr.app N0 Nq2
  refine Go.tr st2 ?_
  have z3 : n0 ≤ T2.heap.size := Nat.le_trans Z0 K2.1
  have sqz3 : h0.size ≤ T2.heap.size := Nat.le_trans sq0 K2.1
  have k4 : Keep h0 T2.heap [g0, x0] := k0.trans K2 (allS (Or.inl (List.mem_of_getElem? (i := 0) rfl)) (allS (Or.inl (List.mem_of_getElem? (i := 1) rfl)) all0))
  show Go _ _ _ _ _ _ _ (T2.setTop (mkF m 14 #[.val (.ref g0), .val (.ref x0)] []))
  refine Go.step (fun _ k => XS.aloadN X2.here hx rfl (hb hby d9_14) rfl rfl  k) ?_
  show Go _ _ _ _ _ _ _ (T2.setTop (mkF m 15 #[.val (.ref g0), .val (.ref x0)] [(.ref x0)]))
  refine Go.retA X2 hx Bd.returns rfl rfl hlk (hb hby d9_15) ?_ (by decide) (by decide)
  exact ⟨(rfl), N2, k4⟩
theorem ef_pollFirst2 (m : MethodId) (g0 : Addr) : entryFrame m #[(.ref g0)] 2 = mkF m 0 #[.val (.ref g0), .unset] [] := by first | (simp [entryFrame, mkF, argsToLocals, Value.category]; done) | rfl
def QpollFirst2 (Z : State) (g0 : Addr) (x0 : Addr) (u1 : Value) (u5 : Value) (y0 : Addr) (a1 : Value) (a2 : Value) (a3 : Value) (h0 : Heap) (n0 : Nat) (v : Option Value) (h : Heap) (L : List Loc) : Prop := (v = some (.ref x0)) ∧ (Fr n0 L) ∧ (Keep h0 h [g0, x0, y0])
set_option maxRecDepth 65536 in
set_option maxHeartbeats 40000000 in
theorem rmpollFirst2 (l : Launch) (Z : State) (aZ : Array Value) (hw : ∀ d ∈ tables_1, d.before aZ Z = true) (ws : List Jvm.Cond) (g0 : Addr) (x0 : Addr) (u1 : Value) (u5 : Value) (y0 : Addr) (a1 : Value) (a2 : Value) (a3 : Value) (h0 : Heap) (n0 : Nat) (Z0 : n0 ≤ h0.size) (F_0 : Fld Z h0 g0 "com/example/steward/steward/runtime/Group" "first" "Lcom/example/steward/steward/runtime/Agent;" (.ref x0)) (E_1 : Exa Z h0 g0 "com/example/steward/steward/runtime/Group") (E_2 : Exa Z h0 x0 "com/example/steward/steward/runtime/Agent") (F_3 : Fld Z h0 x0 "com/example/steward/steward/runtime/Agent" "group" "Lcom/example/steward/steward/runtime/Group;" u1) (F_4 : Fld Z h0 g0 "com/example/steward/steward/runtime/Group" "first" "Lcom/example/steward/steward/runtime/Agent;" (.ref x0)) (g_5 : n0 ≤ g0) (g_6 : n0 ≤ x0) (F_7 : Fld Z h0 g0 "com/example/steward/steward/runtime/Group" "last" "Lcom/example/steward/steward/runtime/Agent;" u5) (F_8 : Fld Z h0 x0 "com/example/steward/steward/runtime/Agent" "behind" "Lcom/example/steward/steward/runtime/Agent;" (.ref y0)) (F_9 : Fld Z h0 x0 "com/example/steward/steward/runtime/Agent" "ahead" "Lcom/example/steward/steward/runtime/Agent;" .null) (E_10 : Exa Z h0 y0 "com/example/steward/steward/runtime/Agent") (F_11 : Fld Z h0 y0 "com/example/steward/steward/runtime/Agent" "behind" "Lcom/example/steward/steward/runtime/Agent;" a1) (F_12 : Fld Z h0 y0 "com/example/steward/steward/runtime/Agent" "group" "Lcom/example/steward/steward/runtime/Group;" a2) (F_13 : Fld Z h0 y0 "com/example/steward/steward/runtime/Agent" "ahead" "Lcom/example/steward/steward/runtime/Agent;" a3) (ne_14 : x0 ≠ y0) (g_15 : n0 ≤ y0) :
    MetFree l (⟨"com/example/steward/steward/runtime/Group", "pollFirst", "()Lcom/example/steward/steward/runtime/Agent;"⟩ : MethodName) (head1 (Jvm.Cond.code (⟨"com/example/steward/steward/runtime/Group", "pollFirst", "()Lcom/example/steward/steward/runtime/Agent;"⟩ : MethodName) prog_44_method_6_code 2 (some (.object "com/example/steward/steward/runtime/Agent")) :: ws) ({ frames := 1, cells := 0, slots := 0, locals := 13 } : Room)) (fun a U => a = #[(.ref g0)] ∧ Z.Warmed39 U.vm ∧ U.heap = h0) (fun _ _ _ _ _ => True) (fun _ U o U' => ∃ v L, o = .returned v ∧ QpollFirst2 Z g0 x0 u1 u5 y0 a1 a2 a3 h0 n0 v U'.heap L ∧ FrameEnd U o U' L ({ frames := 1, cells := 0, slots := 0, locals := 13 } : Room).cells ({ frames := 1, cells := 0, slots := 0, locals := 13 } : Room).slots) := by
  refine MetFree.of_bodySF (plainFor_of_name pn_5) hisR ?_
  intro p e s m args below meth c s₁ Bd hml0 hP hK
  obtain ⟨rfl, hZ, hh⟩ := hP
  have hx := Bd.exec
  have hby := Bd.bytes
  have hml : c.maxLocals = 2 := hml0
  have hown : s.vm.findClass "com/example/steward/steward/runtime/Group" = some m.cls := findClass_of_methodNamed Bd.named
  have hnm := (name_of_methodNamed Bd.named Bd.method).1
  have hlk : meth.locks = false := BodyLoose.notSynchronized Bd
  have X0 : Stand p l e ({ frames := 1, cells := 0, slots := 0, locals := 13 } : Room) s m #[(.ref g0)] below meth c s₁ [] 0 0 := Stand.of_body Bd
  have e0 : s₁.heap = h0 := by rw [← hh, Bd.state]; rfl
  have N0 := Fr.nil n0
  have sq0 : h0.size ≤ h0.size := Nat.le_refl _
  have k0 : Keep h0 h0 [g0, x0, y0] := Keep.refl _ _
  change Go p e below s ({ frames := 1, cells := 0, slots := 0, locals := 13 } : Room).cells ({ frames := 1, cells := 0, slots := 0, locals := 13 } : Room).slots (QpollFirst2 Z g0 x0 u1 u5 y0 a1 a2 a3 h0 n0) (s₁.setTop (entryFrame m #[(.ref g0)] 2))
  rw [ef_pollFirst2 m g0]
  show Go _ _ _ _ _ _ _ (s₁.setTop (mkF m 0 #[.val (.ref g0), .unset] []))
  refine Go.step (fun _ k => XS.aloadN X0.here hx rfl (hb hby d9_0) rfl rfl  k) ?_
  show Go _ _ _ _ _ _ _ (s₁.setTop (mkF m 1 #[.val (.ref g0), .unset] [(.ref g0)]))
  obtain ⟨T1, X1, e1, st1⟩ := getF X0 hx hZ hown (host := "") (Or.inl (hw _ (List.mem_of_getElem? (i := 57) rfl))) Via.refl e0 F_4 (g := (mkF m 1 #[.val (.ref g0), .unset] [(.ref g0)])) rfl rfl (hb hby d9_1)
  refine Go.step st1 ?_
  show Go _ _ _ _ _ _ _ (T1.setTop (mkF m 4 #[.val (.ref g0), .unset] [(.ref x0)]))
  refine Go.step (fun _ k => XS.astoreN X1.here hx rfl (hb hby d9_4) rfl rfl (l' := #[.val (.ref g0), .val (.ref x0)]) rfl k) ?_
  show Go _ _ _ _ _ _ _ (T1.setTop (mkF m 5 #[.val (.ref g0), .val (.ref x0)] []))
  refine Go.step (fun _ k => XS.aloadN X1.here hx rfl (hb hby d9_5) rfl rfl  k) ?_
  show Go _ _ _ _ _ _ _ (T1.setTop (mkF m 6 #[.val (.ref g0), .val (.ref x0)] [(.ref x0)]))
  refine Go.step (fun _ k => XS.ifnullNo X1.here hx rfl (hb hby d9_6) rfl k) ?_
  show Go _ _ _ _ _ _ _ (T1.setTop (mkF m 9 #[.val (.ref g0), .val (.ref x0)] []))
  refine Go.step (fun _ k => XS.aloadN X1.here hx rfl (hb hby d9_9) rfl rfl  k) ?_
  show Go _ _ _ _ _ _ _ (T1.setTop (mkF m 10 #[.val (.ref g0), .val (.ref x0)] [(.ref g0)]))
  refine Go.step (fun _ k => XS.aloadN X1.here hx rfl (hb hby d9_10) rfl rfl  k) ?_
  show Go _ _ _ _ _ _ _ (T1.setTop (mkF m 11 #[.val (.ref g0), .val (.ref x0)] [(.ref x0), (.ref g0)]))
  obtain ⟨cq2, kq2, q2a, q2b, q2c⟩ := isOf hZ e1 E_1
  obtain ⟨_, _, ⟨T2, L2, k2, n2⟩, -, X2, ⟨Lc2, hQ2, l2, y2, z2⟩, st2⟩ := X1.virtualBack hx (y := (⟨"com/example/steward/steward/runtime/Group", "remove", "(Lcom/example/steward/steward/runtime/Agent;)V"⟩ : MethodName)) (z := (⟨"com/example/steward/steward/runtime/Group", "remove", "(Lcom/example/steward/steward/runtime/Agent;)V"⟩ : MethodName)) hown (mvT hZ (hw _ (List.mem_of_getElem? (i := 85) rfl))) (mvT hZ (hw _ (List.mem_of_getElem? (i := 86) rfl))) (notFace_of_selects (args := #[]) (mvT hZ (hw _ (List.mem_of_getElem? (i := 88) rfl)))) (mvT hZ (hw _ (List.mem_of_getElem? (i := 88) rfl))) (mvT hZ (hw _ (List.mem_of_getElem? (i := 87) rfl))) (by decide) (backOf (W := 0) (rmrem01 l Z aZ hw [] g0 x0 u1 (Value.ref x0) u5 y0 a3 a2 a1 h0 n0 Z0 E_1 E_2 F_3 F_4 F_7 F_9 F_8 g_5 g_6 E_10 F_13 F_12 F_11 ne_14 g_15) hZ (hw _ (List.mem_of_getElem? (i := 89) rfl)) (hw _ (List.mem_of_getElem? (i := 2) rfl)) (by decide) (by decide)) q2a q2c (g := (mkF m 11 #[.val (.ref g0), .val (.ref x0)] [(.ref x0), (.ref g0)])) rfl (by rw [hml]; rfl) (Steps.refl _) (argsL := [(.ref x0)]) (rest := []) (lenOf pd_2 rfl) rfl (by show 2 * 0 + _ ≤ _; exact Nat.le_of_eq rfl) (hb hby d9_11) (fun _ _ => ⟨rfl, e1, (by decide : 0 + 0 ≤ _), (by decide : 0 + 0 ≤ _)⟩)
  dsimp only [Pt.U, Pt.locs, Pt.cells, Pt.slots] at X2 l2 y2 z2 st2 hQ2
  subst l2 y2 z2
  obtain ⟨rfl, Nq2, K2, c2_0, c2_1, c2_2, c2_3, c2_4, c2_5, c2_6, c2_7, c2_8, c2_9, c2_10⟩ := hQ2
  have N2 := Fr.app N0 Nq2
  refine Go.tr st2 ?_
  have z3 : n0 ≤ T2.heap.size := Nat.le_trans Z0 K2.1
  have sqz3 : h0.size ≤ T2.heap.size := Nat.le_trans sq0 K2.1
  have k4 : Keep h0 T2.heap [g0, x0, y0] := k0.trans K2 (allS (Or.inl (List.mem_of_getElem? (i := 0) rfl)) (allS (Or.inl (List.mem_of_getElem? (i := 1) rfl)) (allS (Or.inl (List.mem_of_getElem? (i := 2) rfl)) all0)))
  show Go _ _ _ _ _ _ _ (T2.setTop (mkF m 14 #[.val (.ref g0), .val (.ref x0)] []))
  refine Go.step (fun _ k => XS.aloadN X2.here hx rfl (hb hby d9_14) rfl rfl  k) ?_
  show Go _ _ _ _ _ _ _ (T2.setTop (mkF m 15 #[.val (.ref g0), .val (.ref x0)] [(.ref x0)]))
  refine Go.retA X2 hx Bd.returns rfl rfl hlk (hb hby d9_15) ?_ (by decide) (by decide)
  exact ⟨(rfl), N2, k4⟩
theorem d12_0 : decode prog_44_method_7_code 0 = .ok (.aload_n 0, 1) := by decide +kernel
theorem d12_1 : decode prog_44_method_7_code 1 = .ok (.getfield 19, 3) := by decide +kernel
theorem d12_4 : decode prog_44_method_7_code 4 = .ok (.astore_n 1, 1) := by decide +kernel
theorem d12_5 : decode prog_44_method_7_code 5 = .ok (.aload_n 1, 1) := by decide +kernel
theorem d12_6 : decode prog_44_method_7_code 6 = .ok (.ifnull 8, 3) := by decide +kernel
theorem d12_14 : decode prog_44_method_7_code 14 = .ok (.aload_n 1, 1) := by decide +kernel
theorem d12_15 : decode prog_44_method_7_code 15 = .ok (.areturn, 1) := by decide +kernel
theorem ef_pollLast0 (m : MethodId) (g0 : Addr) : entryFrame m #[(.ref g0)] 2 = mkF m 0 #[.val (.ref g0), .unset] [] := by first | (simp [entryFrame, mkF, argsToLocals, Value.category]; done) | rfl
def QpollLast0 (Z : State) (g0 : Addr) (h0 : Heap) (n0 : Nat) (v : Option Value) (h : Heap) (L : List Loc) : Prop := (v = some .null) ∧ (Fr n0 L) ∧ (h = h0)
set_option maxRecDepth 65536 in
set_option maxHeartbeats 40000000 in
theorem rmpollLast0 (l : Launch) (Z : State) (aZ : Array Value) (hw : ∀ d ∈ tables_1, d.before aZ Z = true) (ws : List Jvm.Cond) (g0 : Addr) (h0 : Heap) (n0 : Nat) (Z0 : n0 ≤ h0.size) (F_0 : Fld Z h0 g0 "com/example/steward/steward/runtime/Group" "last" "Lcom/example/steward/steward/runtime/Agent;" .null) :
    MetFree l (⟨"com/example/steward/steward/runtime/Group", "pollLast", "()Lcom/example/steward/steward/runtime/Agent;"⟩ : MethodName) (head1 (Jvm.Cond.code (⟨"com/example/steward/steward/runtime/Group", "pollLast", "()Lcom/example/steward/steward/runtime/Agent;"⟩ : MethodName) prog_44_method_7_code 2 (some (.object "com/example/steward/steward/runtime/Agent")) :: ws) ({ frames := 0, cells := 0, slots := 0, locals := 0 } : Room)) (fun a U => a = #[(.ref g0)] ∧ Z.Warmed39 U.vm ∧ U.heap = h0) (fun _ _ _ _ _ => True) (fun _ U o U' => ∃ v L, o = .returned v ∧ QpollLast0 Z g0 h0 n0 v U'.heap L ∧ FrameEnd U o U' L ({ frames := 0, cells := 0, slots := 0, locals := 0 } : Room).cells ({ frames := 0, cells := 0, slots := 0, locals := 0 } : Room).slots) := by
  refine MetFree.of_bodySF (plainFor_of_name pn_5) hisR ?_
  intro p e s m args below meth c s₁ Bd hml0 hP hK
  obtain ⟨rfl, hZ, hh⟩ := hP
  have hx := Bd.exec
  have hby := Bd.bytes
  have hml : c.maxLocals = 2 := hml0
  have hown : s.vm.findClass "com/example/steward/steward/runtime/Group" = some m.cls := findClass_of_methodNamed Bd.named
  have hnm := (name_of_methodNamed Bd.named Bd.method).1
  have hlk : meth.locks = false := BodyLoose.notSynchronized Bd
  have X0 : Stand p l e ({ frames := 0, cells := 0, slots := 0, locals := 0 } : Room) s m #[(.ref g0)] below meth c s₁ [] 0 0 := Stand.of_body Bd
  have e0 : s₁.heap = h0 := by rw [← hh, Bd.state]; rfl
  have N0 := Fr.nil n0
  have sq0 : h0.size ≤ h0.size := Nat.le_refl _
  change Go p e below s ({ frames := 0, cells := 0, slots := 0, locals := 0 } : Room).cells ({ frames := 0, cells := 0, slots := 0, locals := 0 } : Room).slots (QpollLast0 Z g0 h0 n0) (s₁.setTop (entryFrame m #[(.ref g0)] 2))
  rw [ef_pollLast0 m g0]
  show Go _ _ _ _ _ _ _ (s₁.setTop (mkF m 0 #[.val (.ref g0), .unset] []))
  refine Go.step (fun _ k => XS.aloadN X0.here hx rfl (hb hby d12_0) rfl rfl  k) ?_
  show Go _ _ _ _ _ _ _ (s₁.setTop (mkF m 1 #[.val (.ref g0), .unset] [(.ref g0)]))
  obtain ⟨T1, X1, e1, st1⟩ := getF X0 hx hZ hown (host := "") (Or.inl (hw _ (List.mem_of_getElem? (i := 81) rfl))) Via.refl e0 F_0 (g := (mkF m 1 #[.val (.ref g0), .unset] [(.ref g0)])) rfl rfl (hb hby d12_1)
  refine Go.step st1 ?_
  show Go _ _ _ _ _ _ _ (T1.setTop (mkF m 4 #[.val (.ref g0), .unset] [.null]))
  refine Go.step (fun _ k => XS.astoreN X1.here hx rfl (hb hby d12_4) rfl rfl (l' := #[.val (.ref g0), .val .null]) rfl k) ?_
  show Go _ _ _ _ _ _ _ (T1.setTop (mkF m 5 #[.val (.ref g0), .val .null] []))
  refine Go.step (fun _ k => XS.aloadN X1.here hx rfl (hb hby d12_5) rfl rfl  k) ?_
  show Go _ _ _ _ _ _ _ (T1.setTop (mkF m 6 #[.val (.ref g0), .val .null] [.null]))
  refine Go.step (fun _ k => XS.ifnullYes X1.here hx rfl (pc0 := 6) (pc' := 14) rfl (hb hby d12_6) rfl (by decide) (by decide) k) ?_
  show Go _ _ _ _ _ _ _ (T1.setTop (mkF m 14 #[.val (.ref g0), .val .null] []))
  refine Go.step (fun _ k => XS.aloadN X1.here hx rfl (hb hby d12_14) rfl rfl  k) ?_
  show Go _ _ _ _ _ _ _ (T1.setTop (mkF m 15 #[.val (.ref g0), .val .null] [.null]))
  refine Go.retA X1 hx Bd.returns rfl rfl hlk (hb hby d12_15) ?_ (by decide) (by decide)
  rw [e1]
  exact ⟨(rfl), N0, rfl⟩
theorem d12_9 : decode prog_44_method_7_code 9 = .ok (.aload_n 0, 1) := by decide +kernel
theorem d12_10 : decode prog_44_method_7_code 10 = .ok (.aload_n 1, 1) := by decide +kernel
theorem d12_11 : decode prog_44_method_7_code 11 = .ok (.invokevirtual 28, 3) := by decide +kernel
theorem ef_pollLast1 (m : MethodId) (g0 : Addr) : entryFrame m #[(.ref g0)] 2 = mkF m 0 #[.val (.ref g0), .unset] [] := by first | (simp [entryFrame, mkF, argsToLocals, Value.category]; done) | rfl
def QpollLast1 (Z : State) (g0 : Addr) (x0 : Addr) (u1 : Value) (u5 : Value) (h0 : Heap) (n0 : Nat) (v : Option Value) (h : Heap) (L : List Loc) : Prop := (v = some (.ref x0)) ∧ (Fr n0 L) ∧ (Keep h0 h [g0, x0])
set_option maxRecDepth 65536 in
set_option maxHeartbeats 40000000 in
theorem rmpollLast1 (l : Launch) (Z : State) (aZ : Array Value) (hw : ∀ d ∈ tables_1, d.before aZ Z = true) (ws : List Jvm.Cond) (g0 : Addr) (x0 : Addr) (u1 : Value) (u5 : Value) (h0 : Heap) (n0 : Nat) (Z0 : n0 ≤ h0.size) (F_0 : Fld Z h0 g0 "com/example/steward/steward/runtime/Group" "last" "Lcom/example/steward/steward/runtime/Agent;" (.ref x0)) (E_1 : Exa Z h0 g0 "com/example/steward/steward/runtime/Group") (E_2 : Exa Z h0 x0 "com/example/steward/steward/runtime/Agent") (F_3 : Fld Z h0 x0 "com/example/steward/steward/runtime/Agent" "group" "Lcom/example/steward/steward/runtime/Group;" u1) (F_4 : Fld Z h0 g0 "com/example/steward/steward/runtime/Group" "last" "Lcom/example/steward/steward/runtime/Agent;" (.ref x0)) (g_5 : n0 ≤ g0) (g_6 : n0 ≤ x0) (F_7 : Fld Z h0 g0 "com/example/steward/steward/runtime/Group" "first" "Lcom/example/steward/steward/runtime/Agent;" u5) (F_8 : Fld Z h0 x0 "com/example/steward/steward/runtime/Agent" "ahead" "Lcom/example/steward/steward/runtime/Agent;" .null) (F_9 : Fld Z h0 x0 "com/example/steward/steward/runtime/Agent" "behind" "Lcom/example/steward/steward/runtime/Agent;" .null) :
    MetFree l (⟨"com/example/steward/steward/runtime/Group", "pollLast", "()Lcom/example/steward/steward/runtime/Agent;"⟩ : MethodName) (head1 (Jvm.Cond.code (⟨"com/example/steward/steward/runtime/Group", "pollLast", "()Lcom/example/steward/steward/runtime/Agent;"⟩ : MethodName) prog_44_method_7_code 2 (some (.object "com/example/steward/steward/runtime/Agent")) :: ws) ({ frames := 1, cells := 0, slots := 0, locals := 13 } : Room)) (fun a U => a = #[(.ref g0)] ∧ Z.Warmed39 U.vm ∧ U.heap = h0) (fun _ _ _ _ _ => True) (fun _ U o U' => ∃ v L, o = .returned v ∧ QpollLast1 Z g0 x0 u1 u5 h0 n0 v U'.heap L ∧ FrameEnd U o U' L ({ frames := 1, cells := 0, slots := 0, locals := 13 } : Room).cells ({ frames := 1, cells := 0, slots := 0, locals := 13 } : Room).slots) := by
  refine MetFree.of_bodySF (plainFor_of_name pn_5) hisR ?_
  intro p e s m args below meth c s₁ Bd hml0 hP hK
  obtain ⟨rfl, hZ, hh⟩ := hP
  have hx := Bd.exec
  have hby := Bd.bytes
  have hml : c.maxLocals = 2 := hml0
  have hown : s.vm.findClass "com/example/steward/steward/runtime/Group" = some m.cls := findClass_of_methodNamed Bd.named
  have hnm := (name_of_methodNamed Bd.named Bd.method).1
  have hlk : meth.locks = false := BodyLoose.notSynchronized Bd
  have X0 : Stand p l e ({ frames := 1, cells := 0, slots := 0, locals := 13 } : Room) s m #[(.ref g0)] below meth c s₁ [] 0 0 := Stand.of_body Bd
  have e0 : s₁.heap = h0 := by rw [← hh, Bd.state]; rfl
  have N0 := Fr.nil n0
  have sq0 : h0.size ≤ h0.size := Nat.le_refl _
  have k0 : Keep h0 h0 [g0, x0] := Keep.refl _ _
  change Go p e below s ({ frames := 1, cells := 0, slots := 0, locals := 13 } : Room).cells ({ frames := 1, cells := 0, slots := 0, locals := 13 } : Room).slots (QpollLast1 Z g0 x0 u1 u5 h0 n0) (s₁.setTop (entryFrame m #[(.ref g0)] 2))
  rw [ef_pollLast1 m g0]
  show Go _ _ _ _ _ _ _ (s₁.setTop (mkF m 0 #[.val (.ref g0), .unset] []))
  refine Go.step (fun _ k => XS.aloadN X0.here hx rfl (hb hby d12_0) rfl rfl  k) ?_
  show Go _ _ _ _ _ _ _ (s₁.setTop (mkF m 1 #[.val (.ref g0), .unset] [(.ref g0)]))
  obtain ⟨T1, X1, e1, st1⟩ := getF X0 hx hZ hown (host := "") (Or.inl (hw _ (List.mem_of_getElem? (i := 81) rfl))) Via.refl e0 F_4 (g := (mkF m 1 #[.val (.ref g0), .unset] [(.ref g0)])) rfl rfl (hb hby d12_1)
  refine Go.step st1 ?_
  show Go _ _ _ _ _ _ _ (T1.setTop (mkF m 4 #[.val (.ref g0), .unset] [(.ref x0)]))
  refine Go.step (fun _ k => XS.astoreN X1.here hx rfl (hb hby d12_4) rfl rfl (l' := #[.val (.ref g0), .val (.ref x0)]) rfl k) ?_
  show Go _ _ _ _ _ _ _ (T1.setTop (mkF m 5 #[.val (.ref g0), .val (.ref x0)] []))
  refine Go.step (fun _ k => XS.aloadN X1.here hx rfl (hb hby d12_5) rfl rfl  k) ?_
  show Go _ _ _ _ _ _ _ (T1.setTop (mkF m 6 #[.val (.ref g0), .val (.ref x0)] [(.ref x0)]))
  refine Go.step (fun _ k => XS.ifnullNo X1.here hx rfl (hb hby d12_6) rfl k) ?_
  show Go _ _ _ _ _ _ _ (T1.setTop (mkF m 9 #[.val (.ref g0), .val (.ref x0)] []))
  refine Go.step (fun _ k => XS.aloadN X1.here hx rfl (hb hby d12_9) rfl rfl  k) ?_
  show Go _ _ _ _ _ _ _ (T1.setTop (mkF m 10 #[.val (.ref g0), .val (.ref x0)] [(.ref g0)]))
  refine Go.step (fun _ k => XS.aloadN X1.here hx rfl (hb hby d12_10) rfl rfl  k) ?_
  show Go _ _ _ _ _ _ _ (T1.setTop (mkF m 11 #[.val (.ref g0), .val (.ref x0)] [(.ref x0), (.ref g0)]))
  obtain ⟨cq2, kq2, q2a, q2b, q2c⟩ := isOf hZ e1 E_1
  obtain ⟨_, _, ⟨T2, L2, k2, n2⟩, -, X2, ⟨Lc2, hQ2, l2, y2, z2⟩, st2⟩ := X1.virtualBack hx (y := (⟨"com/example/steward/steward/runtime/Group", "remove", "(Lcom/example/steward/steward/runtime/Agent;)V"⟩ : MethodName)) (z := (⟨"com/example/steward/steward/runtime/Group", "remove", "(Lcom/example/steward/steward/runtime/Agent;)V"⟩ : MethodName)) hown (mvT hZ (hw _ (List.mem_of_getElem? (i := 85) rfl))) (mvT hZ (hw _ (List.mem_of_getElem? (i := 86) rfl))) (notFace_of_selects (args := #[]) (mvT hZ (hw _ (List.mem_of_getElem? (i := 88) rfl)))) (mvT hZ (hw _ (List.mem_of_getElem? (i := 88) rfl))) (mvT hZ (hw _ (List.mem_of_getElem? (i := 87) rfl))) (by decide) (backOf (W := 0) (rmrem00 l Z aZ hw [] g0 x0 u1 u5 (Value.ref x0) h0 n0 Z0 E_1 E_2 F_3 F_7 F_4 F_8 F_9 g_5 g_6) hZ (hw _ (List.mem_of_getElem? (i := 89) rfl)) (hw _ (List.mem_of_getElem? (i := 2) rfl)) (by decide) (by decide)) q2a q2c (g := (mkF m 11 #[.val (.ref g0), .val (.ref x0)] [(.ref x0), (.ref g0)])) rfl (by rw [hml]; rfl) (Steps.refl _) (argsL := [(.ref x0)]) (rest := []) (lenOf pd_2 rfl) rfl (by show 2 * 0 + _ ≤ _; exact Nat.le_of_eq rfl) (hb hby d12_11) (fun _ _ => ⟨rfl, e1, (by decide : 0 + 0 ≤ _), (by decide : 0 + 0 ≤ _)⟩)
  dsimp only [Pt.U, Pt.locs, Pt.cells, Pt.slots] at X2 l2 y2 z2 st2 hQ2
  subst l2 y2 z2
  obtain ⟨rfl, Nq2, K2, c2_0, c2_1, c2_2, c2_3, c2_4, c2_5, c2_6⟩ := hQ2
  have N2 := Fr.app N0 Nq2
  refine Go.tr st2 ?_
  have z3 : n0 ≤ T2.heap.size := Nat.le_trans Z0 K2.1
  have sqz3 : h0.size ≤ T2.heap.size := Nat.le_trans sq0 K2.1
  have k4 : Keep h0 T2.heap [g0, x0] := k0.trans K2 (allS (Or.inl (List.mem_of_getElem? (i := 0) rfl)) (allS (Or.inl (List.mem_of_getElem? (i := 1) rfl)) all0))
  show Go _ _ _ _ _ _ _ (T2.setTop (mkF m 14 #[.val (.ref g0), .val (.ref x0)] []))
  refine Go.step (fun _ k => XS.aloadN X2.here hx rfl (hb hby d12_14) rfl rfl  k) ?_
  show Go _ _ _ _ _ _ _ (T2.setTop (mkF m 15 #[.val (.ref g0), .val (.ref x0)] [(.ref x0)]))
  refine Go.retA X2 hx Bd.returns rfl rfl hlk (hb hby d12_15) ?_ (by decide) (by decide)
  exact ⟨(rfl), N2, k4⟩
theorem ef_pollLast2 (m : MethodId) (g0 : Addr) : entryFrame m #[(.ref g0)] 2 = mkF m 0 #[.val (.ref g0), .unset] [] := by first | (simp [entryFrame, mkF, argsToLocals, Value.category]; done) | rfl
def QpollLast2 (Z : State) (g0 : Addr) (x0 : Addr) (u1 : Value) (u5 : Value) (y0 : Addr) (a1 : Value) (a2 : Value) (a3 : Value) (h0 : Heap) (n0 : Nat) (v : Option Value) (h : Heap) (L : List Loc) : Prop := (v = some (.ref x0)) ∧ (Fr n0 L) ∧ (Keep h0 h [g0, x0, y0])
set_option maxRecDepth 65536 in
set_option maxHeartbeats 40000000 in
theorem rmpollLast2 (l : Launch) (Z : State) (aZ : Array Value) (hw : ∀ d ∈ tables_1, d.before aZ Z = true) (ws : List Jvm.Cond) (g0 : Addr) (x0 : Addr) (u1 : Value) (u5 : Value) (y0 : Addr) (a1 : Value) (a2 : Value) (a3 : Value) (h0 : Heap) (n0 : Nat) (Z0 : n0 ≤ h0.size) (F_0 : Fld Z h0 g0 "com/example/steward/steward/runtime/Group" "last" "Lcom/example/steward/steward/runtime/Agent;" (.ref x0)) (E_1 : Exa Z h0 g0 "com/example/steward/steward/runtime/Group") (E_2 : Exa Z h0 x0 "com/example/steward/steward/runtime/Agent") (F_3 : Fld Z h0 x0 "com/example/steward/steward/runtime/Agent" "group" "Lcom/example/steward/steward/runtime/Group;" u1) (F_4 : Fld Z h0 g0 "com/example/steward/steward/runtime/Group" "last" "Lcom/example/steward/steward/runtime/Agent;" (.ref x0)) (g_5 : n0 ≤ g0) (g_6 : n0 ≤ x0) (F_7 : Fld Z h0 g0 "com/example/steward/steward/runtime/Group" "first" "Lcom/example/steward/steward/runtime/Agent;" u5) (F_8 : Fld Z h0 x0 "com/example/steward/steward/runtime/Agent" "ahead" "Lcom/example/steward/steward/runtime/Agent;" (.ref y0)) (F_9 : Fld Z h0 x0 "com/example/steward/steward/runtime/Agent" "behind" "Lcom/example/steward/steward/runtime/Agent;" .null) (E_10 : Exa Z h0 y0 "com/example/steward/steward/runtime/Agent") (F_11 : Fld Z h0 y0 "com/example/steward/steward/runtime/Agent" "behind" "Lcom/example/steward/steward/runtime/Agent;" a1) (F_12 : Fld Z h0 y0 "com/example/steward/steward/runtime/Agent" "group" "Lcom/example/steward/steward/runtime/Group;" a2) (F_13 : Fld Z h0 y0 "com/example/steward/steward/runtime/Agent" "ahead" "Lcom/example/steward/steward/runtime/Agent;" a3) (ne_14 : x0 ≠ y0) (g_15 : n0 ≤ y0) :
    MetFree l (⟨"com/example/steward/steward/runtime/Group", "pollLast", "()Lcom/example/steward/steward/runtime/Agent;"⟩ : MethodName) (head1 (Jvm.Cond.code (⟨"com/example/steward/steward/runtime/Group", "pollLast", "()Lcom/example/steward/steward/runtime/Agent;"⟩ : MethodName) prog_44_method_7_code 2 (some (.object "com/example/steward/steward/runtime/Agent")) :: ws) ({ frames := 1, cells := 0, slots := 0, locals := 13 } : Room)) (fun a U => a = #[(.ref g0)] ∧ Z.Warmed39 U.vm ∧ U.heap = h0) (fun _ _ _ _ _ => True) (fun _ U o U' => ∃ v L, o = .returned v ∧ QpollLast2 Z g0 x0 u1 u5 y0 a1 a2 a3 h0 n0 v U'.heap L ∧ FrameEnd U o U' L ({ frames := 1, cells := 0, slots := 0, locals := 13 } : Room).cells ({ frames := 1, cells := 0, slots := 0, locals := 13 } : Room).slots) := by
  refine MetFree.of_bodySF (plainFor_of_name pn_5) hisR ?_
  intro p e s m args below meth c s₁ Bd hml0 hP hK
  obtain ⟨rfl, hZ, hh⟩ := hP
  have hx := Bd.exec
  have hby := Bd.bytes
  have hml : c.maxLocals = 2 := hml0
  have hown : s.vm.findClass "com/example/steward/steward/runtime/Group" = some m.cls := findClass_of_methodNamed Bd.named
  have hnm := (name_of_methodNamed Bd.named Bd.method).1
  have hlk : meth.locks = false := BodyLoose.notSynchronized Bd
  have X0 : Stand p l e ({ frames := 1, cells := 0, slots := 0, locals := 13 } : Room) s m #[(.ref g0)] below meth c s₁ [] 0 0 := Stand.of_body Bd
  have e0 : s₁.heap = h0 := by rw [← hh, Bd.state]; rfl
  have N0 := Fr.nil n0
  have sq0 : h0.size ≤ h0.size := Nat.le_refl _
  have k0 : Keep h0 h0 [g0, x0, y0] := Keep.refl _ _
  change Go p e below s ({ frames := 1, cells := 0, slots := 0, locals := 13 } : Room).cells ({ frames := 1, cells := 0, slots := 0, locals := 13 } : Room).slots (QpollLast2 Z g0 x0 u1 u5 y0 a1 a2 a3 h0 n0) (s₁.setTop (entryFrame m #[(.ref g0)] 2))
  rw [ef_pollLast2 m g0]
  show Go _ _ _ _ _ _ _ (s₁.setTop (mkF m 0 #[.val (.ref g0), .unset] []))
  refine Go.step (fun _ k => XS.aloadN X0.here hx rfl (hb hby d12_0) rfl rfl  k) ?_
  show Go _ _ _ _ _ _ _ (s₁.setTop (mkF m 1 #[.val (.ref g0), .unset] [(.ref g0)]))
  obtain ⟨T1, X1, e1, st1⟩ := getF X0 hx hZ hown (host := "") (Or.inl (hw _ (List.mem_of_getElem? (i := 81) rfl))) Via.refl e0 F_4 (g := (mkF m 1 #[.val (.ref g0), .unset] [(.ref g0)])) rfl rfl (hb hby d12_1)
  refine Go.step st1 ?_
  show Go _ _ _ _ _ _ _ (T1.setTop (mkF m 4 #[.val (.ref g0), .unset] [(.ref x0)]))
  refine Go.step (fun _ k => XS.astoreN X1.here hx rfl (hb hby d12_4) rfl rfl (l' := #[.val (.ref g0), .val (.ref x0)]) rfl k) ?_
  show Go _ _ _ _ _ _ _ (T1.setTop (mkF m 5 #[.val (.ref g0), .val (.ref x0)] []))
  refine Go.step (fun _ k => XS.aloadN X1.here hx rfl (hb hby d12_5) rfl rfl  k) ?_
  show Go _ _ _ _ _ _ _ (T1.setTop (mkF m 6 #[.val (.ref g0), .val (.ref x0)] [(.ref x0)]))
  refine Go.step (fun _ k => XS.ifnullNo X1.here hx rfl (hb hby d12_6) rfl k) ?_
  show Go _ _ _ _ _ _ _ (T1.setTop (mkF m 9 #[.val (.ref g0), .val (.ref x0)] []))
  refine Go.step (fun _ k => XS.aloadN X1.here hx rfl (hb hby d12_9) rfl rfl  k) ?_
  show Go _ _ _ _ _ _ _ (T1.setTop (mkF m 10 #[.val (.ref g0), .val (.ref x0)] [(.ref g0)]))
  refine Go.step (fun _ k => XS.aloadN X1.here hx rfl (hb hby d12_10) rfl rfl  k) ?_
  show Go _ _ _ _ _ _ _ (T1.setTop (mkF m 11 #[.val (.ref g0), .val (.ref x0)] [(.ref x0), (.ref g0)]))
  obtain ⟨cq2, kq2, q2a, q2b, q2c⟩ := isOf hZ e1 E_1
  obtain ⟨_, _, ⟨T2, L2, k2, n2⟩, -, X2, ⟨Lc2, hQ2, l2, y2, z2⟩, st2⟩ := X1.virtualBack hx (y := (⟨"com/example/steward/steward/runtime/Group", "remove", "(Lcom/example/steward/steward/runtime/Agent;)V"⟩ : MethodName)) (z := (⟨"com/example/steward/steward/runtime/Group", "remove", "(Lcom/example/steward/steward/runtime/Agent;)V"⟩ : MethodName)) hown (mvT hZ (hw _ (List.mem_of_getElem? (i := 85) rfl))) (mvT hZ (hw _ (List.mem_of_getElem? (i := 86) rfl))) (notFace_of_selects (args := #[]) (mvT hZ (hw _ (List.mem_of_getElem? (i := 88) rfl)))) (mvT hZ (hw _ (List.mem_of_getElem? (i := 88) rfl))) (mvT hZ (hw _ (List.mem_of_getElem? (i := 87) rfl))) (by decide) (backOf (W := 0) (rmrem10 l Z aZ hw [] g0 x0 u1 u5 (Value.ref x0) y0 a1 a2 a3 h0 n0 Z0 E_1 E_2 F_3 F_7 F_4 F_8 F_9 g_5 g_6 E_10 F_11 F_12 F_13 ne_14 g_15) hZ (hw _ (List.mem_of_getElem? (i := 89) rfl)) (hw _ (List.mem_of_getElem? (i := 2) rfl)) (by decide) (by decide)) q2a q2c (g := (mkF m 11 #[.val (.ref g0), .val (.ref x0)] [(.ref x0), (.ref g0)])) rfl (by rw [hml]; rfl) (Steps.refl _) (argsL := [(.ref x0)]) (rest := []) (lenOf pd_2 rfl) rfl (by show 2 * 0 + _ ≤ _; exact Nat.le_of_eq rfl) (hb hby d12_11) (fun _ _ => ⟨rfl, e1, (by decide : 0 + 0 ≤ _), (by decide : 0 + 0 ≤ _)⟩)
  dsimp only [Pt.U, Pt.locs, Pt.cells, Pt.slots] at X2 l2 y2 z2 st2 hQ2
  subst l2 y2 z2
  obtain ⟨rfl, Nq2, K2, c2_0, c2_1, c2_2, c2_3, c2_4, c2_5, c2_6, c2_7, c2_8, c2_9, c2_10⟩ := hQ2
  have N2 := Fr.app N0 Nq2
  refine Go.tr st2 ?_
  have z3 : n0 ≤ T2.heap.size := Nat.le_trans Z0 K2.1
  have sqz3 : h0.size ≤ T2.heap.size := Nat.le_trans sq0 K2.1
  have k4 : Keep h0 T2.heap [g0, x0, y0] := k0.trans K2 (allS (Or.inl (List.mem_of_getElem? (i := 0) rfl)) (allS (Or.inl (List.mem_of_getElem? (i := 1) rfl)) (allS (Or.inl (List.mem_of_getElem? (i := 2) rfl)) all0)))
  show Go _ _ _ _ _ _ _ (T2.setTop (mkF m 14 #[.val (.ref g0), .val (.ref x0)] []))
  refine Go.step (fun _ k => XS.aloadN X2.here hx rfl (hb hby d12_14) rfl rfl  k) ?_
  show Go _ _ _ _ _ _ _ (T2.setTop (mkF m 15 #[.val (.ref g0), .val (.ref x0)] [(.ref x0)]))
  refine Go.retA X2 hx Bd.returns rfl rfl hlk (hb hby d12_15) ?_ (by decide) (by decide)
  exact ⟨(rfl), N2, k4⟩
theorem pd_3 : parseMethodDescriptor "(Ljava/lang/String;)V" = some ⟨[(.object "java/lang/String")], none⟩ := by decide +kernel
theorem pd_4 : parseMethodDescriptor "()Z" = some ⟨[], some .boolean⟩ := by decide +kernel
theorem pd_5 : parseMethodDescriptor "()Lcom/example/steward/steward/runtime/Agent;" = some ⟨[], some (.object "com/example/steward/steward/runtime/Agent")⟩ := by decide +kernel
theorem pd_6 : parseMethodDescriptor "(Lcom/example/steward/steward/runtime/Agent;ZLcom/example/steward/steward/runtime/Group;Lcom/example/steward/steward/runtime/Agent;Lcom/example/steward/steward/runtime/Agent;)Z" = some ⟨[(.object "com/example/steward/steward/runtime/Agent"), .boolean, (.object "com/example/steward/steward/runtime/Group"), (.object "com/example/steward/steward/runtime/Agent"), (.object "com/example/steward/steward/runtime/Agent")], some .boolean⟩ := by decide +kernel
theorem ef_0 (m : MethodId) (qc : Int32) (qf : Int32) : entryFrame m #[(.int qc), (.int qf)] maxLocals = mkF m 0 #[.val (.int qc), .val (.int qf), .unset, .unset, .unset, .unset, .unset, .unset, .unset, .unset, .unset, .unset, .unset] [] := by first | (simp [entryFrame, mkF, argsToLocals, Value.category, maxLocals]; done) | rfl
def Q0 (Z : State) (qc : Int32) (qf : Int32) (h0 : Heap) (n0 : Nat) (v : Option Value) (h : Heap) (L : List Loc) : Prop := (v = some (.int 1)) ∧ (Fr n0 L)
set_option maxRecDepth 65536 in
set_option maxHeartbeats 40000000 in
theorem rm0 (l : Launch) (Z : State) (aZ : Array Value) (hw : ∀ d ∈ tables_1, d.before aZ Z = true) (ws : List Jvm.Cond) (qc : Int32) (qf : Int32) (h0 : Heap) (n0 : Nat) (Z0 : n0 ≤ h0.size)  :
    MetFree l x (head1 (Jvm.Cond.code x code maxLocals ret :: ws) room_1) (fun a U => a = #[(.int qc), (.int qf)] ∧ Z.Warmed39 U.vm ∧ U.heap = h0) (fun _ _ _ _ _ => True) (fun _ U o U' => ∃ v L, o = .returned v ∧ Q0 Z qc qf h0 n0 v U'.heap L ∧ ReturnedEndW U o U' L 16 74) := by
  refine MetFree.of_bodySF (plainFor_of_name pn_8) hisR ?_
  intro p e s m args below meth c s₁ Bd hml0 hP hK
  obtain ⟨rfl, hZ, hh⟩ := hP
  have hx := Bd.exec
  have hby := Bd.bytes
  have hml : c.maxLocals = 13 := hml0
  have hown : s.vm.findClass "com/example/steward/steward/runtime/GroupAddPinLaw" = some m.cls := findClass_of_methodNamed Bd.named
  have hnm := (name_of_methodNamed Bd.named Bd.method).1
  have hlk : meth.locks = false := BodyLoose.notSynchronized Bd
  have X0 : Stand p l e room_1 (s.setVm s.vm) m #[(.int qc), (.int qf)] below meth c s₁ [] 0 0 := Stand.of_body Bd
  have e0 : s₁.heap = h0 := by rw [← hh, Bd.state]; rfl
  have N0 := Fr.nil n0
  have sq0 : h0.size ≤ h0.size := Nat.le_refl _
  have hS0 : s.Since s.vm h0.size := (State.WarmedH.refl s).since _
  have hk0 : h0.size ≤ h0.size := Nat.le_refl _
  have hSt : ∀ d ∈ Bundle.stringAtoms, d.before aZ Z = true := by
    intro d hd
    simp only [Bundle.stringAtoms, List.mem_cons, List.not_mem_nil, or_false] at hd
    rcases hd with rfl | rfl | rfl | rfl | rfl | rfl | rfl
    · exact (hw _ (List.mem_of_getElem? (i := 13) rfl))
    · exact (hw _ (List.mem_of_getElem? (i := 14) rfl))
    · exact (hw _ (List.mem_of_getElem? (i := 15) rfl))
    · exact (hw _ (List.mem_of_getElem? (i := 16) rfl))
    · exact (hw _ (List.mem_of_getElem? (i := 17) rfl))
    · exact (hw _ (List.mem_of_getElem? (i := 18) rfl))
    · exact (hw _ (List.mem_of_getElem? (i := 19) rfl))
  change GoW p e below s 16 74 (Q0 Z qc qf h0 n0) (s₁.setTop (entryFrame m #[(.int qc), (.int qf)] maxLocals))
  rw [ef_0 m qc qf]
  show GoW _ _ _ _ _ _ _ (s₁.setTop (mkF m 0 #[.val (.int qc), .val (.int qf), .unset, .unset, .unset, .unset, .unset, .unset, .unset, .unset, .unset, .unset, .unset] []))
  refine GoW.step (fun _ k => XS.iloadN X0.here hx rfl (hb hby at_0) rfl  k) ?_
  show GoW _ _ _ _ _ _ _ (s₁.setTop (mkF m 1 #[.val (.int qc), .val (.int qf), .unset, .unset, .unset, .unset, .unset, .unset, .unset, .unset, .unset, .unset, .unset] [(.int qc)]))
  refine GoW.step (fun _ k => XS.iconst X0.here hx rfl (hb hby at_1) k) ?_
  show GoW _ _ _ _ _ _ _ (s₁.setTop (mkF m 2 #[.val (.int qc), .val (.int qf), .unset, .unset, .unset, .unset, .unset, .unset, .unset, .unset, .unset, .unset, .unset] [(.int (3 : Int32)), (.int qc)]))
  refine GoW.step (fun _ k => XS.iand X0.here hx rfl (hb hby at_2) rfl k) ?_
  show GoW _ _ _ _ _ _ _ (s₁.setTop (mkF m 3 #[.val (.int qc), .val (.int qf), .unset, .unset, .unset, .unset, .unset, .unset, .unset, .unset, .unset, .unset, .unset] [(.int (qc &&& (3 : Int32)))]))
  obtain ⟨nn, q_nn⟩ : ∃ z : Int32, z = (qc &&& (3 : Int32)) := ⟨_, rfl⟩
  rw [← q_nn]
  have hnn := own_n3 qc
  rw [← q_nn] at hnn
  show GoW _ _ _ _ _ _ _ (s₁.setTop (mkF m 3 #[.val (.int qc), .val (.int qf), .unset, .unset, .unset, .unset, .unset, .unset, .unset, .unset, .unset, .unset, .unset] [(.int nn)]))
  refine GoW.step (fun _ k => XS.istoreN X0.here hx rfl (hb hby at_3) rfl (l' := #[.val (.int qc), .val (.int qf), .val (.int nn), .unset, .unset, .unset, .unset, .unset, .unset, .unset, .unset, .unset, .unset]) rfl k) ?_
  have J15_1 : ∀ (fro : Int32) (vm1 : Vm) (kk1 : Nat) (TJ1 : State) (locs1 : List Loc) (X1 : Stand p l e room_1 (s.setVm vm1) m #[(.int qc), (.int qf)] below meth c TJ1 locs1 0 0) (e1 : TJ1.heap = h0) (N1 : Fr n0 locs1) (hS1 : s.Since vm1 kk1) (hk1 : kk1 ≤ h0.size) (hZ : Z.Warmed39 (s.setVm vm1).vm) (hown : (s.setVm vm1).vm.findClass "com/example/steward/steward/runtime/GroupAddPinLaw" = some m.cls), GoW p e below s 16 74 (Q0 Z qc qf h0 n0) (TJ1.setTop (mkF m 15 #[.val (.int qc), .val (.int qf), .val (.int nn), .unset, .unset, .unset, .unset, .unset, .unset, .unset, .unset, .unset, .unset] [(.int fro)])) := by
    intro fro vm1 kk1 TJ1 locs1 X1 e1 N1 hS1 hk1 hZ hown
    show GoW _ _ _ _ _ _ _ (TJ1.setTop (mkF m 15 #[.val (.int qc), .val (.int qf), .val (.int nn), .unset, .unset, .unset, .unset, .unset, .unset, .unset, .unset, .unset, .unset] [(.int fro)]))
    refine GoW.step (fun _ k => XS.istoreN X1.here hx rfl (hb hby at_15) rfl (l' := #[.val (.int qc), .val (.int qf), .val (.int nn), .val (.int fro), .unset, .unset, .unset, .unset, .unset, .unset, .unset, .unset, .unset]) rfl k) ?_
    have J27_2 : ∀ (jnk : Int32) (vm2 : Vm) (kk2 : Nat) (TJ2 : State) (locs2 : List Loc) (X2 : Stand p l e room_1 (s.setVm vm2) m #[(.int qc), (.int qf)] below meth c TJ2 locs2 0 0) (e2 : TJ2.heap = h0) (N2 : Fr n0 locs2) (hS2 : s.Since vm2 kk2) (hk2 : kk2 ≤ h0.size) (hZ : Z.Warmed39 (s.setVm vm2).vm) (hown : (s.setVm vm2).vm.findClass "com/example/steward/steward/runtime/GroupAddPinLaw" = some m.cls), GoW p e below s 16 74 (Q0 Z qc qf h0 n0) (TJ2.setTop (mkF m 27 #[.val (.int qc), .val (.int qf), .val (.int nn), .val (.int fro), .unset, .unset, .unset, .unset, .unset, .unset, .unset, .unset, .unset] [(.int jnk)])) := by
      intro jnk vm2 kk2 TJ2 locs2 X2 e2 N2 hS2 hk2 hZ hown
      show GoW _ _ _ _ _ _ _ (TJ2.setTop (mkF m 27 #[.val (.int qc), .val (.int qf), .val (.int nn), .val (.int fro), .unset, .unset, .unset, .unset, .unset, .unset, .unset, .unset, .unset] [(.int jnk)]))
      refine GoW.step (fun _ k => XS.istore X2.here hx rfl (hb hby at_27) rfl (l' := #[.val (.int qc), .val (.int qf), .val (.int nn), .val (.int fro), .val (.int jnk), .unset, .unset, .unset, .unset, .unset, .unset, .unset, .unset]) rfl k) ?_
      show GoW _ _ _ _ _ _ _ (TJ2.setTop (mkF m 29 #[.val (.int qc), .val (.int qf), .val (.int nn), .val (.int fro), .val (.int jnk), .unset, .unset, .unset, .unset, .unset, .unset, .unset, .unset] []))
      obtain ⟨T3, h3, X3, e3, E3, A3, D3, -, st3⟩ := newO X2 hx hZ hown (hw _ (List.mem_of_getElem? (i := 0) rfl)) (hw _ (List.mem_of_getElem? (i := 1) rfl)) (hw _ (List.mem_of_getElem? (i := 2) rfl)) e2 (g := (mkF m 29 #[.val (.int qc), .val (.int qf), .val (.int nn), .val (.int fro), .val (.int jnk), .unset, .unset, .unset, .unset, .unset, .unset, .unset, .unset] [])) rfl (hb hby at_29) (by decide) (by decide)
      obtain ⟨b3, g3⟩ : ∃ z, z = h0.size := ⟨_, rfl⟩
      rw [← g3] at A3 D3 st3
      refine GoW.step st3 ?_
      have gn3 : n0 ≤ b3 := Nat.le_trans Z0 (Nat.le_of_eq g3.symm)
      have sz3 : h0.size ≤ b3 := Nat.le_trans sq0 (Nat.le_of_eq g3.symm)
      have z4 : n0 ≤ h3.size := Nat.le_trans Z0 E3.1
      have sqz4 : h0.size ≤ h3.size := Nat.le_trans sq0 E3.1
      have hk6 := Nat.le_trans hk2 E3.1
      have f7 : Fld Z h3 b3 "com/example/steward/steward/runtime/Group" "first" "Lcom/example/steward/steward/runtime/Agent;" .null := D3 (Or.inl (hw _ (List.mem_of_getElem? (i := 58) rfl))) (ty := (.object "com/example/steward/steward/runtime/Agent")) (by decide)
      have f8 : Fld Z h3 b3 "com/example/steward/steward/runtime/Group" "last" "Lcom/example/steward/steward/runtime/Agent;" .null := D3 (Or.inl (hw _ (List.mem_of_getElem? (i := 82) rfl))) (ty := (.object "com/example/steward/steward/runtime/Agent")) (by decide)
      show GoW _ _ _ _ _ _ _ (T3.setTop (mkF m 32 #[.val (.int qc), .val (.int qf), .val (.int nn), .val (.int fro), .val (.int jnk), .unset, .unset, .unset, .unset, .unset, .unset, .unset, .unset] [(.ref b3)]))
      refine GoW.step (fun _ k => XS.dup X3.here hx rfl (hb hby at_32) rfl rfl k) ?_
      show GoW _ _ _ _ _ _ _ (T3.setTop (mkF m 33 #[.val (.int qc), .val (.int qf), .val (.int nn), .val (.int fro), .val (.int jnk), .unset, .unset, .unset, .unset, .unset, .unset, .unset, .unset] [(.ref b3), (.ref b3)]))
      obtain ⟨_, _, ⟨T9, L9, k9, n9⟩, -, X9, ⟨Lc9, hQ9, l9, y9, z9⟩, st9⟩ := X3.specialBack hx (y := (⟨"com/example/steward/steward/runtime/Group", "<init>", "()V"⟩ : MethodName)) rfl hown (mvT hZ (hw _ (List.mem_of_getElem? (i := 3) rfl))) (mvT hZ (hw _ (List.mem_of_getElem? (i := 4) rfl))) (mvT hZ (hw _ (List.mem_of_getElem? (i := 5) rfl))) (by decide) (backOf (W := 1) (rm1 l Z aZ hw [] b3 h3 n0 z4 ) hZ (hw _ (List.mem_of_getElem? (i := 5) rfl)) (hw _ (List.mem_of_getElem? (i := 2) rfl)) (by decide) (by decide)) (g := (mkF m 33 #[.val (.int qc), .val (.int qf), .val (.int nn), .val (.int fro), .val (.int jnk), .unset, .unset, .unset, .unset, .unset, .unset, .unset, .unset] [(.ref b3), (.ref b3)])) rfl (by rw [hml]; rfl) (Steps.refl _) (a := b3) (argsL := []) (rest := [(.ref b3)]) (lenOf pd_0 rfl) rfl (by show 2 * 0 + _ ≤ _; exact Nat.le_of_eq rfl) (hb hby at_33) (fun _ _ => ⟨rfl, e3, (by decide : 1 + 0 ≤ _), (by decide : 2 + 0 ≤ _)⟩)
      dsimp only [Pt.U, Pt.locs, Pt.cells, Pt.slots] at X9 l9 y9 z9 st9 hQ9
      subst l9 y9 z9
      obtain ⟨rfl, Nq9, e9⟩ := hQ9
      have N9 := Fr.app N2 Nq9
      refine GoW.tr st9 ?_
      show GoW _ _ _ _ _ _ _ (T9.setTop (mkF m 36 #[.val (.int qc), .val (.int qf), .val (.int nn), .val (.int fro), .val (.int jnk), .unset, .unset, .unset, .unset, .unset, .unset, .unset, .unset] [(.ref b3)]))
      refine GoW.step (fun _ k => XS.astore X9.here hx rfl (hb hby at_36) rfl rfl (l' := #[.val (.int qc), .val (.int qf), .val (.int nn), .val (.int fro), .val (.int jnk), .val (.ref b3), .unset, .unset, .unset, .unset, .unset, .unset, .unset]) rfl k) ?_
      show GoW _ _ _ _ _ _ _ (T9.setTop (mkF m 38 #[.val (.int qc), .val (.int qf), .val (.int nn), .val (.int fro), .val (.int jnk), .val (.ref b3), .unset, .unset, .unset, .unset, .unset, .unset, .unset] []))
      obtain ⟨T10, h10, X10, e10, E10, A10, D10, -, st10⟩ := newO X9 hx hZ hown (hw _ (List.mem_of_getElem? (i := 9) rfl)) (hw _ (List.mem_of_getElem? (i := 10) rfl)) (hw _ (List.mem_of_getElem? (i := 11) rfl)) e9 (g := (mkF m 38 #[.val (.int qc), .val (.int qf), .val (.int nn), .val (.int fro), .val (.int jnk), .val (.ref b3), .unset, .unset, .unset, .unset, .unset, .unset, .unset] [])) rfl (hb hby at_38) (by decide) (by decide)
      obtain ⟨b10, g10⟩ : ∃ z, z = h3.size := ⟨_, rfl⟩
      rw [← g10] at A10 D10 st10
      refine GoW.step st10 ?_
      have gn10 : n0 ≤ b10 := Nat.le_trans z4 (Nat.le_of_eq g10.symm)
      have sz10 : h0.size ≤ b10 := Nat.le_trans sqz4 (Nat.le_of_eq g10.symm)
      have ne11 : b3 ≠ b10 := Nat.ne_of_lt (Nat.lt_of_lt_of_le A3.lt (Nat.le_of_eq g10.symm))
      have z12 : n0 ≤ h10.size := Nat.le_trans z4 E10.1
      have sqz12 : h0.size ≤ h10.size := Nat.le_trans sqz4 E10.1
      have hk14 := Nat.le_trans hk6 E10.1
      have f15 : Fld Z h10 b10 "com/example/steward/steward/runtime/Agent" "normal" "Ljava/util/ArrayDeque;" .null := D10 (Or.inr (hw _ (List.mem_of_getElem? (i := 43) rfl))) (ty := (.object "java/util/ArrayDeque")) (by decide)
      have f16 : Fld Z h10 b10 "com/example/steward/steward/runtime/Agent" "key" "Ljava/lang/String;" .null := D10 (Or.inr (hw _ (List.mem_of_getElem? (i := 45) rfl))) (ty := (.object "java/lang/String")) (by decide)
      have f17 : Fld Z h10 b10 "com/example/steward/steward/runtime/Agent" "ahead" "Lcom/example/steward/steward/runtime/Agent;" .null := D10 (Or.inl (hw _ (List.mem_of_getElem? (i := 49) rfl))) (ty := (.object "com/example/steward/steward/runtime/Agent")) (by decide)
      have f18 : Fld Z h10 b10 "com/example/steward/steward/runtime/Agent" "behind" "Lcom/example/steward/steward/runtime/Agent;" .null := D10 (Or.inl (hw _ (List.mem_of_getElem? (i := 51) rfl))) (ty := (.object "com/example/steward/steward/runtime/Agent")) (by decide)
      have f19 : Fld Z h10 b10 "com/example/steward/steward/runtime/Agent" "group" "Lcom/example/steward/steward/runtime/Group;" .null := D10 (Or.inl (hw _ (List.mem_of_getElem? (i := 69) rfl))) (ty := (.object "com/example/steward/steward/runtime/Group")) (by decide)
      show GoW _ _ _ _ _ _ _ (T10.setTop (mkF m 41 #[.val (.int qc), .val (.int qf), .val (.int nn), .val (.int fro), .val (.int jnk), .val (.ref b3), .unset, .unset, .unset, .unset, .unset, .unset, .unset] [(.ref b10)]))
      refine GoW.step (fun _ k => XS.dup X10.here hx rfl (hb hby at_41) rfl rfl k) ?_
      show GoW _ _ _ _ _ _ _ (T10.setTop (mkF m 42 #[.val (.int qc), .val (.int qf), .val (.int nn), .val (.int fro), .val (.int jnk), .val (.ref b3), .unset, .unset, .unset, .unset, .unset, .unset, .unset] [(.ref b10), (.ref b10)]))
      obtain ⟨b20, T20, h20, k20, X20, e20, E20, hS20, hk20a, hZ, hown, st20⟩ := ldcS X10 hx hZ hown (hw _ (List.mem_of_getElem? (i := 12) rfl)) hSt e10 hS2 hk14 (g := (mkF m 42 #[.val (.int qc), .val (.int qf), .val (.int nn), .val (.int fro), .val (.int jnk), .val (.ref b3), .unset, .unset, .unset, .unset, .unset, .unset, .unset] [(.ref b10), (.ref b10)])) rfl (hb hby at_42) (n := 4) (by decide) (by decide) (by decide) (by decide)
      refine GoW.step st20 ?_
      have z21 : n0 ≤ h20.size := Nat.le_trans z12 E20.1
      have sqz21 : h0.size ≤ h20.size := Nat.le_trans sqz12 E20.1
      have hk23 := Nat.le_trans hk14 E20.1
      show GoW _ _ _ _ _ _ _ (T20.setTop (mkF m 44 #[.val (.int qc), .val (.int qf), .val (.int nn), .val (.int fro), .val (.int jnk), .val (.ref b3), .unset, .unset, .unset, .unset, .unset, .unset, .unset] [(.ref b20), (.ref b10), (.ref b10)]))
      have f24 : Exa Z h20 b10 "com/example/steward/steward/runtime/Agent" := (A10.ext E20)
      have f25 : Fld Z h20 b10 "com/example/steward/steward/runtime/Agent" "normal" "Ljava/util/ArrayDeque;" .null := (f15.ext E20)
      have f26 : Fld Z h20 b10 "com/example/steward/steward/runtime/Agent" "key" "Ljava/lang/String;" .null := (f16.ext E20)
      have f27 : Fld Z h20 b10 "com/example/steward/steward/runtime/Agent" "group" "Lcom/example/steward/steward/runtime/Group;" .null := (f19.ext E20)
      have f28 : Fld Z h20 b10 "com/example/steward/steward/runtime/Agent" "ahead" "Lcom/example/steward/steward/runtime/Agent;" .null := (f17.ext E20)
      have f29 : Fld Z h20 b10 "com/example/steward/steward/runtime/Agent" "behind" "Lcom/example/steward/steward/runtime/Agent;" .null := (f18.ext E20)
      obtain ⟨_, _, ⟨T30, L30, k30, n30⟩, -, X30, ⟨Lc30, hQ30, l30, y30, z30⟩, st30⟩ := X20.specialBack hx (y := (⟨"com/example/steward/steward/runtime/Agent", "<init>", "(Ljava/lang/String;)V"⟩ : MethodName)) rfl hown (mvT hZ (hw _ (List.mem_of_getElem? (i := 20) rfl))) (mvT hZ (hw _ (List.mem_of_getElem? (i := 21) rfl))) (mvT hZ (hw _ (List.mem_of_getElem? (i := 22) rfl))) (by decide) (backOf (W := 1) (rm3 l Z aZ hw [] b10 b20 h20 n0 z21 f24 f25 f26 f27 f28 f29 gn10) hZ (hw _ (List.mem_of_getElem? (i := 22) rfl)) (hw _ (List.mem_of_getElem? (i := 11) rfl)) (by decide) (by decide)) (g := (mkF m 44 #[.val (.int qc), .val (.int qf), .val (.int nn), .val (.int fro), .val (.int jnk), .val (.ref b3), .unset, .unset, .unset, .unset, .unset, .unset, .unset] [(.ref b20), (.ref b10), (.ref b10)])) rfl (by rw [hml]; rfl) (Steps.refl _) (a := b10) (argsL := [(.ref b20)]) (rest := [(.ref b10)]) (lenOf pd_3 rfl) rfl (by show 2 * 0 + _ ≤ _; exact Nat.le_of_eq rfl) (hb hby at_44) (fun _ _ => ⟨rfl, e20, (by decide : 4 + 2 ≤ _), (by decide : 21 + 5 ≤ _)⟩)
      dsimp only [Pt.U, Pt.locs, Pt.cells, Pt.slots] at X30 l30 y30 z30 st30 hQ30
      subst l30 y30 z30
      obtain ⟨rfl, Nq30, K30, c30_0, c30_1, c30_2, c30_3⟩ := hQ30
      have N30 := Fr.app N9 Nq30
      refine GoW.tr st30 ?_
      have z31 : n0 ≤ T30.heap.size := Nat.le_trans z21 K30.1
      have sqz31 : h0.size ≤ T30.heap.size := Nat.le_trans sqz21 K30.1
      have hk33 := Nat.le_trans hk20a K30.1
      show GoW _ _ _ _ _ _ _ (T30.setTop (mkF m 47 #[.val (.int qc), .val (.int qf), .val (.int nn), .val (.int fro), .val (.int jnk), .val (.ref b3), .unset, .unset, .unset, .unset, .unset, .unset, .unset] [(.ref b10)]))
      refine GoW.step (fun _ k => XS.astore X30.here hx rfl (hb hby at_47) rfl rfl (l' := #[.val (.int qc), .val (.int qf), .val (.int nn), .val (.int fro), .val (.int jnk), .val (.ref b3), .val (.ref b10), .unset, .unset, .unset, .unset, .unset, .unset]) rfl k) ?_
      show GoW _ _ _ _ _ _ _ (T30.setTop (mkF m 49 #[.val (.int qc), .val (.int qf), .val (.int nn), .val (.int fro), .val (.int jnk), .val (.ref b3), .val (.ref b10), .unset, .unset, .unset, .unset, .unset, .unset] []))
      obtain ⟨T34, h34, X34, e34, E34, A34, D34, -, st34⟩ := newO X30 hx hZ hown (hw _ (List.mem_of_getElem? (i := 9) rfl)) (hw _ (List.mem_of_getElem? (i := 10) rfl)) (hw _ (List.mem_of_getElem? (i := 11) rfl)) rfl (g := (mkF m 49 #[.val (.int qc), .val (.int qf), .val (.int nn), .val (.int fro), .val (.int jnk), .val (.ref b3), .val (.ref b10), .unset, .unset, .unset, .unset, .unset, .unset] [])) rfl (hb hby at_49) (by decide) (by decide)
      obtain ⟨b34, g34⟩ : ∃ z, z = T30.heap.size := ⟨_, rfl⟩
      rw [← g34] at A34 D34 st34
      refine GoW.step st34 ?_
      have gn34 : n0 ≤ b34 := Nat.le_trans z31 (Nat.le_of_eq g34.symm)
      have sz34 : h0.size ≤ b34 := Nat.le_trans sqz31 (Nat.le_of_eq g34.symm)
      have f35 : Exa Z T30.heap b3 "com/example/steward/steward/runtime/Group" := (((A3.ext E10).ext E20).keep K30)
      have ne36 : b3 ≠ b34 := Nat.ne_of_lt (Nat.lt_of_lt_of_le f35.lt (Nat.le_of_eq g34.symm))
      have ne37 : b10 ≠ b34 := Nat.ne_of_lt (Nat.lt_of_lt_of_le c30_0.lt (Nat.le_of_eq g34.symm))
      have z38 : n0 ≤ h34.size := Nat.le_trans z31 E34.1
      have sqz38 : h0.size ≤ h34.size := Nat.le_trans sqz31 E34.1
      have hk40 := Nat.le_trans hk33 E34.1
      have f41 : Fld Z h34 b34 "com/example/steward/steward/runtime/Agent" "normal" "Ljava/util/ArrayDeque;" .null := D34 (Or.inr (hw _ (List.mem_of_getElem? (i := 43) rfl))) (ty := (.object "java/util/ArrayDeque")) (by decide)
      have f42 : Fld Z h34 b34 "com/example/steward/steward/runtime/Agent" "key" "Ljava/lang/String;" .null := D34 (Or.inr (hw _ (List.mem_of_getElem? (i := 45) rfl))) (ty := (.object "java/lang/String")) (by decide)
      have f43 : Fld Z h34 b34 "com/example/steward/steward/runtime/Agent" "ahead" "Lcom/example/steward/steward/runtime/Agent;" .null := D34 (Or.inl (hw _ (List.mem_of_getElem? (i := 49) rfl))) (ty := (.object "com/example/steward/steward/runtime/Agent")) (by decide)
      have f44 : Fld Z h34 b34 "com/example/steward/steward/runtime/Agent" "behind" "Lcom/example/steward/steward/runtime/Agent;" .null := D34 (Or.inl (hw _ (List.mem_of_getElem? (i := 51) rfl))) (ty := (.object "com/example/steward/steward/runtime/Agent")) (by decide)
      have f45 : Fld Z h34 b34 "com/example/steward/steward/runtime/Agent" "group" "Lcom/example/steward/steward/runtime/Group;" .null := D34 (Or.inl (hw _ (List.mem_of_getElem? (i := 69) rfl))) (ty := (.object "com/example/steward/steward/runtime/Group")) (by decide)
      show GoW _ _ _ _ _ _ _ (T34.setTop (mkF m 52 #[.val (.int qc), .val (.int qf), .val (.int nn), .val (.int fro), .val (.int jnk), .val (.ref b3), .val (.ref b10), .unset, .unset, .unset, .unset, .unset, .unset] [(.ref b34)]))
      refine GoW.step (fun _ k => XS.dup X34.here hx rfl (hb hby at_52) rfl rfl k) ?_
      show GoW _ _ _ _ _ _ _ (T34.setTop (mkF m 53 #[.val (.int qc), .val (.int qf), .val (.int nn), .val (.int fro), .val (.int jnk), .val (.ref b3), .val (.ref b10), .unset, .unset, .unset, .unset, .unset, .unset] [(.ref b34), (.ref b34)]))
      obtain ⟨b46, T46, h46, k46, X46, e46, E46, hS46, hk46a, hZ, hown, st46⟩ := ldcS X34 hx hZ hown (hw _ (List.mem_of_getElem? (i := 46) rfl)) hSt e34 hS20 hk40 (g := (mkF m 53 #[.val (.int qc), .val (.int qf), .val (.int nn), .val (.int fro), .val (.int jnk), .val (.ref b3), .val (.ref b10), .unset, .unset, .unset, .unset, .unset, .unset] [(.ref b34), (.ref b34)])) rfl (hb hby at_53) (n := 4) (by decide) (by decide) (by decide) (by decide)
      refine GoW.step st46 ?_
      have z47 : n0 ≤ h46.size := Nat.le_trans z38 E46.1
      have sqz47 : h0.size ≤ h46.size := Nat.le_trans sqz38 E46.1
      have hk49 := Nat.le_trans hk40 E46.1
      show GoW _ _ _ _ _ _ _ (T46.setTop (mkF m 55 #[.val (.int qc), .val (.int qf), .val (.int nn), .val (.int fro), .val (.int jnk), .val (.ref b3), .val (.ref b10), .unset, .unset, .unset, .unset, .unset, .unset] [(.ref b46), (.ref b34), (.ref b34)]))
      have f50 : Exa Z h46 b34 "com/example/steward/steward/runtime/Agent" := (A34.ext E46)
      have f51 : Fld Z h46 b34 "com/example/steward/steward/runtime/Agent" "normal" "Ljava/util/ArrayDeque;" .null := (f41.ext E46)
      have f52 : Fld Z h46 b34 "com/example/steward/steward/runtime/Agent" "key" "Ljava/lang/String;" .null := (f42.ext E46)
      have f53 : Fld Z h46 b34 "com/example/steward/steward/runtime/Agent" "group" "Lcom/example/steward/steward/runtime/Group;" .null := (f45.ext E46)
      have f54 : Fld Z h46 b34 "com/example/steward/steward/runtime/Agent" "ahead" "Lcom/example/steward/steward/runtime/Agent;" .null := (f43.ext E46)
      have f55 : Fld Z h46 b34 "com/example/steward/steward/runtime/Agent" "behind" "Lcom/example/steward/steward/runtime/Agent;" .null := (f44.ext E46)
      obtain ⟨_, _, ⟨T56, L56, k56, n56⟩, -, X56, ⟨Lc56, hQ56, l56, y56, z56⟩, st56⟩ := X46.specialBack hx (y := (⟨"com/example/steward/steward/runtime/Agent", "<init>", "(Ljava/lang/String;)V"⟩ : MethodName)) rfl hown (mvT hZ (hw _ (List.mem_of_getElem? (i := 20) rfl))) (mvT hZ (hw _ (List.mem_of_getElem? (i := 21) rfl))) (mvT hZ (hw _ (List.mem_of_getElem? (i := 22) rfl))) (by decide) (backOf (W := 1) (rm3 l Z aZ hw [] b34 b46 h46 n0 z47 f50 f51 f52 f53 f54 f55 gn34) hZ (hw _ (List.mem_of_getElem? (i := 22) rfl)) (hw _ (List.mem_of_getElem? (i := 11) rfl)) (by decide) (by decide)) (g := (mkF m 55 #[.val (.int qc), .val (.int qf), .val (.int nn), .val (.int fro), .val (.int jnk), .val (.ref b3), .val (.ref b10), .unset, .unset, .unset, .unset, .unset, .unset] [(.ref b46), (.ref b34), (.ref b34)])) rfl (by rw [hml]; rfl) (Steps.refl _) (a := b34) (argsL := [(.ref b46)]) (rest := [(.ref b34)]) (lenOf pd_3 rfl) rfl (by show 2 * 0 + _ ≤ _; exact Nat.le_of_eq rfl) (hb hby at_55) (fun _ _ => ⟨rfl, e46, (by decide : 9 + 2 ≤ _), (by decide : 45 + 5 ≤ _)⟩)
      dsimp only [Pt.U, Pt.locs, Pt.cells, Pt.slots] at X56 l56 y56 z56 st56 hQ56
      subst l56 y56 z56
      obtain ⟨rfl, Nq56, K56, c56_0, c56_1, c56_2, c56_3⟩ := hQ56
      have N56 := Fr.app N30 Nq56
      refine GoW.tr st56 ?_
      have z57 : n0 ≤ T56.heap.size := Nat.le_trans z47 K56.1
      have sqz57 : h0.size ≤ T56.heap.size := Nat.le_trans sqz47 K56.1
      have hk59 := Nat.le_trans hk46a K56.1
      show GoW _ _ _ _ _ _ _ (T56.setTop (mkF m 58 #[.val (.int qc), .val (.int qf), .val (.int nn), .val (.int fro), .val (.int jnk), .val (.ref b3), .val (.ref b10), .unset, .unset, .unset, .unset, .unset, .unset] [(.ref b34)]))
      refine GoW.step (fun _ k => XS.astore X56.here hx rfl (hb hby at_58) rfl rfl (l' := #[.val (.int qc), .val (.int qf), .val (.int nn), .val (.int fro), .val (.int jnk), .val (.ref b3), .val (.ref b10), .val (.ref b34), .unset, .unset, .unset, .unset, .unset]) rfl k) ?_
      show GoW _ _ _ _ _ _ _ (T56.setTop (mkF m 60 #[.val (.int qc), .val (.int qf), .val (.int nn), .val (.int fro), .val (.int jnk), .val (.ref b3), .val (.ref b10), .val (.ref b34), .unset, .unset, .unset, .unset, .unset] []))
      obtain ⟨T60, h60, X60, e60, E60, A60, D60, -, st60⟩ := newO X56 hx hZ hown (hw _ (List.mem_of_getElem? (i := 9) rfl)) (hw _ (List.mem_of_getElem? (i := 10) rfl)) (hw _ (List.mem_of_getElem? (i := 11) rfl)) rfl (g := (mkF m 60 #[.val (.int qc), .val (.int qf), .val (.int nn), .val (.int fro), .val (.int jnk), .val (.ref b3), .val (.ref b10), .val (.ref b34), .unset, .unset, .unset, .unset, .unset] [])) rfl (hb hby at_60) (by decide) (by decide)
      obtain ⟨b60, g60⟩ : ∃ z, z = T56.heap.size := ⟨_, rfl⟩
      rw [← g60] at A60 D60 st60
      refine GoW.step st60 ?_
      have gn60 : n0 ≤ b60 := Nat.le_trans z57 (Nat.le_of_eq g60.symm)
      have sz60 : h0.size ≤ b60 := Nat.le_trans sqz57 (Nat.le_of_eq g60.symm)
      have f61 : Exa Z T56.heap b3 "com/example/steward/steward/runtime/Group" := (((f35.ext E34).ext E46).keep K56)
      have ne62 : b3 ≠ b60 := Nat.ne_of_lt (Nat.lt_of_lt_of_le f61.lt (Nat.le_of_eq g60.symm))
      have f63 : Exa Z T56.heap b10 "com/example/steward/steward/runtime/Agent" := (((c30_0.ext E34).ext E46).keep K56)
      have ne64 : b10 ≠ b60 := Nat.ne_of_lt (Nat.lt_of_lt_of_le f63.lt (Nat.le_of_eq g60.symm))
      have ne65 : b34 ≠ b60 := Nat.ne_of_lt (Nat.lt_of_lt_of_le c56_0.lt (Nat.le_of_eq g60.symm))
      have z66 : n0 ≤ h60.size := Nat.le_trans z57 E60.1
      have sqz66 : h0.size ≤ h60.size := Nat.le_trans sqz57 E60.1
      have hk68 := Nat.le_trans hk59 E60.1
      have f69 : Fld Z h60 b60 "com/example/steward/steward/runtime/Agent" "normal" "Ljava/util/ArrayDeque;" .null := D60 (Or.inr (hw _ (List.mem_of_getElem? (i := 43) rfl))) (ty := (.object "java/util/ArrayDeque")) (by decide)
      have f70 : Fld Z h60 b60 "com/example/steward/steward/runtime/Agent" "key" "Ljava/lang/String;" .null := D60 (Or.inr (hw _ (List.mem_of_getElem? (i := 45) rfl))) (ty := (.object "java/lang/String")) (by decide)
      have f71 : Fld Z h60 b60 "com/example/steward/steward/runtime/Agent" "ahead" "Lcom/example/steward/steward/runtime/Agent;" .null := D60 (Or.inl (hw _ (List.mem_of_getElem? (i := 49) rfl))) (ty := (.object "com/example/steward/steward/runtime/Agent")) (by decide)
      have f72 : Fld Z h60 b60 "com/example/steward/steward/runtime/Agent" "behind" "Lcom/example/steward/steward/runtime/Agent;" .null := D60 (Or.inl (hw _ (List.mem_of_getElem? (i := 51) rfl))) (ty := (.object "com/example/steward/steward/runtime/Agent")) (by decide)
      have f73 : Fld Z h60 b60 "com/example/steward/steward/runtime/Agent" "group" "Lcom/example/steward/steward/runtime/Group;" .null := D60 (Or.inl (hw _ (List.mem_of_getElem? (i := 69) rfl))) (ty := (.object "com/example/steward/steward/runtime/Group")) (by decide)
      show GoW _ _ _ _ _ _ _ (T60.setTop (mkF m 63 #[.val (.int qc), .val (.int qf), .val (.int nn), .val (.int fro), .val (.int jnk), .val (.ref b3), .val (.ref b10), .val (.ref b34), .unset, .unset, .unset, .unset, .unset] [(.ref b60)]))
      refine GoW.step (fun _ k => XS.dup X60.here hx rfl (hb hby at_63) rfl rfl k) ?_
      show GoW _ _ _ _ _ _ _ (T60.setTop (mkF m 64 #[.val (.int qc), .val (.int qf), .val (.int nn), .val (.int fro), .val (.int jnk), .val (.ref b3), .val (.ref b10), .val (.ref b34), .unset, .unset, .unset, .unset, .unset] [(.ref b60), (.ref b60)]))
      obtain ⟨b74, T74, h74, k74, X74, e74, E74, hS74, hk74a, hZ, hown, st74⟩ := ldcS X60 hx hZ hown (hw _ (List.mem_of_getElem? (i := 47) rfl)) hSt e60 hS46 hk68 (g := (mkF m 64 #[.val (.int qc), .val (.int qf), .val (.int nn), .val (.int fro), .val (.int jnk), .val (.ref b3), .val (.ref b10), .val (.ref b34), .unset, .unset, .unset, .unset, .unset] [(.ref b60), (.ref b60)])) rfl (hb hby at_64) (n := 4) (by decide) (by decide) (by decide) (by decide)
      refine GoW.step st74 ?_
      have z75 : n0 ≤ h74.size := Nat.le_trans z66 E74.1
      have sqz75 : h0.size ≤ h74.size := Nat.le_trans sqz66 E74.1
      have hk77 := Nat.le_trans hk68 E74.1
      show GoW _ _ _ _ _ _ _ (T74.setTop (mkF m 66 #[.val (.int qc), .val (.int qf), .val (.int nn), .val (.int fro), .val (.int jnk), .val (.ref b3), .val (.ref b10), .val (.ref b34), .unset, .unset, .unset, .unset, .unset] [(.ref b74), (.ref b60), (.ref b60)]))
      have f78 : Exa Z h74 b60 "com/example/steward/steward/runtime/Agent" := (A60.ext E74)
      have f79 : Fld Z h74 b60 "com/example/steward/steward/runtime/Agent" "normal" "Ljava/util/ArrayDeque;" .null := (f69.ext E74)
      have f80 : Fld Z h74 b60 "com/example/steward/steward/runtime/Agent" "key" "Ljava/lang/String;" .null := (f70.ext E74)
      have f81 : Fld Z h74 b60 "com/example/steward/steward/runtime/Agent" "group" "Lcom/example/steward/steward/runtime/Group;" .null := (f73.ext E74)
      have f82 : Fld Z h74 b60 "com/example/steward/steward/runtime/Agent" "ahead" "Lcom/example/steward/steward/runtime/Agent;" .null := (f71.ext E74)
      have f83 : Fld Z h74 b60 "com/example/steward/steward/runtime/Agent" "behind" "Lcom/example/steward/steward/runtime/Agent;" .null := (f72.ext E74)
      obtain ⟨_, _, ⟨T84, L84, k84, n84⟩, -, X84, ⟨Lc84, hQ84, l84, y84, z84⟩, st84⟩ := X74.specialBack hx (y := (⟨"com/example/steward/steward/runtime/Agent", "<init>", "(Ljava/lang/String;)V"⟩ : MethodName)) rfl hown (mvT hZ (hw _ (List.mem_of_getElem? (i := 20) rfl))) (mvT hZ (hw _ (List.mem_of_getElem? (i := 21) rfl))) (mvT hZ (hw _ (List.mem_of_getElem? (i := 22) rfl))) (by decide) (backOf (W := 1) (rm3 l Z aZ hw [] b60 b74 h74 n0 z75 f78 f79 f80 f81 f82 f83 gn60) hZ (hw _ (List.mem_of_getElem? (i := 22) rfl)) (hw _ (List.mem_of_getElem? (i := 11) rfl)) (by decide) (by decide)) (g := (mkF m 66 #[.val (.int qc), .val (.int qf), .val (.int nn), .val (.int fro), .val (.int jnk), .val (.ref b3), .val (.ref b10), .val (.ref b34), .unset, .unset, .unset, .unset, .unset] [(.ref b74), (.ref b60), (.ref b60)])) rfl (by rw [hml]; rfl) (Steps.refl _) (a := b60) (argsL := [(.ref b74)]) (rest := [(.ref b60)]) (lenOf pd_3 rfl) rfl (by show 2 * 0 + _ ≤ _; exact Nat.le_of_eq rfl) (hb hby at_66) (fun _ _ => ⟨rfl, e74, (by decide : 14 + 2 ≤ _), (by decide : 69 + 5 ≤ _)⟩)
      dsimp only [Pt.U, Pt.locs, Pt.cells, Pt.slots] at X84 l84 y84 z84 st84 hQ84
      subst l84 y84 z84
      obtain ⟨rfl, Nq84, K84, c84_0, c84_1, c84_2, c84_3⟩ := hQ84
      have N84 := Fr.app N56 Nq84
      refine GoW.tr st84 ?_
      have z85 : n0 ≤ T84.heap.size := Nat.le_trans z75 K84.1
      have sqz85 : h0.size ≤ T84.heap.size := Nat.le_trans sqz75 K84.1
      have hk87 := Nat.le_trans hk74a K84.1
      show GoW _ _ _ _ _ _ _ (T84.setTop (mkF m 69 #[.val (.int qc), .val (.int qf), .val (.int nn), .val (.int fro), .val (.int jnk), .val (.ref b3), .val (.ref b10), .val (.ref b34), .unset, .unset, .unset, .unset, .unset] [(.ref b60)]))
      refine GoW.step (fun _ k => XS.astore X84.here hx rfl (hb hby at_69) rfl rfl (l' := #[.val (.int qc), .val (.int qf), .val (.int nn), .val (.int fro), .val (.int jnk), .val (.ref b3), .val (.ref b10), .val (.ref b34), .val (.ref b60), .unset, .unset, .unset, .unset]) rfl k) ?_
      have J118_88 : ∀ (ja0 : Value) (jb0 : Value) (ja1 : Value) (jb1 : Value) (ja2 : Value) (jb2 : Value) (hJ88 : Heap) (vm88 : Vm) (kk88 : Nat) (TJ88 : State) (locs88 : List Loc) (X88 : Stand p l e room_1 (s.setVm vm88) m #[(.int qc), (.int qf)] below meth c TJ88 locs88 16 74) (e88 : TJ88.heap = hJ88) (N88 : Fr n0 locs88) (hS88 : s.Since vm88 kk88) (hk88 : kk88 ≤ hJ88.size) (hZ : Z.Warmed39 (s.setVm vm88).vm) (hown : (s.setVm vm88).vm.findClass "com/example/steward/steward/runtime/GroupAddPinLaw" = some m.cls) (K88 : Keep T84.heap hJ88 [b10, b34, b60]) (jf88_0 : Fld Z hJ88 b10 "com/example/steward/steward/runtime/Agent" "group" "Lcom/example/steward/steward/runtime/Group;" .null) (jf88_1 : Fld Z hJ88 b10 "com/example/steward/steward/runtime/Agent" "ahead" "Lcom/example/steward/steward/runtime/Agent;" ja0) (jf88_2 : Fld Z hJ88 b10 "com/example/steward/steward/runtime/Agent" "behind" "Lcom/example/steward/steward/runtime/Agent;" jb0) (jf88_3 : Fld Z hJ88 b34 "com/example/steward/steward/runtime/Agent" "group" "Lcom/example/steward/steward/runtime/Group;" .null) (jf88_4 : Fld Z hJ88 b34 "com/example/steward/steward/runtime/Agent" "ahead" "Lcom/example/steward/steward/runtime/Agent;" ja1) (jf88_5 : Fld Z hJ88 b34 "com/example/steward/steward/runtime/Agent" "behind" "Lcom/example/steward/steward/runtime/Agent;" jb1) (jf88_6 : Fld Z hJ88 b60 "com/example/steward/steward/runtime/Agent" "group" "Lcom/example/steward/steward/runtime/Group;" .null) (jf88_7 : Fld Z hJ88 b60 "com/example/steward/steward/runtime/Agent" "ahead" "Lcom/example/steward/steward/runtime/Agent;" ja2) (jf88_8 : Fld Z hJ88 b60 "com/example/steward/steward/runtime/Agent" "behind" "Lcom/example/steward/steward/runtime/Agent;" jb2), GoW p e below s 16 74 (Q0 Z qc qf h0 n0) (TJ88.setTop (mkF m 118 #[.val (.int qc), .val (.int qf), .val (.int nn), .val (.int fro), .val (.int jnk), .val (.ref b3), .val (.ref b10), .val (.ref b34), .val (.ref b60), .unset, .unset, .unset, .unset] [])) := by
        intro ja0 jb0 ja1 jb1 ja2 jb2 hJ88 vm88 kk88 TJ88 locs88 X88 e88 N88 hS88 hk88 hZ hown K88 jf88_0 jf88_1 jf88_2 jf88_3 jf88_4 jf88_5 jf88_6 jf88_7 jf88_8
        have z89 : n0 ≤ hJ88.size := Nat.le_trans z85 K88.1
        have sqz89 : h0.size ≤ hJ88.size := Nat.le_trans sqz85 K88.1
        rcases hnn with h1 | h1 | h1 | h1
        · skip
          subst h1
          show GoW _ _ _ _ _ _ _ (TJ88.setTop (mkF m 118 #[.val (.int qc), .val (.int qf), .val (.int (0 : Int32)), .val (.int fro), .val (.int jnk), .val (.ref b3), .val (.ref b10), .val (.ref b34), .val (.ref b60), .unset, .unset, .unset, .unset] []))
          refine GoW.step (fun _ k => XS.iloadN X88.here hx rfl (hb hby at_118) rfl  k) ?_
          show GoW _ _ _ _ _ _ _ (TJ88.setTop (mkF m 119 #[.val (.int qc), .val (.int qf), .val (.int (0 : Int32)), .val (.int fro), .val (.int jnk), .val (.ref b3), .val (.ref b10), .val (.ref b34), .val (.ref b60), .unset, .unset, .unset, .unset] [(.int (0 : Int32))]))
          refine GoW.step (fun _ k => XS.iconst X88.here hx rfl (hb hby at_119) k) ?_
          show GoW _ _ _ _ _ _ _ (TJ88.setTop (mkF m 120 #[.val (.int qc), .val (.int qf), .val (.int (0 : Int32)), .val (.int fro), .val (.int jnk), .val (.ref b3), .val (.ref b10), .val (.ref b34), .val (.ref b60), .unset, .unset, .unset, .unset] [(.int (1 : Int32)), (.int (0 : Int32))]))
          have hc120 : (0 : Int32) < (1 : Int32) := by decide
          refine GoW.step (fun _ k => XS.icmpYes X88.here hx rfl (pc0 := 120) (pc' := 130) rfl (hb hby at_120) rfl (tlt hc120).1 (by decide) (by decide) k) ?_
          show GoW _ _ _ _ _ _ _ (TJ88.setTop (mkF m 130 #[.val (.int qc), .val (.int qf), .val (.int (0 : Int32)), .val (.int fro), .val (.int jnk), .val (.ref b3), .val (.ref b10), .val (.ref b34), .val (.ref b60), .unset, .unset, .unset, .unset] []))
          refine GoW.step (fun _ k => XS.iloadN X88.here hx rfl (hb hby at_130) rfl  k) ?_
          show GoW _ _ _ _ _ _ _ (TJ88.setTop (mkF m 131 #[.val (.int qc), .val (.int qf), .val (.int (0 : Int32)), .val (.int fro), .val (.int jnk), .val (.ref b3), .val (.ref b10), .val (.ref b34), .val (.ref b60), .unset, .unset, .unset, .unset] [(.int (0 : Int32))]))
          refine GoW.step (fun _ k => XS.iconst X88.here hx rfl (hb hby at_131) k) ?_
          show GoW _ _ _ _ _ _ _ (TJ88.setTop (mkF m 132 #[.val (.int qc), .val (.int qf), .val (.int (0 : Int32)), .val (.int fro), .val (.int jnk), .val (.ref b3), .val (.ref b10), .val (.ref b34), .val (.ref b60), .unset, .unset, .unset, .unset] [(.int (2 : Int32)), (.int (0 : Int32))]))
          have hc132 : (0 : Int32) < (2 : Int32) := by decide
          refine GoW.step (fun _ k => XS.icmpYes X88.here hx rfl (pc0 := 132) (pc' := 142) rfl (hb hby at_132) rfl (tlt hc132).1 (by decide) (by decide) k) ?_
          show GoW _ _ _ _ _ _ _ (TJ88.setTop (mkF m 142 #[.val (.int qc), .val (.int qf), .val (.int (0 : Int32)), .val (.int fro), .val (.int jnk), .val (.ref b3), .val (.ref b10), .val (.ref b34), .val (.ref b60), .unset, .unset, .unset, .unset] []))
          refine GoW.step (fun _ k => XS.iloadN X88.here hx rfl (hb hby at_142) rfl  k) ?_
          show GoW _ _ _ _ _ _ _ (TJ88.setTop (mkF m 143 #[.val (.int qc), .val (.int qf), .val (.int (0 : Int32)), .val (.int fro), .val (.int jnk), .val (.ref b3), .val (.ref b10), .val (.ref b34), .val (.ref b60), .unset, .unset, .unset, .unset] [(.int (0 : Int32))]))
          refine GoW.step (fun _ k => XS.iconst X88.here hx rfl (hb hby at_143) k) ?_
          show GoW _ _ _ _ _ _ _ (TJ88.setTop (mkF m 144 #[.val (.int qc), .val (.int qf), .val (.int (0 : Int32)), .val (.int fro), .val (.int jnk), .val (.ref b3), .val (.ref b10), .val (.ref b34), .val (.ref b60), .unset, .unset, .unset, .unset] [(.int (3 : Int32)), (.int (0 : Int32))]))
          have hc144 : (0 : Int32) < (3 : Int32) := by decide
          refine GoW.step (fun _ k => XS.icmpYes X88.here hx rfl (pc0 := 144) (pc' := 154) rfl (hb hby at_144) rfl (tlt hc144).1 (by decide) (by decide) k) ?_
          show GoW _ _ _ _ _ _ _ (TJ88.setTop (mkF m 154 #[.val (.int qc), .val (.int qf), .val (.int (0 : Int32)), .val (.int fro), .val (.int jnk), .val (.ref b3), .val (.ref b10), .val (.ref b34), .val (.ref b60), .unset, .unset, .unset, .unset] []))
          refine GoW.step (fun _ k => XS.iloadN X88.here hx rfl (hb hby at_154) rfl  k) ?_
          show GoW _ _ _ _ _ _ _ (TJ88.setTop (mkF m 155 #[.val (.int qc), .val (.int qf), .val (.int (0 : Int32)), .val (.int fro), .val (.int jnk), .val (.ref b3), .val (.ref b10), .val (.ref b34), .val (.ref b60), .unset, .unset, .unset, .unset] [(.int (0 : Int32))]))
          have hc155 : (0 : Int32) = (0 : Int32) := by decide
          refine GoW.step (fun _ k => XS.ifNo X88.here hx rfl (hb hby at_155) rfl ((if0 _ _).trans (teq hc155).2) k) ?_
          show GoW _ _ _ _ _ _ _ (TJ88.setTop (mkF m 158 #[.val (.int qc), .val (.int qf), .val (.int (0 : Int32)), .val (.int fro), .val (.int jnk), .val (.ref b3), .val (.ref b10), .val (.ref b34), .val (.ref b60), .unset, .unset, .unset, .unset] []))
          refine GoW.step (fun _ k => XS.aconstNull X88.here hx rfl (hb hby at_158) k) ?_
          show GoW _ _ _ _ _ _ _ (TJ88.setTop (mkF m 159 #[.val (.int qc), .val (.int qf), .val (.int (0 : Int32)), .val (.int fro), .val (.int jnk), .val (.ref b3), .val (.ref b10), .val (.ref b34), .val (.ref b60), .unset, .unset, .unset, .unset] [.null]))
          refine GoW.step (fun _ k => XS.goto X88.here hx rfl (pc0 := 159) (pc' := 164) rfl (hb hby at_159) (by decide) (by decide) k) ?_
          show GoW _ _ _ _ _ _ _ (TJ88.setTop (mkF m 164 #[.val (.int qc), .val (.int qf), .val (.int (0 : Int32)), .val (.int fro), .val (.int jnk), .val (.ref b3), .val (.ref b10), .val (.ref b34), .val (.ref b60), .unset, .unset, .unset, .unset] [.null]))
          refine GoW.step (fun _ k => XS.astore X88.here hx rfl (hb hby at_164) rfl rfl (l' := #[.val (.int qc), .val (.int qf), .val (.int (0 : Int32)), .val (.int fro), .val (.int jnk), .val (.ref b3), .val (.ref b10), .val (.ref b34), .val (.ref b60), .val .null, .unset, .unset, .unset]) rfl k) ?_
          show GoW _ _ _ _ _ _ _ (TJ88.setTop (mkF m 166 #[.val (.int qc), .val (.int qf), .val (.int (0 : Int32)), .val (.int fro), .val (.int jnk), .val (.ref b3), .val (.ref b10), .val (.ref b34), .val (.ref b60), .val .null, .unset, .unset, .unset] []))
          refine GoW.step (fun _ k => XS.iloadN X88.here hx rfl (hb hby at_166) rfl  k) ?_
          show GoW _ _ _ _ _ _ _ (TJ88.setTop (mkF m 167 #[.val (.int qc), .val (.int qf), .val (.int (0 : Int32)), .val (.int fro), .val (.int jnk), .val (.ref b3), .val (.ref b10), .val (.ref b34), .val (.ref b60), .val .null, .unset, .unset, .unset] [(.int (0 : Int32))]))
          have hc167 : (0 : Int32) = (0 : Int32) := hc155
          refine GoW.step (fun _ k => XS.ifNo X88.here hx rfl (hb hby at_167) rfl ((if0 _ _).trans (teq hc167).2) k) ?_
          show GoW _ _ _ _ _ _ _ (TJ88.setTop (mkF m 170 #[.val (.int qc), .val (.int qf), .val (.int (0 : Int32)), .val (.int fro), .val (.int jnk), .val (.ref b3), .val (.ref b10), .val (.ref b34), .val (.ref b60), .val .null, .unset, .unset, .unset] []))
          refine GoW.step (fun _ k => XS.aconstNull X88.here hx rfl (hb hby at_170) k) ?_
          show GoW _ _ _ _ _ _ _ (TJ88.setTop (mkF m 171 #[.val (.int qc), .val (.int qf), .val (.int (0 : Int32)), .val (.int fro), .val (.int jnk), .val (.ref b3), .val (.ref b10), .val (.ref b34), .val (.ref b60), .val .null, .unset, .unset, .unset] [.null]))
          refine GoW.step (fun _ k => XS.goto X88.here hx rfl (pc0 := 171) (pc' := 196) rfl (hb hby at_171) (by decide) (by decide) k) ?_
          show GoW _ _ _ _ _ _ _ (TJ88.setTop (mkF m 196 #[.val (.int qc), .val (.int qf), .val (.int (0 : Int32)), .val (.int fro), .val (.int jnk), .val (.ref b3), .val (.ref b10), .val (.ref b34), .val (.ref b60), .val .null, .unset, .unset, .unset] [.null]))
          refine GoW.step (fun _ k => XS.astore X88.here hx rfl (hb hby at_196) rfl rfl (l' := #[.val (.int qc), .val (.int qf), .val (.int (0 : Int32)), .val (.int fro), .val (.int jnk), .val (.ref b3), .val (.ref b10), .val (.ref b34), .val (.ref b60), .val .null, .val .null, .unset, .unset]) rfl k) ?_
          show GoW _ _ _ _ _ _ _ (TJ88.setTop (mkF m 198 #[.val (.int qc), .val (.int qf), .val (.int (0 : Int32)), .val (.int fro), .val (.int jnk), .val (.ref b3), .val (.ref b10), .val (.ref b34), .val (.ref b60), .val .null, .val .null, .unset, .unset] []))
          refine GoW.step (fun _ k => XS.aload X88.here hx rfl (hb hby at_198) rfl rfl  k) ?_
          show GoW _ _ _ _ _ _ _ (TJ88.setTop (mkF m 200 #[.val (.int qc), .val (.int qf), .val (.int (0 : Int32)), .val (.int fro), .val (.int jnk), .val (.ref b3), .val (.ref b10), .val (.ref b34), .val (.ref b60), .val .null, .val .null, .unset, .unset] [(.ref b3)]))
          have f91 : Fld Z hJ88 b3 "com/example/steward/steward/runtime/Group" "first" "Lcom/example/steward/steward/runtime/Agent;" .null := ((((((((((f7.ext E10).ext E20).keep K30 (ninS ne11 nin0)).ext E34).ext E46).keep K56 (ninS ne36 nin0)).ext E60).ext E74).keep K84 (ninS ne62 nin0)).keep K88 (ninS ne11 (ninS ne36 (ninS ne62 nin0))))
          have f93 : Exa Z hJ88 b3 "com/example/steward/steward/runtime/Group" := ((((f61.ext E60).ext E74).keep K84).keep K88)
          obtain ⟨cq92, kq92, q92a, q92b, q92c⟩ := isOf hZ e88 f93
          obtain ⟨_, _, ⟨T92, L92, k92, n92⟩, -, X92, ⟨Lc92, hQ92, l92, y92, z92⟩, st92⟩ := X88.virtualBack hx (y := (⟨"com/example/steward/steward/runtime/Group", "isEmpty", "()Z"⟩ : MethodName)) (z := (⟨"com/example/steward/steward/runtime/Group", "isEmpty", "()Z"⟩ : MethodName)) hown (mvT hZ (hw _ (List.mem_of_getElem? (i := 52) rfl))) (mvT hZ (hw _ (List.mem_of_getElem? (i := 53) rfl))) (notFace_of_selects (args := #[]) (mvT hZ (hw _ (List.mem_of_getElem? (i := 55) rfl)))) (mvT hZ (hw _ (List.mem_of_getElem? (i := 55) rfl))) (mvT hZ (hw _ (List.mem_of_getElem? (i := 54) rfl))) (by decide) (backOf (W := 0) (rmem0 l Z aZ hw [] b3 hJ88 n0 z89 f91) hZ (hw _ (List.mem_of_getElem? (i := 56) rfl)) (hw _ (List.mem_of_getElem? (i := 2) rfl)) (by decide) (by decide)) q92a q92c (g := (mkF m 200 #[.val (.int qc), .val (.int qf), .val (.int (0 : Int32)), .val (.int fro), .val (.int jnk), .val (.ref b3), .val (.ref b10), .val (.ref b34), .val (.ref b60), .val .null, .val .null, .unset, .unset] [(.ref b3)])) rfl (by rw [hml]; rfl) (Steps.refl _) (argsL := []) (rest := []) (lenOf pd_4 rfl) rfl (by show 2 * 0 + _ ≤ _; exact Nat.le_of_eq rfl) (hb hby at_200) (fun _ _ => ⟨rfl, e88, (by decide : 16 + 0 ≤ _), (by decide : 74 + 0 ≤ _)⟩)
          dsimp only [Pt.U, Pt.locs, Pt.cells, Pt.slots] at X92 l92 y92 z92 st92 hQ92
          subst l92 y92 z92
          obtain ⟨rfl, Nq92, e92⟩ := hQ92
          have N92 := Fr.app N88 Nq92
          refine GoW.tr st92 ?_
          show GoW _ _ _ _ _ _ _ (T92.setTop (mkF m 203 #[.val (.int qc), .val (.int qf), .val (.int (0 : Int32)), .val (.int fro), .val (.int jnk), .val (.ref b3), .val (.ref b10), .val (.ref b34), .val (.ref b60), .val .null, .val .null, .unset, .unset] [(.int (1 : Int32))]))
          refine GoW.step (fun _ k => XS.iloadN X92.here hx rfl (hb hby at_203) rfl  k) ?_
          show GoW _ _ _ _ _ _ _ (T92.setTop (mkF m 204 #[.val (.int qc), .val (.int qf), .val (.int (0 : Int32)), .val (.int fro), .val (.int jnk), .val (.ref b3), .val (.ref b10), .val (.ref b34), .val (.ref b60), .val .null, .val .null, .unset, .unset] [(.int (0 : Int32)), (.int (1 : Int32))]))
          have hc204 : (0 : Int32) = (0 : Int32) := hc167
          refine GoW.step (fun _ k => XS.ifNo X92.here hx rfl (hb hby at_204) rfl ((if0 _ _).trans (teq hc204).2) k) ?_
          show GoW _ _ _ _ _ _ _ (T92.setTop (mkF m 207 #[.val (.int qc), .val (.int qf), .val (.int (0 : Int32)), .val (.int fro), .val (.int jnk), .val (.ref b3), .val (.ref b10), .val (.ref b34), .val (.ref b60), .val .null, .val .null, .unset, .unset] [(.int (1 : Int32))]))
          refine GoW.step (fun _ k => XS.iconst X92.here hx rfl (hb hby at_207) k) ?_
          show GoW _ _ _ _ _ _ _ (T92.setTop (mkF m 208 #[.val (.int qc), .val (.int qf), .val (.int (0 : Int32)), .val (.int fro), .val (.int jnk), .val (.ref b3), .val (.ref b10), .val (.ref b34), .val (.ref b60), .val .null, .val .null, .unset, .unset] [(.int (1 : Int32)), (.int (1 : Int32))]))
          refine GoW.step (fun _ k => XS.goto X92.here hx rfl (pc0 := 208) (pc' := 212) rfl (hb hby at_208) (by decide) (by decide) k) ?_
          show GoW _ _ _ _ _ _ _ (T92.setTop (mkF m 212 #[.val (.int qc), .val (.int qf), .val (.int (0 : Int32)), .val (.int fro), .val (.int jnk), .val (.ref b3), .val (.ref b10), .val (.ref b34), .val (.ref b60), .val .null, .val .null, .unset, .unset] [(.int (1 : Int32)), (.int (1 : Int32))]))
          have hc212 : (1 : Int32) = (1 : Int32) := by decide
          refine GoW.step (fun _ k => XS.icmpNo X92.here hx rfl (hb hby at_212) rfl (teq hc212).2 k) ?_
          show GoW _ _ _ _ _ _ _ (T92.setTop (mkF m 215 #[.val (.int qc), .val (.int qf), .val (.int (0 : Int32)), .val (.int fro), .val (.int jnk), .val (.ref b3), .val (.ref b10), .val (.ref b34), .val (.ref b60), .val .null, .val .null, .unset, .unset] []))
          refine GoW.step (fun _ k => XS.iconst X92.here hx rfl (hb hby at_215) k) ?_
          show GoW _ _ _ _ _ _ _ (T92.setTop (mkF m 216 #[.val (.int qc), .val (.int qf), .val (.int (0 : Int32)), .val (.int fro), .val (.int jnk), .val (.ref b3), .val (.ref b10), .val (.ref b34), .val (.ref b60), .val .null, .val .null, .unset, .unset] [(.int (1 : Int32))]))
          refine GoW.step (fun _ k => XS.goto X92.here hx rfl (pc0 := 216) (pc' := 220) rfl (hb hby at_216) (by decide) (by decide) k) ?_
          show GoW _ _ _ _ _ _ _ (T92.setTop (mkF m 220 #[.val (.int qc), .val (.int qf), .val (.int (0 : Int32)), .val (.int fro), .val (.int jnk), .val (.ref b3), .val (.ref b10), .val (.ref b34), .val (.ref b60), .val .null, .val .null, .unset, .unset] [(.int (1 : Int32))]))
          refine GoW.step (fun _ k => XS.istore X92.here hx rfl (hb hby at_220) rfl (l' := #[.val (.int qc), .val (.int qf), .val (.int (0 : Int32)), .val (.int fro), .val (.int jnk), .val (.ref b3), .val (.ref b10), .val (.ref b34), .val (.ref b60), .val .null, .val .null, .val (.int (1 : Int32)), .unset]) rfl k) ?_
          show GoW _ _ _ _ _ _ _ (T92.setTop (mkF m 222 #[.val (.int qc), .val (.int qf), .val (.int (0 : Int32)), .val (.int fro), .val (.int jnk), .val (.ref b3), .val (.ref b10), .val (.ref b34), .val (.ref b60), .val .null, .val .null, .val (.int (1 : Int32)), .unset] []))
          refine GoW.step (fun _ k => XS.iload X92.here hx rfl (hb hby at_222) rfl  k) ?_
          show GoW _ _ _ _ _ _ _ (T92.setTop (mkF m 224 #[.val (.int qc), .val (.int qf), .val (.int (0 : Int32)), .val (.int fro), .val (.int jnk), .val (.ref b3), .val (.ref b10), .val (.ref b34), .val (.ref b60), .val .null, .val .null, .val (.int (1 : Int32)), .unset] [(.int (1 : Int32))]))
          have hc224 : ¬ ((1 : Int32) = (0 : Int32)) := by decide
          refine GoW.step (fun _ k => XS.ifNo X92.here hx rfl (hb hby at_224) rfl ((if0 _ _).trans (feq hc224).1) k) ?_
          show GoW _ _ _ _ _ _ _ (T92.setTop (mkF m 227 #[.val (.int qc), .val (.int qf), .val (.int (0 : Int32)), .val (.int fro), .val (.int jnk), .val (.ref b3), .val (.ref b10), .val (.ref b34), .val (.ref b60), .val .null, .val .null, .val (.int (1 : Int32)), .unset] []))
          refine GoW.step (fun _ k => XS.aload X92.here hx rfl (hb hby at_227) rfl rfl  k) ?_
          show GoW _ _ _ _ _ _ _ (T92.setTop (mkF m 229 #[.val (.int qc), .val (.int qf), .val (.int (0 : Int32)), .val (.int fro), .val (.int jnk), .val (.ref b3), .val (.ref b10), .val (.ref b34), .val (.ref b60), .val .null, .val .null, .val (.int (1 : Int32)), .unset] [(.ref b3)]))
          have pq94 : Value.null.isRef = true := rfl
          obtain ⟨cq95, kq95, q95a, q95b, q95c⟩ := isOf hZ e92 f93
          obtain ⟨_, _, ⟨T95, L95, k95, n95⟩, -, X95, ⟨Lc95, hQ95, l95, y95, z95⟩, st95⟩ := X92.virtualBack hx (y := (⟨"com/example/steward/steward/runtime/Group", "first", "()Lcom/example/steward/steward/runtime/Agent;"⟩ : MethodName)) (z := (⟨"com/example/steward/steward/runtime/Group", "first", "()Lcom/example/steward/steward/runtime/Agent;"⟩ : MethodName)) hown (mvT hZ (hw _ (List.mem_of_getElem? (i := 59) rfl))) (mvT hZ (hw _ (List.mem_of_getElem? (i := 60) rfl))) (notFace_of_selects (args := #[]) (mvT hZ (hw _ (List.mem_of_getElem? (i := 62) rfl)))) (mvT hZ (hw _ (List.mem_of_getElem? (i := 62) rfl))) (mvT hZ (hw _ (List.mem_of_getElem? (i := 61) rfl))) (by decide) (backOf (W := 0) (rm7 l Z aZ hw [] b3 Value.null hJ88 n0 z89 f91 pq94) hZ (hw _ (List.mem_of_getElem? (i := 63) rfl)) (hw _ (List.mem_of_getElem? (i := 2) rfl)) (by decide) (by decide)) q95a q95c (g := (mkF m 229 #[.val (.int qc), .val (.int qf), .val (.int (0 : Int32)), .val (.int fro), .val (.int jnk), .val (.ref b3), .val (.ref b10), .val (.ref b34), .val (.ref b60), .val .null, .val .null, .val (.int (1 : Int32)), .unset] [(.ref b3)])) rfl (by rw [hml]; rfl) (Steps.refl _) (argsL := []) (rest := []) (lenOf pd_5 rfl) rfl (by show 2 * 0 + _ ≤ _; exact Nat.le_of_eq rfl) (hb hby at_229) (fun _ _ => ⟨rfl, e92, (by decide : 16 + 0 ≤ _), (by decide : 74 + 0 ≤ _)⟩)
          dsimp only [Pt.U, Pt.locs, Pt.cells, Pt.slots] at X95 l95 y95 z95 st95 hQ95
          subst l95 y95 z95
          obtain ⟨rfl, Nq95, e95⟩ := hQ95
          have N95 := Fr.app N92 Nq95
          refine GoW.tr st95 ?_
          show GoW _ _ _ _ _ _ _ (T95.setTop (mkF m 232 #[.val (.int qc), .val (.int qf), .val (.int (0 : Int32)), .val (.int fro), .val (.int jnk), .val (.ref b3), .val (.ref b10), .val (.ref b34), .val (.ref b60), .val .null, .val .null, .val (.int (1 : Int32)), .unset] [.null]))
          refine GoW.step (fun _ k => XS.aload X95.here hx rfl (hb hby at_232) rfl rfl  k) ?_
          show GoW _ _ _ _ _ _ _ (T95.setTop (mkF m 234 #[.val (.int qc), .val (.int qf), .val (.int (0 : Int32)), .val (.int fro), .val (.int jnk), .val (.ref b3), .val (.ref b10), .val (.ref b34), .val (.ref b60), .val .null, .val .null, .val (.int (1 : Int32)), .unset] [.null, .null]))
          refine GoW.step (fun _ k => Jvm.RoadKit.acmp (g := (mkF m 234 #[.val (.int qc), .val (.int qf), .val (.int (0 : Int32)), .val (.int fro), .val (.int jnk), .val (.ref b3), .val (.ref b10), .val (.ref b34), .val (.ref b60), .val .null, .val .null, .val (.int (1 : Int32)), .unset] [.null, .null])) X95 hx rfl rfl rfl (pc0 := 234) (pc' := 237) (same := true) rfl (hb hby at_234) rfl (decide_eq_true rfl) (by decide) (by decide) k) ?_
          show GoW _ _ _ _ _ _ _ (T95.setTop (mkF m 237 #[.val (.int qc), .val (.int qf), .val (.int (0 : Int32)), .val (.int fro), .val (.int jnk), .val (.ref b3), .val (.ref b10), .val (.ref b34), .val (.ref b60), .val .null, .val .null, .val (.int (1 : Int32)), .unset] []))
          refine GoW.step (fun _ k => XS.iconst X95.here hx rfl (hb hby at_237) k) ?_
          show GoW _ _ _ _ _ _ _ (T95.setTop (mkF m 238 #[.val (.int qc), .val (.int qf), .val (.int (0 : Int32)), .val (.int fro), .val (.int jnk), .val (.ref b3), .val (.ref b10), .val (.ref b34), .val (.ref b60), .val .null, .val .null, .val (.int (1 : Int32)), .unset] [(.int (1 : Int32))]))
          refine GoW.step (fun _ k => XS.goto X95.here hx rfl (pc0 := 238) (pc' := 242) rfl (hb hby at_238) (by decide) (by decide) k) ?_
          show GoW _ _ _ _ _ _ _ (T95.setTop (mkF m 242 #[.val (.int qc), .val (.int qf), .val (.int (0 : Int32)), .val (.int fro), .val (.int jnk), .val (.ref b3), .val (.ref b10), .val (.ref b34), .val (.ref b60), .val .null, .val .null, .val (.int (1 : Int32)), .unset] [(.int (1 : Int32))]))
          refine GoW.step (fun _ k => XS.istore X95.here hx rfl (hb hby at_242) rfl (l' := #[.val (.int qc), .val (.int qf), .val (.int (0 : Int32)), .val (.int fro), .val (.int jnk), .val (.ref b3), .val (.ref b10), .val (.ref b34), .val (.ref b60), .val .null, .val .null, .val (.int (1 : Int32)), .unset]) rfl k) ?_
          show GoW _ _ _ _ _ _ _ (T95.setTop (mkF m 244 #[.val (.int qc), .val (.int qf), .val (.int (0 : Int32)), .val (.int fro), .val (.int jnk), .val (.ref b3), .val (.ref b10), .val (.ref b34), .val (.ref b60), .val .null, .val .null, .val (.int (1 : Int32)), .unset] []))
          refine GoW.step (fun _ k => XS.iload X95.here hx rfl (hb hby at_244) rfl  k) ?_
          show GoW _ _ _ _ _ _ _ (T95.setTop (mkF m 246 #[.val (.int qc), .val (.int qf), .val (.int (0 : Int32)), .val (.int fro), .val (.int jnk), .val (.ref b3), .val (.ref b10), .val (.ref b34), .val (.ref b60), .val .null, .val .null, .val (.int (1 : Int32)), .unset] [(.int (1 : Int32))]))
          have hc246 : ¬ ((1 : Int32) = (0 : Int32)) := hc224
          refine GoW.step (fun _ k => XS.ifNo X95.here hx rfl (hb hby at_246) rfl ((if0 _ _).trans (feq hc246).1) k) ?_
          show GoW _ _ _ _ _ _ _ (T95.setTop (mkF m 249 #[.val (.int qc), .val (.int qf), .val (.int (0 : Int32)), .val (.int fro), .val (.int jnk), .val (.ref b3), .val (.ref b10), .val (.ref b34), .val (.ref b60), .val .null, .val .null, .val (.int (1 : Int32)), .unset] []))
          refine GoW.step (fun _ k => XS.aload X95.here hx rfl (hb hby at_249) rfl rfl  k) ?_
          show GoW _ _ _ _ _ _ _ (T95.setTop (mkF m 251 #[.val (.int qc), .val (.int qf), .val (.int (0 : Int32)), .val (.int fro), .val (.int jnk), .val (.ref b3), .val (.ref b10), .val (.ref b34), .val (.ref b60), .val .null, .val .null, .val (.int (1 : Int32)), .unset] [(.ref b10)]))
          refine GoW.step (fun _ k => XS.iloadN X95.here hx rfl (hb hby at_251) rfl  k) ?_
          show GoW _ _ _ _ _ _ _ (T95.setTop (mkF m 252 #[.val (.int qc), .val (.int qf), .val (.int (0 : Int32)), .val (.int fro), .val (.int jnk), .val (.ref b3), .val (.ref b10), .val (.ref b34), .val (.ref b60), .val .null, .val .null, .val (.int (1 : Int32)), .unset] [(.int (0 : Int32)), (.ref b10)]))
          refine GoW.step (fun _ k => XS.iconst X95.here hx rfl (hb hby at_252) k) ?_
          show GoW _ _ _ _ _ _ _ (T95.setTop (mkF m 253 #[.val (.int qc), .val (.int qf), .val (.int (0 : Int32)), .val (.int fro), .val (.int jnk), .val (.ref b3), .val (.ref b10), .val (.ref b34), .val (.ref b60), .val .null, .val .null, .val (.int (1 : Int32)), .unset] [(.int (1 : Int32)), (.int (0 : Int32)), (.ref b10)]))
          have hc253 : (0 : Int32) < (1 : Int32) := hc120
          refine GoW.step (fun _ k => XS.icmpYes X95.here hx rfl (pc0 := 253) (pc' := 260) rfl (hb hby at_253) rfl (tlt hc253).1 (by decide) (by decide) k) ?_
          show GoW _ _ _ _ _ _ _ (T95.setTop (mkF m 260 #[.val (.int qc), .val (.int qf), .val (.int (0 : Int32)), .val (.int fro), .val (.int jnk), .val (.ref b3), .val (.ref b10), .val (.ref b34), .val (.ref b60), .val .null, .val .null, .val (.int (1 : Int32)), .unset] [(.ref b10)]))
          refine GoW.step (fun _ k => XS.iconst X95.here hx rfl (hb hby at_260) k) ?_
          show GoW _ _ _ _ _ _ _ (T95.setTop (mkF m 261 #[.val (.int qc), .val (.int qf), .val (.int (0 : Int32)), .val (.int fro), .val (.int jnk), .val (.ref b3), .val (.ref b10), .val (.ref b34), .val (.ref b60), .val .null, .val .null, .val (.int (1 : Int32)), .unset] [(.int (0 : Int32)), (.ref b10)]))
          refine GoW.step (fun _ k => XS.aload X95.here hx rfl (hb hby at_261) rfl rfl  k) ?_
          show GoW _ _ _ _ _ _ _ (T95.setTop (mkF m 263 #[.val (.int qc), .val (.int qf), .val (.int (0 : Int32)), .val (.int fro), .val (.int jnk), .val (.ref b3), .val (.ref b10), .val (.ref b34), .val (.ref b60), .val .null, .val .null, .val (.int (1 : Int32)), .unset] [(.ref b3), (.int (0 : Int32)), (.ref b10)]))
          refine GoW.step (fun _ k => XS.aconstNull X95.here hx rfl (hb hby at_263) k) ?_
          show GoW _ _ _ _ _ _ _ (T95.setTop (mkF m 264 #[.val (.int qc), .val (.int qf), .val (.int (0 : Int32)), .val (.int fro), .val (.int jnk), .val (.ref b3), .val (.ref b10), .val (.ref b34), .val (.ref b60), .val .null, .val .null, .val (.int (1 : Int32)), .unset] [.null, (.ref b3), (.int (0 : Int32)), (.ref b10)]))
          refine GoW.step (fun _ k => XS.iloadN X95.here hx rfl (hb hby at_264) rfl  k) ?_
          show GoW _ _ _ _ _ _ _ (T95.setTop (mkF m 265 #[.val (.int qc), .val (.int qf), .val (.int (0 : Int32)), .val (.int fro), .val (.int jnk), .val (.ref b3), .val (.ref b10), .val (.ref b34), .val (.ref b60), .val .null, .val .null, .val (.int (1 : Int32)), .unset] [(.int (0 : Int32)), .null, (.ref b3), (.int (0 : Int32)), (.ref b10)]))
          refine GoW.step (fun _ k => XS.iconst X95.here hx rfl (hb hby at_265) k) ?_
          show GoW _ _ _ _ _ _ _ (T95.setTop (mkF m 266 #[.val (.int qc), .val (.int qf), .val (.int (0 : Int32)), .val (.int fro), .val (.int jnk), .val (.ref b3), .val (.ref b10), .val (.ref b34), .val (.ref b60), .val .null, .val .null, .val (.int (1 : Int32)), .unset] [(.int (2 : Int32)), (.int (0 : Int32)), .null, (.ref b3), (.int (0 : Int32)), (.ref b10)]))
          have hc266 : (0 : Int32) < (2 : Int32) := hc132
          refine GoW.step (fun _ k => XS.icmpYes X95.here hx rfl (pc0 := 266) (pc' := 274) rfl (hb hby at_266) rfl (tlt hc266).1 (by decide) (by decide) k) ?_
          show GoW _ _ _ _ _ _ _ (T95.setTop (mkF m 274 #[.val (.int qc), .val (.int qf), .val (.int (0 : Int32)), .val (.int fro), .val (.int jnk), .val (.ref b3), .val (.ref b10), .val (.ref b34), .val (.ref b60), .val .null, .val .null, .val (.int (1 : Int32)), .unset] [.null, (.ref b3), (.int (0 : Int32)), (.ref b10)]))
          refine GoW.step (fun _ k => XS.aconstNull X95.here hx rfl (hb hby at_274) k) ?_
          show GoW _ _ _ _ _ _ _ (T95.setTop (mkF m 275 #[.val (.int qc), .val (.int qf), .val (.int (0 : Int32)), .val (.int fro), .val (.int jnk), .val (.ref b3), .val (.ref b10), .val (.ref b34), .val (.ref b60), .val .null, .val .null, .val (.int (1 : Int32)), .unset] [.null, .null, (.ref b3), (.int (0 : Int32)), (.ref b10)]))
          have pq96 : Value.null.isRef = true := (by first | assumption | rfl | decide)
          have pq97 : Value.null.isRef = true := (by first | assumption | rfl | decide)
          have pq98 : (0 : Int32) = (0 : Int32) := rfl
          obtain ⟨_, _, ⟨T99, L99, k99, n99⟩, -, X99, ⟨Lc99, hQ99, l99, y99, z99⟩, st99⟩ := Jvm.LawKit.callS X95 hx (y := (⟨"com/example/steward/steward/runtime/GroupAddPinLaw", "linked", "(Lcom/example/steward/steward/runtime/Agent;ZLcom/example/steward/steward/runtime/Group;Lcom/example/steward/steward/runtime/Agent;Lcom/example/steward/steward/runtime/Agent;)Z"⟩ : MethodName)) hown (mvT hZ (hw _ (List.mem_of_getElem? (i := 64) rfl))) (mvT hZ (hw _ (List.mem_of_getElem? (i := 65) rfl))) (mvT hZ (hw _ (List.mem_of_getElem? (i := 66) rfl))) (mvT hZ (hw _ (List.mem_of_getElem? (i := 67) rfl))) (by decide) (backOf (W := 0) (rmli0 l Z aZ hw [] b10 (0 : Int32) b3 Value.null Value.null hJ88 n0 z89 pq96 pq97 jf88_0 pq98) hZ (hw _ (List.mem_of_getElem? (i := 67) rfl)) (hw _ (List.mem_of_getElem? (i := 66) rfl)) (by decide) (by decide)) (g := (mkF m 275 #[.val (.int qc), .val (.int qf), .val (.int (0 : Int32)), .val (.int fro), .val (.int jnk), .val (.ref b3), .val (.ref b10), .val (.ref b34), .val (.ref b60), .val .null, .val .null, .val (.int (1 : Int32)), .unset] [.null, .null, (.ref b3), (.int (0 : Int32)), (.ref b10)])) rfl (by rw [hml]; rfl) (argsL := [(.ref b10), (.int (0 : Int32)), (.ref b3), .null, .null]) (rest := []) (lenOf pd_6 rfl) rfl (by show 2 * 0 + _ ≤ _; exact Nat.le_of_eq rfl) (hb hby at_275) (fun _ _ => ⟨rfl, e95, (by decide : 16 + 0 ≤ _), (by decide : 74 + 0 ≤ _)⟩)
          dsimp only [Pt.U, Pt.locs, Pt.cells, Pt.slots] at X99 l99 y99 z99 st99 hQ99
          subst l99 y99 z99
          obtain ⟨rfl, Nq99, e99⟩ := hQ99
          have N99 := Fr.app N95 Nq99
          refine GoW.step st99 ?_
          show GoW _ _ _ _ _ _ _ (T99.setTop (mkF m 278 #[.val (.int qc), .val (.int qf), .val (.int (0 : Int32)), .val (.int fro), .val (.int jnk), .val (.ref b3), .val (.ref b10), .val (.ref b34), .val (.ref b60), .val .null, .val .null, .val (.int (1 : Int32)), .unset] [(.int (1 : Int32))]))
          have hc278 : ¬ ((1 : Int32) = (0 : Int32)) := hc246
          refine GoW.step (fun _ k => XS.ifNo X99.here hx rfl (hb hby at_278) rfl ((if0 _ _).trans (feq hc278).1) k) ?_
          show GoW _ _ _ _ _ _ _ (T99.setTop (mkF m 281 #[.val (.int qc), .val (.int qf), .val (.int (0 : Int32)), .val (.int fro), .val (.int jnk), .val (.ref b3), .val (.ref b10), .val (.ref b34), .val (.ref b60), .val .null, .val .null, .val (.int (1 : Int32)), .unset] []))
          refine GoW.step (fun _ k => XS.iconst X99.here hx rfl (hb hby at_281) k) ?_
          show GoW _ _ _ _ _ _ _ (T99.setTop (mkF m 282 #[.val (.int qc), .val (.int qf), .val (.int (0 : Int32)), .val (.int fro), .val (.int jnk), .val (.ref b3), .val (.ref b10), .val (.ref b34), .val (.ref b60), .val .null, .val .null, .val (.int (1 : Int32)), .unset] [(.int (1 : Int32))]))
          refine GoW.step (fun _ k => XS.goto X99.here hx rfl (pc0 := 282) (pc' := 286) rfl (hb hby at_282) (by decide) (by decide) k) ?_
          show GoW _ _ _ _ _ _ _ (T99.setTop (mkF m 286 #[.val (.int qc), .val (.int qf), .val (.int (0 : Int32)), .val (.int fro), .val (.int jnk), .val (.ref b3), .val (.ref b10), .val (.ref b34), .val (.ref b60), .val .null, .val .null, .val (.int (1 : Int32)), .unset] [(.int (1 : Int32))]))
          refine GoW.step (fun _ k => XS.istore X99.here hx rfl (hb hby at_286) rfl (l' := #[.val (.int qc), .val (.int qf), .val (.int (0 : Int32)), .val (.int fro), .val (.int jnk), .val (.ref b3), .val (.ref b10), .val (.ref b34), .val (.ref b60), .val .null, .val .null, .val (.int (1 : Int32)), .unset]) rfl k) ?_
          show GoW _ _ _ _ _ _ _ (T99.setTop (mkF m 288 #[.val (.int qc), .val (.int qf), .val (.int (0 : Int32)), .val (.int fro), .val (.int jnk), .val (.ref b3), .val (.ref b10), .val (.ref b34), .val (.ref b60), .val .null, .val .null, .val (.int (1 : Int32)), .unset] []))
          refine GoW.step (fun _ k => XS.iload X99.here hx rfl (hb hby at_288) rfl  k) ?_
          show GoW _ _ _ _ _ _ _ (T99.setTop (mkF m 290 #[.val (.int qc), .val (.int qf), .val (.int (0 : Int32)), .val (.int fro), .val (.int jnk), .val (.ref b3), .val (.ref b10), .val (.ref b34), .val (.ref b60), .val .null, .val .null, .val (.int (1 : Int32)), .unset] [(.int (1 : Int32))]))
          have hc290 : ¬ ((1 : Int32) = (0 : Int32)) := hc278
          refine GoW.step (fun _ k => XS.ifNo X99.here hx rfl (hb hby at_290) rfl ((if0 _ _).trans (feq hc290).1) k) ?_
          show GoW _ _ _ _ _ _ _ (T99.setTop (mkF m 293 #[.val (.int qc), .val (.int qf), .val (.int (0 : Int32)), .val (.int fro), .val (.int jnk), .val (.ref b3), .val (.ref b10), .val (.ref b34), .val (.ref b60), .val .null, .val .null, .val (.int (1 : Int32)), .unset] []))
          refine GoW.step (fun _ k => XS.aload X99.here hx rfl (hb hby at_293) rfl rfl  k) ?_
          show GoW _ _ _ _ _ _ _ (T99.setTop (mkF m 295 #[.val (.int qc), .val (.int qf), .val (.int (0 : Int32)), .val (.int fro), .val (.int jnk), .val (.ref b3), .val (.ref b10), .val (.ref b34), .val (.ref b60), .val .null, .val .null, .val (.int (1 : Int32)), .unset] [(.ref b34)]))
          refine GoW.step (fun _ k => XS.iloadN X99.here hx rfl (hb hby at_295) rfl  k) ?_
          show GoW _ _ _ _ _ _ _ (T99.setTop (mkF m 296 #[.val (.int qc), .val (.int qf), .val (.int (0 : Int32)), .val (.int fro), .val (.int jnk), .val (.ref b3), .val (.ref b10), .val (.ref b34), .val (.ref b60), .val .null, .val .null, .val (.int (1 : Int32)), .unset] [(.int (0 : Int32)), (.ref b34)]))
          refine GoW.step (fun _ k => XS.iconst X99.here hx rfl (hb hby at_296) k) ?_
          show GoW _ _ _ _ _ _ _ (T99.setTop (mkF m 297 #[.val (.int qc), .val (.int qf), .val (.int (0 : Int32)), .val (.int fro), .val (.int jnk), .val (.ref b3), .val (.ref b10), .val (.ref b34), .val (.ref b60), .val .null, .val .null, .val (.int (1 : Int32)), .unset] [(.int (2 : Int32)), (.int (0 : Int32)), (.ref b34)]))
          have hc297 : (0 : Int32) < (2 : Int32) := hc266
          refine GoW.step (fun _ k => XS.icmpYes X99.here hx rfl (pc0 := 297) (pc' := 304) rfl (hb hby at_297) rfl (tlt hc297).1 (by decide) (by decide) k) ?_
          show GoW _ _ _ _ _ _ _ (T99.setTop (mkF m 304 #[.val (.int qc), .val (.int qf), .val (.int (0 : Int32)), .val (.int fro), .val (.int jnk), .val (.ref b3), .val (.ref b10), .val (.ref b34), .val (.ref b60), .val .null, .val .null, .val (.int (1 : Int32)), .unset] [(.ref b34)]))
          refine GoW.step (fun _ k => XS.iconst X99.here hx rfl (hb hby at_304) k) ?_
          show GoW _ _ _ _ _ _ _ (T99.setTop (mkF m 305 #[.val (.int qc), .val (.int qf), .val (.int (0 : Int32)), .val (.int fro), .val (.int jnk), .val (.ref b3), .val (.ref b10), .val (.ref b34), .val (.ref b60), .val .null, .val .null, .val (.int (1 : Int32)), .unset] [(.int (0 : Int32)), (.ref b34)]))
          refine GoW.step (fun _ k => XS.aload X99.here hx rfl (hb hby at_305) rfl rfl  k) ?_
          show GoW _ _ _ _ _ _ _ (T99.setTop (mkF m 307 #[.val (.int qc), .val (.int qf), .val (.int (0 : Int32)), .val (.int fro), .val (.int jnk), .val (.ref b3), .val (.ref b10), .val (.ref b34), .val (.ref b60), .val .null, .val .null, .val (.int (1 : Int32)), .unset] [(.ref b3), (.int (0 : Int32)), (.ref b34)]))
          refine GoW.step (fun _ k => XS.aload X99.here hx rfl (hb hby at_307) rfl rfl  k) ?_
          show GoW _ _ _ _ _ _ _ (T99.setTop (mkF m 309 #[.val (.int qc), .val (.int qf), .val (.int (0 : Int32)), .val (.int fro), .val (.int jnk), .val (.ref b3), .val (.ref b10), .val (.ref b34), .val (.ref b60), .val .null, .val .null, .val (.int (1 : Int32)), .unset] [(.ref b10), (.ref b3), (.int (0 : Int32)), (.ref b34)]))
          refine GoW.step (fun _ k => XS.iloadN X99.here hx rfl (hb hby at_309) rfl  k) ?_
          show GoW _ _ _ _ _ _ _ (T99.setTop (mkF m 310 #[.val (.int qc), .val (.int qf), .val (.int (0 : Int32)), .val (.int fro), .val (.int jnk), .val (.ref b3), .val (.ref b10), .val (.ref b34), .val (.ref b60), .val .null, .val .null, .val (.int (1 : Int32)), .unset] [(.int (0 : Int32)), (.ref b10), (.ref b3), (.int (0 : Int32)), (.ref b34)]))
          refine GoW.step (fun _ k => XS.iconst X99.here hx rfl (hb hby at_310) k) ?_
          show GoW _ _ _ _ _ _ _ (T99.setTop (mkF m 311 #[.val (.int qc), .val (.int qf), .val (.int (0 : Int32)), .val (.int fro), .val (.int jnk), .val (.ref b3), .val (.ref b10), .val (.ref b34), .val (.ref b60), .val .null, .val .null, .val (.int (1 : Int32)), .unset] [(.int (3 : Int32)), (.int (0 : Int32)), (.ref b10), (.ref b3), (.int (0 : Int32)), (.ref b34)]))
          have hc311 : (0 : Int32) < (3 : Int32) := hc144
          refine GoW.step (fun _ k => XS.icmpYes X99.here hx rfl (pc0 := 311) (pc' := 319) rfl (hb hby at_311) rfl (tlt hc311).1 (by decide) (by decide) k) ?_
          show GoW _ _ _ _ _ _ _ (T99.setTop (mkF m 319 #[.val (.int qc), .val (.int qf), .val (.int (0 : Int32)), .val (.int fro), .val (.int jnk), .val (.ref b3), .val (.ref b10), .val (.ref b34), .val (.ref b60), .val .null, .val .null, .val (.int (1 : Int32)), .unset] [(.ref b10), (.ref b3), (.int (0 : Int32)), (.ref b34)]))
          refine GoW.step (fun _ k => XS.aconstNull X99.here hx rfl (hb hby at_319) k) ?_
          show GoW _ _ _ _ _ _ _ (T99.setTop (mkF m 320 #[.val (.int qc), .val (.int qf), .val (.int (0 : Int32)), .val (.int fro), .val (.int jnk), .val (.ref b3), .val (.ref b10), .val (.ref b34), .val (.ref b60), .val .null, .val .null, .val (.int (1 : Int32)), .unset] [.null, (.ref b10), (.ref b3), (.int (0 : Int32)), (.ref b34)]))
          have pq100 : (Value.ref b10).isRef = true := (by first | assumption | rfl | decide)
          have pq101 : Value.null.isRef = true := (by first | assumption | rfl | decide)
          have pq102 : (0 : Int32) = (0 : Int32) := rfl
          obtain ⟨_, _, ⟨T103, L103, k103, n103⟩, -, X103, ⟨Lc103, hQ103, l103, y103, z103⟩, st103⟩ := Jvm.LawKit.callS X99 hx (y := (⟨"com/example/steward/steward/runtime/GroupAddPinLaw", "linked", "(Lcom/example/steward/steward/runtime/Agent;ZLcom/example/steward/steward/runtime/Group;Lcom/example/steward/steward/runtime/Agent;Lcom/example/steward/steward/runtime/Agent;)Z"⟩ : MethodName)) hown (mvT hZ (hw _ (List.mem_of_getElem? (i := 64) rfl))) (mvT hZ (hw _ (List.mem_of_getElem? (i := 65) rfl))) (mvT hZ (hw _ (List.mem_of_getElem? (i := 66) rfl))) (mvT hZ (hw _ (List.mem_of_getElem? (i := 67) rfl))) (by decide) (backOf (W := 0) (rmli0 l Z aZ hw [] b34 (0 : Int32) b3 (Value.ref b10) Value.null hJ88 n0 z89 pq100 pq101 jf88_3 pq102) hZ (hw _ (List.mem_of_getElem? (i := 67) rfl)) (hw _ (List.mem_of_getElem? (i := 66) rfl)) (by decide) (by decide)) (g := (mkF m 320 #[.val (.int qc), .val (.int qf), .val (.int (0 : Int32)), .val (.int fro), .val (.int jnk), .val (.ref b3), .val (.ref b10), .val (.ref b34), .val (.ref b60), .val .null, .val .null, .val (.int (1 : Int32)), .unset] [.null, (.ref b10), (.ref b3), (.int (0 : Int32)), (.ref b34)])) rfl (by rw [hml]; rfl) (argsL := [(.ref b34), (.int (0 : Int32)), (.ref b3), (.ref b10), .null]) (rest := []) (lenOf pd_6 rfl) rfl (by show 2 * 0 + _ ≤ _; exact Nat.le_of_eq rfl) (hb hby at_320) (fun _ _ => ⟨rfl, e99, (by decide : 16 + 0 ≤ _), (by decide : 74 + 0 ≤ _)⟩)
          dsimp only [Pt.U, Pt.locs, Pt.cells, Pt.slots] at X103 l103 y103 z103 st103 hQ103
          subst l103 y103 z103
          obtain ⟨rfl, Nq103, e103⟩ := hQ103
          have N103 := Fr.app N99 Nq103
          refine GoW.step st103 ?_
          show GoW _ _ _ _ _ _ _ (T103.setTop (mkF m 323 #[.val (.int qc), .val (.int qf), .val (.int (0 : Int32)), .val (.int fro), .val (.int jnk), .val (.ref b3), .val (.ref b10), .val (.ref b34), .val (.ref b60), .val .null, .val .null, .val (.int (1 : Int32)), .unset] [(.int (1 : Int32))]))
          have hc323 : ¬ ((1 : Int32) = (0 : Int32)) := hc290
          refine GoW.step (fun _ k => XS.ifNo X103.here hx rfl (hb hby at_323) rfl ((if0 _ _).trans (feq hc323).1) k) ?_
          show GoW _ _ _ _ _ _ _ (T103.setTop (mkF m 326 #[.val (.int qc), .val (.int qf), .val (.int (0 : Int32)), .val (.int fro), .val (.int jnk), .val (.ref b3), .val (.ref b10), .val (.ref b34), .val (.ref b60), .val .null, .val .null, .val (.int (1 : Int32)), .unset] []))
          refine GoW.step (fun _ k => XS.iconst X103.here hx rfl (hb hby at_326) k) ?_
          show GoW _ _ _ _ _ _ _ (T103.setTop (mkF m 327 #[.val (.int qc), .val (.int qf), .val (.int (0 : Int32)), .val (.int fro), .val (.int jnk), .val (.ref b3), .val (.ref b10), .val (.ref b34), .val (.ref b60), .val .null, .val .null, .val (.int (1 : Int32)), .unset] [(.int (1 : Int32))]))
          refine GoW.step (fun _ k => XS.goto X103.here hx rfl (pc0 := 327) (pc' := 331) rfl (hb hby at_327) (by decide) (by decide) k) ?_
          show GoW _ _ _ _ _ _ _ (T103.setTop (mkF m 331 #[.val (.int qc), .val (.int qf), .val (.int (0 : Int32)), .val (.int fro), .val (.int jnk), .val (.ref b3), .val (.ref b10), .val (.ref b34), .val (.ref b60), .val .null, .val .null, .val (.int (1 : Int32)), .unset] [(.int (1 : Int32))]))
          refine GoW.step (fun _ k => XS.istore X103.here hx rfl (hb hby at_331) rfl (l' := #[.val (.int qc), .val (.int qf), .val (.int (0 : Int32)), .val (.int fro), .val (.int jnk), .val (.ref b3), .val (.ref b10), .val (.ref b34), .val (.ref b60), .val .null, .val .null, .val (.int (1 : Int32)), .unset]) rfl k) ?_
          show GoW _ _ _ _ _ _ _ (T103.setTop (mkF m 333 #[.val (.int qc), .val (.int qf), .val (.int (0 : Int32)), .val (.int fro), .val (.int jnk), .val (.ref b3), .val (.ref b10), .val (.ref b34), .val (.ref b60), .val .null, .val .null, .val (.int (1 : Int32)), .unset] []))
          refine GoW.step (fun _ k => XS.iload X103.here hx rfl (hb hby at_333) rfl  k) ?_
          show GoW _ _ _ _ _ _ _ (T103.setTop (mkF m 335 #[.val (.int qc), .val (.int qf), .val (.int (0 : Int32)), .val (.int fro), .val (.int jnk), .val (.ref b3), .val (.ref b10), .val (.ref b34), .val (.ref b60), .val .null, .val .null, .val (.int (1 : Int32)), .unset] [(.int (1 : Int32))]))
          have hc335 : ¬ ((1 : Int32) = (0 : Int32)) := hc323
          refine GoW.step (fun _ k => XS.ifNo X103.here hx rfl (hb hby at_335) rfl ((if0 _ _).trans (feq hc335).1) k) ?_
          show GoW _ _ _ _ _ _ _ (T103.setTop (mkF m 338 #[.val (.int qc), .val (.int qf), .val (.int (0 : Int32)), .val (.int fro), .val (.int jnk), .val (.ref b3), .val (.ref b10), .val (.ref b34), .val (.ref b60), .val .null, .val .null, .val (.int (1 : Int32)), .unset] []))
          refine GoW.step (fun _ k => XS.aload X103.here hx rfl (hb hby at_338) rfl rfl  k) ?_
          show GoW _ _ _ _ _ _ _ (T103.setTop (mkF m 340 #[.val (.int qc), .val (.int qf), .val (.int (0 : Int32)), .val (.int fro), .val (.int jnk), .val (.ref b3), .val (.ref b10), .val (.ref b34), .val (.ref b60), .val .null, .val .null, .val (.int (1 : Int32)), .unset] [(.ref b60)]))
          refine GoW.step (fun _ k => XS.iloadN X103.here hx rfl (hb hby at_340) rfl  k) ?_
          show GoW _ _ _ _ _ _ _ (T103.setTop (mkF m 341 #[.val (.int qc), .val (.int qf), .val (.int (0 : Int32)), .val (.int fro), .val (.int jnk), .val (.ref b3), .val (.ref b10), .val (.ref b34), .val (.ref b60), .val .null, .val .null, .val (.int (1 : Int32)), .unset] [(.int (0 : Int32)), (.ref b60)]))
          refine GoW.step (fun _ k => XS.iconst X103.here hx rfl (hb hby at_341) k) ?_
          show GoW _ _ _ _ _ _ _ (T103.setTop (mkF m 342 #[.val (.int qc), .val (.int qf), .val (.int (0 : Int32)), .val (.int fro), .val (.int jnk), .val (.ref b3), .val (.ref b10), .val (.ref b34), .val (.ref b60), .val .null, .val .null, .val (.int (1 : Int32)), .unset] [(.int (3 : Int32)), (.int (0 : Int32)), (.ref b60)]))
          have hc342 : (0 : Int32) < (3 : Int32) := hc311
          refine GoW.step (fun _ k => XS.icmpYes X103.here hx rfl (pc0 := 342) (pc' := 349) rfl (hb hby at_342) rfl (tlt hc342).1 (by decide) (by decide) k) ?_
          show GoW _ _ _ _ _ _ _ (T103.setTop (mkF m 349 #[.val (.int qc), .val (.int qf), .val (.int (0 : Int32)), .val (.int fro), .val (.int jnk), .val (.ref b3), .val (.ref b10), .val (.ref b34), .val (.ref b60), .val .null, .val .null, .val (.int (1 : Int32)), .unset] [(.ref b60)]))
          refine GoW.step (fun _ k => XS.iconst X103.here hx rfl (hb hby at_349) k) ?_
          show GoW _ _ _ _ _ _ _ (T103.setTop (mkF m 350 #[.val (.int qc), .val (.int qf), .val (.int (0 : Int32)), .val (.int fro), .val (.int jnk), .val (.ref b3), .val (.ref b10), .val (.ref b34), .val (.ref b60), .val .null, .val .null, .val (.int (1 : Int32)), .unset] [(.int (0 : Int32)), (.ref b60)]))
          refine GoW.step (fun _ k => XS.aload X103.here hx rfl (hb hby at_350) rfl rfl  k) ?_
          show GoW _ _ _ _ _ _ _ (T103.setTop (mkF m 352 #[.val (.int qc), .val (.int qf), .val (.int (0 : Int32)), .val (.int fro), .val (.int jnk), .val (.ref b3), .val (.ref b10), .val (.ref b34), .val (.ref b60), .val .null, .val .null, .val (.int (1 : Int32)), .unset] [(.ref b3), (.int (0 : Int32)), (.ref b60)]))
          refine GoW.step (fun _ k => XS.aload X103.here hx rfl (hb hby at_352) rfl rfl  k) ?_
          show GoW _ _ _ _ _ _ _ (T103.setTop (mkF m 354 #[.val (.int qc), .val (.int qf), .val (.int (0 : Int32)), .val (.int fro), .val (.int jnk), .val (.ref b3), .val (.ref b10), .val (.ref b34), .val (.ref b60), .val .null, .val .null, .val (.int (1 : Int32)), .unset] [(.ref b34), (.ref b3), (.int (0 : Int32)), (.ref b60)]))
          refine GoW.step (fun _ k => XS.aconstNull X103.here hx rfl (hb hby at_354) k) ?_
          show GoW _ _ _ _ _ _ _ (T103.setTop (mkF m 355 #[.val (.int qc), .val (.int qf), .val (.int (0 : Int32)), .val (.int fro), .val (.int jnk), .val (.ref b3), .val (.ref b10), .val (.ref b34), .val (.ref b60), .val .null, .val .null, .val (.int (1 : Int32)), .unset] [.null, (.ref b34), (.ref b3), (.int (0 : Int32)), (.ref b60)]))
          have pq104 : (Value.ref b34).isRef = true := (by first | assumption | rfl | decide)
          have pq105 : Value.null.isRef = true := (by first | assumption | rfl | decide)
          have pq106 : (0 : Int32) = (0 : Int32) := rfl
          obtain ⟨_, _, ⟨T107, L107, k107, n107⟩, -, X107, ⟨Lc107, hQ107, l107, y107, z107⟩, st107⟩ := Jvm.LawKit.callS X103 hx (y := (⟨"com/example/steward/steward/runtime/GroupAddPinLaw", "linked", "(Lcom/example/steward/steward/runtime/Agent;ZLcom/example/steward/steward/runtime/Group;Lcom/example/steward/steward/runtime/Agent;Lcom/example/steward/steward/runtime/Agent;)Z"⟩ : MethodName)) hown (mvT hZ (hw _ (List.mem_of_getElem? (i := 64) rfl))) (mvT hZ (hw _ (List.mem_of_getElem? (i := 65) rfl))) (mvT hZ (hw _ (List.mem_of_getElem? (i := 66) rfl))) (mvT hZ (hw _ (List.mem_of_getElem? (i := 67) rfl))) (by decide) (backOf (W := 0) (rmli0 l Z aZ hw [] b60 (0 : Int32) b3 (Value.ref b34) Value.null hJ88 n0 z89 pq104 pq105 jf88_6 pq106) hZ (hw _ (List.mem_of_getElem? (i := 67) rfl)) (hw _ (List.mem_of_getElem? (i := 66) rfl)) (by decide) (by decide)) (g := (mkF m 355 #[.val (.int qc), .val (.int qf), .val (.int (0 : Int32)), .val (.int fro), .val (.int jnk), .val (.ref b3), .val (.ref b10), .val (.ref b34), .val (.ref b60), .val .null, .val .null, .val (.int (1 : Int32)), .unset] [.null, (.ref b34), (.ref b3), (.int (0 : Int32)), (.ref b60)])) rfl (by rw [hml]; rfl) (argsL := [(.ref b60), (.int (0 : Int32)), (.ref b3), (.ref b34), .null]) (rest := []) (lenOf pd_6 rfl) rfl (by show 2 * 0 + _ ≤ _; exact Nat.le_of_eq rfl) (hb hby at_355) (fun _ _ => ⟨rfl, e103, (by decide : 16 + 0 ≤ _), (by decide : 74 + 0 ≤ _)⟩)
          dsimp only [Pt.U, Pt.locs, Pt.cells, Pt.slots] at X107 l107 y107 z107 st107 hQ107
          subst l107 y107 z107
          obtain ⟨rfl, Nq107, e107⟩ := hQ107
          have N107 := Fr.app N103 Nq107
          refine GoW.step st107 ?_
          show GoW _ _ _ _ _ _ _ (T107.setTop (mkF m 358 #[.val (.int qc), .val (.int qf), .val (.int (0 : Int32)), .val (.int fro), .val (.int jnk), .val (.ref b3), .val (.ref b10), .val (.ref b34), .val (.ref b60), .val .null, .val .null, .val (.int (1 : Int32)), .unset] [(.int (1 : Int32))]))
          have hc358 : ¬ ((1 : Int32) = (0 : Int32)) := hc335
          refine GoW.step (fun _ k => XS.ifNo X107.here hx rfl (hb hby at_358) rfl ((if0 _ _).trans (feq hc358).1) k) ?_
          show GoW _ _ _ _ _ _ _ (T107.setTop (mkF m 361 #[.val (.int qc), .val (.int qf), .val (.int (0 : Int32)), .val (.int fro), .val (.int jnk), .val (.ref b3), .val (.ref b10), .val (.ref b34), .val (.ref b60), .val .null, .val .null, .val (.int (1 : Int32)), .unset] []))
          refine GoW.step (fun _ k => XS.iconst X107.here hx rfl (hb hby at_361) k) ?_
          show GoW _ _ _ _ _ _ _ (T107.setTop (mkF m 362 #[.val (.int qc), .val (.int qf), .val (.int (0 : Int32)), .val (.int fro), .val (.int jnk), .val (.ref b3), .val (.ref b10), .val (.ref b34), .val (.ref b60), .val .null, .val .null, .val (.int (1 : Int32)), .unset] [(.int (1 : Int32))]))
          refine GoW.step (fun _ k => XS.goto X107.here hx rfl (pc0 := 362) (pc' := 366) rfl (hb hby at_362) (by decide) (by decide) k) ?_
          show GoW _ _ _ _ _ _ _ (T107.setTop (mkF m 366 #[.val (.int qc), .val (.int qf), .val (.int (0 : Int32)), .val (.int fro), .val (.int jnk), .val (.ref b3), .val (.ref b10), .val (.ref b34), .val (.ref b60), .val .null, .val .null, .val (.int (1 : Int32)), .unset] [(.int (1 : Int32))]))
          refine GoW.step (fun _ k => XS.istore X107.here hx rfl (hb hby at_366) rfl (l' := #[.val (.int qc), .val (.int qf), .val (.int (0 : Int32)), .val (.int fro), .val (.int jnk), .val (.ref b3), .val (.ref b10), .val (.ref b34), .val (.ref b60), .val .null, .val .null, .val (.int (1 : Int32)), .unset]) rfl k) ?_
          show GoW _ _ _ _ _ _ _ (T107.setTop (mkF m 368 #[.val (.int qc), .val (.int qf), .val (.int (0 : Int32)), .val (.int fro), .val (.int jnk), .val (.ref b3), .val (.ref b10), .val (.ref b34), .val (.ref b60), .val .null, .val .null, .val (.int (1 : Int32)), .unset] []))
          refine GoW.step (fun _ k => XS.iloadN X107.here hx rfl (hb hby at_368) rfl  k) ?_
          show GoW _ _ _ _ _ _ _ (T107.setTop (mkF m 369 #[.val (.int qc), .val (.int qf), .val (.int (0 : Int32)), .val (.int fro), .val (.int jnk), .val (.ref b3), .val (.ref b10), .val (.ref b34), .val (.ref b60), .val .null, .val .null, .val (.int (1 : Int32)), .unset] [(.int fro)]))
          by_cases hc369 : fro = (0 : Int32)
          · skip
            refine GoW.step (fun _ k => XS.ifYes X107.here hx rfl (pc0 := 369) (pc' := 380) rfl (hb hby at_369) rfl ((if0 _ _).trans (teq hc369).1) (by decide) (by decide) k) ?_
            show GoW _ _ _ _ _ _ _ (T107.setTop (mkF m 380 #[.val (.int qc), .val (.int qf), .val (.int (0 : Int32)), .val (.int fro), .val (.int jnk), .val (.ref b3), .val (.ref b10), .val (.ref b34), .val (.ref b60), .val .null, .val .null, .val (.int (1 : Int32)), .unset] []))
            refine GoW.step (fun _ k => XS.aload X107.here hx rfl (hb hby at_380) rfl rfl  k) ?_
            show GoW _ _ _ _ _ _ _ (T107.setTop (mkF m 382 #[.val (.int qc), .val (.int qf), .val (.int (0 : Int32)), .val (.int fro), .val (.int jnk), .val (.ref b3), .val (.ref b10), .val (.ref b34), .val (.ref b60), .val .null, .val .null, .val (.int (1 : Int32)), .unset] [(.ref b3)]))
            have f108 : Fld Z hJ88 b3 "com/example/steward/steward/runtime/Group" "last" "Lcom/example/steward/steward/runtime/Agent;" .null := ((((((((((f8.ext E10).ext E20).keep K30 (ninS ne11 nin0)).ext E34).ext E46).keep K56 (ninS ne36 nin0)).ext E60).ext E74).keep K84 (ninS ne62 nin0)).keep K88 (ninS ne11 (ninS ne36 (ninS ne62 nin0))))
            obtain ⟨cq109, kq109, q109a, q109b, q109c⟩ := isOf hZ e107 f93
            obtain ⟨_, _, ⟨T109, L109, k109, n109⟩, -, X109, ⟨Lc109, hQ109, l109, y109, z109⟩, st109⟩ := X107.virtualBack hx (y := (⟨"com/example/steward/steward/runtime/Group", "pollLast", "()Lcom/example/steward/steward/runtime/Agent;"⟩ : MethodName)) (z := (⟨"com/example/steward/steward/runtime/Group", "pollLast", "()Lcom/example/steward/steward/runtime/Agent;"⟩ : MethodName)) hown (mvT hZ (hw _ (List.mem_of_getElem? (i := 90) rfl))) (mvT hZ (hw _ (List.mem_of_getElem? (i := 91) rfl))) (notFace_of_selects (args := #[]) (mvT hZ (hw _ (List.mem_of_getElem? (i := 93) rfl)))) (mvT hZ (hw _ (List.mem_of_getElem? (i := 93) rfl))) (mvT hZ (hw _ (List.mem_of_getElem? (i := 92) rfl))) (by decide) (backOf (W := 0) (rmpollLast0 l Z aZ hw [] b3 hJ88 n0 z89 f108) hZ (hw _ (List.mem_of_getElem? (i := 94) rfl)) (hw _ (List.mem_of_getElem? (i := 2) rfl)) (by decide) (by decide)) q109a q109c (g := (mkF m 382 #[.val (.int qc), .val (.int qf), .val (.int (0 : Int32)), .val (.int fro), .val (.int jnk), .val (.ref b3), .val (.ref b10), .val (.ref b34), .val (.ref b60), .val .null, .val .null, .val (.int (1 : Int32)), .unset] [(.ref b3)])) rfl (by rw [hml]; rfl) (Steps.refl _) (argsL := []) (rest := []) (lenOf pd_5 rfl) rfl (by show 2 * 0 + _ ≤ _; exact Nat.le_of_eq rfl) (hb hby at_382) (fun _ _ => ⟨rfl, e107, (by decide : 16 + 0 ≤ _), (by decide : 74 + 0 ≤ _)⟩)
            dsimp only [Pt.U, Pt.locs, Pt.cells, Pt.slots] at X109 l109 y109 z109 st109 hQ109
            subst l109 y109 z109
            obtain ⟨rfl, Nq109, e109⟩ := hQ109
            have N109 := Fr.app N107 Nq109
            refine GoW.tr st109 ?_
            show GoW _ _ _ _ _ _ _ (T109.setTop (mkF m 385 #[.val (.int qc), .val (.int qf), .val (.int (0 : Int32)), .val (.int fro), .val (.int jnk), .val (.ref b3), .val (.ref b10), .val (.ref b34), .val (.ref b60), .val .null, .val .null, .val (.int (1 : Int32)), .unset] [.null]))
            refine GoW.step (fun _ k => XS.astore X109.here hx rfl (hb hby at_385) rfl rfl (l' := #[.val (.int qc), .val (.int qf), .val (.int (0 : Int32)), .val (.int fro), .val (.int jnk), .val (.ref b3), .val (.ref b10), .val (.ref b34), .val (.ref b60), .val .null, .val .null, .val (.int (1 : Int32)), .val .null]) rfl k) ?_
            show GoW _ _ _ _ _ _ _ (T109.setTop (mkF m 387 #[.val (.int qc), .val (.int qf), .val (.int (0 : Int32)), .val (.int fro), .val (.int jnk), .val (.ref b3), .val (.ref b10), .val (.ref b34), .val (.ref b60), .val .null, .val .null, .val (.int (1 : Int32)), .val .null] []))
            refine GoW.step (fun _ k => XS.iload X109.here hx rfl (hb hby at_387) rfl  k) ?_
            show GoW _ _ _ _ _ _ _ (T109.setTop (mkF m 389 #[.val (.int qc), .val (.int qf), .val (.int (0 : Int32)), .val (.int fro), .val (.int jnk), .val (.ref b3), .val (.ref b10), .val (.ref b34), .val (.ref b60), .val .null, .val .null, .val (.int (1 : Int32)), .val .null] [(.int (1 : Int32))]))
            have hc389 : ¬ ((1 : Int32) = (0 : Int32)) := hc358
            refine GoW.step (fun _ k => XS.ifNo X109.here hx rfl (hb hby at_389) rfl ((if0 _ _).trans (feq hc389).1) k) ?_
            show GoW _ _ _ _ _ _ _ (T109.setTop (mkF m 392 #[.val (.int qc), .val (.int qf), .val (.int (0 : Int32)), .val (.int fro), .val (.int jnk), .val (.ref b3), .val (.ref b10), .val (.ref b34), .val (.ref b60), .val .null, .val .null, .val (.int (1 : Int32)), .val .null] []))
            refine GoW.step (fun _ k => XS.aload X109.here hx rfl (hb hby at_392) rfl rfl  k) ?_
            show GoW _ _ _ _ _ _ _ (T109.setTop (mkF m 394 #[.val (.int qc), .val (.int qf), .val (.int (0 : Int32)), .val (.int fro), .val (.int jnk), .val (.ref b3), .val (.ref b10), .val (.ref b34), .val (.ref b60), .val .null, .val .null, .val (.int (1 : Int32)), .val .null] [.null]))
            refine GoW.step (fun _ k => XS.iloadN X109.here hx rfl (hb hby at_394) rfl  k) ?_
            show GoW _ _ _ _ _ _ _ (T109.setTop (mkF m 395 #[.val (.int qc), .val (.int qf), .val (.int (0 : Int32)), .val (.int fro), .val (.int jnk), .val (.ref b3), .val (.ref b10), .val (.ref b34), .val (.ref b60), .val .null, .val .null, .val (.int (1 : Int32)), .val .null] [(.int fro), .null]))
            have hc395 : fro = (0 : Int32) := hc369
            refine GoW.step (fun _ k => XS.ifYes X109.here hx rfl (pc0 := 395) (pc' := 403) rfl (hb hby at_395) rfl ((if0 _ _).trans (teq hc395).1) (by decide) (by decide) k) ?_
            show GoW _ _ _ _ _ _ _ (T109.setTop (mkF m 403 #[.val (.int qc), .val (.int qf), .val (.int (0 : Int32)), .val (.int fro), .val (.int jnk), .val (.ref b3), .val (.ref b10), .val (.ref b34), .val (.ref b60), .val .null, .val .null, .val (.int (1 : Int32)), .val .null] [.null]))
            refine GoW.step (fun _ k => XS.aload X109.here hx rfl (hb hby at_403) rfl rfl  k) ?_
            show GoW _ _ _ _ _ _ _ (T109.setTop (mkF m 405 #[.val (.int qc), .val (.int qf), .val (.int (0 : Int32)), .val (.int fro), .val (.int jnk), .val (.ref b3), .val (.ref b10), .val (.ref b34), .val (.ref b60), .val .null, .val .null, .val (.int (1 : Int32)), .val .null] [.null, .null]))
            refine GoW.step (fun _ k => Jvm.RoadKit.acmp (g := (mkF m 405 #[.val (.int qc), .val (.int qf), .val (.int (0 : Int32)), .val (.int fro), .val (.int jnk), .val (.ref b3), .val (.ref b10), .val (.ref b34), .val (.ref b60), .val .null, .val .null, .val (.int (1 : Int32)), .val .null] [.null, .null])) X109 hx rfl rfl rfl (pc0 := 405) (pc' := 408) (same := true) rfl (hb hby at_405) rfl (decide_eq_true rfl) (by decide) (by decide) k) ?_
            show GoW _ _ _ _ _ _ _ (T109.setTop (mkF m 408 #[.val (.int qc), .val (.int qf), .val (.int (0 : Int32)), .val (.int fro), .val (.int jnk), .val (.ref b3), .val (.ref b10), .val (.ref b34), .val (.ref b60), .val .null, .val .null, .val (.int (1 : Int32)), .val .null] []))
            refine GoW.step (fun _ k => XS.iconst X109.here hx rfl (hb hby at_408) k) ?_
            show GoW _ _ _ _ _ _ _ (T109.setTop (mkF m 409 #[.val (.int qc), .val (.int qf), .val (.int (0 : Int32)), .val (.int fro), .val (.int jnk), .val (.ref b3), .val (.ref b10), .val (.ref b34), .val (.ref b60), .val .null, .val .null, .val (.int (1 : Int32)), .val .null] [(.int (1 : Int32))]))
            refine GoW.step (fun _ k => XS.goto X109.here hx rfl (pc0 := 409) (pc' := 413) rfl (hb hby at_409) (by decide) (by decide) k) ?_
            show GoW _ _ _ _ _ _ _ (T109.setTop (mkF m 413 #[.val (.int qc), .val (.int qf), .val (.int (0 : Int32)), .val (.int fro), .val (.int jnk), .val (.ref b3), .val (.ref b10), .val (.ref b34), .val (.ref b60), .val .null, .val .null, .val (.int (1 : Int32)), .val .null] [(.int (1 : Int32))]))
            refine GoW.step (fun _ k => XS.istore X109.here hx rfl (hb hby at_413) rfl (l' := #[.val (.int qc), .val (.int qf), .val (.int (0 : Int32)), .val (.int fro), .val (.int jnk), .val (.ref b3), .val (.ref b10), .val (.ref b34), .val (.ref b60), .val .null, .val .null, .val (.int (1 : Int32)), .val .null]) rfl k) ?_
            show GoW _ _ _ _ _ _ _ (T109.setTop (mkF m 415 #[.val (.int qc), .val (.int qf), .val (.int (0 : Int32)), .val (.int fro), .val (.int jnk), .val (.ref b3), .val (.ref b10), .val (.ref b34), .val (.ref b60), .val .null, .val .null, .val (.int (1 : Int32)), .val .null] []))
            refine GoW.step (fun _ k => XS.iload X109.here hx rfl (hb hby at_415) rfl  k) ?_
            show GoW _ _ _ _ _ _ _ (T109.setTop (mkF m 417 #[.val (.int qc), .val (.int qf), .val (.int (0 : Int32)), .val (.int fro), .val (.int jnk), .val (.ref b3), .val (.ref b10), .val (.ref b34), .val (.ref b60), .val .null, .val .null, .val (.int (1 : Int32)), .val .null] [(.int (1 : Int32))]))
            refine GoW.retN X109 hS88 (by rw [e109]; exact hk88) hx (t := .boolean) Bd.returns (by simp) hlk (hb hby at_417) ?_ (by decide) (by decide)
            rw [e109]
            exact ⟨(by first | rfl | (simp_all [own_nb1, own_nb0]; done)), N109⟩
          · skip
            refine GoW.step (fun _ k => XS.ifNo X107.here hx rfl (hb hby at_369) rfl ((if0 _ _).trans (feq hc369).1) k) ?_
            show GoW _ _ _ _ _ _ _ (T107.setTop (mkF m 372 #[.val (.int qc), .val (.int qf), .val (.int (0 : Int32)), .val (.int fro), .val (.int jnk), .val (.ref b3), .val (.ref b10), .val (.ref b34), .val (.ref b60), .val .null, .val .null, .val (.int (1 : Int32)), .unset] []))
            refine GoW.step (fun _ k => XS.aload X107.here hx rfl (hb hby at_372) rfl rfl  k) ?_
            show GoW _ _ _ _ _ _ _ (T107.setTop (mkF m 374 #[.val (.int qc), .val (.int qf), .val (.int (0 : Int32)), .val (.int fro), .val (.int jnk), .val (.ref b3), .val (.ref b10), .val (.ref b34), .val (.ref b60), .val .null, .val .null, .val (.int (1 : Int32)), .unset] [(.ref b3)]))
            obtain ⟨cq110, kq110, q110a, q110b, q110c⟩ := isOf hZ e107 f93
            obtain ⟨_, _, ⟨T110, L110, k110, n110⟩, -, X110, ⟨Lc110, hQ110, l110, y110, z110⟩, st110⟩ := X107.virtualBack hx (y := (⟨"com/example/steward/steward/runtime/Group", "pollFirst", "()Lcom/example/steward/steward/runtime/Agent;"⟩ : MethodName)) (z := (⟨"com/example/steward/steward/runtime/Group", "pollFirst", "()Lcom/example/steward/steward/runtime/Agent;"⟩ : MethodName)) hown (mvT hZ (hw _ (List.mem_of_getElem? (i := 70) rfl))) (mvT hZ (hw _ (List.mem_of_getElem? (i := 71) rfl))) (notFace_of_selects (args := #[]) (mvT hZ (hw _ (List.mem_of_getElem? (i := 73) rfl)))) (mvT hZ (hw _ (List.mem_of_getElem? (i := 73) rfl))) (mvT hZ (hw _ (List.mem_of_getElem? (i := 72) rfl))) (by decide) (backOf (W := 0) (rmpollFirst0 l Z aZ hw [] b3 hJ88 n0 z89 f91) hZ (hw _ (List.mem_of_getElem? (i := 74) rfl)) (hw _ (List.mem_of_getElem? (i := 2) rfl)) (by decide) (by decide)) q110a q110c (g := (mkF m 374 #[.val (.int qc), .val (.int qf), .val (.int (0 : Int32)), .val (.int fro), .val (.int jnk), .val (.ref b3), .val (.ref b10), .val (.ref b34), .val (.ref b60), .val .null, .val .null, .val (.int (1 : Int32)), .unset] [(.ref b3)])) rfl (by rw [hml]; rfl) (Steps.refl _) (argsL := []) (rest := []) (lenOf pd_5 rfl) rfl (by show 2 * 0 + _ ≤ _; exact Nat.le_of_eq rfl) (hb hby at_374) (fun _ _ => ⟨rfl, e107, (by decide : 16 + 0 ≤ _), (by decide : 74 + 0 ≤ _)⟩)
            dsimp only [Pt.U, Pt.locs, Pt.cells, Pt.slots] at X110 l110 y110 z110 st110 hQ110
            subst l110 y110 z110
            obtain ⟨rfl, Nq110, e110⟩ := hQ110
            have N110 := Fr.app N107 Nq110
            refine GoW.tr st110 ?_
            show GoW _ _ _ _ _ _ _ (T110.setTop (mkF m 377 #[.val (.int qc), .val (.int qf), .val (.int (0 : Int32)), .val (.int fro), .val (.int jnk), .val (.ref b3), .val (.ref b10), .val (.ref b34), .val (.ref b60), .val .null, .val .null, .val (.int (1 : Int32)), .unset] [.null]))
            refine GoW.step (fun _ k => XS.goto X110.here hx rfl (pc0 := 377) (pc' := 385) rfl (hb hby at_377) (by decide) (by decide) k) ?_
            show GoW _ _ _ _ _ _ _ (T110.setTop (mkF m 385 #[.val (.int qc), .val (.int qf), .val (.int (0 : Int32)), .val (.int fro), .val (.int jnk), .val (.ref b3), .val (.ref b10), .val (.ref b34), .val (.ref b60), .val .null, .val .null, .val (.int (1 : Int32)), .unset] [.null]))
            refine GoW.step (fun _ k => XS.astore X110.here hx rfl (hb hby at_385) rfl rfl (l' := #[.val (.int qc), .val (.int qf), .val (.int (0 : Int32)), .val (.int fro), .val (.int jnk), .val (.ref b3), .val (.ref b10), .val (.ref b34), .val (.ref b60), .val .null, .val .null, .val (.int (1 : Int32)), .val .null]) rfl k) ?_
            show GoW _ _ _ _ _ _ _ (T110.setTop (mkF m 387 #[.val (.int qc), .val (.int qf), .val (.int (0 : Int32)), .val (.int fro), .val (.int jnk), .val (.ref b3), .val (.ref b10), .val (.ref b34), .val (.ref b60), .val .null, .val .null, .val (.int (1 : Int32)), .val .null] []))
            refine GoW.step (fun _ k => XS.iload X110.here hx rfl (hb hby at_387) rfl  k) ?_
            show GoW _ _ _ _ _ _ _ (T110.setTop (mkF m 389 #[.val (.int qc), .val (.int qf), .val (.int (0 : Int32)), .val (.int fro), .val (.int jnk), .val (.ref b3), .val (.ref b10), .val (.ref b34), .val (.ref b60), .val .null, .val .null, .val (.int (1 : Int32)), .val .null] [(.int (1 : Int32))]))
            have hc389 : ¬ ((1 : Int32) = (0 : Int32)) := hc358
            refine GoW.step (fun _ k => XS.ifNo X110.here hx rfl (hb hby at_389) rfl ((if0 _ _).trans (feq hc389).1) k) ?_
            show GoW _ _ _ _ _ _ _ (T110.setTop (mkF m 392 #[.val (.int qc), .val (.int qf), .val (.int (0 : Int32)), .val (.int fro), .val (.int jnk), .val (.ref b3), .val (.ref b10), .val (.ref b34), .val (.ref b60), .val .null, .val .null, .val (.int (1 : Int32)), .val .null] []))
            refine GoW.step (fun _ k => XS.aload X110.here hx rfl (hb hby at_392) rfl rfl  k) ?_
            show GoW _ _ _ _ _ _ _ (T110.setTop (mkF m 394 #[.val (.int qc), .val (.int qf), .val (.int (0 : Int32)), .val (.int fro), .val (.int jnk), .val (.ref b3), .val (.ref b10), .val (.ref b34), .val (.ref b60), .val .null, .val .null, .val (.int (1 : Int32)), .val .null] [.null]))
            refine GoW.step (fun _ k => XS.iloadN X110.here hx rfl (hb hby at_394) rfl  k) ?_
            show GoW _ _ _ _ _ _ _ (T110.setTop (mkF m 395 #[.val (.int qc), .val (.int qf), .val (.int (0 : Int32)), .val (.int fro), .val (.int jnk), .val (.ref b3), .val (.ref b10), .val (.ref b34), .val (.ref b60), .val .null, .val .null, .val (.int (1 : Int32)), .val .null] [(.int fro), .null]))
            have hc395 : ¬ (fro = (0 : Int32)) := hc369
            refine GoW.step (fun _ k => XS.ifNo X110.here hx rfl (hb hby at_395) rfl ((if0 _ _).trans (feq hc395).1) k) ?_
            show GoW _ _ _ _ _ _ _ (T110.setTop (mkF m 398 #[.val (.int qc), .val (.int qf), .val (.int (0 : Int32)), .val (.int fro), .val (.int jnk), .val (.ref b3), .val (.ref b10), .val (.ref b34), .val (.ref b60), .val .null, .val .null, .val (.int (1 : Int32)), .val .null] [.null]))
            refine GoW.step (fun _ k => XS.aload X110.here hx rfl (hb hby at_398) rfl rfl  k) ?_
            show GoW _ _ _ _ _ _ _ (T110.setTop (mkF m 400 #[.val (.int qc), .val (.int qf), .val (.int (0 : Int32)), .val (.int fro), .val (.int jnk), .val (.ref b3), .val (.ref b10), .val (.ref b34), .val (.ref b60), .val .null, .val .null, .val (.int (1 : Int32)), .val .null] [.null, .null]))
            refine GoW.step (fun _ k => XS.goto X110.here hx rfl (pc0 := 400) (pc' := 405) rfl (hb hby at_400) (by decide) (by decide) k) ?_
            show GoW _ _ _ _ _ _ _ (T110.setTop (mkF m 405 #[.val (.int qc), .val (.int qf), .val (.int (0 : Int32)), .val (.int fro), .val (.int jnk), .val (.ref b3), .val (.ref b10), .val (.ref b34), .val (.ref b60), .val .null, .val .null, .val (.int (1 : Int32)), .val .null] [.null, .null]))
            refine GoW.step (fun _ k => Jvm.RoadKit.acmp (g := (mkF m 405 #[.val (.int qc), .val (.int qf), .val (.int (0 : Int32)), .val (.int fro), .val (.int jnk), .val (.ref b3), .val (.ref b10), .val (.ref b34), .val (.ref b60), .val .null, .val .null, .val (.int (1 : Int32)), .val .null] [.null, .null])) X110 hx rfl rfl rfl (pc0 := 405) (pc' := 408) (same := true) rfl (hb hby at_405) rfl (decide_eq_true rfl) (by decide) (by decide) k) ?_
            show GoW _ _ _ _ _ _ _ (T110.setTop (mkF m 408 #[.val (.int qc), .val (.int qf), .val (.int (0 : Int32)), .val (.int fro), .val (.int jnk), .val (.ref b3), .val (.ref b10), .val (.ref b34), .val (.ref b60), .val .null, .val .null, .val (.int (1 : Int32)), .val .null] []))
            refine GoW.step (fun _ k => XS.iconst X110.here hx rfl (hb hby at_408) k) ?_
            show GoW _ _ _ _ _ _ _ (T110.setTop (mkF m 409 #[.val (.int qc), .val (.int qf), .val (.int (0 : Int32)), .val (.int fro), .val (.int jnk), .val (.ref b3), .val (.ref b10), .val (.ref b34), .val (.ref b60), .val .null, .val .null, .val (.int (1 : Int32)), .val .null] [(.int (1 : Int32))]))
            refine GoW.step (fun _ k => XS.goto X110.here hx rfl (pc0 := 409) (pc' := 413) rfl (hb hby at_409) (by decide) (by decide) k) ?_
            show GoW _ _ _ _ _ _ _ (T110.setTop (mkF m 413 #[.val (.int qc), .val (.int qf), .val (.int (0 : Int32)), .val (.int fro), .val (.int jnk), .val (.ref b3), .val (.ref b10), .val (.ref b34), .val (.ref b60), .val .null, .val .null, .val (.int (1 : Int32)), .val .null] [(.int (1 : Int32))]))
            refine GoW.step (fun _ k => XS.istore X110.here hx rfl (hb hby at_413) rfl (l' := #[.val (.int qc), .val (.int qf), .val (.int (0 : Int32)), .val (.int fro), .val (.int jnk), .val (.ref b3), .val (.ref b10), .val (.ref b34), .val (.ref b60), .val .null, .val .null, .val (.int (1 : Int32)), .val .null]) rfl k) ?_
            show GoW _ _ _ _ _ _ _ (T110.setTop (mkF m 415 #[.val (.int qc), .val (.int qf), .val (.int (0 : Int32)), .val (.int fro), .val (.int jnk), .val (.ref b3), .val (.ref b10), .val (.ref b34), .val (.ref b60), .val .null, .val .null, .val (.int (1 : Int32)), .val .null] []))
            refine GoW.step (fun _ k => XS.iload X110.here hx rfl (hb hby at_415) rfl  k) ?_
            show GoW _ _ _ _ _ _ _ (T110.setTop (mkF m 417 #[.val (.int qc), .val (.int qf), .val (.int (0 : Int32)), .val (.int fro), .val (.int jnk), .val (.ref b3), .val (.ref b10), .val (.ref b34), .val (.ref b60), .val .null, .val .null, .val (.int (1 : Int32)), .val .null] [(.int (1 : Int32))]))
            refine GoW.retN X110 hS88 (by rw [e110]; exact hk88) hx (t := .boolean) Bd.returns (by simp) hlk (hb hby at_417) ?_ (by decide) (by decide)
            rw [e110]
            exact ⟨(by first | rfl | (simp_all [own_nb1, own_nb0]; done)), N110⟩
        · skip
          subst h1
          show GoW _ _ _ _ _ _ _ (TJ88.setTop (mkF m 118 #[.val (.int qc), .val (.int qf), .val (.int (1 : Int32)), .val (.int fro), .val (.int jnk), .val (.ref b3), .val (.ref b10), .val (.ref b34), .val (.ref b60), .unset, .unset, .unset, .unset] []))
          refine GoW.step (fun _ k => XS.iloadN X88.here hx rfl (hb hby at_118) rfl  k) ?_
          show GoW _ _ _ _ _ _ _ (TJ88.setTop (mkF m 119 #[.val (.int qc), .val (.int qf), .val (.int (1 : Int32)), .val (.int fro), .val (.int jnk), .val (.ref b3), .val (.ref b10), .val (.ref b34), .val (.ref b60), .unset, .unset, .unset, .unset] [(.int (1 : Int32))]))
          refine GoW.step (fun _ k => XS.iconst X88.here hx rfl (hb hby at_119) k) ?_
          show GoW _ _ _ _ _ _ _ (TJ88.setTop (mkF m 120 #[.val (.int qc), .val (.int qf), .val (.int (1 : Int32)), .val (.int fro), .val (.int jnk), .val (.ref b3), .val (.ref b10), .val (.ref b34), .val (.ref b60), .unset, .unset, .unset, .unset] [(.int (1 : Int32)), (.int (1 : Int32))]))
          have hc120 : ¬ ((1 : Int32) < (1 : Int32)) := by decide
          refine GoW.step (fun _ k => XS.icmpNo X88.here hx rfl (hb hby at_120) rfl (flt hc120).1 k) ?_
          show GoW _ _ _ _ _ _ _ (TJ88.setTop (mkF m 123 #[.val (.int qc), .val (.int qf), .val (.int (1 : Int32)), .val (.int fro), .val (.int jnk), .val (.ref b3), .val (.ref b10), .val (.ref b34), .val (.ref b60), .unset, .unset, .unset, .unset] []))
          refine GoW.step (fun _ k => XS.aload X88.here hx rfl (hb hby at_123) rfl rfl  k) ?_
          show GoW _ _ _ _ _ _ _ (TJ88.setTop (mkF m 125 #[.val (.int qc), .val (.int qf), .val (.int (1 : Int32)), .val (.int fro), .val (.int jnk), .val (.ref b3), .val (.ref b10), .val (.ref b34), .val (.ref b60), .unset, .unset, .unset, .unset] [(.ref b3)]))
          refine GoW.step (fun _ k => XS.aload X88.here hx rfl (hb hby at_125) rfl rfl  k) ?_
          show GoW _ _ _ _ _ _ _ (TJ88.setTop (mkF m 127 #[.val (.int qc), .val (.int qf), .val (.int (1 : Int32)), .val (.int fro), .val (.int jnk), .val (.ref b3), .val (.ref b10), .val (.ref b34), .val (.ref b60), .unset, .unset, .unset, .unset] [(.ref b10), (.ref b3)]))
          have f111 : Exa Z hJ88 b3 "com/example/steward/steward/runtime/Group" := ((((f61.ext E60).ext E74).keep K84).keep K88)
          have f112 : Exa Z hJ88 b10 "com/example/steward/steward/runtime/Agent" := ((((f63.ext E60).ext E74).keep K84).keep K88)
          have f113 : Fld Z hJ88 b3 "com/example/steward/steward/runtime/Group" "first" "Lcom/example/steward/steward/runtime/Agent;" .null := ((((((((((f7.ext E10).ext E20).keep K30 (ninS ne11 nin0)).ext E34).ext E46).keep K56 (ninS ne36 nin0)).ext E60).ext E74).keep K84 (ninS ne62 nin0)).keep K88 (ninS ne11 (ninS ne36 (ninS ne62 nin0))))
          have f114 : Fld Z hJ88 b3 "com/example/steward/steward/runtime/Group" "last" "Lcom/example/steward/steward/runtime/Agent;" .null := ((((((((((f8.ext E10).ext E20).keep K30 (ninS ne11 nin0)).ext E34).ext E46).keep K56 (ninS ne36 nin0)).ext E60).ext E74).keep K84 (ninS ne62 nin0)).keep K88 (ninS ne11 (ninS ne36 (ninS ne62 nin0))))
          obtain ⟨cq115, kq115, q115a, q115b, q115c⟩ := isOf hZ e88 f111
          obtain ⟨_, _, ⟨T115, L115, k115, n115⟩, -, X115, ⟨Lc115, hQ115, l115, y115, z115⟩, st115⟩ := X88.virtualBack hx (y := (⟨"com/example/steward/steward/runtime/Group", "add", "(Lcom/example/steward/steward/runtime/Agent;)V"⟩ : MethodName)) (z := (⟨"com/example/steward/steward/runtime/Group", "add", "(Lcom/example/steward/steward/runtime/Agent;)V"⟩ : MethodName)) hown (mvT hZ (hw _ (List.mem_of_getElem? (i := 75) rfl))) (mvT hZ (hw _ (List.mem_of_getElem? (i := 76) rfl))) (notFace_of_selects (args := #[]) (mvT hZ (hw _ (List.mem_of_getElem? (i := 78) rfl)))) (mvT hZ (hw _ (List.mem_of_getElem? (i := 78) rfl))) (mvT hZ (hw _ (List.mem_of_getElem? (i := 77) rfl))) (by decide) (backOf (W := 0) (rmadd0 l Z aZ hw [] b3 b10 Value.null ja0 jb0 Value.null hJ88 n0 z89 f111 f112 jf88_0 jf88_1 jf88_2 f113 f114 gn3 gn10) hZ (hw _ (List.mem_of_getElem? (i := 79) rfl)) (hw _ (List.mem_of_getElem? (i := 2) rfl)) (by decide) (by decide)) q115a q115c (g := (mkF m 127 #[.val (.int qc), .val (.int qf), .val (.int (1 : Int32)), .val (.int fro), .val (.int jnk), .val (.ref b3), .val (.ref b10), .val (.ref b34), .val (.ref b60), .unset, .unset, .unset, .unset] [(.ref b10), (.ref b3)])) rfl (by rw [hml]; rfl) (Steps.refl _) (argsL := [(.ref b10)]) (rest := []) (lenOf pd_2 rfl) rfl (by show 2 * 0 + _ ≤ _; exact Nat.le_of_eq rfl) (hb hby at_127) (fun _ _ => ⟨rfl, e88, (by decide : 16 + 0 ≤ _), (by decide : 74 + 0 ≤ _)⟩)
          dsimp only [Pt.U, Pt.locs, Pt.cells, Pt.slots] at X115 l115 y115 z115 st115 hQ115
          subst l115 y115 z115
          obtain ⟨rfl, Nq115, K115, c115_0, c115_1, c115_2, c115_3, c115_4, c115_5, c115_6⟩ := hQ115
          have N115 := Fr.app N88 Nq115
          refine GoW.tr st115 ?_
          have z116 : n0 ≤ T115.heap.size := Nat.le_trans z89 K115.1
          have sqz116 : h0.size ≤ T115.heap.size := Nat.le_trans sqz89 K115.1
          have hk118 := Nat.le_trans hk88 K115.1
          show GoW _ _ _ _ _ _ _ (T115.setTop (mkF m 130 #[.val (.int qc), .val (.int qf), .val (.int (1 : Int32)), .val (.int fro), .val (.int jnk), .val (.ref b3), .val (.ref b10), .val (.ref b34), .val (.ref b60), .unset, .unset, .unset, .unset] []))
          refine GoW.step (fun _ k => XS.iloadN X115.here hx rfl (hb hby at_130) rfl  k) ?_
          show GoW _ _ _ _ _ _ _ (T115.setTop (mkF m 131 #[.val (.int qc), .val (.int qf), .val (.int (1 : Int32)), .val (.int fro), .val (.int jnk), .val (.ref b3), .val (.ref b10), .val (.ref b34), .val (.ref b60), .unset, .unset, .unset, .unset] [(.int (1 : Int32))]))
          refine GoW.step (fun _ k => XS.iconst X115.here hx rfl (hb hby at_131) k) ?_
          show GoW _ _ _ _ _ _ _ (T115.setTop (mkF m 132 #[.val (.int qc), .val (.int qf), .val (.int (1 : Int32)), .val (.int fro), .val (.int jnk), .val (.ref b3), .val (.ref b10), .val (.ref b34), .val (.ref b60), .unset, .unset, .unset, .unset] [(.int (2 : Int32)), (.int (1 : Int32))]))
          have hc132 : (1 : Int32) < (2 : Int32) := by decide
          refine GoW.step (fun _ k => XS.icmpYes X115.here hx rfl (pc0 := 132) (pc' := 142) rfl (hb hby at_132) rfl (tlt hc132).1 (by decide) (by decide) k) ?_
          show GoW _ _ _ _ _ _ _ (T115.setTop (mkF m 142 #[.val (.int qc), .val (.int qf), .val (.int (1 : Int32)), .val (.int fro), .val (.int jnk), .val (.ref b3), .val (.ref b10), .val (.ref b34), .val (.ref b60), .unset, .unset, .unset, .unset] []))
          refine GoW.step (fun _ k => XS.iloadN X115.here hx rfl (hb hby at_142) rfl  k) ?_
          show GoW _ _ _ _ _ _ _ (T115.setTop (mkF m 143 #[.val (.int qc), .val (.int qf), .val (.int (1 : Int32)), .val (.int fro), .val (.int jnk), .val (.ref b3), .val (.ref b10), .val (.ref b34), .val (.ref b60), .unset, .unset, .unset, .unset] [(.int (1 : Int32))]))
          refine GoW.step (fun _ k => XS.iconst X115.here hx rfl (hb hby at_143) k) ?_
          show GoW _ _ _ _ _ _ _ (T115.setTop (mkF m 144 #[.val (.int qc), .val (.int qf), .val (.int (1 : Int32)), .val (.int fro), .val (.int jnk), .val (.ref b3), .val (.ref b10), .val (.ref b34), .val (.ref b60), .unset, .unset, .unset, .unset] [(.int (3 : Int32)), (.int (1 : Int32))]))
          have hc144 : (1 : Int32) < (3 : Int32) := by decide
          refine GoW.step (fun _ k => XS.icmpYes X115.here hx rfl (pc0 := 144) (pc' := 154) rfl (hb hby at_144) rfl (tlt hc144).1 (by decide) (by decide) k) ?_
          show GoW _ _ _ _ _ _ _ (T115.setTop (mkF m 154 #[.val (.int qc), .val (.int qf), .val (.int (1 : Int32)), .val (.int fro), .val (.int jnk), .val (.ref b3), .val (.ref b10), .val (.ref b34), .val (.ref b60), .unset, .unset, .unset, .unset] []))
          refine GoW.step (fun _ k => XS.iloadN X115.here hx rfl (hb hby at_154) rfl  k) ?_
          show GoW _ _ _ _ _ _ _ (T115.setTop (mkF m 155 #[.val (.int qc), .val (.int qf), .val (.int (1 : Int32)), .val (.int fro), .val (.int jnk), .val (.ref b3), .val (.ref b10), .val (.ref b34), .val (.ref b60), .unset, .unset, .unset, .unset] [(.int (1 : Int32))]))
          have hc155 : ¬ ((1 : Int32) = (0 : Int32)) := by decide
          refine GoW.step (fun _ k => XS.ifYes X115.here hx rfl (pc0 := 155) (pc' := 162) rfl (hb hby at_155) rfl ((if0 _ _).trans (feq hc155).2) (by decide) (by decide) k) ?_
          show GoW _ _ _ _ _ _ _ (T115.setTop (mkF m 162 #[.val (.int qc), .val (.int qf), .val (.int (1 : Int32)), .val (.int fro), .val (.int jnk), .val (.ref b3), .val (.ref b10), .val (.ref b34), .val (.ref b60), .unset, .unset, .unset, .unset] []))
          refine GoW.step (fun _ k => XS.aload X115.here hx rfl (hb hby at_162) rfl rfl  k) ?_
          show GoW _ _ _ _ _ _ _ (T115.setTop (mkF m 164 #[.val (.int qc), .val (.int qf), .val (.int (1 : Int32)), .val (.int fro), .val (.int jnk), .val (.ref b3), .val (.ref b10), .val (.ref b34), .val (.ref b60), .unset, .unset, .unset, .unset] [(.ref b10)]))
          refine GoW.step (fun _ k => XS.astore X115.here hx rfl (hb hby at_164) rfl rfl (l' := #[.val (.int qc), .val (.int qf), .val (.int (1 : Int32)), .val (.int fro), .val (.int jnk), .val (.ref b3), .val (.ref b10), .val (.ref b34), .val (.ref b60), .val (.ref b10), .unset, .unset, .unset]) rfl k) ?_
          show GoW _ _ _ _ _ _ _ (T115.setTop (mkF m 166 #[.val (.int qc), .val (.int qf), .val (.int (1 : Int32)), .val (.int fro), .val (.int jnk), .val (.ref b3), .val (.ref b10), .val (.ref b34), .val (.ref b60), .val (.ref b10), .unset, .unset, .unset] []))
          refine GoW.step (fun _ k => XS.iloadN X115.here hx rfl (hb hby at_166) rfl  k) ?_
          show GoW _ _ _ _ _ _ _ (T115.setTop (mkF m 167 #[.val (.int qc), .val (.int qf), .val (.int (1 : Int32)), .val (.int fro), .val (.int jnk), .val (.ref b3), .val (.ref b10), .val (.ref b34), .val (.ref b60), .val (.ref b10), .unset, .unset, .unset] [(.int (1 : Int32))]))
          have hc167 : ¬ ((1 : Int32) = (0 : Int32)) := hc155
          refine GoW.step (fun _ k => XS.ifYes X115.here hx rfl (pc0 := 167) (pc' := 174) rfl (hb hby at_167) rfl ((if0 _ _).trans (feq hc167).2) (by decide) (by decide) k) ?_
          show GoW _ _ _ _ _ _ _ (T115.setTop (mkF m 174 #[.val (.int qc), .val (.int qf), .val (.int (1 : Int32)), .val (.int fro), .val (.int jnk), .val (.ref b3), .val (.ref b10), .val (.ref b34), .val (.ref b60), .val (.ref b10), .unset, .unset, .unset] []))
          refine GoW.step (fun _ k => XS.iloadN X115.here hx rfl (hb hby at_174) rfl  k) ?_
          show GoW _ _ _ _ _ _ _ (T115.setTop (mkF m 175 #[.val (.int qc), .val (.int qf), .val (.int (1 : Int32)), .val (.int fro), .val (.int jnk), .val (.ref b3), .val (.ref b10), .val (.ref b34), .val (.ref b60), .val (.ref b10), .unset, .unset, .unset] [(.int (1 : Int32))]))
          refine GoW.step (fun _ k => XS.iconst X115.here hx rfl (hb hby at_175) k) ?_
          show GoW _ _ _ _ _ _ _ (T115.setTop (mkF m 176 #[.val (.int qc), .val (.int qf), .val (.int (1 : Int32)), .val (.int fro), .val (.int jnk), .val (.ref b3), .val (.ref b10), .val (.ref b34), .val (.ref b60), .val (.ref b10), .unset, .unset, .unset] [(.int (1 : Int32)), (.int (1 : Int32))]))
          have hc176 : (1 : Int32) = (1 : Int32) := by decide
          refine GoW.step (fun _ k => XS.icmpNo X115.here hx rfl (hb hby at_176) rfl (teq hc176).2 k) ?_
          show GoW _ _ _ _ _ _ _ (T115.setTop (mkF m 179 #[.val (.int qc), .val (.int qf), .val (.int (1 : Int32)), .val (.int fro), .val (.int jnk), .val (.ref b3), .val (.ref b10), .val (.ref b34), .val (.ref b60), .val (.ref b10), .unset, .unset, .unset] []))
          refine GoW.step (fun _ k => XS.aload X115.here hx rfl (hb hby at_179) rfl rfl  k) ?_
          show GoW _ _ _ _ _ _ _ (T115.setTop (mkF m 181 #[.val (.int qc), .val (.int qf), .val (.int (1 : Int32)), .val (.int fro), .val (.int jnk), .val (.ref b3), .val (.ref b10), .val (.ref b34), .val (.ref b60), .val (.ref b10), .unset, .unset, .unset] [(.ref b10)]))
          refine GoW.step (fun _ k => XS.goto X115.here hx rfl (pc0 := 181) (pc' := 196) rfl (hb hby at_181) (by decide) (by decide) k) ?_
          show GoW _ _ _ _ _ _ _ (T115.setTop (mkF m 196 #[.val (.int qc), .val (.int qf), .val (.int (1 : Int32)), .val (.int fro), .val (.int jnk), .val (.ref b3), .val (.ref b10), .val (.ref b34), .val (.ref b60), .val (.ref b10), .unset, .unset, .unset] [(.ref b10)]))
          refine GoW.step (fun _ k => XS.astore X115.here hx rfl (hb hby at_196) rfl rfl (l' := #[.val (.int qc), .val (.int qf), .val (.int (1 : Int32)), .val (.int fro), .val (.int jnk), .val (.ref b3), .val (.ref b10), .val (.ref b34), .val (.ref b60), .val (.ref b10), .val (.ref b10), .unset, .unset]) rfl k) ?_
          show GoW _ _ _ _ _ _ _ (T115.setTop (mkF m 198 #[.val (.int qc), .val (.int qf), .val (.int (1 : Int32)), .val (.int fro), .val (.int jnk), .val (.ref b3), .val (.ref b10), .val (.ref b34), .val (.ref b60), .val (.ref b10), .val (.ref b10), .unset, .unset] []))
          refine GoW.step (fun _ k => XS.aload X115.here hx rfl (hb hby at_198) rfl rfl  k) ?_
          show GoW _ _ _ _ _ _ _ (T115.setTop (mkF m 200 #[.val (.int qc), .val (.int qf), .val (.int (1 : Int32)), .val (.int fro), .val (.int jnk), .val (.ref b3), .val (.ref b10), .val (.ref b34), .val (.ref b60), .val (.ref b10), .val (.ref b10), .unset, .unset] [(.ref b3)]))
          obtain ⟨cq119, kq119, q119a, q119b, q119c⟩ := isOf hZ rfl c115_0
          obtain ⟨_, _, ⟨T119, L119, k119, n119⟩, -, X119, ⟨Lc119, hQ119, l119, y119, z119⟩, st119⟩ := X115.virtualBack hx (y := (⟨"com/example/steward/steward/runtime/Group", "isEmpty", "()Z"⟩ : MethodName)) (z := (⟨"com/example/steward/steward/runtime/Group", "isEmpty", "()Z"⟩ : MethodName)) hown (mvT hZ (hw _ (List.mem_of_getElem? (i := 52) rfl))) (mvT hZ (hw _ (List.mem_of_getElem? (i := 53) rfl))) (notFace_of_selects (args := #[]) (mvT hZ (hw _ (List.mem_of_getElem? (i := 55) rfl)))) (mvT hZ (hw _ (List.mem_of_getElem? (i := 55) rfl))) (mvT hZ (hw _ (List.mem_of_getElem? (i := 54) rfl))) (by decide) (backOf (W := 0) (rmem1 l Z aZ hw [] b3 b10 T115.heap n0 z116 c115_5) hZ (hw _ (List.mem_of_getElem? (i := 56) rfl)) (hw _ (List.mem_of_getElem? (i := 2) rfl)) (by decide) (by decide)) q119a q119c (g := (mkF m 200 #[.val (.int qc), .val (.int qf), .val (.int (1 : Int32)), .val (.int fro), .val (.int jnk), .val (.ref b3), .val (.ref b10), .val (.ref b34), .val (.ref b60), .val (.ref b10), .val (.ref b10), .unset, .unset] [(.ref b3)])) rfl (by rw [hml]; rfl) (Steps.refl _) (argsL := []) (rest := []) (lenOf pd_4 rfl) rfl (by show 2 * 0 + _ ≤ _; exact Nat.le_of_eq rfl) (hb hby at_200) (fun _ _ => ⟨rfl, rfl, (by decide : 16 + 0 ≤ _), (by decide : 74 + 0 ≤ _)⟩)
          dsimp only [Pt.U, Pt.locs, Pt.cells, Pt.slots] at X119 l119 y119 z119 st119 hQ119
          subst l119 y119 z119
          obtain ⟨rfl, Nq119, e119⟩ := hQ119
          have N119 := Fr.app N115 Nq119
          refine GoW.tr st119 ?_
          show GoW _ _ _ _ _ _ _ (T119.setTop (mkF m 203 #[.val (.int qc), .val (.int qf), .val (.int (1 : Int32)), .val (.int fro), .val (.int jnk), .val (.ref b3), .val (.ref b10), .val (.ref b34), .val (.ref b60), .val (.ref b10), .val (.ref b10), .unset, .unset] [(.int (0 : Int32))]))
          refine GoW.step (fun _ k => XS.iloadN X119.here hx rfl (hb hby at_203) rfl  k) ?_
          show GoW _ _ _ _ _ _ _ (T119.setTop (mkF m 204 #[.val (.int qc), .val (.int qf), .val (.int (1 : Int32)), .val (.int fro), .val (.int jnk), .val (.ref b3), .val (.ref b10), .val (.ref b34), .val (.ref b60), .val (.ref b10), .val (.ref b10), .unset, .unset] [(.int (1 : Int32)), (.int (0 : Int32))]))
          have hc204 : ¬ ((1 : Int32) = (0 : Int32)) := hc167
          refine GoW.step (fun _ k => XS.ifYes X119.here hx rfl (pc0 := 204) (pc' := 211) rfl (hb hby at_204) rfl ((if0 _ _).trans (feq hc204).2) (by decide) (by decide) k) ?_
          show GoW _ _ _ _ _ _ _ (T119.setTop (mkF m 211 #[.val (.int qc), .val (.int qf), .val (.int (1 : Int32)), .val (.int fro), .val (.int jnk), .val (.ref b3), .val (.ref b10), .val (.ref b34), .val (.ref b60), .val (.ref b10), .val (.ref b10), .unset, .unset] [(.int (0 : Int32))]))
          refine GoW.step (fun _ k => XS.iconst X119.here hx rfl (hb hby at_211) k) ?_
          show GoW _ _ _ _ _ _ _ (T119.setTop (mkF m 212 #[.val (.int qc), .val (.int qf), .val (.int (1 : Int32)), .val (.int fro), .val (.int jnk), .val (.ref b3), .val (.ref b10), .val (.ref b34), .val (.ref b60), .val (.ref b10), .val (.ref b10), .unset, .unset] [(.int (0 : Int32)), (.int (0 : Int32))]))
          have hc212 : (0 : Int32) = (0 : Int32) := by decide
          refine GoW.step (fun _ k => XS.icmpNo X119.here hx rfl (hb hby at_212) rfl (teq hc212).2 k) ?_
          show GoW _ _ _ _ _ _ _ (T119.setTop (mkF m 215 #[.val (.int qc), .val (.int qf), .val (.int (1 : Int32)), .val (.int fro), .val (.int jnk), .val (.ref b3), .val (.ref b10), .val (.ref b34), .val (.ref b60), .val (.ref b10), .val (.ref b10), .unset, .unset] []))
          refine GoW.step (fun _ k => XS.iconst X119.here hx rfl (hb hby at_215) k) ?_
          show GoW _ _ _ _ _ _ _ (T119.setTop (mkF m 216 #[.val (.int qc), .val (.int qf), .val (.int (1 : Int32)), .val (.int fro), .val (.int jnk), .val (.ref b3), .val (.ref b10), .val (.ref b34), .val (.ref b60), .val (.ref b10), .val (.ref b10), .unset, .unset] [(.int (1 : Int32))]))
          refine GoW.step (fun _ k => XS.goto X119.here hx rfl (pc0 := 216) (pc' := 220) rfl (hb hby at_216) (by decide) (by decide) k) ?_
          show GoW _ _ _ _ _ _ _ (T119.setTop (mkF m 220 #[.val (.int qc), .val (.int qf), .val (.int (1 : Int32)), .val (.int fro), .val (.int jnk), .val (.ref b3), .val (.ref b10), .val (.ref b34), .val (.ref b60), .val (.ref b10), .val (.ref b10), .unset, .unset] [(.int (1 : Int32))]))
          refine GoW.step (fun _ k => XS.istore X119.here hx rfl (hb hby at_220) rfl (l' := #[.val (.int qc), .val (.int qf), .val (.int (1 : Int32)), .val (.int fro), .val (.int jnk), .val (.ref b3), .val (.ref b10), .val (.ref b34), .val (.ref b60), .val (.ref b10), .val (.ref b10), .val (.int (1 : Int32)), .unset]) rfl k) ?_
          show GoW _ _ _ _ _ _ _ (T119.setTop (mkF m 222 #[.val (.int qc), .val (.int qf), .val (.int (1 : Int32)), .val (.int fro), .val (.int jnk), .val (.ref b3), .val (.ref b10), .val (.ref b34), .val (.ref b60), .val (.ref b10), .val (.ref b10), .val (.int (1 : Int32)), .unset] []))
          refine GoW.step (fun _ k => XS.iload X119.here hx rfl (hb hby at_222) rfl  k) ?_
          show GoW _ _ _ _ _ _ _ (T119.setTop (mkF m 224 #[.val (.int qc), .val (.int qf), .val (.int (1 : Int32)), .val (.int fro), .val (.int jnk), .val (.ref b3), .val (.ref b10), .val (.ref b34), .val (.ref b60), .val (.ref b10), .val (.ref b10), .val (.int (1 : Int32)), .unset] [(.int (1 : Int32))]))
          have hc224 : ¬ ((1 : Int32) = (0 : Int32)) := hc204
          refine GoW.step (fun _ k => XS.ifNo X119.here hx rfl (hb hby at_224) rfl ((if0 _ _).trans (feq hc224).1) k) ?_
          show GoW _ _ _ _ _ _ _ (T119.setTop (mkF m 227 #[.val (.int qc), .val (.int qf), .val (.int (1 : Int32)), .val (.int fro), .val (.int jnk), .val (.ref b3), .val (.ref b10), .val (.ref b34), .val (.ref b60), .val (.ref b10), .val (.ref b10), .val (.int (1 : Int32)), .unset] []))
          refine GoW.step (fun _ k => XS.aload X119.here hx rfl (hb hby at_227) rfl rfl  k) ?_
          show GoW _ _ _ _ _ _ _ (T119.setTop (mkF m 229 #[.val (.int qc), .val (.int qf), .val (.int (1 : Int32)), .val (.int fro), .val (.int jnk), .val (.ref b3), .val (.ref b10), .val (.ref b34), .val (.ref b60), .val (.ref b10), .val (.ref b10), .val (.int (1 : Int32)), .unset] [(.ref b3)]))
          have pq120 : (Value.ref b10).isRef = true := rfl
          obtain ⟨cq121, kq121, q121a, q121b, q121c⟩ := isOf hZ e119 c115_0
          obtain ⟨_, _, ⟨T121, L121, k121, n121⟩, -, X121, ⟨Lc121, hQ121, l121, y121, z121⟩, st121⟩ := X119.virtualBack hx (y := (⟨"com/example/steward/steward/runtime/Group", "first", "()Lcom/example/steward/steward/runtime/Agent;"⟩ : MethodName)) (z := (⟨"com/example/steward/steward/runtime/Group", "first", "()Lcom/example/steward/steward/runtime/Agent;"⟩ : MethodName)) hown (mvT hZ (hw _ (List.mem_of_getElem? (i := 59) rfl))) (mvT hZ (hw _ (List.mem_of_getElem? (i := 60) rfl))) (notFace_of_selects (args := #[]) (mvT hZ (hw _ (List.mem_of_getElem? (i := 62) rfl)))) (mvT hZ (hw _ (List.mem_of_getElem? (i := 62) rfl))) (mvT hZ (hw _ (List.mem_of_getElem? (i := 61) rfl))) (by decide) (backOf (W := 0) (rm7 l Z aZ hw [] b3 (Value.ref b10) T115.heap n0 z116 c115_5 pq120) hZ (hw _ (List.mem_of_getElem? (i := 63) rfl)) (hw _ (List.mem_of_getElem? (i := 2) rfl)) (by decide) (by decide)) q121a q121c (g := (mkF m 229 #[.val (.int qc), .val (.int qf), .val (.int (1 : Int32)), .val (.int fro), .val (.int jnk), .val (.ref b3), .val (.ref b10), .val (.ref b34), .val (.ref b60), .val (.ref b10), .val (.ref b10), .val (.int (1 : Int32)), .unset] [(.ref b3)])) rfl (by rw [hml]; rfl) (Steps.refl _) (argsL := []) (rest := []) (lenOf pd_5 rfl) rfl (by show 2 * 0 + _ ≤ _; exact Nat.le_of_eq rfl) (hb hby at_229) (fun _ _ => ⟨rfl, e119, (by decide : 16 + 0 ≤ _), (by decide : 74 + 0 ≤ _)⟩)
          dsimp only [Pt.U, Pt.locs, Pt.cells, Pt.slots] at X121 l121 y121 z121 st121 hQ121
          subst l121 y121 z121
          obtain ⟨rfl, Nq121, e121⟩ := hQ121
          have N121 := Fr.app N119 Nq121
          refine GoW.tr st121 ?_
          show GoW _ _ _ _ _ _ _ (T121.setTop (mkF m 232 #[.val (.int qc), .val (.int qf), .val (.int (1 : Int32)), .val (.int fro), .val (.int jnk), .val (.ref b3), .val (.ref b10), .val (.ref b34), .val (.ref b60), .val (.ref b10), .val (.ref b10), .val (.int (1 : Int32)), .unset] [(.ref b10)]))
          refine GoW.step (fun _ k => XS.aload X121.here hx rfl (hb hby at_232) rfl rfl  k) ?_
          show GoW _ _ _ _ _ _ _ (T121.setTop (mkF m 234 #[.val (.int qc), .val (.int qf), .val (.int (1 : Int32)), .val (.int fro), .val (.int jnk), .val (.ref b3), .val (.ref b10), .val (.ref b34), .val (.ref b60), .val (.ref b10), .val (.ref b10), .val (.int (1 : Int32)), .unset] [(.ref b10), (.ref b10)]))
          refine GoW.step (fun _ k => Jvm.RoadKit.acmp (g := (mkF m 234 #[.val (.int qc), .val (.int qf), .val (.int (1 : Int32)), .val (.int fro), .val (.int jnk), .val (.ref b3), .val (.ref b10), .val (.ref b34), .val (.ref b60), .val (.ref b10), .val (.ref b10), .val (.int (1 : Int32)), .unset] [(.ref b10), (.ref b10)])) X121 hx rfl rfl rfl (pc0 := 234) (pc' := 237) (same := true) rfl (hb hby at_234) rfl (decide_eq_true rfl) (by decide) (by decide) k) ?_
          show GoW _ _ _ _ _ _ _ (T121.setTop (mkF m 237 #[.val (.int qc), .val (.int qf), .val (.int (1 : Int32)), .val (.int fro), .val (.int jnk), .val (.ref b3), .val (.ref b10), .val (.ref b34), .val (.ref b60), .val (.ref b10), .val (.ref b10), .val (.int (1 : Int32)), .unset] []))
          refine GoW.step (fun _ k => XS.iconst X121.here hx rfl (hb hby at_237) k) ?_
          show GoW _ _ _ _ _ _ _ (T121.setTop (mkF m 238 #[.val (.int qc), .val (.int qf), .val (.int (1 : Int32)), .val (.int fro), .val (.int jnk), .val (.ref b3), .val (.ref b10), .val (.ref b34), .val (.ref b60), .val (.ref b10), .val (.ref b10), .val (.int (1 : Int32)), .unset] [(.int (1 : Int32))]))
          refine GoW.step (fun _ k => XS.goto X121.here hx rfl (pc0 := 238) (pc' := 242) rfl (hb hby at_238) (by decide) (by decide) k) ?_
          show GoW _ _ _ _ _ _ _ (T121.setTop (mkF m 242 #[.val (.int qc), .val (.int qf), .val (.int (1 : Int32)), .val (.int fro), .val (.int jnk), .val (.ref b3), .val (.ref b10), .val (.ref b34), .val (.ref b60), .val (.ref b10), .val (.ref b10), .val (.int (1 : Int32)), .unset] [(.int (1 : Int32))]))
          refine GoW.step (fun _ k => XS.istore X121.here hx rfl (hb hby at_242) rfl (l' := #[.val (.int qc), .val (.int qf), .val (.int (1 : Int32)), .val (.int fro), .val (.int jnk), .val (.ref b3), .val (.ref b10), .val (.ref b34), .val (.ref b60), .val (.ref b10), .val (.ref b10), .val (.int (1 : Int32)), .unset]) rfl k) ?_
          show GoW _ _ _ _ _ _ _ (T121.setTop (mkF m 244 #[.val (.int qc), .val (.int qf), .val (.int (1 : Int32)), .val (.int fro), .val (.int jnk), .val (.ref b3), .val (.ref b10), .val (.ref b34), .val (.ref b60), .val (.ref b10), .val (.ref b10), .val (.int (1 : Int32)), .unset] []))
          refine GoW.step (fun _ k => XS.iload X121.here hx rfl (hb hby at_244) rfl  k) ?_
          show GoW _ _ _ _ _ _ _ (T121.setTop (mkF m 246 #[.val (.int qc), .val (.int qf), .val (.int (1 : Int32)), .val (.int fro), .val (.int jnk), .val (.ref b3), .val (.ref b10), .val (.ref b34), .val (.ref b60), .val (.ref b10), .val (.ref b10), .val (.int (1 : Int32)), .unset] [(.int (1 : Int32))]))
          have hc246 : ¬ ((1 : Int32) = (0 : Int32)) := hc224
          refine GoW.step (fun _ k => XS.ifNo X121.here hx rfl (hb hby at_246) rfl ((if0 _ _).trans (feq hc246).1) k) ?_
          show GoW _ _ _ _ _ _ _ (T121.setTop (mkF m 249 #[.val (.int qc), .val (.int qf), .val (.int (1 : Int32)), .val (.int fro), .val (.int jnk), .val (.ref b3), .val (.ref b10), .val (.ref b34), .val (.ref b60), .val (.ref b10), .val (.ref b10), .val (.int (1 : Int32)), .unset] []))
          refine GoW.step (fun _ k => XS.aload X121.here hx rfl (hb hby at_249) rfl rfl  k) ?_
          show GoW _ _ _ _ _ _ _ (T121.setTop (mkF m 251 #[.val (.int qc), .val (.int qf), .val (.int (1 : Int32)), .val (.int fro), .val (.int jnk), .val (.ref b3), .val (.ref b10), .val (.ref b34), .val (.ref b60), .val (.ref b10), .val (.ref b10), .val (.int (1 : Int32)), .unset] [(.ref b10)]))
          refine GoW.step (fun _ k => XS.iloadN X121.here hx rfl (hb hby at_251) rfl  k) ?_
          show GoW _ _ _ _ _ _ _ (T121.setTop (mkF m 252 #[.val (.int qc), .val (.int qf), .val (.int (1 : Int32)), .val (.int fro), .val (.int jnk), .val (.ref b3), .val (.ref b10), .val (.ref b34), .val (.ref b60), .val (.ref b10), .val (.ref b10), .val (.int (1 : Int32)), .unset] [(.int (1 : Int32)), (.ref b10)]))
          refine GoW.step (fun _ k => XS.iconst X121.here hx rfl (hb hby at_252) k) ?_
          show GoW _ _ _ _ _ _ _ (T121.setTop (mkF m 253 #[.val (.int qc), .val (.int qf), .val (.int (1 : Int32)), .val (.int fro), .val (.int jnk), .val (.ref b3), .val (.ref b10), .val (.ref b34), .val (.ref b60), .val (.ref b10), .val (.ref b10), .val (.int (1 : Int32)), .unset] [(.int (1 : Int32)), (.int (1 : Int32)), (.ref b10)]))
          have hc253 : ¬ ((1 : Int32) < (1 : Int32)) := hc120
          refine GoW.step (fun _ k => XS.icmpNo X121.here hx rfl (hb hby at_253) rfl (flt hc253).1 k) ?_
          show GoW _ _ _ _ _ _ _ (T121.setTop (mkF m 256 #[.val (.int qc), .val (.int qf), .val (.int (1 : Int32)), .val (.int fro), .val (.int jnk), .val (.ref b3), .val (.ref b10), .val (.ref b34), .val (.ref b60), .val (.ref b10), .val (.ref b10), .val (.int (1 : Int32)), .unset] [(.ref b10)]))
          refine GoW.step (fun _ k => XS.iconst X121.here hx rfl (hb hby at_256) k) ?_
          show GoW _ _ _ _ _ _ _ (T121.setTop (mkF m 257 #[.val (.int qc), .val (.int qf), .val (.int (1 : Int32)), .val (.int fro), .val (.int jnk), .val (.ref b3), .val (.ref b10), .val (.ref b34), .val (.ref b60), .val (.ref b10), .val (.ref b10), .val (.int (1 : Int32)), .unset] [(.int (1 : Int32)), (.ref b10)]))
          refine GoW.step (fun _ k => XS.goto X121.here hx rfl (pc0 := 257) (pc' := 261) rfl (hb hby at_257) (by decide) (by decide) k) ?_
          show GoW _ _ _ _ _ _ _ (T121.setTop (mkF m 261 #[.val (.int qc), .val (.int qf), .val (.int (1 : Int32)), .val (.int fro), .val (.int jnk), .val (.ref b3), .val (.ref b10), .val (.ref b34), .val (.ref b60), .val (.ref b10), .val (.ref b10), .val (.int (1 : Int32)), .unset] [(.int (1 : Int32)), (.ref b10)]))
          refine GoW.step (fun _ k => XS.aload X121.here hx rfl (hb hby at_261) rfl rfl  k) ?_
          show GoW _ _ _ _ _ _ _ (T121.setTop (mkF m 263 #[.val (.int qc), .val (.int qf), .val (.int (1 : Int32)), .val (.int fro), .val (.int jnk), .val (.ref b3), .val (.ref b10), .val (.ref b34), .val (.ref b60), .val (.ref b10), .val (.ref b10), .val (.int (1 : Int32)), .unset] [(.ref b3), (.int (1 : Int32)), (.ref b10)]))
          refine GoW.step (fun _ k => XS.aconstNull X121.here hx rfl (hb hby at_263) k) ?_
          show GoW _ _ _ _ _ _ _ (T121.setTop (mkF m 264 #[.val (.int qc), .val (.int qf), .val (.int (1 : Int32)), .val (.int fro), .val (.int jnk), .val (.ref b3), .val (.ref b10), .val (.ref b34), .val (.ref b60), .val (.ref b10), .val (.ref b10), .val (.int (1 : Int32)), .unset] [.null, (.ref b3), (.int (1 : Int32)), (.ref b10)]))
          refine GoW.step (fun _ k => XS.iloadN X121.here hx rfl (hb hby at_264) rfl  k) ?_
          show GoW _ _ _ _ _ _ _ (T121.setTop (mkF m 265 #[.val (.int qc), .val (.int qf), .val (.int (1 : Int32)), .val (.int fro), .val (.int jnk), .val (.ref b3), .val (.ref b10), .val (.ref b34), .val (.ref b60), .val (.ref b10), .val (.ref b10), .val (.int (1 : Int32)), .unset] [(.int (1 : Int32)), .null, (.ref b3), (.int (1 : Int32)), (.ref b10)]))
          refine GoW.step (fun _ k => XS.iconst X121.here hx rfl (hb hby at_265) k) ?_
          show GoW _ _ _ _ _ _ _ (T121.setTop (mkF m 266 #[.val (.int qc), .val (.int qf), .val (.int (1 : Int32)), .val (.int fro), .val (.int jnk), .val (.ref b3), .val (.ref b10), .val (.ref b34), .val (.ref b60), .val (.ref b10), .val (.ref b10), .val (.int (1 : Int32)), .unset] [(.int (2 : Int32)), (.int (1 : Int32)), .null, (.ref b3), (.int (1 : Int32)), (.ref b10)]))
          have hc266 : (1 : Int32) < (2 : Int32) := hc132
          refine GoW.step (fun _ k => XS.icmpYes X121.here hx rfl (pc0 := 266) (pc' := 274) rfl (hb hby at_266) rfl (tlt hc266).1 (by decide) (by decide) k) ?_
          show GoW _ _ _ _ _ _ _ (T121.setTop (mkF m 274 #[.val (.int qc), .val (.int qf), .val (.int (1 : Int32)), .val (.int fro), .val (.int jnk), .val (.ref b3), .val (.ref b10), .val (.ref b34), .val (.ref b60), .val (.ref b10), .val (.ref b10), .val (.int (1 : Int32)), .unset] [.null, (.ref b3), (.int (1 : Int32)), (.ref b10)]))
          refine GoW.step (fun _ k => XS.aconstNull X121.here hx rfl (hb hby at_274) k) ?_
          show GoW _ _ _ _ _ _ _ (T121.setTop (mkF m 275 #[.val (.int qc), .val (.int qf), .val (.int (1 : Int32)), .val (.int fro), .val (.int jnk), .val (.ref b3), .val (.ref b10), .val (.ref b34), .val (.ref b60), .val (.ref b10), .val (.ref b10), .val (.int (1 : Int32)), .unset] [.null, .null, (.ref b3), (.int (1 : Int32)), (.ref b10)]))
          have pq122 : Value.null.isRef = true := (by first | assumption | rfl | decide)
          have pq123 : Value.null.isRef = true := (by first | assumption | rfl | decide)
          have pq124 : (1 : Int32) = (1 : Int32) := rfl
          obtain ⟨_, _, ⟨T125, L125, k125, n125⟩, -, X125, ⟨Lc125, hQ125, l125, y125, z125⟩, st125⟩ := Jvm.LawKit.callS X121 hx (y := (⟨"com/example/steward/steward/runtime/GroupAddPinLaw", "linked", "(Lcom/example/steward/steward/runtime/Agent;ZLcom/example/steward/steward/runtime/Group;Lcom/example/steward/steward/runtime/Agent;Lcom/example/steward/steward/runtime/Agent;)Z"⟩ : MethodName)) hown (mvT hZ (hw _ (List.mem_of_getElem? (i := 64) rfl))) (mvT hZ (hw _ (List.mem_of_getElem? (i := 65) rfl))) (mvT hZ (hw _ (List.mem_of_getElem? (i := 66) rfl))) (mvT hZ (hw _ (List.mem_of_getElem? (i := 67) rfl))) (by decide) (backOf (W := 0) (rmli1 l Z aZ hw [] b10 (1 : Int32) b3 Value.null Value.null T115.heap n0 z116 pq122 pq123 c115_2 c115_3 c115_4 pq124) hZ (hw _ (List.mem_of_getElem? (i := 67) rfl)) (hw _ (List.mem_of_getElem? (i := 66) rfl)) (by decide) (by decide)) (g := (mkF m 275 #[.val (.int qc), .val (.int qf), .val (.int (1 : Int32)), .val (.int fro), .val (.int jnk), .val (.ref b3), .val (.ref b10), .val (.ref b34), .val (.ref b60), .val (.ref b10), .val (.ref b10), .val (.int (1 : Int32)), .unset] [.null, .null, (.ref b3), (.int (1 : Int32)), (.ref b10)])) rfl (by rw [hml]; rfl) (argsL := [(.ref b10), (.int (1 : Int32)), (.ref b3), .null, .null]) (rest := []) (lenOf pd_6 rfl) rfl (by show 2 * 0 + _ ≤ _; exact Nat.le_of_eq rfl) (hb hby at_275) (fun _ _ => ⟨rfl, e121, (by decide : 16 + 0 ≤ _), (by decide : 74 + 0 ≤ _)⟩)
          dsimp only [Pt.U, Pt.locs, Pt.cells, Pt.slots] at X125 l125 y125 z125 st125 hQ125
          subst l125 y125 z125
          obtain ⟨rfl, Nq125, e125⟩ := hQ125
          have N125 := Fr.app N121 Nq125
          refine GoW.step st125 ?_
          show GoW _ _ _ _ _ _ _ (T125.setTop (mkF m 278 #[.val (.int qc), .val (.int qf), .val (.int (1 : Int32)), .val (.int fro), .val (.int jnk), .val (.ref b3), .val (.ref b10), .val (.ref b34), .val (.ref b60), .val (.ref b10), .val (.ref b10), .val (.int (1 : Int32)), .unset] [(.int (1 : Int32))]))
          have hc278 : ¬ ((1 : Int32) = (0 : Int32)) := hc246
          refine GoW.step (fun _ k => XS.ifNo X125.here hx rfl (hb hby at_278) rfl ((if0 _ _).trans (feq hc278).1) k) ?_
          show GoW _ _ _ _ _ _ _ (T125.setTop (mkF m 281 #[.val (.int qc), .val (.int qf), .val (.int (1 : Int32)), .val (.int fro), .val (.int jnk), .val (.ref b3), .val (.ref b10), .val (.ref b34), .val (.ref b60), .val (.ref b10), .val (.ref b10), .val (.int (1 : Int32)), .unset] []))
          refine GoW.step (fun _ k => XS.iconst X125.here hx rfl (hb hby at_281) k) ?_
          show GoW _ _ _ _ _ _ _ (T125.setTop (mkF m 282 #[.val (.int qc), .val (.int qf), .val (.int (1 : Int32)), .val (.int fro), .val (.int jnk), .val (.ref b3), .val (.ref b10), .val (.ref b34), .val (.ref b60), .val (.ref b10), .val (.ref b10), .val (.int (1 : Int32)), .unset] [(.int (1 : Int32))]))
          refine GoW.step (fun _ k => XS.goto X125.here hx rfl (pc0 := 282) (pc' := 286) rfl (hb hby at_282) (by decide) (by decide) k) ?_
          show GoW _ _ _ _ _ _ _ (T125.setTop (mkF m 286 #[.val (.int qc), .val (.int qf), .val (.int (1 : Int32)), .val (.int fro), .val (.int jnk), .val (.ref b3), .val (.ref b10), .val (.ref b34), .val (.ref b60), .val (.ref b10), .val (.ref b10), .val (.int (1 : Int32)), .unset] [(.int (1 : Int32))]))
          refine GoW.step (fun _ k => XS.istore X125.here hx rfl (hb hby at_286) rfl (l' := #[.val (.int qc), .val (.int qf), .val (.int (1 : Int32)), .val (.int fro), .val (.int jnk), .val (.ref b3), .val (.ref b10), .val (.ref b34), .val (.ref b60), .val (.ref b10), .val (.ref b10), .val (.int (1 : Int32)), .unset]) rfl k) ?_
          show GoW _ _ _ _ _ _ _ (T125.setTop (mkF m 288 #[.val (.int qc), .val (.int qf), .val (.int (1 : Int32)), .val (.int fro), .val (.int jnk), .val (.ref b3), .val (.ref b10), .val (.ref b34), .val (.ref b60), .val (.ref b10), .val (.ref b10), .val (.int (1 : Int32)), .unset] []))
          refine GoW.step (fun _ k => XS.iload X125.here hx rfl (hb hby at_288) rfl  k) ?_
          show GoW _ _ _ _ _ _ _ (T125.setTop (mkF m 290 #[.val (.int qc), .val (.int qf), .val (.int (1 : Int32)), .val (.int fro), .val (.int jnk), .val (.ref b3), .val (.ref b10), .val (.ref b34), .val (.ref b60), .val (.ref b10), .val (.ref b10), .val (.int (1 : Int32)), .unset] [(.int (1 : Int32))]))
          have hc290 : ¬ ((1 : Int32) = (0 : Int32)) := hc278
          refine GoW.step (fun _ k => XS.ifNo X125.here hx rfl (hb hby at_290) rfl ((if0 _ _).trans (feq hc290).1) k) ?_
          show GoW _ _ _ _ _ _ _ (T125.setTop (mkF m 293 #[.val (.int qc), .val (.int qf), .val (.int (1 : Int32)), .val (.int fro), .val (.int jnk), .val (.ref b3), .val (.ref b10), .val (.ref b34), .val (.ref b60), .val (.ref b10), .val (.ref b10), .val (.int (1 : Int32)), .unset] []))
          refine GoW.step (fun _ k => XS.aload X125.here hx rfl (hb hby at_293) rfl rfl  k) ?_
          show GoW _ _ _ _ _ _ _ (T125.setTop (mkF m 295 #[.val (.int qc), .val (.int qf), .val (.int (1 : Int32)), .val (.int fro), .val (.int jnk), .val (.ref b3), .val (.ref b10), .val (.ref b34), .val (.ref b60), .val (.ref b10), .val (.ref b10), .val (.int (1 : Int32)), .unset] [(.ref b34)]))
          refine GoW.step (fun _ k => XS.iloadN X125.here hx rfl (hb hby at_295) rfl  k) ?_
          show GoW _ _ _ _ _ _ _ (T125.setTop (mkF m 296 #[.val (.int qc), .val (.int qf), .val (.int (1 : Int32)), .val (.int fro), .val (.int jnk), .val (.ref b3), .val (.ref b10), .val (.ref b34), .val (.ref b60), .val (.ref b10), .val (.ref b10), .val (.int (1 : Int32)), .unset] [(.int (1 : Int32)), (.ref b34)]))
          refine GoW.step (fun _ k => XS.iconst X125.here hx rfl (hb hby at_296) k) ?_
          show GoW _ _ _ _ _ _ _ (T125.setTop (mkF m 297 #[.val (.int qc), .val (.int qf), .val (.int (1 : Int32)), .val (.int fro), .val (.int jnk), .val (.ref b3), .val (.ref b10), .val (.ref b34), .val (.ref b60), .val (.ref b10), .val (.ref b10), .val (.int (1 : Int32)), .unset] [(.int (2 : Int32)), (.int (1 : Int32)), (.ref b34)]))
          have hc297 : (1 : Int32) < (2 : Int32) := hc266
          refine GoW.step (fun _ k => XS.icmpYes X125.here hx rfl (pc0 := 297) (pc' := 304) rfl (hb hby at_297) rfl (tlt hc297).1 (by decide) (by decide) k) ?_
          show GoW _ _ _ _ _ _ _ (T125.setTop (mkF m 304 #[.val (.int qc), .val (.int qf), .val (.int (1 : Int32)), .val (.int fro), .val (.int jnk), .val (.ref b3), .val (.ref b10), .val (.ref b34), .val (.ref b60), .val (.ref b10), .val (.ref b10), .val (.int (1 : Int32)), .unset] [(.ref b34)]))
          refine GoW.step (fun _ k => XS.iconst X125.here hx rfl (hb hby at_304) k) ?_
          show GoW _ _ _ _ _ _ _ (T125.setTop (mkF m 305 #[.val (.int qc), .val (.int qf), .val (.int (1 : Int32)), .val (.int fro), .val (.int jnk), .val (.ref b3), .val (.ref b10), .val (.ref b34), .val (.ref b60), .val (.ref b10), .val (.ref b10), .val (.int (1 : Int32)), .unset] [(.int (0 : Int32)), (.ref b34)]))
          refine GoW.step (fun _ k => XS.aload X125.here hx rfl (hb hby at_305) rfl rfl  k) ?_
          show GoW _ _ _ _ _ _ _ (T125.setTop (mkF m 307 #[.val (.int qc), .val (.int qf), .val (.int (1 : Int32)), .val (.int fro), .val (.int jnk), .val (.ref b3), .val (.ref b10), .val (.ref b34), .val (.ref b60), .val (.ref b10), .val (.ref b10), .val (.int (1 : Int32)), .unset] [(.ref b3), (.int (0 : Int32)), (.ref b34)]))
          refine GoW.step (fun _ k => XS.aload X125.here hx rfl (hb hby at_307) rfl rfl  k) ?_
          show GoW _ _ _ _ _ _ _ (T125.setTop (mkF m 309 #[.val (.int qc), .val (.int qf), .val (.int (1 : Int32)), .val (.int fro), .val (.int jnk), .val (.ref b3), .val (.ref b10), .val (.ref b34), .val (.ref b60), .val (.ref b10), .val (.ref b10), .val (.int (1 : Int32)), .unset] [(.ref b10), (.ref b3), (.int (0 : Int32)), (.ref b34)]))
          refine GoW.step (fun _ k => XS.iloadN X125.here hx rfl (hb hby at_309) rfl  k) ?_
          show GoW _ _ _ _ _ _ _ (T125.setTop (mkF m 310 #[.val (.int qc), .val (.int qf), .val (.int (1 : Int32)), .val (.int fro), .val (.int jnk), .val (.ref b3), .val (.ref b10), .val (.ref b34), .val (.ref b60), .val (.ref b10), .val (.ref b10), .val (.int (1 : Int32)), .unset] [(.int (1 : Int32)), (.ref b10), (.ref b3), (.int (0 : Int32)), (.ref b34)]))
          refine GoW.step (fun _ k => XS.iconst X125.here hx rfl (hb hby at_310) k) ?_
          show GoW _ _ _ _ _ _ _ (T125.setTop (mkF m 311 #[.val (.int qc), .val (.int qf), .val (.int (1 : Int32)), .val (.int fro), .val (.int jnk), .val (.ref b3), .val (.ref b10), .val (.ref b34), .val (.ref b60), .val (.ref b10), .val (.ref b10), .val (.int (1 : Int32)), .unset] [(.int (3 : Int32)), (.int (1 : Int32)), (.ref b10), (.ref b3), (.int (0 : Int32)), (.ref b34)]))
          have hc311 : (1 : Int32) < (3 : Int32) := hc144
          refine GoW.step (fun _ k => XS.icmpYes X125.here hx rfl (pc0 := 311) (pc' := 319) rfl (hb hby at_311) rfl (tlt hc311).1 (by decide) (by decide) k) ?_
          show GoW _ _ _ _ _ _ _ (T125.setTop (mkF m 319 #[.val (.int qc), .val (.int qf), .val (.int (1 : Int32)), .val (.int fro), .val (.int jnk), .val (.ref b3), .val (.ref b10), .val (.ref b34), .val (.ref b60), .val (.ref b10), .val (.ref b10), .val (.int (1 : Int32)), .unset] [(.ref b10), (.ref b3), (.int (0 : Int32)), (.ref b34)]))
          refine GoW.step (fun _ k => XS.aconstNull X125.here hx rfl (hb hby at_319) k) ?_
          show GoW _ _ _ _ _ _ _ (T125.setTop (mkF m 320 #[.val (.int qc), .val (.int qf), .val (.int (1 : Int32)), .val (.int fro), .val (.int jnk), .val (.ref b3), .val (.ref b10), .val (.ref b34), .val (.ref b60), .val (.ref b10), .val (.ref b10), .val (.int (1 : Int32)), .unset] [.null, (.ref b10), (.ref b3), (.int (0 : Int32)), (.ref b34)]))
          have pq126 : (Value.ref b10).isRef = true := (by first | assumption | rfl | decide)
          have pq127 : Value.null.isRef = true := (by first | assumption | rfl | decide)
          have f128 : Fld Z T115.heap b34 "com/example/steward/steward/runtime/Agent" "group" "Lcom/example/steward/steward/runtime/Group;" .null := (jf88_3.keep K115 (ninS (Ne.symm ne36) (ninS (Ne.symm ne37) nin0)))
          have pq129 : (0 : Int32) = (0 : Int32) := rfl
          obtain ⟨_, _, ⟨T130, L130, k130, n130⟩, -, X130, ⟨Lc130, hQ130, l130, y130, z130⟩, st130⟩ := Jvm.LawKit.callS X125 hx (y := (⟨"com/example/steward/steward/runtime/GroupAddPinLaw", "linked", "(Lcom/example/steward/steward/runtime/Agent;ZLcom/example/steward/steward/runtime/Group;Lcom/example/steward/steward/runtime/Agent;Lcom/example/steward/steward/runtime/Agent;)Z"⟩ : MethodName)) hown (mvT hZ (hw _ (List.mem_of_getElem? (i := 64) rfl))) (mvT hZ (hw _ (List.mem_of_getElem? (i := 65) rfl))) (mvT hZ (hw _ (List.mem_of_getElem? (i := 66) rfl))) (mvT hZ (hw _ (List.mem_of_getElem? (i := 67) rfl))) (by decide) (backOf (W := 0) (rmli0 l Z aZ hw [] b34 (0 : Int32) b3 (Value.ref b10) Value.null T115.heap n0 z116 pq126 pq127 f128 pq129) hZ (hw _ (List.mem_of_getElem? (i := 67) rfl)) (hw _ (List.mem_of_getElem? (i := 66) rfl)) (by decide) (by decide)) (g := (mkF m 320 #[.val (.int qc), .val (.int qf), .val (.int (1 : Int32)), .val (.int fro), .val (.int jnk), .val (.ref b3), .val (.ref b10), .val (.ref b34), .val (.ref b60), .val (.ref b10), .val (.ref b10), .val (.int (1 : Int32)), .unset] [.null, (.ref b10), (.ref b3), (.int (0 : Int32)), (.ref b34)])) rfl (by rw [hml]; rfl) (argsL := [(.ref b34), (.int (0 : Int32)), (.ref b3), (.ref b10), .null]) (rest := []) (lenOf pd_6 rfl) rfl (by show 2 * 0 + _ ≤ _; exact Nat.le_of_eq rfl) (hb hby at_320) (fun _ _ => ⟨rfl, e125, (by decide : 16 + 0 ≤ _), (by decide : 74 + 0 ≤ _)⟩)
          dsimp only [Pt.U, Pt.locs, Pt.cells, Pt.slots] at X130 l130 y130 z130 st130 hQ130
          subst l130 y130 z130
          obtain ⟨rfl, Nq130, e130⟩ := hQ130
          have N130 := Fr.app N125 Nq130
          refine GoW.step st130 ?_
          show GoW _ _ _ _ _ _ _ (T130.setTop (mkF m 323 #[.val (.int qc), .val (.int qf), .val (.int (1 : Int32)), .val (.int fro), .val (.int jnk), .val (.ref b3), .val (.ref b10), .val (.ref b34), .val (.ref b60), .val (.ref b10), .val (.ref b10), .val (.int (1 : Int32)), .unset] [(.int (1 : Int32))]))
          have hc323 : ¬ ((1 : Int32) = (0 : Int32)) := hc290
          refine GoW.step (fun _ k => XS.ifNo X130.here hx rfl (hb hby at_323) rfl ((if0 _ _).trans (feq hc323).1) k) ?_
          show GoW _ _ _ _ _ _ _ (T130.setTop (mkF m 326 #[.val (.int qc), .val (.int qf), .val (.int (1 : Int32)), .val (.int fro), .val (.int jnk), .val (.ref b3), .val (.ref b10), .val (.ref b34), .val (.ref b60), .val (.ref b10), .val (.ref b10), .val (.int (1 : Int32)), .unset] []))
          refine GoW.step (fun _ k => XS.iconst X130.here hx rfl (hb hby at_326) k) ?_
          show GoW _ _ _ _ _ _ _ (T130.setTop (mkF m 327 #[.val (.int qc), .val (.int qf), .val (.int (1 : Int32)), .val (.int fro), .val (.int jnk), .val (.ref b3), .val (.ref b10), .val (.ref b34), .val (.ref b60), .val (.ref b10), .val (.ref b10), .val (.int (1 : Int32)), .unset] [(.int (1 : Int32))]))
          refine GoW.step (fun _ k => XS.goto X130.here hx rfl (pc0 := 327) (pc' := 331) rfl (hb hby at_327) (by decide) (by decide) k) ?_
          show GoW _ _ _ _ _ _ _ (T130.setTop (mkF m 331 #[.val (.int qc), .val (.int qf), .val (.int (1 : Int32)), .val (.int fro), .val (.int jnk), .val (.ref b3), .val (.ref b10), .val (.ref b34), .val (.ref b60), .val (.ref b10), .val (.ref b10), .val (.int (1 : Int32)), .unset] [(.int (1 : Int32))]))
          refine GoW.step (fun _ k => XS.istore X130.here hx rfl (hb hby at_331) rfl (l' := #[.val (.int qc), .val (.int qf), .val (.int (1 : Int32)), .val (.int fro), .val (.int jnk), .val (.ref b3), .val (.ref b10), .val (.ref b34), .val (.ref b60), .val (.ref b10), .val (.ref b10), .val (.int (1 : Int32)), .unset]) rfl k) ?_
          show GoW _ _ _ _ _ _ _ (T130.setTop (mkF m 333 #[.val (.int qc), .val (.int qf), .val (.int (1 : Int32)), .val (.int fro), .val (.int jnk), .val (.ref b3), .val (.ref b10), .val (.ref b34), .val (.ref b60), .val (.ref b10), .val (.ref b10), .val (.int (1 : Int32)), .unset] []))
          refine GoW.step (fun _ k => XS.iload X130.here hx rfl (hb hby at_333) rfl  k) ?_
          show GoW _ _ _ _ _ _ _ (T130.setTop (mkF m 335 #[.val (.int qc), .val (.int qf), .val (.int (1 : Int32)), .val (.int fro), .val (.int jnk), .val (.ref b3), .val (.ref b10), .val (.ref b34), .val (.ref b60), .val (.ref b10), .val (.ref b10), .val (.int (1 : Int32)), .unset] [(.int (1 : Int32))]))
          have hc335 : ¬ ((1 : Int32) = (0 : Int32)) := hc323
          refine GoW.step (fun _ k => XS.ifNo X130.here hx rfl (hb hby at_335) rfl ((if0 _ _).trans (feq hc335).1) k) ?_
          show GoW _ _ _ _ _ _ _ (T130.setTop (mkF m 338 #[.val (.int qc), .val (.int qf), .val (.int (1 : Int32)), .val (.int fro), .val (.int jnk), .val (.ref b3), .val (.ref b10), .val (.ref b34), .val (.ref b60), .val (.ref b10), .val (.ref b10), .val (.int (1 : Int32)), .unset] []))
          refine GoW.step (fun _ k => XS.aload X130.here hx rfl (hb hby at_338) rfl rfl  k) ?_
          show GoW _ _ _ _ _ _ _ (T130.setTop (mkF m 340 #[.val (.int qc), .val (.int qf), .val (.int (1 : Int32)), .val (.int fro), .val (.int jnk), .val (.ref b3), .val (.ref b10), .val (.ref b34), .val (.ref b60), .val (.ref b10), .val (.ref b10), .val (.int (1 : Int32)), .unset] [(.ref b60)]))
          refine GoW.step (fun _ k => XS.iloadN X130.here hx rfl (hb hby at_340) rfl  k) ?_
          show GoW _ _ _ _ _ _ _ (T130.setTop (mkF m 341 #[.val (.int qc), .val (.int qf), .val (.int (1 : Int32)), .val (.int fro), .val (.int jnk), .val (.ref b3), .val (.ref b10), .val (.ref b34), .val (.ref b60), .val (.ref b10), .val (.ref b10), .val (.int (1 : Int32)), .unset] [(.int (1 : Int32)), (.ref b60)]))
          refine GoW.step (fun _ k => XS.iconst X130.here hx rfl (hb hby at_341) k) ?_
          show GoW _ _ _ _ _ _ _ (T130.setTop (mkF m 342 #[.val (.int qc), .val (.int qf), .val (.int (1 : Int32)), .val (.int fro), .val (.int jnk), .val (.ref b3), .val (.ref b10), .val (.ref b34), .val (.ref b60), .val (.ref b10), .val (.ref b10), .val (.int (1 : Int32)), .unset] [(.int (3 : Int32)), (.int (1 : Int32)), (.ref b60)]))
          have hc342 : (1 : Int32) < (3 : Int32) := hc311
          refine GoW.step (fun _ k => XS.icmpYes X130.here hx rfl (pc0 := 342) (pc' := 349) rfl (hb hby at_342) rfl (tlt hc342).1 (by decide) (by decide) k) ?_
          show GoW _ _ _ _ _ _ _ (T130.setTop (mkF m 349 #[.val (.int qc), .val (.int qf), .val (.int (1 : Int32)), .val (.int fro), .val (.int jnk), .val (.ref b3), .val (.ref b10), .val (.ref b34), .val (.ref b60), .val (.ref b10), .val (.ref b10), .val (.int (1 : Int32)), .unset] [(.ref b60)]))
          refine GoW.step (fun _ k => XS.iconst X130.here hx rfl (hb hby at_349) k) ?_
          show GoW _ _ _ _ _ _ _ (T130.setTop (mkF m 350 #[.val (.int qc), .val (.int qf), .val (.int (1 : Int32)), .val (.int fro), .val (.int jnk), .val (.ref b3), .val (.ref b10), .val (.ref b34), .val (.ref b60), .val (.ref b10), .val (.ref b10), .val (.int (1 : Int32)), .unset] [(.int (0 : Int32)), (.ref b60)]))
          refine GoW.step (fun _ k => XS.aload X130.here hx rfl (hb hby at_350) rfl rfl  k) ?_
          show GoW _ _ _ _ _ _ _ (T130.setTop (mkF m 352 #[.val (.int qc), .val (.int qf), .val (.int (1 : Int32)), .val (.int fro), .val (.int jnk), .val (.ref b3), .val (.ref b10), .val (.ref b34), .val (.ref b60), .val (.ref b10), .val (.ref b10), .val (.int (1 : Int32)), .unset] [(.ref b3), (.int (0 : Int32)), (.ref b60)]))
          refine GoW.step (fun _ k => XS.aload X130.here hx rfl (hb hby at_352) rfl rfl  k) ?_
          show GoW _ _ _ _ _ _ _ (T130.setTop (mkF m 354 #[.val (.int qc), .val (.int qf), .val (.int (1 : Int32)), .val (.int fro), .val (.int jnk), .val (.ref b3), .val (.ref b10), .val (.ref b34), .val (.ref b60), .val (.ref b10), .val (.ref b10), .val (.int (1 : Int32)), .unset] [(.ref b34), (.ref b3), (.int (0 : Int32)), (.ref b60)]))
          refine GoW.step (fun _ k => XS.aconstNull X130.here hx rfl (hb hby at_354) k) ?_
          show GoW _ _ _ _ _ _ _ (T130.setTop (mkF m 355 #[.val (.int qc), .val (.int qf), .val (.int (1 : Int32)), .val (.int fro), .val (.int jnk), .val (.ref b3), .val (.ref b10), .val (.ref b34), .val (.ref b60), .val (.ref b10), .val (.ref b10), .val (.int (1 : Int32)), .unset] [.null, (.ref b34), (.ref b3), (.int (0 : Int32)), (.ref b60)]))
          have pq131 : (Value.ref b34).isRef = true := (by first | assumption | rfl | decide)
          have pq132 : Value.null.isRef = true := (by first | assumption | rfl | decide)
          have f133 : Fld Z T115.heap b60 "com/example/steward/steward/runtime/Agent" "group" "Lcom/example/steward/steward/runtime/Group;" .null := (jf88_6.keep K115 (ninS (Ne.symm ne62) (ninS (Ne.symm ne64) nin0)))
          have pq134 : (0 : Int32) = (0 : Int32) := rfl
          obtain ⟨_, _, ⟨T135, L135, k135, n135⟩, -, X135, ⟨Lc135, hQ135, l135, y135, z135⟩, st135⟩ := Jvm.LawKit.callS X130 hx (y := (⟨"com/example/steward/steward/runtime/GroupAddPinLaw", "linked", "(Lcom/example/steward/steward/runtime/Agent;ZLcom/example/steward/steward/runtime/Group;Lcom/example/steward/steward/runtime/Agent;Lcom/example/steward/steward/runtime/Agent;)Z"⟩ : MethodName)) hown (mvT hZ (hw _ (List.mem_of_getElem? (i := 64) rfl))) (mvT hZ (hw _ (List.mem_of_getElem? (i := 65) rfl))) (mvT hZ (hw _ (List.mem_of_getElem? (i := 66) rfl))) (mvT hZ (hw _ (List.mem_of_getElem? (i := 67) rfl))) (by decide) (backOf (W := 0) (rmli0 l Z aZ hw [] b60 (0 : Int32) b3 (Value.ref b34) Value.null T115.heap n0 z116 pq131 pq132 f133 pq134) hZ (hw _ (List.mem_of_getElem? (i := 67) rfl)) (hw _ (List.mem_of_getElem? (i := 66) rfl)) (by decide) (by decide)) (g := (mkF m 355 #[.val (.int qc), .val (.int qf), .val (.int (1 : Int32)), .val (.int fro), .val (.int jnk), .val (.ref b3), .val (.ref b10), .val (.ref b34), .val (.ref b60), .val (.ref b10), .val (.ref b10), .val (.int (1 : Int32)), .unset] [.null, (.ref b34), (.ref b3), (.int (0 : Int32)), (.ref b60)])) rfl (by rw [hml]; rfl) (argsL := [(.ref b60), (.int (0 : Int32)), (.ref b3), (.ref b34), .null]) (rest := []) (lenOf pd_6 rfl) rfl (by show 2 * 0 + _ ≤ _; exact Nat.le_of_eq rfl) (hb hby at_355) (fun _ _ => ⟨rfl, e130, (by decide : 16 + 0 ≤ _), (by decide : 74 + 0 ≤ _)⟩)
          dsimp only [Pt.U, Pt.locs, Pt.cells, Pt.slots] at X135 l135 y135 z135 st135 hQ135
          subst l135 y135 z135
          obtain ⟨rfl, Nq135, e135⟩ := hQ135
          have N135 := Fr.app N130 Nq135
          refine GoW.step st135 ?_
          show GoW _ _ _ _ _ _ _ (T135.setTop (mkF m 358 #[.val (.int qc), .val (.int qf), .val (.int (1 : Int32)), .val (.int fro), .val (.int jnk), .val (.ref b3), .val (.ref b10), .val (.ref b34), .val (.ref b60), .val (.ref b10), .val (.ref b10), .val (.int (1 : Int32)), .unset] [(.int (1 : Int32))]))
          have hc358 : ¬ ((1 : Int32) = (0 : Int32)) := hc335
          refine GoW.step (fun _ k => XS.ifNo X135.here hx rfl (hb hby at_358) rfl ((if0 _ _).trans (feq hc358).1) k) ?_
          show GoW _ _ _ _ _ _ _ (T135.setTop (mkF m 361 #[.val (.int qc), .val (.int qf), .val (.int (1 : Int32)), .val (.int fro), .val (.int jnk), .val (.ref b3), .val (.ref b10), .val (.ref b34), .val (.ref b60), .val (.ref b10), .val (.ref b10), .val (.int (1 : Int32)), .unset] []))
          refine GoW.step (fun _ k => XS.iconst X135.here hx rfl (hb hby at_361) k) ?_
          show GoW _ _ _ _ _ _ _ (T135.setTop (mkF m 362 #[.val (.int qc), .val (.int qf), .val (.int (1 : Int32)), .val (.int fro), .val (.int jnk), .val (.ref b3), .val (.ref b10), .val (.ref b34), .val (.ref b60), .val (.ref b10), .val (.ref b10), .val (.int (1 : Int32)), .unset] [(.int (1 : Int32))]))
          refine GoW.step (fun _ k => XS.goto X135.here hx rfl (pc0 := 362) (pc' := 366) rfl (hb hby at_362) (by decide) (by decide) k) ?_
          show GoW _ _ _ _ _ _ _ (T135.setTop (mkF m 366 #[.val (.int qc), .val (.int qf), .val (.int (1 : Int32)), .val (.int fro), .val (.int jnk), .val (.ref b3), .val (.ref b10), .val (.ref b34), .val (.ref b60), .val (.ref b10), .val (.ref b10), .val (.int (1 : Int32)), .unset] [(.int (1 : Int32))]))
          refine GoW.step (fun _ k => XS.istore X135.here hx rfl (hb hby at_366) rfl (l' := #[.val (.int qc), .val (.int qf), .val (.int (1 : Int32)), .val (.int fro), .val (.int jnk), .val (.ref b3), .val (.ref b10), .val (.ref b34), .val (.ref b60), .val (.ref b10), .val (.ref b10), .val (.int (1 : Int32)), .unset]) rfl k) ?_
          show GoW _ _ _ _ _ _ _ (T135.setTop (mkF m 368 #[.val (.int qc), .val (.int qf), .val (.int (1 : Int32)), .val (.int fro), .val (.int jnk), .val (.ref b3), .val (.ref b10), .val (.ref b34), .val (.ref b60), .val (.ref b10), .val (.ref b10), .val (.int (1 : Int32)), .unset] []))
          refine GoW.step (fun _ k => XS.iloadN X135.here hx rfl (hb hby at_368) rfl  k) ?_
          show GoW _ _ _ _ _ _ _ (T135.setTop (mkF m 369 #[.val (.int qc), .val (.int qf), .val (.int (1 : Int32)), .val (.int fro), .val (.int jnk), .val (.ref b3), .val (.ref b10), .val (.ref b34), .val (.ref b60), .val (.ref b10), .val (.ref b10), .val (.int (1 : Int32)), .unset] [(.int fro)]))
          by_cases hc369 : fro = (0 : Int32)
          · skip
            refine GoW.step (fun _ k => XS.ifYes X135.here hx rfl (pc0 := 369) (pc' := 380) rfl (hb hby at_369) rfl ((if0 _ _).trans (teq hc369).1) (by decide) (by decide) k) ?_
            show GoW _ _ _ _ _ _ _ (T135.setTop (mkF m 380 #[.val (.int qc), .val (.int qf), .val (.int (1 : Int32)), .val (.int fro), .val (.int jnk), .val (.ref b3), .val (.ref b10), .val (.ref b34), .val (.ref b60), .val (.ref b10), .val (.ref b10), .val (.int (1 : Int32)), .unset] []))
            refine GoW.step (fun _ k => XS.aload X135.here hx rfl (hb hby at_380) rfl rfl  k) ?_
            show GoW _ _ _ _ _ _ _ (T135.setTop (mkF m 382 #[.val (.int qc), .val (.int qf), .val (.int (1 : Int32)), .val (.int fro), .val (.int jnk), .val (.ref b3), .val (.ref b10), .val (.ref b34), .val (.ref b60), .val (.ref b10), .val (.ref b10), .val (.int (1 : Int32)), .unset] [(.ref b3)]))
            obtain ⟨cq136, kq136, q136a, q136b, q136c⟩ := isOf hZ e135 c115_0
            obtain ⟨_, _, ⟨T136, L136, k136, n136⟩, -, X136, ⟨Lc136, hQ136, l136, y136, z136⟩, st136⟩ := X135.virtualBack hx (y := (⟨"com/example/steward/steward/runtime/Group", "pollLast", "()Lcom/example/steward/steward/runtime/Agent;"⟩ : MethodName)) (z := (⟨"com/example/steward/steward/runtime/Group", "pollLast", "()Lcom/example/steward/steward/runtime/Agent;"⟩ : MethodName)) hown (mvT hZ (hw _ (List.mem_of_getElem? (i := 90) rfl))) (mvT hZ (hw _ (List.mem_of_getElem? (i := 91) rfl))) (notFace_of_selects (args := #[]) (mvT hZ (hw _ (List.mem_of_getElem? (i := 93) rfl)))) (mvT hZ (hw _ (List.mem_of_getElem? (i := 93) rfl))) (mvT hZ (hw _ (List.mem_of_getElem? (i := 92) rfl))) (by decide) (backOf (W := 0) (rmpollLast1 l Z aZ hw [] b3 b10 (Value.ref b3) (Value.ref b10) T115.heap n0 z116 c115_6 c115_0 c115_1 c115_2 c115_6 gn3 gn10 c115_5 c115_3 c115_4) hZ (hw _ (List.mem_of_getElem? (i := 94) rfl)) (hw _ (List.mem_of_getElem? (i := 2) rfl)) (by decide) (by decide)) q136a q136c (g := (mkF m 382 #[.val (.int qc), .val (.int qf), .val (.int (1 : Int32)), .val (.int fro), .val (.int jnk), .val (.ref b3), .val (.ref b10), .val (.ref b34), .val (.ref b60), .val (.ref b10), .val (.ref b10), .val (.int (1 : Int32)), .unset] [(.ref b3)])) rfl (by rw [hml]; rfl) (Steps.refl _) (argsL := []) (rest := []) (lenOf pd_5 rfl) rfl (by show 2 * 0 + _ ≤ _; exact Nat.le_of_eq rfl) (hb hby at_382) (fun _ _ => ⟨rfl, e135, (by decide : 16 + 0 ≤ _), (by decide : 74 + 0 ≤ _)⟩)
            dsimp only [Pt.U, Pt.locs, Pt.cells, Pt.slots] at X136 l136 y136 z136 st136 hQ136
            subst l136 y136 z136
            obtain ⟨rfl, Nq136, K136⟩ := hQ136
            have N136 := Fr.app N135 Nq136
            refine GoW.tr st136 ?_
            have z137 : n0 ≤ T136.heap.size := Nat.le_trans z116 K136.1
            have sqz137 : h0.size ≤ T136.heap.size := Nat.le_trans sqz116 K136.1
            have hk139 := Nat.le_trans hk118 K136.1
            show GoW _ _ _ _ _ _ _ (T136.setTop (mkF m 385 #[.val (.int qc), .val (.int qf), .val (.int (1 : Int32)), .val (.int fro), .val (.int jnk), .val (.ref b3), .val (.ref b10), .val (.ref b34), .val (.ref b60), .val (.ref b10), .val (.ref b10), .val (.int (1 : Int32)), .unset] [(.ref b10)]))
            refine GoW.step (fun _ k => XS.astore X136.here hx rfl (hb hby at_385) rfl rfl (l' := #[.val (.int qc), .val (.int qf), .val (.int (1 : Int32)), .val (.int fro), .val (.int jnk), .val (.ref b3), .val (.ref b10), .val (.ref b34), .val (.ref b60), .val (.ref b10), .val (.ref b10), .val (.int (1 : Int32)), .val (.ref b10)]) rfl k) ?_
            show GoW _ _ _ _ _ _ _ (T136.setTop (mkF m 387 #[.val (.int qc), .val (.int qf), .val (.int (1 : Int32)), .val (.int fro), .val (.int jnk), .val (.ref b3), .val (.ref b10), .val (.ref b34), .val (.ref b60), .val (.ref b10), .val (.ref b10), .val (.int (1 : Int32)), .val (.ref b10)] []))
            refine GoW.step (fun _ k => XS.iload X136.here hx rfl (hb hby at_387) rfl  k) ?_
            show GoW _ _ _ _ _ _ _ (T136.setTop (mkF m 389 #[.val (.int qc), .val (.int qf), .val (.int (1 : Int32)), .val (.int fro), .val (.int jnk), .val (.ref b3), .val (.ref b10), .val (.ref b34), .val (.ref b60), .val (.ref b10), .val (.ref b10), .val (.int (1 : Int32)), .val (.ref b10)] [(.int (1 : Int32))]))
            have hc389 : ¬ ((1 : Int32) = (0 : Int32)) := hc358
            refine GoW.step (fun _ k => XS.ifNo X136.here hx rfl (hb hby at_389) rfl ((if0 _ _).trans (feq hc389).1) k) ?_
            show GoW _ _ _ _ _ _ _ (T136.setTop (mkF m 392 #[.val (.int qc), .val (.int qf), .val (.int (1 : Int32)), .val (.int fro), .val (.int jnk), .val (.ref b3), .val (.ref b10), .val (.ref b34), .val (.ref b60), .val (.ref b10), .val (.ref b10), .val (.int (1 : Int32)), .val (.ref b10)] []))
            refine GoW.step (fun _ k => XS.aload X136.here hx rfl (hb hby at_392) rfl rfl  k) ?_
            show GoW _ _ _ _ _ _ _ (T136.setTop (mkF m 394 #[.val (.int qc), .val (.int qf), .val (.int (1 : Int32)), .val (.int fro), .val (.int jnk), .val (.ref b3), .val (.ref b10), .val (.ref b34), .val (.ref b60), .val (.ref b10), .val (.ref b10), .val (.int (1 : Int32)), .val (.ref b10)] [(.ref b10)]))
            refine GoW.step (fun _ k => XS.iloadN X136.here hx rfl (hb hby at_394) rfl  k) ?_
            show GoW _ _ _ _ _ _ _ (T136.setTop (mkF m 395 #[.val (.int qc), .val (.int qf), .val (.int (1 : Int32)), .val (.int fro), .val (.int jnk), .val (.ref b3), .val (.ref b10), .val (.ref b34), .val (.ref b60), .val (.ref b10), .val (.ref b10), .val (.int (1 : Int32)), .val (.ref b10)] [(.int fro), (.ref b10)]))
            have hc395 : fro = (0 : Int32) := hc369
            refine GoW.step (fun _ k => XS.ifYes X136.here hx rfl (pc0 := 395) (pc' := 403) rfl (hb hby at_395) rfl ((if0 _ _).trans (teq hc395).1) (by decide) (by decide) k) ?_
            show GoW _ _ _ _ _ _ _ (T136.setTop (mkF m 403 #[.val (.int qc), .val (.int qf), .val (.int (1 : Int32)), .val (.int fro), .val (.int jnk), .val (.ref b3), .val (.ref b10), .val (.ref b34), .val (.ref b60), .val (.ref b10), .val (.ref b10), .val (.int (1 : Int32)), .val (.ref b10)] [(.ref b10)]))
            refine GoW.step (fun _ k => XS.aload X136.here hx rfl (hb hby at_403) rfl rfl  k) ?_
            show GoW _ _ _ _ _ _ _ (T136.setTop (mkF m 405 #[.val (.int qc), .val (.int qf), .val (.int (1 : Int32)), .val (.int fro), .val (.int jnk), .val (.ref b3), .val (.ref b10), .val (.ref b34), .val (.ref b60), .val (.ref b10), .val (.ref b10), .val (.int (1 : Int32)), .val (.ref b10)] [(.ref b10), (.ref b10)]))
            refine GoW.step (fun _ k => Jvm.RoadKit.acmp (g := (mkF m 405 #[.val (.int qc), .val (.int qf), .val (.int (1 : Int32)), .val (.int fro), .val (.int jnk), .val (.ref b3), .val (.ref b10), .val (.ref b34), .val (.ref b60), .val (.ref b10), .val (.ref b10), .val (.int (1 : Int32)), .val (.ref b10)] [(.ref b10), (.ref b10)])) X136 hx rfl rfl rfl (pc0 := 405) (pc' := 408) (same := true) rfl (hb hby at_405) rfl (decide_eq_true rfl) (by decide) (by decide) k) ?_
            show GoW _ _ _ _ _ _ _ (T136.setTop (mkF m 408 #[.val (.int qc), .val (.int qf), .val (.int (1 : Int32)), .val (.int fro), .val (.int jnk), .val (.ref b3), .val (.ref b10), .val (.ref b34), .val (.ref b60), .val (.ref b10), .val (.ref b10), .val (.int (1 : Int32)), .val (.ref b10)] []))
            refine GoW.step (fun _ k => XS.iconst X136.here hx rfl (hb hby at_408) k) ?_
            show GoW _ _ _ _ _ _ _ (T136.setTop (mkF m 409 #[.val (.int qc), .val (.int qf), .val (.int (1 : Int32)), .val (.int fro), .val (.int jnk), .val (.ref b3), .val (.ref b10), .val (.ref b34), .val (.ref b60), .val (.ref b10), .val (.ref b10), .val (.int (1 : Int32)), .val (.ref b10)] [(.int (1 : Int32))]))
            refine GoW.step (fun _ k => XS.goto X136.here hx rfl (pc0 := 409) (pc' := 413) rfl (hb hby at_409) (by decide) (by decide) k) ?_
            show GoW _ _ _ _ _ _ _ (T136.setTop (mkF m 413 #[.val (.int qc), .val (.int qf), .val (.int (1 : Int32)), .val (.int fro), .val (.int jnk), .val (.ref b3), .val (.ref b10), .val (.ref b34), .val (.ref b60), .val (.ref b10), .val (.ref b10), .val (.int (1 : Int32)), .val (.ref b10)] [(.int (1 : Int32))]))
            refine GoW.step (fun _ k => XS.istore X136.here hx rfl (hb hby at_413) rfl (l' := #[.val (.int qc), .val (.int qf), .val (.int (1 : Int32)), .val (.int fro), .val (.int jnk), .val (.ref b3), .val (.ref b10), .val (.ref b34), .val (.ref b60), .val (.ref b10), .val (.ref b10), .val (.int (1 : Int32)), .val (.ref b10)]) rfl k) ?_
            show GoW _ _ _ _ _ _ _ (T136.setTop (mkF m 415 #[.val (.int qc), .val (.int qf), .val (.int (1 : Int32)), .val (.int fro), .val (.int jnk), .val (.ref b3), .val (.ref b10), .val (.ref b34), .val (.ref b60), .val (.ref b10), .val (.ref b10), .val (.int (1 : Int32)), .val (.ref b10)] []))
            refine GoW.step (fun _ k => XS.iload X136.here hx rfl (hb hby at_415) rfl  k) ?_
            show GoW _ _ _ _ _ _ _ (T136.setTop (mkF m 417 #[.val (.int qc), .val (.int qf), .val (.int (1 : Int32)), .val (.int fro), .val (.int jnk), .val (.ref b3), .val (.ref b10), .val (.ref b34), .val (.ref b60), .val (.ref b10), .val (.ref b10), .val (.int (1 : Int32)), .val (.ref b10)] [(.int (1 : Int32))]))
            refine GoW.retN X136 hS88 hk139 hx (t := .boolean) Bd.returns (by simp) hlk (hb hby at_417) ?_ (by decide) (by decide)
            exact ⟨(by first | rfl | (simp_all [own_nb1, own_nb0]; done)), N136⟩
          · skip
            refine GoW.step (fun _ k => XS.ifNo X135.here hx rfl (hb hby at_369) rfl ((if0 _ _).trans (feq hc369).1) k) ?_
            show GoW _ _ _ _ _ _ _ (T135.setTop (mkF m 372 #[.val (.int qc), .val (.int qf), .val (.int (1 : Int32)), .val (.int fro), .val (.int jnk), .val (.ref b3), .val (.ref b10), .val (.ref b34), .val (.ref b60), .val (.ref b10), .val (.ref b10), .val (.int (1 : Int32)), .unset] []))
            refine GoW.step (fun _ k => XS.aload X135.here hx rfl (hb hby at_372) rfl rfl  k) ?_
            show GoW _ _ _ _ _ _ _ (T135.setTop (mkF m 374 #[.val (.int qc), .val (.int qf), .val (.int (1 : Int32)), .val (.int fro), .val (.int jnk), .val (.ref b3), .val (.ref b10), .val (.ref b34), .val (.ref b60), .val (.ref b10), .val (.ref b10), .val (.int (1 : Int32)), .unset] [(.ref b3)]))
            obtain ⟨cq140, kq140, q140a, q140b, q140c⟩ := isOf hZ e135 c115_0
            obtain ⟨_, _, ⟨T140, L140, k140, n140⟩, -, X140, ⟨Lc140, hQ140, l140, y140, z140⟩, st140⟩ := X135.virtualBack hx (y := (⟨"com/example/steward/steward/runtime/Group", "pollFirst", "()Lcom/example/steward/steward/runtime/Agent;"⟩ : MethodName)) (z := (⟨"com/example/steward/steward/runtime/Group", "pollFirst", "()Lcom/example/steward/steward/runtime/Agent;"⟩ : MethodName)) hown (mvT hZ (hw _ (List.mem_of_getElem? (i := 70) rfl))) (mvT hZ (hw _ (List.mem_of_getElem? (i := 71) rfl))) (notFace_of_selects (args := #[]) (mvT hZ (hw _ (List.mem_of_getElem? (i := 73) rfl)))) (mvT hZ (hw _ (List.mem_of_getElem? (i := 73) rfl))) (mvT hZ (hw _ (List.mem_of_getElem? (i := 72) rfl))) (by decide) (backOf (W := 0) (rmpollFirst1 l Z aZ hw [] b3 b10 (Value.ref b3) (Value.ref b10) T115.heap n0 z116 c115_5 c115_0 c115_1 c115_2 c115_5 gn3 gn10 c115_6 c115_3 c115_4) hZ (hw _ (List.mem_of_getElem? (i := 74) rfl)) (hw _ (List.mem_of_getElem? (i := 2) rfl)) (by decide) (by decide)) q140a q140c (g := (mkF m 374 #[.val (.int qc), .val (.int qf), .val (.int (1 : Int32)), .val (.int fro), .val (.int jnk), .val (.ref b3), .val (.ref b10), .val (.ref b34), .val (.ref b60), .val (.ref b10), .val (.ref b10), .val (.int (1 : Int32)), .unset] [(.ref b3)])) rfl (by rw [hml]; rfl) (Steps.refl _) (argsL := []) (rest := []) (lenOf pd_5 rfl) rfl (by show 2 * 0 + _ ≤ _; exact Nat.le_of_eq rfl) (hb hby at_374) (fun _ _ => ⟨rfl, e135, (by decide : 16 + 0 ≤ _), (by decide : 74 + 0 ≤ _)⟩)
            dsimp only [Pt.U, Pt.locs, Pt.cells, Pt.slots] at X140 l140 y140 z140 st140 hQ140
            subst l140 y140 z140
            obtain ⟨rfl, Nq140, K140⟩ := hQ140
            have N140 := Fr.app N135 Nq140
            refine GoW.tr st140 ?_
            have z141 : n0 ≤ T140.heap.size := Nat.le_trans z116 K140.1
            have sqz141 : h0.size ≤ T140.heap.size := Nat.le_trans sqz116 K140.1
            have hk143 := Nat.le_trans hk118 K140.1
            show GoW _ _ _ _ _ _ _ (T140.setTop (mkF m 377 #[.val (.int qc), .val (.int qf), .val (.int (1 : Int32)), .val (.int fro), .val (.int jnk), .val (.ref b3), .val (.ref b10), .val (.ref b34), .val (.ref b60), .val (.ref b10), .val (.ref b10), .val (.int (1 : Int32)), .unset] [(.ref b10)]))
            refine GoW.step (fun _ k => XS.goto X140.here hx rfl (pc0 := 377) (pc' := 385) rfl (hb hby at_377) (by decide) (by decide) k) ?_
            show GoW _ _ _ _ _ _ _ (T140.setTop (mkF m 385 #[.val (.int qc), .val (.int qf), .val (.int (1 : Int32)), .val (.int fro), .val (.int jnk), .val (.ref b3), .val (.ref b10), .val (.ref b34), .val (.ref b60), .val (.ref b10), .val (.ref b10), .val (.int (1 : Int32)), .unset] [(.ref b10)]))
            refine GoW.step (fun _ k => XS.astore X140.here hx rfl (hb hby at_385) rfl rfl (l' := #[.val (.int qc), .val (.int qf), .val (.int (1 : Int32)), .val (.int fro), .val (.int jnk), .val (.ref b3), .val (.ref b10), .val (.ref b34), .val (.ref b60), .val (.ref b10), .val (.ref b10), .val (.int (1 : Int32)), .val (.ref b10)]) rfl k) ?_
            show GoW _ _ _ _ _ _ _ (T140.setTop (mkF m 387 #[.val (.int qc), .val (.int qf), .val (.int (1 : Int32)), .val (.int fro), .val (.int jnk), .val (.ref b3), .val (.ref b10), .val (.ref b34), .val (.ref b60), .val (.ref b10), .val (.ref b10), .val (.int (1 : Int32)), .val (.ref b10)] []))
            refine GoW.step (fun _ k => XS.iload X140.here hx rfl (hb hby at_387) rfl  k) ?_
            show GoW _ _ _ _ _ _ _ (T140.setTop (mkF m 389 #[.val (.int qc), .val (.int qf), .val (.int (1 : Int32)), .val (.int fro), .val (.int jnk), .val (.ref b3), .val (.ref b10), .val (.ref b34), .val (.ref b60), .val (.ref b10), .val (.ref b10), .val (.int (1 : Int32)), .val (.ref b10)] [(.int (1 : Int32))]))
            have hc389 : ¬ ((1 : Int32) = (0 : Int32)) := hc358
            refine GoW.step (fun _ k => XS.ifNo X140.here hx rfl (hb hby at_389) rfl ((if0 _ _).trans (feq hc389).1) k) ?_
            show GoW _ _ _ _ _ _ _ (T140.setTop (mkF m 392 #[.val (.int qc), .val (.int qf), .val (.int (1 : Int32)), .val (.int fro), .val (.int jnk), .val (.ref b3), .val (.ref b10), .val (.ref b34), .val (.ref b60), .val (.ref b10), .val (.ref b10), .val (.int (1 : Int32)), .val (.ref b10)] []))
            refine GoW.step (fun _ k => XS.aload X140.here hx rfl (hb hby at_392) rfl rfl  k) ?_
            show GoW _ _ _ _ _ _ _ (T140.setTop (mkF m 394 #[.val (.int qc), .val (.int qf), .val (.int (1 : Int32)), .val (.int fro), .val (.int jnk), .val (.ref b3), .val (.ref b10), .val (.ref b34), .val (.ref b60), .val (.ref b10), .val (.ref b10), .val (.int (1 : Int32)), .val (.ref b10)] [(.ref b10)]))
            refine GoW.step (fun _ k => XS.iloadN X140.here hx rfl (hb hby at_394) rfl  k) ?_
            show GoW _ _ _ _ _ _ _ (T140.setTop (mkF m 395 #[.val (.int qc), .val (.int qf), .val (.int (1 : Int32)), .val (.int fro), .val (.int jnk), .val (.ref b3), .val (.ref b10), .val (.ref b34), .val (.ref b60), .val (.ref b10), .val (.ref b10), .val (.int (1 : Int32)), .val (.ref b10)] [(.int fro), (.ref b10)]))
            have hc395 : ¬ (fro = (0 : Int32)) := hc369
            refine GoW.step (fun _ k => XS.ifNo X140.here hx rfl (hb hby at_395) rfl ((if0 _ _).trans (feq hc395).1) k) ?_
            show GoW _ _ _ _ _ _ _ (T140.setTop (mkF m 398 #[.val (.int qc), .val (.int qf), .val (.int (1 : Int32)), .val (.int fro), .val (.int jnk), .val (.ref b3), .val (.ref b10), .val (.ref b34), .val (.ref b60), .val (.ref b10), .val (.ref b10), .val (.int (1 : Int32)), .val (.ref b10)] [(.ref b10)]))
            refine GoW.step (fun _ k => XS.aload X140.here hx rfl (hb hby at_398) rfl rfl  k) ?_
            show GoW _ _ _ _ _ _ _ (T140.setTop (mkF m 400 #[.val (.int qc), .val (.int qf), .val (.int (1 : Int32)), .val (.int fro), .val (.int jnk), .val (.ref b3), .val (.ref b10), .val (.ref b34), .val (.ref b60), .val (.ref b10), .val (.ref b10), .val (.int (1 : Int32)), .val (.ref b10)] [(.ref b10), (.ref b10)]))
            refine GoW.step (fun _ k => XS.goto X140.here hx rfl (pc0 := 400) (pc' := 405) rfl (hb hby at_400) (by decide) (by decide) k) ?_
            show GoW _ _ _ _ _ _ _ (T140.setTop (mkF m 405 #[.val (.int qc), .val (.int qf), .val (.int (1 : Int32)), .val (.int fro), .val (.int jnk), .val (.ref b3), .val (.ref b10), .val (.ref b34), .val (.ref b60), .val (.ref b10), .val (.ref b10), .val (.int (1 : Int32)), .val (.ref b10)] [(.ref b10), (.ref b10)]))
            refine GoW.step (fun _ k => Jvm.RoadKit.acmp (g := (mkF m 405 #[.val (.int qc), .val (.int qf), .val (.int (1 : Int32)), .val (.int fro), .val (.int jnk), .val (.ref b3), .val (.ref b10), .val (.ref b34), .val (.ref b60), .val (.ref b10), .val (.ref b10), .val (.int (1 : Int32)), .val (.ref b10)] [(.ref b10), (.ref b10)])) X140 hx rfl rfl rfl (pc0 := 405) (pc' := 408) (same := true) rfl (hb hby at_405) rfl (decide_eq_true rfl) (by decide) (by decide) k) ?_
            show GoW _ _ _ _ _ _ _ (T140.setTop (mkF m 408 #[.val (.int qc), .val (.int qf), .val (.int (1 : Int32)), .val (.int fro), .val (.int jnk), .val (.ref b3), .val (.ref b10), .val (.ref b34), .val (.ref b60), .val (.ref b10), .val (.ref b10), .val (.int (1 : Int32)), .val (.ref b10)] []))
            refine GoW.step (fun _ k => XS.iconst X140.here hx rfl (hb hby at_408) k) ?_
            show GoW _ _ _ _ _ _ _ (T140.setTop (mkF m 409 #[.val (.int qc), .val (.int qf), .val (.int (1 : Int32)), .val (.int fro), .val (.int jnk), .val (.ref b3), .val (.ref b10), .val (.ref b34), .val (.ref b60), .val (.ref b10), .val (.ref b10), .val (.int (1 : Int32)), .val (.ref b10)] [(.int (1 : Int32))]))
            refine GoW.step (fun _ k => XS.goto X140.here hx rfl (pc0 := 409) (pc' := 413) rfl (hb hby at_409) (by decide) (by decide) k) ?_
            show GoW _ _ _ _ _ _ _ (T140.setTop (mkF m 413 #[.val (.int qc), .val (.int qf), .val (.int (1 : Int32)), .val (.int fro), .val (.int jnk), .val (.ref b3), .val (.ref b10), .val (.ref b34), .val (.ref b60), .val (.ref b10), .val (.ref b10), .val (.int (1 : Int32)), .val (.ref b10)] [(.int (1 : Int32))]))
            refine GoW.step (fun _ k => XS.istore X140.here hx rfl (hb hby at_413) rfl (l' := #[.val (.int qc), .val (.int qf), .val (.int (1 : Int32)), .val (.int fro), .val (.int jnk), .val (.ref b3), .val (.ref b10), .val (.ref b34), .val (.ref b60), .val (.ref b10), .val (.ref b10), .val (.int (1 : Int32)), .val (.ref b10)]) rfl k) ?_
            show GoW _ _ _ _ _ _ _ (T140.setTop (mkF m 415 #[.val (.int qc), .val (.int qf), .val (.int (1 : Int32)), .val (.int fro), .val (.int jnk), .val (.ref b3), .val (.ref b10), .val (.ref b34), .val (.ref b60), .val (.ref b10), .val (.ref b10), .val (.int (1 : Int32)), .val (.ref b10)] []))
            refine GoW.step (fun _ k => XS.iload X140.here hx rfl (hb hby at_415) rfl  k) ?_
            show GoW _ _ _ _ _ _ _ (T140.setTop (mkF m 417 #[.val (.int qc), .val (.int qf), .val (.int (1 : Int32)), .val (.int fro), .val (.int jnk), .val (.ref b3), .val (.ref b10), .val (.ref b34), .val (.ref b60), .val (.ref b10), .val (.ref b10), .val (.int (1 : Int32)), .val (.ref b10)] [(.int (1 : Int32))]))
            refine GoW.retN X140 hS88 hk143 hx (t := .boolean) Bd.returns (by simp) hlk (hb hby at_417) ?_ (by decide) (by decide)
            exact ⟨(by first | rfl | (simp_all [own_nb1, own_nb0]; done)), N140⟩
        · skip
          subst h1
          show GoW _ _ _ _ _ _ _ (TJ88.setTop (mkF m 118 #[.val (.int qc), .val (.int qf), .val (.int (2 : Int32)), .val (.int fro), .val (.int jnk), .val (.ref b3), .val (.ref b10), .val (.ref b34), .val (.ref b60), .unset, .unset, .unset, .unset] []))
          refine GoW.step (fun _ k => XS.iloadN X88.here hx rfl (hb hby at_118) rfl  k) ?_
          show GoW _ _ _ _ _ _ _ (TJ88.setTop (mkF m 119 #[.val (.int qc), .val (.int qf), .val (.int (2 : Int32)), .val (.int fro), .val (.int jnk), .val (.ref b3), .val (.ref b10), .val (.ref b34), .val (.ref b60), .unset, .unset, .unset, .unset] [(.int (2 : Int32))]))
          refine GoW.step (fun _ k => XS.iconst X88.here hx rfl (hb hby at_119) k) ?_
          show GoW _ _ _ _ _ _ _ (TJ88.setTop (mkF m 120 #[.val (.int qc), .val (.int qf), .val (.int (2 : Int32)), .val (.int fro), .val (.int jnk), .val (.ref b3), .val (.ref b10), .val (.ref b34), .val (.ref b60), .unset, .unset, .unset, .unset] [(.int (1 : Int32)), (.int (2 : Int32))]))
          have hc120 : ¬ ((2 : Int32) < (1 : Int32)) := by decide
          refine GoW.step (fun _ k => XS.icmpNo X88.here hx rfl (hb hby at_120) rfl (flt hc120).1 k) ?_
          show GoW _ _ _ _ _ _ _ (TJ88.setTop (mkF m 123 #[.val (.int qc), .val (.int qf), .val (.int (2 : Int32)), .val (.int fro), .val (.int jnk), .val (.ref b3), .val (.ref b10), .val (.ref b34), .val (.ref b60), .unset, .unset, .unset, .unset] []))
          refine GoW.step (fun _ k => XS.aload X88.here hx rfl (hb hby at_123) rfl rfl  k) ?_
          show GoW _ _ _ _ _ _ _ (TJ88.setTop (mkF m 125 #[.val (.int qc), .val (.int qf), .val (.int (2 : Int32)), .val (.int fro), .val (.int jnk), .val (.ref b3), .val (.ref b10), .val (.ref b34), .val (.ref b60), .unset, .unset, .unset, .unset] [(.ref b3)]))
          refine GoW.step (fun _ k => XS.aload X88.here hx rfl (hb hby at_125) rfl rfl  k) ?_
          show GoW _ _ _ _ _ _ _ (TJ88.setTop (mkF m 127 #[.val (.int qc), .val (.int qf), .val (.int (2 : Int32)), .val (.int fro), .val (.int jnk), .val (.ref b3), .val (.ref b10), .val (.ref b34), .val (.ref b60), .unset, .unset, .unset, .unset] [(.ref b10), (.ref b3)]))
          have f144 : Exa Z hJ88 b3 "com/example/steward/steward/runtime/Group" := ((((f61.ext E60).ext E74).keep K84).keep K88)
          have f145 : Exa Z hJ88 b10 "com/example/steward/steward/runtime/Agent" := ((((f63.ext E60).ext E74).keep K84).keep K88)
          have f146 : Fld Z hJ88 b3 "com/example/steward/steward/runtime/Group" "first" "Lcom/example/steward/steward/runtime/Agent;" .null := ((((((((((f7.ext E10).ext E20).keep K30 (ninS ne11 nin0)).ext E34).ext E46).keep K56 (ninS ne36 nin0)).ext E60).ext E74).keep K84 (ninS ne62 nin0)).keep K88 (ninS ne11 (ninS ne36 (ninS ne62 nin0))))
          have f147 : Fld Z hJ88 b3 "com/example/steward/steward/runtime/Group" "last" "Lcom/example/steward/steward/runtime/Agent;" .null := ((((((((((f8.ext E10).ext E20).keep K30 (ninS ne11 nin0)).ext E34).ext E46).keep K56 (ninS ne36 nin0)).ext E60).ext E74).keep K84 (ninS ne62 nin0)).keep K88 (ninS ne11 (ninS ne36 (ninS ne62 nin0))))
          obtain ⟨cq148, kq148, q148a, q148b, q148c⟩ := isOf hZ e88 f144
          obtain ⟨_, _, ⟨T148, L148, k148, n148⟩, -, X148, ⟨Lc148, hQ148, l148, y148, z148⟩, st148⟩ := X88.virtualBack hx (y := (⟨"com/example/steward/steward/runtime/Group", "add", "(Lcom/example/steward/steward/runtime/Agent;)V"⟩ : MethodName)) (z := (⟨"com/example/steward/steward/runtime/Group", "add", "(Lcom/example/steward/steward/runtime/Agent;)V"⟩ : MethodName)) hown (mvT hZ (hw _ (List.mem_of_getElem? (i := 75) rfl))) (mvT hZ (hw _ (List.mem_of_getElem? (i := 76) rfl))) (notFace_of_selects (args := #[]) (mvT hZ (hw _ (List.mem_of_getElem? (i := 78) rfl)))) (mvT hZ (hw _ (List.mem_of_getElem? (i := 78) rfl))) (mvT hZ (hw _ (List.mem_of_getElem? (i := 77) rfl))) (by decide) (backOf (W := 0) (rmadd0 l Z aZ hw [] b3 b10 Value.null ja0 jb0 Value.null hJ88 n0 z89 f144 f145 jf88_0 jf88_1 jf88_2 f146 f147 gn3 gn10) hZ (hw _ (List.mem_of_getElem? (i := 79) rfl)) (hw _ (List.mem_of_getElem? (i := 2) rfl)) (by decide) (by decide)) q148a q148c (g := (mkF m 127 #[.val (.int qc), .val (.int qf), .val (.int (2 : Int32)), .val (.int fro), .val (.int jnk), .val (.ref b3), .val (.ref b10), .val (.ref b34), .val (.ref b60), .unset, .unset, .unset, .unset] [(.ref b10), (.ref b3)])) rfl (by rw [hml]; rfl) (Steps.refl _) (argsL := [(.ref b10)]) (rest := []) (lenOf pd_2 rfl) rfl (by show 2 * 0 + _ ≤ _; exact Nat.le_of_eq rfl) (hb hby at_127) (fun _ _ => ⟨rfl, e88, (by decide : 16 + 0 ≤ _), (by decide : 74 + 0 ≤ _)⟩)
          dsimp only [Pt.U, Pt.locs, Pt.cells, Pt.slots] at X148 l148 y148 z148 st148 hQ148
          subst l148 y148 z148
          obtain ⟨rfl, Nq148, K148, c148_0, c148_1, c148_2, c148_3, c148_4, c148_5, c148_6⟩ := hQ148
          have N148 := Fr.app N88 Nq148
          refine GoW.tr st148 ?_
          have z149 : n0 ≤ T148.heap.size := Nat.le_trans z89 K148.1
          have sqz149 : h0.size ≤ T148.heap.size := Nat.le_trans sqz89 K148.1
          have hk151 := Nat.le_trans hk88 K148.1
          show GoW _ _ _ _ _ _ _ (T148.setTop (mkF m 130 #[.val (.int qc), .val (.int qf), .val (.int (2 : Int32)), .val (.int fro), .val (.int jnk), .val (.ref b3), .val (.ref b10), .val (.ref b34), .val (.ref b60), .unset, .unset, .unset, .unset] []))
          refine GoW.step (fun _ k => XS.iloadN X148.here hx rfl (hb hby at_130) rfl  k) ?_
          show GoW _ _ _ _ _ _ _ (T148.setTop (mkF m 131 #[.val (.int qc), .val (.int qf), .val (.int (2 : Int32)), .val (.int fro), .val (.int jnk), .val (.ref b3), .val (.ref b10), .val (.ref b34), .val (.ref b60), .unset, .unset, .unset, .unset] [(.int (2 : Int32))]))
          refine GoW.step (fun _ k => XS.iconst X148.here hx rfl (hb hby at_131) k) ?_
          show GoW _ _ _ _ _ _ _ (T148.setTop (mkF m 132 #[.val (.int qc), .val (.int qf), .val (.int (2 : Int32)), .val (.int fro), .val (.int jnk), .val (.ref b3), .val (.ref b10), .val (.ref b34), .val (.ref b60), .unset, .unset, .unset, .unset] [(.int (2 : Int32)), (.int (2 : Int32))]))
          have hc132 : ¬ ((2 : Int32) < (2 : Int32)) := by decide
          refine GoW.step (fun _ k => XS.icmpNo X148.here hx rfl (hb hby at_132) rfl (flt hc132).1 k) ?_
          show GoW _ _ _ _ _ _ _ (T148.setTop (mkF m 135 #[.val (.int qc), .val (.int qf), .val (.int (2 : Int32)), .val (.int fro), .val (.int jnk), .val (.ref b3), .val (.ref b10), .val (.ref b34), .val (.ref b60), .unset, .unset, .unset, .unset] []))
          refine GoW.step (fun _ k => XS.aload X148.here hx rfl (hb hby at_135) rfl rfl  k) ?_
          show GoW _ _ _ _ _ _ _ (T148.setTop (mkF m 137 #[.val (.int qc), .val (.int qf), .val (.int (2 : Int32)), .val (.int fro), .val (.int jnk), .val (.ref b3), .val (.ref b10), .val (.ref b34), .val (.ref b60), .unset, .unset, .unset, .unset] [(.ref b3)]))
          refine GoW.step (fun _ k => XS.aload X148.here hx rfl (hb hby at_137) rfl rfl  k) ?_
          show GoW _ _ _ _ _ _ _ (T148.setTop (mkF m 139 #[.val (.int qc), .val (.int qf), .val (.int (2 : Int32)), .val (.int fro), .val (.int jnk), .val (.ref b3), .val (.ref b10), .val (.ref b34), .val (.ref b60), .unset, .unset, .unset, .unset] [(.ref b34), (.ref b3)]))
          have f152 : Exa Z T148.heap b34 "com/example/steward/steward/runtime/Agent" := (((((c56_0.ext E60).ext E74).keep K84).keep K88).keep K148)
          have f153 : Fld Z T148.heap b34 "com/example/steward/steward/runtime/Agent" "group" "Lcom/example/steward/steward/runtime/Group;" .null := (jf88_3.keep K148 (ninS (Ne.symm ne36) (ninS (Ne.symm ne37) nin0)))
          have f154 : Fld Z T148.heap b34 "com/example/steward/steward/runtime/Agent" "ahead" "Lcom/example/steward/steward/runtime/Agent;" ja1 := (jf88_4.keep K148 (ninS (Ne.symm ne36) (ninS (Ne.symm ne37) nin0)))
          have f155 : Fld Z T148.heap b34 "com/example/steward/steward/runtime/Agent" "behind" "Lcom/example/steward/steward/runtime/Agent;" jb1 := (jf88_5.keep K148 (ninS (Ne.symm ne36) (ninS (Ne.symm ne37) nin0)))
          obtain ⟨cq156, kq156, q156a, q156b, q156c⟩ := isOf hZ rfl c148_0
          obtain ⟨_, _, ⟨T156, L156, k156, n156⟩, -, X156, ⟨Lc156, hQ156, l156, y156, z156⟩, st156⟩ := X148.virtualBack hx (y := (⟨"com/example/steward/steward/runtime/Group", "add", "(Lcom/example/steward/steward/runtime/Agent;)V"⟩ : MethodName)) (z := (⟨"com/example/steward/steward/runtime/Group", "add", "(Lcom/example/steward/steward/runtime/Agent;)V"⟩ : MethodName)) hown (mvT hZ (hw _ (List.mem_of_getElem? (i := 75) rfl))) (mvT hZ (hw _ (List.mem_of_getElem? (i := 76) rfl))) (notFace_of_selects (args := #[]) (mvT hZ (hw _ (List.mem_of_getElem? (i := 78) rfl)))) (mvT hZ (hw _ (List.mem_of_getElem? (i := 78) rfl))) (mvT hZ (hw _ (List.mem_of_getElem? (i := 77) rfl))) (by decide) (backOf (W := 0) (rmadd1 l Z aZ hw [] b3 b34 Value.null ja1 jb1 (Value.ref b10) b10 Value.null (Value.ref b3) Value.null T148.heap n0 z149 c148_0 f152 f153 f154 f155 c148_5 c148_6 c148_1 c148_4 c148_2 c148_3 (Ne.symm ne37) gn3 gn34 gn10) hZ (hw _ (List.mem_of_getElem? (i := 79) rfl)) (hw _ (List.mem_of_getElem? (i := 2) rfl)) (by decide) (by decide)) q156a q156c (g := (mkF m 139 #[.val (.int qc), .val (.int qf), .val (.int (2 : Int32)), .val (.int fro), .val (.int jnk), .val (.ref b3), .val (.ref b10), .val (.ref b34), .val (.ref b60), .unset, .unset, .unset, .unset] [(.ref b34), (.ref b3)])) rfl (by rw [hml]; rfl) (Steps.refl _) (argsL := [(.ref b34)]) (rest := []) (lenOf pd_2 rfl) rfl (by show 2 * 0 + _ ≤ _; exact Nat.le_of_eq rfl) (hb hby at_139) (fun _ _ => ⟨rfl, rfl, (by decide : 16 + 0 ≤ _), (by decide : 74 + 0 ≤ _)⟩)
          dsimp only [Pt.U, Pt.locs, Pt.cells, Pt.slots] at X156 l156 y156 z156 st156 hQ156
          subst l156 y156 z156
          obtain ⟨rfl, Nq156, K156, c156_0, c156_1, c156_2, c156_3, c156_4, c156_5, c156_6, c156_7, c156_8, c156_9, c156_10⟩ := hQ156
          have N156 := Fr.app N148 Nq156
          refine GoW.tr st156 ?_
          have z157 : n0 ≤ T156.heap.size := Nat.le_trans z149 K156.1
          have sqz157 : h0.size ≤ T156.heap.size := Nat.le_trans sqz149 K156.1
          have hk159 := Nat.le_trans hk151 K156.1
          show GoW _ _ _ _ _ _ _ (T156.setTop (mkF m 142 #[.val (.int qc), .val (.int qf), .val (.int (2 : Int32)), .val (.int fro), .val (.int jnk), .val (.ref b3), .val (.ref b10), .val (.ref b34), .val (.ref b60), .unset, .unset, .unset, .unset] []))
          refine GoW.step (fun _ k => XS.iloadN X156.here hx rfl (hb hby at_142) rfl  k) ?_
          show GoW _ _ _ _ _ _ _ (T156.setTop (mkF m 143 #[.val (.int qc), .val (.int qf), .val (.int (2 : Int32)), .val (.int fro), .val (.int jnk), .val (.ref b3), .val (.ref b10), .val (.ref b34), .val (.ref b60), .unset, .unset, .unset, .unset] [(.int (2 : Int32))]))
          refine GoW.step (fun _ k => XS.iconst X156.here hx rfl (hb hby at_143) k) ?_
          show GoW _ _ _ _ _ _ _ (T156.setTop (mkF m 144 #[.val (.int qc), .val (.int qf), .val (.int (2 : Int32)), .val (.int fro), .val (.int jnk), .val (.ref b3), .val (.ref b10), .val (.ref b34), .val (.ref b60), .unset, .unset, .unset, .unset] [(.int (3 : Int32)), (.int (2 : Int32))]))
          have hc144 : (2 : Int32) < (3 : Int32) := by decide
          refine GoW.step (fun _ k => XS.icmpYes X156.here hx rfl (pc0 := 144) (pc' := 154) rfl (hb hby at_144) rfl (tlt hc144).1 (by decide) (by decide) k) ?_
          show GoW _ _ _ _ _ _ _ (T156.setTop (mkF m 154 #[.val (.int qc), .val (.int qf), .val (.int (2 : Int32)), .val (.int fro), .val (.int jnk), .val (.ref b3), .val (.ref b10), .val (.ref b34), .val (.ref b60), .unset, .unset, .unset, .unset] []))
          refine GoW.step (fun _ k => XS.iloadN X156.here hx rfl (hb hby at_154) rfl  k) ?_
          show GoW _ _ _ _ _ _ _ (T156.setTop (mkF m 155 #[.val (.int qc), .val (.int qf), .val (.int (2 : Int32)), .val (.int fro), .val (.int jnk), .val (.ref b3), .val (.ref b10), .val (.ref b34), .val (.ref b60), .unset, .unset, .unset, .unset] [(.int (2 : Int32))]))
          have hc155 : ¬ ((2 : Int32) = (0 : Int32)) := by decide
          refine GoW.step (fun _ k => XS.ifYes X156.here hx rfl (pc0 := 155) (pc' := 162) rfl (hb hby at_155) rfl ((if0 _ _).trans (feq hc155).2) (by decide) (by decide) k) ?_
          show GoW _ _ _ _ _ _ _ (T156.setTop (mkF m 162 #[.val (.int qc), .val (.int qf), .val (.int (2 : Int32)), .val (.int fro), .val (.int jnk), .val (.ref b3), .val (.ref b10), .val (.ref b34), .val (.ref b60), .unset, .unset, .unset, .unset] []))
          refine GoW.step (fun _ k => XS.aload X156.here hx rfl (hb hby at_162) rfl rfl  k) ?_
          show GoW _ _ _ _ _ _ _ (T156.setTop (mkF m 164 #[.val (.int qc), .val (.int qf), .val (.int (2 : Int32)), .val (.int fro), .val (.int jnk), .val (.ref b3), .val (.ref b10), .val (.ref b34), .val (.ref b60), .unset, .unset, .unset, .unset] [(.ref b10)]))
          refine GoW.step (fun _ k => XS.astore X156.here hx rfl (hb hby at_164) rfl rfl (l' := #[.val (.int qc), .val (.int qf), .val (.int (2 : Int32)), .val (.int fro), .val (.int jnk), .val (.ref b3), .val (.ref b10), .val (.ref b34), .val (.ref b60), .val (.ref b10), .unset, .unset, .unset]) rfl k) ?_
          show GoW _ _ _ _ _ _ _ (T156.setTop (mkF m 166 #[.val (.int qc), .val (.int qf), .val (.int (2 : Int32)), .val (.int fro), .val (.int jnk), .val (.ref b3), .val (.ref b10), .val (.ref b34), .val (.ref b60), .val (.ref b10), .unset, .unset, .unset] []))
          refine GoW.step (fun _ k => XS.iloadN X156.here hx rfl (hb hby at_166) rfl  k) ?_
          show GoW _ _ _ _ _ _ _ (T156.setTop (mkF m 167 #[.val (.int qc), .val (.int qf), .val (.int (2 : Int32)), .val (.int fro), .val (.int jnk), .val (.ref b3), .val (.ref b10), .val (.ref b34), .val (.ref b60), .val (.ref b10), .unset, .unset, .unset] [(.int (2 : Int32))]))
          have hc167 : ¬ ((2 : Int32) = (0 : Int32)) := hc155
          refine GoW.step (fun _ k => XS.ifYes X156.here hx rfl (pc0 := 167) (pc' := 174) rfl (hb hby at_167) rfl ((if0 _ _).trans (feq hc167).2) (by decide) (by decide) k) ?_
          show GoW _ _ _ _ _ _ _ (T156.setTop (mkF m 174 #[.val (.int qc), .val (.int qf), .val (.int (2 : Int32)), .val (.int fro), .val (.int jnk), .val (.ref b3), .val (.ref b10), .val (.ref b34), .val (.ref b60), .val (.ref b10), .unset, .unset, .unset] []))
          refine GoW.step (fun _ k => XS.iloadN X156.here hx rfl (hb hby at_174) rfl  k) ?_
          show GoW _ _ _ _ _ _ _ (T156.setTop (mkF m 175 #[.val (.int qc), .val (.int qf), .val (.int (2 : Int32)), .val (.int fro), .val (.int jnk), .val (.ref b3), .val (.ref b10), .val (.ref b34), .val (.ref b60), .val (.ref b10), .unset, .unset, .unset] [(.int (2 : Int32))]))
          refine GoW.step (fun _ k => XS.iconst X156.here hx rfl (hb hby at_175) k) ?_
          show GoW _ _ _ _ _ _ _ (T156.setTop (mkF m 176 #[.val (.int qc), .val (.int qf), .val (.int (2 : Int32)), .val (.int fro), .val (.int jnk), .val (.ref b3), .val (.ref b10), .val (.ref b34), .val (.ref b60), .val (.ref b10), .unset, .unset, .unset] [(.int (1 : Int32)), (.int (2 : Int32))]))
          have hc176 : ¬ ((2 : Int32) = (1 : Int32)) := by decide
          refine GoW.step (fun _ k => XS.icmpYes X156.here hx rfl (pc0 := 176) (pc' := 184) rfl (hb hby at_176) rfl (feq hc176).2 (by decide) (by decide) k) ?_
          show GoW _ _ _ _ _ _ _ (T156.setTop (mkF m 184 #[.val (.int qc), .val (.int qf), .val (.int (2 : Int32)), .val (.int fro), .val (.int jnk), .val (.ref b3), .val (.ref b10), .val (.ref b34), .val (.ref b60), .val (.ref b10), .unset, .unset, .unset] []))
          refine GoW.step (fun _ k => XS.iloadN X156.here hx rfl (hb hby at_184) rfl  k) ?_
          show GoW _ _ _ _ _ _ _ (T156.setTop (mkF m 185 #[.val (.int qc), .val (.int qf), .val (.int (2 : Int32)), .val (.int fro), .val (.int jnk), .val (.ref b3), .val (.ref b10), .val (.ref b34), .val (.ref b60), .val (.ref b10), .unset, .unset, .unset] [(.int (2 : Int32))]))
          refine GoW.step (fun _ k => XS.iconst X156.here hx rfl (hb hby at_185) k) ?_
          show GoW _ _ _ _ _ _ _ (T156.setTop (mkF m 186 #[.val (.int qc), .val (.int qf), .val (.int (2 : Int32)), .val (.int fro), .val (.int jnk), .val (.ref b3), .val (.ref b10), .val (.ref b34), .val (.ref b60), .val (.ref b10), .unset, .unset, .unset] [(.int (2 : Int32)), (.int (2 : Int32))]))
          have hc186 : (2 : Int32) = (2 : Int32) := by decide
          refine GoW.step (fun _ k => XS.icmpNo X156.here hx rfl (hb hby at_186) rfl (teq hc186).2 k) ?_
          show GoW _ _ _ _ _ _ _ (T156.setTop (mkF m 189 #[.val (.int qc), .val (.int qf), .val (.int (2 : Int32)), .val (.int fro), .val (.int jnk), .val (.ref b3), .val (.ref b10), .val (.ref b34), .val (.ref b60), .val (.ref b10), .unset, .unset, .unset] []))
          refine GoW.step (fun _ k => XS.aload X156.here hx rfl (hb hby at_189) rfl rfl  k) ?_
          show GoW _ _ _ _ _ _ _ (T156.setTop (mkF m 191 #[.val (.int qc), .val (.int qf), .val (.int (2 : Int32)), .val (.int fro), .val (.int jnk), .val (.ref b3), .val (.ref b10), .val (.ref b34), .val (.ref b60), .val (.ref b10), .unset, .unset, .unset] [(.ref b34)]))
          refine GoW.step (fun _ k => XS.goto X156.here hx rfl (pc0 := 191) (pc' := 196) rfl (hb hby at_191) (by decide) (by decide) k) ?_
          show GoW _ _ _ _ _ _ _ (T156.setTop (mkF m 196 #[.val (.int qc), .val (.int qf), .val (.int (2 : Int32)), .val (.int fro), .val (.int jnk), .val (.ref b3), .val (.ref b10), .val (.ref b34), .val (.ref b60), .val (.ref b10), .unset, .unset, .unset] [(.ref b34)]))
          refine GoW.step (fun _ k => XS.astore X156.here hx rfl (hb hby at_196) rfl rfl (l' := #[.val (.int qc), .val (.int qf), .val (.int (2 : Int32)), .val (.int fro), .val (.int jnk), .val (.ref b3), .val (.ref b10), .val (.ref b34), .val (.ref b60), .val (.ref b10), .val (.ref b34), .unset, .unset]) rfl k) ?_
          show GoW _ _ _ _ _ _ _ (T156.setTop (mkF m 198 #[.val (.int qc), .val (.int qf), .val (.int (2 : Int32)), .val (.int fro), .val (.int jnk), .val (.ref b3), .val (.ref b10), .val (.ref b34), .val (.ref b60), .val (.ref b10), .val (.ref b34), .unset, .unset] []))
          refine GoW.step (fun _ k => XS.aload X156.here hx rfl (hb hby at_198) rfl rfl  k) ?_
          show GoW _ _ _ _ _ _ _ (T156.setTop (mkF m 200 #[.val (.int qc), .val (.int qf), .val (.int (2 : Int32)), .val (.int fro), .val (.int jnk), .val (.ref b3), .val (.ref b10), .val (.ref b34), .val (.ref b60), .val (.ref b10), .val (.ref b34), .unset, .unset] [(.ref b3)]))
          obtain ⟨cq160, kq160, q160a, q160b, q160c⟩ := isOf hZ rfl c156_0
          obtain ⟨_, _, ⟨T160, L160, k160, n160⟩, -, X160, ⟨Lc160, hQ160, l160, y160, z160⟩, st160⟩ := X156.virtualBack hx (y := (⟨"com/example/steward/steward/runtime/Group", "isEmpty", "()Z"⟩ : MethodName)) (z := (⟨"com/example/steward/steward/runtime/Group", "isEmpty", "()Z"⟩ : MethodName)) hown (mvT hZ (hw _ (List.mem_of_getElem? (i := 52) rfl))) (mvT hZ (hw _ (List.mem_of_getElem? (i := 53) rfl))) (notFace_of_selects (args := #[]) (mvT hZ (hw _ (List.mem_of_getElem? (i := 55) rfl)))) (mvT hZ (hw _ (List.mem_of_getElem? (i := 55) rfl))) (mvT hZ (hw _ (List.mem_of_getElem? (i := 54) rfl))) (by decide) (backOf (W := 0) (rmem1 l Z aZ hw [] b3 b10 T156.heap n0 z157 c156_9) hZ (hw _ (List.mem_of_getElem? (i := 56) rfl)) (hw _ (List.mem_of_getElem? (i := 2) rfl)) (by decide) (by decide)) q160a q160c (g := (mkF m 200 #[.val (.int qc), .val (.int qf), .val (.int (2 : Int32)), .val (.int fro), .val (.int jnk), .val (.ref b3), .val (.ref b10), .val (.ref b34), .val (.ref b60), .val (.ref b10), .val (.ref b34), .unset, .unset] [(.ref b3)])) rfl (by rw [hml]; rfl) (Steps.refl _) (argsL := []) (rest := []) (lenOf pd_4 rfl) rfl (by show 2 * 0 + _ ≤ _; exact Nat.le_of_eq rfl) (hb hby at_200) (fun _ _ => ⟨rfl, rfl, (by decide : 16 + 0 ≤ _), (by decide : 74 + 0 ≤ _)⟩)
          dsimp only [Pt.U, Pt.locs, Pt.cells, Pt.slots] at X160 l160 y160 z160 st160 hQ160
          subst l160 y160 z160
          obtain ⟨rfl, Nq160, e160⟩ := hQ160
          have N160 := Fr.app N156 Nq160
          refine GoW.tr st160 ?_
          show GoW _ _ _ _ _ _ _ (T160.setTop (mkF m 203 #[.val (.int qc), .val (.int qf), .val (.int (2 : Int32)), .val (.int fro), .val (.int jnk), .val (.ref b3), .val (.ref b10), .val (.ref b34), .val (.ref b60), .val (.ref b10), .val (.ref b34), .unset, .unset] [(.int (0 : Int32))]))
          refine GoW.step (fun _ k => XS.iloadN X160.here hx rfl (hb hby at_203) rfl  k) ?_
          show GoW _ _ _ _ _ _ _ (T160.setTop (mkF m 204 #[.val (.int qc), .val (.int qf), .val (.int (2 : Int32)), .val (.int fro), .val (.int jnk), .val (.ref b3), .val (.ref b10), .val (.ref b34), .val (.ref b60), .val (.ref b10), .val (.ref b34), .unset, .unset] [(.int (2 : Int32)), (.int (0 : Int32))]))
          have hc204 : ¬ ((2 : Int32) = (0 : Int32)) := hc167
          refine GoW.step (fun _ k => XS.ifYes X160.here hx rfl (pc0 := 204) (pc' := 211) rfl (hb hby at_204) rfl ((if0 _ _).trans (feq hc204).2) (by decide) (by decide) k) ?_
          show GoW _ _ _ _ _ _ _ (T160.setTop (mkF m 211 #[.val (.int qc), .val (.int qf), .val (.int (2 : Int32)), .val (.int fro), .val (.int jnk), .val (.ref b3), .val (.ref b10), .val (.ref b34), .val (.ref b60), .val (.ref b10), .val (.ref b34), .unset, .unset] [(.int (0 : Int32))]))
          refine GoW.step (fun _ k => XS.iconst X160.here hx rfl (hb hby at_211) k) ?_
          show GoW _ _ _ _ _ _ _ (T160.setTop (mkF m 212 #[.val (.int qc), .val (.int qf), .val (.int (2 : Int32)), .val (.int fro), .val (.int jnk), .val (.ref b3), .val (.ref b10), .val (.ref b34), .val (.ref b60), .val (.ref b10), .val (.ref b34), .unset, .unset] [(.int (0 : Int32)), (.int (0 : Int32))]))
          have hc212 : (0 : Int32) = (0 : Int32) := by decide
          refine GoW.step (fun _ k => XS.icmpNo X160.here hx rfl (hb hby at_212) rfl (teq hc212).2 k) ?_
          show GoW _ _ _ _ _ _ _ (T160.setTop (mkF m 215 #[.val (.int qc), .val (.int qf), .val (.int (2 : Int32)), .val (.int fro), .val (.int jnk), .val (.ref b3), .val (.ref b10), .val (.ref b34), .val (.ref b60), .val (.ref b10), .val (.ref b34), .unset, .unset] []))
          refine GoW.step (fun _ k => XS.iconst X160.here hx rfl (hb hby at_215) k) ?_
          show GoW _ _ _ _ _ _ _ (T160.setTop (mkF m 216 #[.val (.int qc), .val (.int qf), .val (.int (2 : Int32)), .val (.int fro), .val (.int jnk), .val (.ref b3), .val (.ref b10), .val (.ref b34), .val (.ref b60), .val (.ref b10), .val (.ref b34), .unset, .unset] [(.int (1 : Int32))]))
          refine GoW.step (fun _ k => XS.goto X160.here hx rfl (pc0 := 216) (pc' := 220) rfl (hb hby at_216) (by decide) (by decide) k) ?_
          show GoW _ _ _ _ _ _ _ (T160.setTop (mkF m 220 #[.val (.int qc), .val (.int qf), .val (.int (2 : Int32)), .val (.int fro), .val (.int jnk), .val (.ref b3), .val (.ref b10), .val (.ref b34), .val (.ref b60), .val (.ref b10), .val (.ref b34), .unset, .unset] [(.int (1 : Int32))]))
          refine GoW.step (fun _ k => XS.istore X160.here hx rfl (hb hby at_220) rfl (l' := #[.val (.int qc), .val (.int qf), .val (.int (2 : Int32)), .val (.int fro), .val (.int jnk), .val (.ref b3), .val (.ref b10), .val (.ref b34), .val (.ref b60), .val (.ref b10), .val (.ref b34), .val (.int (1 : Int32)), .unset]) rfl k) ?_
          show GoW _ _ _ _ _ _ _ (T160.setTop (mkF m 222 #[.val (.int qc), .val (.int qf), .val (.int (2 : Int32)), .val (.int fro), .val (.int jnk), .val (.ref b3), .val (.ref b10), .val (.ref b34), .val (.ref b60), .val (.ref b10), .val (.ref b34), .val (.int (1 : Int32)), .unset] []))
          refine GoW.step (fun _ k => XS.iload X160.here hx rfl (hb hby at_222) rfl  k) ?_
          show GoW _ _ _ _ _ _ _ (T160.setTop (mkF m 224 #[.val (.int qc), .val (.int qf), .val (.int (2 : Int32)), .val (.int fro), .val (.int jnk), .val (.ref b3), .val (.ref b10), .val (.ref b34), .val (.ref b60), .val (.ref b10), .val (.ref b34), .val (.int (1 : Int32)), .unset] [(.int (1 : Int32))]))
          have hc224 : ¬ ((1 : Int32) = (0 : Int32)) := by decide
          refine GoW.step (fun _ k => XS.ifNo X160.here hx rfl (hb hby at_224) rfl ((if0 _ _).trans (feq hc224).1) k) ?_
          show GoW _ _ _ _ _ _ _ (T160.setTop (mkF m 227 #[.val (.int qc), .val (.int qf), .val (.int (2 : Int32)), .val (.int fro), .val (.int jnk), .val (.ref b3), .val (.ref b10), .val (.ref b34), .val (.ref b60), .val (.ref b10), .val (.ref b34), .val (.int (1 : Int32)), .unset] []))
          refine GoW.step (fun _ k => XS.aload X160.here hx rfl (hb hby at_227) rfl rfl  k) ?_
          show GoW _ _ _ _ _ _ _ (T160.setTop (mkF m 229 #[.val (.int qc), .val (.int qf), .val (.int (2 : Int32)), .val (.int fro), .val (.int jnk), .val (.ref b3), .val (.ref b10), .val (.ref b34), .val (.ref b60), .val (.ref b10), .val (.ref b34), .val (.int (1 : Int32)), .unset] [(.ref b3)]))
          have pq161 : (Value.ref b10).isRef = true := rfl
          obtain ⟨cq162, kq162, q162a, q162b, q162c⟩ := isOf hZ e160 c156_0
          obtain ⟨_, _, ⟨T162, L162, k162, n162⟩, -, X162, ⟨Lc162, hQ162, l162, y162, z162⟩, st162⟩ := X160.virtualBack hx (y := (⟨"com/example/steward/steward/runtime/Group", "first", "()Lcom/example/steward/steward/runtime/Agent;"⟩ : MethodName)) (z := (⟨"com/example/steward/steward/runtime/Group", "first", "()Lcom/example/steward/steward/runtime/Agent;"⟩ : MethodName)) hown (mvT hZ (hw _ (List.mem_of_getElem? (i := 59) rfl))) (mvT hZ (hw _ (List.mem_of_getElem? (i := 60) rfl))) (notFace_of_selects (args := #[]) (mvT hZ (hw _ (List.mem_of_getElem? (i := 62) rfl)))) (mvT hZ (hw _ (List.mem_of_getElem? (i := 62) rfl))) (mvT hZ (hw _ (List.mem_of_getElem? (i := 61) rfl))) (by decide) (backOf (W := 0) (rm7 l Z aZ hw [] b3 (Value.ref b10) T156.heap n0 z157 c156_9 pq161) hZ (hw _ (List.mem_of_getElem? (i := 63) rfl)) (hw _ (List.mem_of_getElem? (i := 2) rfl)) (by decide) (by decide)) q162a q162c (g := (mkF m 229 #[.val (.int qc), .val (.int qf), .val (.int (2 : Int32)), .val (.int fro), .val (.int jnk), .val (.ref b3), .val (.ref b10), .val (.ref b34), .val (.ref b60), .val (.ref b10), .val (.ref b34), .val (.int (1 : Int32)), .unset] [(.ref b3)])) rfl (by rw [hml]; rfl) (Steps.refl _) (argsL := []) (rest := []) (lenOf pd_5 rfl) rfl (by show 2 * 0 + _ ≤ _; exact Nat.le_of_eq rfl) (hb hby at_229) (fun _ _ => ⟨rfl, e160, (by decide : 16 + 0 ≤ _), (by decide : 74 + 0 ≤ _)⟩)
          dsimp only [Pt.U, Pt.locs, Pt.cells, Pt.slots] at X162 l162 y162 z162 st162 hQ162
          subst l162 y162 z162
          obtain ⟨rfl, Nq162, e162⟩ := hQ162
          have N162 := Fr.app N160 Nq162
          refine GoW.tr st162 ?_
          show GoW _ _ _ _ _ _ _ (T162.setTop (mkF m 232 #[.val (.int qc), .val (.int qf), .val (.int (2 : Int32)), .val (.int fro), .val (.int jnk), .val (.ref b3), .val (.ref b10), .val (.ref b34), .val (.ref b60), .val (.ref b10), .val (.ref b34), .val (.int (1 : Int32)), .unset] [(.ref b10)]))
          refine GoW.step (fun _ k => XS.aload X162.here hx rfl (hb hby at_232) rfl rfl  k) ?_
          show GoW _ _ _ _ _ _ _ (T162.setTop (mkF m 234 #[.val (.int qc), .val (.int qf), .val (.int (2 : Int32)), .val (.int fro), .val (.int jnk), .val (.ref b3), .val (.ref b10), .val (.ref b34), .val (.ref b60), .val (.ref b10), .val (.ref b34), .val (.int (1 : Int32)), .unset] [(.ref b10), (.ref b10)]))
          refine GoW.step (fun _ k => Jvm.RoadKit.acmp (g := (mkF m 234 #[.val (.int qc), .val (.int qf), .val (.int (2 : Int32)), .val (.int fro), .val (.int jnk), .val (.ref b3), .val (.ref b10), .val (.ref b34), .val (.ref b60), .val (.ref b10), .val (.ref b34), .val (.int (1 : Int32)), .unset] [(.ref b10), (.ref b10)])) X162 hx rfl rfl rfl (pc0 := 234) (pc' := 237) (same := true) rfl (hb hby at_234) rfl (decide_eq_true rfl) (by decide) (by decide) k) ?_
          show GoW _ _ _ _ _ _ _ (T162.setTop (mkF m 237 #[.val (.int qc), .val (.int qf), .val (.int (2 : Int32)), .val (.int fro), .val (.int jnk), .val (.ref b3), .val (.ref b10), .val (.ref b34), .val (.ref b60), .val (.ref b10), .val (.ref b34), .val (.int (1 : Int32)), .unset] []))
          refine GoW.step (fun _ k => XS.iconst X162.here hx rfl (hb hby at_237) k) ?_
          show GoW _ _ _ _ _ _ _ (T162.setTop (mkF m 238 #[.val (.int qc), .val (.int qf), .val (.int (2 : Int32)), .val (.int fro), .val (.int jnk), .val (.ref b3), .val (.ref b10), .val (.ref b34), .val (.ref b60), .val (.ref b10), .val (.ref b34), .val (.int (1 : Int32)), .unset] [(.int (1 : Int32))]))
          refine GoW.step (fun _ k => XS.goto X162.here hx rfl (pc0 := 238) (pc' := 242) rfl (hb hby at_238) (by decide) (by decide) k) ?_
          show GoW _ _ _ _ _ _ _ (T162.setTop (mkF m 242 #[.val (.int qc), .val (.int qf), .val (.int (2 : Int32)), .val (.int fro), .val (.int jnk), .val (.ref b3), .val (.ref b10), .val (.ref b34), .val (.ref b60), .val (.ref b10), .val (.ref b34), .val (.int (1 : Int32)), .unset] [(.int (1 : Int32))]))
          refine GoW.step (fun _ k => XS.istore X162.here hx rfl (hb hby at_242) rfl (l' := #[.val (.int qc), .val (.int qf), .val (.int (2 : Int32)), .val (.int fro), .val (.int jnk), .val (.ref b3), .val (.ref b10), .val (.ref b34), .val (.ref b60), .val (.ref b10), .val (.ref b34), .val (.int (1 : Int32)), .unset]) rfl k) ?_
          show GoW _ _ _ _ _ _ _ (T162.setTop (mkF m 244 #[.val (.int qc), .val (.int qf), .val (.int (2 : Int32)), .val (.int fro), .val (.int jnk), .val (.ref b3), .val (.ref b10), .val (.ref b34), .val (.ref b60), .val (.ref b10), .val (.ref b34), .val (.int (1 : Int32)), .unset] []))
          refine GoW.step (fun _ k => XS.iload X162.here hx rfl (hb hby at_244) rfl  k) ?_
          show GoW _ _ _ _ _ _ _ (T162.setTop (mkF m 246 #[.val (.int qc), .val (.int qf), .val (.int (2 : Int32)), .val (.int fro), .val (.int jnk), .val (.ref b3), .val (.ref b10), .val (.ref b34), .val (.ref b60), .val (.ref b10), .val (.ref b34), .val (.int (1 : Int32)), .unset] [(.int (1 : Int32))]))
          have hc246 : ¬ ((1 : Int32) = (0 : Int32)) := hc224
          refine GoW.step (fun _ k => XS.ifNo X162.here hx rfl (hb hby at_246) rfl ((if0 _ _).trans (feq hc246).1) k) ?_
          show GoW _ _ _ _ _ _ _ (T162.setTop (mkF m 249 #[.val (.int qc), .val (.int qf), .val (.int (2 : Int32)), .val (.int fro), .val (.int jnk), .val (.ref b3), .val (.ref b10), .val (.ref b34), .val (.ref b60), .val (.ref b10), .val (.ref b34), .val (.int (1 : Int32)), .unset] []))
          refine GoW.step (fun _ k => XS.aload X162.here hx rfl (hb hby at_249) rfl rfl  k) ?_
          show GoW _ _ _ _ _ _ _ (T162.setTop (mkF m 251 #[.val (.int qc), .val (.int qf), .val (.int (2 : Int32)), .val (.int fro), .val (.int jnk), .val (.ref b3), .val (.ref b10), .val (.ref b34), .val (.ref b60), .val (.ref b10), .val (.ref b34), .val (.int (1 : Int32)), .unset] [(.ref b10)]))
          refine GoW.step (fun _ k => XS.iloadN X162.here hx rfl (hb hby at_251) rfl  k) ?_
          show GoW _ _ _ _ _ _ _ (T162.setTop (mkF m 252 #[.val (.int qc), .val (.int qf), .val (.int (2 : Int32)), .val (.int fro), .val (.int jnk), .val (.ref b3), .val (.ref b10), .val (.ref b34), .val (.ref b60), .val (.ref b10), .val (.ref b34), .val (.int (1 : Int32)), .unset] [(.int (2 : Int32)), (.ref b10)]))
          refine GoW.step (fun _ k => XS.iconst X162.here hx rfl (hb hby at_252) k) ?_
          show GoW _ _ _ _ _ _ _ (T162.setTop (mkF m 253 #[.val (.int qc), .val (.int qf), .val (.int (2 : Int32)), .val (.int fro), .val (.int jnk), .val (.ref b3), .val (.ref b10), .val (.ref b34), .val (.ref b60), .val (.ref b10), .val (.ref b34), .val (.int (1 : Int32)), .unset] [(.int (1 : Int32)), (.int (2 : Int32)), (.ref b10)]))
          have hc253 : ¬ ((2 : Int32) < (1 : Int32)) := hc120
          refine GoW.step (fun _ k => XS.icmpNo X162.here hx rfl (hb hby at_253) rfl (flt hc253).1 k) ?_
          show GoW _ _ _ _ _ _ _ (T162.setTop (mkF m 256 #[.val (.int qc), .val (.int qf), .val (.int (2 : Int32)), .val (.int fro), .val (.int jnk), .val (.ref b3), .val (.ref b10), .val (.ref b34), .val (.ref b60), .val (.ref b10), .val (.ref b34), .val (.int (1 : Int32)), .unset] [(.ref b10)]))
          refine GoW.step (fun _ k => XS.iconst X162.here hx rfl (hb hby at_256) k) ?_
          show GoW _ _ _ _ _ _ _ (T162.setTop (mkF m 257 #[.val (.int qc), .val (.int qf), .val (.int (2 : Int32)), .val (.int fro), .val (.int jnk), .val (.ref b3), .val (.ref b10), .val (.ref b34), .val (.ref b60), .val (.ref b10), .val (.ref b34), .val (.int (1 : Int32)), .unset] [(.int (1 : Int32)), (.ref b10)]))
          refine GoW.step (fun _ k => XS.goto X162.here hx rfl (pc0 := 257) (pc' := 261) rfl (hb hby at_257) (by decide) (by decide) k) ?_
          show GoW _ _ _ _ _ _ _ (T162.setTop (mkF m 261 #[.val (.int qc), .val (.int qf), .val (.int (2 : Int32)), .val (.int fro), .val (.int jnk), .val (.ref b3), .val (.ref b10), .val (.ref b34), .val (.ref b60), .val (.ref b10), .val (.ref b34), .val (.int (1 : Int32)), .unset] [(.int (1 : Int32)), (.ref b10)]))
          refine GoW.step (fun _ k => XS.aload X162.here hx rfl (hb hby at_261) rfl rfl  k) ?_
          show GoW _ _ _ _ _ _ _ (T162.setTop (mkF m 263 #[.val (.int qc), .val (.int qf), .val (.int (2 : Int32)), .val (.int fro), .val (.int jnk), .val (.ref b3), .val (.ref b10), .val (.ref b34), .val (.ref b60), .val (.ref b10), .val (.ref b34), .val (.int (1 : Int32)), .unset] [(.ref b3), (.int (1 : Int32)), (.ref b10)]))
          refine GoW.step (fun _ k => XS.aconstNull X162.here hx rfl (hb hby at_263) k) ?_
          show GoW _ _ _ _ _ _ _ (T162.setTop (mkF m 264 #[.val (.int qc), .val (.int qf), .val (.int (2 : Int32)), .val (.int fro), .val (.int jnk), .val (.ref b3), .val (.ref b10), .val (.ref b34), .val (.ref b60), .val (.ref b10), .val (.ref b34), .val (.int (1 : Int32)), .unset] [.null, (.ref b3), (.int (1 : Int32)), (.ref b10)]))
          refine GoW.step (fun _ k => XS.iloadN X162.here hx rfl (hb hby at_264) rfl  k) ?_
          show GoW _ _ _ _ _ _ _ (T162.setTop (mkF m 265 #[.val (.int qc), .val (.int qf), .val (.int (2 : Int32)), .val (.int fro), .val (.int jnk), .val (.ref b3), .val (.ref b10), .val (.ref b34), .val (.ref b60), .val (.ref b10), .val (.ref b34), .val (.int (1 : Int32)), .unset] [(.int (2 : Int32)), .null, (.ref b3), (.int (1 : Int32)), (.ref b10)]))
          refine GoW.step (fun _ k => XS.iconst X162.here hx rfl (hb hby at_265) k) ?_
          show GoW _ _ _ _ _ _ _ (T162.setTop (mkF m 266 #[.val (.int qc), .val (.int qf), .val (.int (2 : Int32)), .val (.int fro), .val (.int jnk), .val (.ref b3), .val (.ref b10), .val (.ref b34), .val (.ref b60), .val (.ref b10), .val (.ref b34), .val (.int (1 : Int32)), .unset] [(.int (2 : Int32)), (.int (2 : Int32)), .null, (.ref b3), (.int (1 : Int32)), (.ref b10)]))
          have hc266 : ¬ ((2 : Int32) < (2 : Int32)) := hc132
          refine GoW.step (fun _ k => XS.icmpNo X162.here hx rfl (hb hby at_266) rfl (flt hc266).1 k) ?_
          show GoW _ _ _ _ _ _ _ (T162.setTop (mkF m 269 #[.val (.int qc), .val (.int qf), .val (.int (2 : Int32)), .val (.int fro), .val (.int jnk), .val (.ref b3), .val (.ref b10), .val (.ref b34), .val (.ref b60), .val (.ref b10), .val (.ref b34), .val (.int (1 : Int32)), .unset] [.null, (.ref b3), (.int (1 : Int32)), (.ref b10)]))
          refine GoW.step (fun _ k => XS.aload X162.here hx rfl (hb hby at_269) rfl rfl  k) ?_
          show GoW _ _ _ _ _ _ _ (T162.setTop (mkF m 271 #[.val (.int qc), .val (.int qf), .val (.int (2 : Int32)), .val (.int fro), .val (.int jnk), .val (.ref b3), .val (.ref b10), .val (.ref b34), .val (.ref b60), .val (.ref b10), .val (.ref b34), .val (.int (1 : Int32)), .unset] [(.ref b34), .null, (.ref b3), (.int (1 : Int32)), (.ref b10)]))
          refine GoW.step (fun _ k => XS.goto X162.here hx rfl (pc0 := 271) (pc' := 275) rfl (hb hby at_271) (by decide) (by decide) k) ?_
          show GoW _ _ _ _ _ _ _ (T162.setTop (mkF m 275 #[.val (.int qc), .val (.int qf), .val (.int (2 : Int32)), .val (.int fro), .val (.int jnk), .val (.ref b3), .val (.ref b10), .val (.ref b34), .val (.ref b60), .val (.ref b10), .val (.ref b34), .val (.int (1 : Int32)), .unset] [(.ref b34), .null, (.ref b3), (.int (1 : Int32)), (.ref b10)]))
          have pq163 : Value.null.isRef = true := (by first | assumption | rfl | decide)
          have pq164 : (Value.ref b34).isRef = true := (by first | assumption | rfl | decide)
          have pq165 : (1 : Int32) = (1 : Int32) := rfl
          obtain ⟨_, _, ⟨T166, L166, k166, n166⟩, -, X166, ⟨Lc166, hQ166, l166, y166, z166⟩, st166⟩ := Jvm.LawKit.callS X162 hx (y := (⟨"com/example/steward/steward/runtime/GroupAddPinLaw", "linked", "(Lcom/example/steward/steward/runtime/Agent;ZLcom/example/steward/steward/runtime/Group;Lcom/example/steward/steward/runtime/Agent;Lcom/example/steward/steward/runtime/Agent;)Z"⟩ : MethodName)) hown (mvT hZ (hw _ (List.mem_of_getElem? (i := 64) rfl))) (mvT hZ (hw _ (List.mem_of_getElem? (i := 65) rfl))) (mvT hZ (hw _ (List.mem_of_getElem? (i := 66) rfl))) (mvT hZ (hw _ (List.mem_of_getElem? (i := 67) rfl))) (by decide) (backOf (W := 0) (rmli1 l Z aZ hw [] b10 (1 : Int32) b3 Value.null (Value.ref b34) T156.heap n0 z157 pq163 pq164 c156_7 c156_8 c156_6 pq165) hZ (hw _ (List.mem_of_getElem? (i := 67) rfl)) (hw _ (List.mem_of_getElem? (i := 66) rfl)) (by decide) (by decide)) (g := (mkF m 275 #[.val (.int qc), .val (.int qf), .val (.int (2 : Int32)), .val (.int fro), .val (.int jnk), .val (.ref b3), .val (.ref b10), .val (.ref b34), .val (.ref b60), .val (.ref b10), .val (.ref b34), .val (.int (1 : Int32)), .unset] [(.ref b34), .null, (.ref b3), (.int (1 : Int32)), (.ref b10)])) rfl (by rw [hml]; rfl) (argsL := [(.ref b10), (.int (1 : Int32)), (.ref b3), .null, (.ref b34)]) (rest := []) (lenOf pd_6 rfl) rfl (by show 2 * 0 + _ ≤ _; exact Nat.le_of_eq rfl) (hb hby at_275) (fun _ _ => ⟨rfl, e162, (by decide : 16 + 0 ≤ _), (by decide : 74 + 0 ≤ _)⟩)
          dsimp only [Pt.U, Pt.locs, Pt.cells, Pt.slots] at X166 l166 y166 z166 st166 hQ166
          subst l166 y166 z166
          obtain ⟨rfl, Nq166, e166⟩ := hQ166
          have N166 := Fr.app N162 Nq166
          refine GoW.step st166 ?_
          show GoW _ _ _ _ _ _ _ (T166.setTop (mkF m 278 #[.val (.int qc), .val (.int qf), .val (.int (2 : Int32)), .val (.int fro), .val (.int jnk), .val (.ref b3), .val (.ref b10), .val (.ref b34), .val (.ref b60), .val (.ref b10), .val (.ref b34), .val (.int (1 : Int32)), .unset] [(.int (1 : Int32))]))
          have hc278 : ¬ ((1 : Int32) = (0 : Int32)) := hc246
          refine GoW.step (fun _ k => XS.ifNo X166.here hx rfl (hb hby at_278) rfl ((if0 _ _).trans (feq hc278).1) k) ?_
          show GoW _ _ _ _ _ _ _ (T166.setTop (mkF m 281 #[.val (.int qc), .val (.int qf), .val (.int (2 : Int32)), .val (.int fro), .val (.int jnk), .val (.ref b3), .val (.ref b10), .val (.ref b34), .val (.ref b60), .val (.ref b10), .val (.ref b34), .val (.int (1 : Int32)), .unset] []))
          refine GoW.step (fun _ k => XS.iconst X166.here hx rfl (hb hby at_281) k) ?_
          show GoW _ _ _ _ _ _ _ (T166.setTop (mkF m 282 #[.val (.int qc), .val (.int qf), .val (.int (2 : Int32)), .val (.int fro), .val (.int jnk), .val (.ref b3), .val (.ref b10), .val (.ref b34), .val (.ref b60), .val (.ref b10), .val (.ref b34), .val (.int (1 : Int32)), .unset] [(.int (1 : Int32))]))
          refine GoW.step (fun _ k => XS.goto X166.here hx rfl (pc0 := 282) (pc' := 286) rfl (hb hby at_282) (by decide) (by decide) k) ?_
          show GoW _ _ _ _ _ _ _ (T166.setTop (mkF m 286 #[.val (.int qc), .val (.int qf), .val (.int (2 : Int32)), .val (.int fro), .val (.int jnk), .val (.ref b3), .val (.ref b10), .val (.ref b34), .val (.ref b60), .val (.ref b10), .val (.ref b34), .val (.int (1 : Int32)), .unset] [(.int (1 : Int32))]))
          refine GoW.step (fun _ k => XS.istore X166.here hx rfl (hb hby at_286) rfl (l' := #[.val (.int qc), .val (.int qf), .val (.int (2 : Int32)), .val (.int fro), .val (.int jnk), .val (.ref b3), .val (.ref b10), .val (.ref b34), .val (.ref b60), .val (.ref b10), .val (.ref b34), .val (.int (1 : Int32)), .unset]) rfl k) ?_
          show GoW _ _ _ _ _ _ _ (T166.setTop (mkF m 288 #[.val (.int qc), .val (.int qf), .val (.int (2 : Int32)), .val (.int fro), .val (.int jnk), .val (.ref b3), .val (.ref b10), .val (.ref b34), .val (.ref b60), .val (.ref b10), .val (.ref b34), .val (.int (1 : Int32)), .unset] []))
          refine GoW.step (fun _ k => XS.iload X166.here hx rfl (hb hby at_288) rfl  k) ?_
          show GoW _ _ _ _ _ _ _ (T166.setTop (mkF m 290 #[.val (.int qc), .val (.int qf), .val (.int (2 : Int32)), .val (.int fro), .val (.int jnk), .val (.ref b3), .val (.ref b10), .val (.ref b34), .val (.ref b60), .val (.ref b10), .val (.ref b34), .val (.int (1 : Int32)), .unset] [(.int (1 : Int32))]))
          have hc290 : ¬ ((1 : Int32) = (0 : Int32)) := hc278
          refine GoW.step (fun _ k => XS.ifNo X166.here hx rfl (hb hby at_290) rfl ((if0 _ _).trans (feq hc290).1) k) ?_
          show GoW _ _ _ _ _ _ _ (T166.setTop (mkF m 293 #[.val (.int qc), .val (.int qf), .val (.int (2 : Int32)), .val (.int fro), .val (.int jnk), .val (.ref b3), .val (.ref b10), .val (.ref b34), .val (.ref b60), .val (.ref b10), .val (.ref b34), .val (.int (1 : Int32)), .unset] []))
          refine GoW.step (fun _ k => XS.aload X166.here hx rfl (hb hby at_293) rfl rfl  k) ?_
          show GoW _ _ _ _ _ _ _ (T166.setTop (mkF m 295 #[.val (.int qc), .val (.int qf), .val (.int (2 : Int32)), .val (.int fro), .val (.int jnk), .val (.ref b3), .val (.ref b10), .val (.ref b34), .val (.ref b60), .val (.ref b10), .val (.ref b34), .val (.int (1 : Int32)), .unset] [(.ref b34)]))
          refine GoW.step (fun _ k => XS.iloadN X166.here hx rfl (hb hby at_295) rfl  k) ?_
          show GoW _ _ _ _ _ _ _ (T166.setTop (mkF m 296 #[.val (.int qc), .val (.int qf), .val (.int (2 : Int32)), .val (.int fro), .val (.int jnk), .val (.ref b3), .val (.ref b10), .val (.ref b34), .val (.ref b60), .val (.ref b10), .val (.ref b34), .val (.int (1 : Int32)), .unset] [(.int (2 : Int32)), (.ref b34)]))
          refine GoW.step (fun _ k => XS.iconst X166.here hx rfl (hb hby at_296) k) ?_
          show GoW _ _ _ _ _ _ _ (T166.setTop (mkF m 297 #[.val (.int qc), .val (.int qf), .val (.int (2 : Int32)), .val (.int fro), .val (.int jnk), .val (.ref b3), .val (.ref b10), .val (.ref b34), .val (.ref b60), .val (.ref b10), .val (.ref b34), .val (.int (1 : Int32)), .unset] [(.int (2 : Int32)), (.int (2 : Int32)), (.ref b34)]))
          have hc297 : ¬ ((2 : Int32) < (2 : Int32)) := hc266
          refine GoW.step (fun _ k => XS.icmpNo X166.here hx rfl (hb hby at_297) rfl (flt hc297).1 k) ?_
          show GoW _ _ _ _ _ _ _ (T166.setTop (mkF m 300 #[.val (.int qc), .val (.int qf), .val (.int (2 : Int32)), .val (.int fro), .val (.int jnk), .val (.ref b3), .val (.ref b10), .val (.ref b34), .val (.ref b60), .val (.ref b10), .val (.ref b34), .val (.int (1 : Int32)), .unset] [(.ref b34)]))
          refine GoW.step (fun _ k => XS.iconst X166.here hx rfl (hb hby at_300) k) ?_
          show GoW _ _ _ _ _ _ _ (T166.setTop (mkF m 301 #[.val (.int qc), .val (.int qf), .val (.int (2 : Int32)), .val (.int fro), .val (.int jnk), .val (.ref b3), .val (.ref b10), .val (.ref b34), .val (.ref b60), .val (.ref b10), .val (.ref b34), .val (.int (1 : Int32)), .unset] [(.int (1 : Int32)), (.ref b34)]))
          refine GoW.step (fun _ k => XS.goto X166.here hx rfl (pc0 := 301) (pc' := 305) rfl (hb hby at_301) (by decide) (by decide) k) ?_
          show GoW _ _ _ _ _ _ _ (T166.setTop (mkF m 305 #[.val (.int qc), .val (.int qf), .val (.int (2 : Int32)), .val (.int fro), .val (.int jnk), .val (.ref b3), .val (.ref b10), .val (.ref b34), .val (.ref b60), .val (.ref b10), .val (.ref b34), .val (.int (1 : Int32)), .unset] [(.int (1 : Int32)), (.ref b34)]))
          refine GoW.step (fun _ k => XS.aload X166.here hx rfl (hb hby at_305) rfl rfl  k) ?_
          show GoW _ _ _ _ _ _ _ (T166.setTop (mkF m 307 #[.val (.int qc), .val (.int qf), .val (.int (2 : Int32)), .val (.int fro), .val (.int jnk), .val (.ref b3), .val (.ref b10), .val (.ref b34), .val (.ref b60), .val (.ref b10), .val (.ref b34), .val (.int (1 : Int32)), .unset] [(.ref b3), (.int (1 : Int32)), (.ref b34)]))
          refine GoW.step (fun _ k => XS.aload X166.here hx rfl (hb hby at_307) rfl rfl  k) ?_
          show GoW _ _ _ _ _ _ _ (T166.setTop (mkF m 309 #[.val (.int qc), .val (.int qf), .val (.int (2 : Int32)), .val (.int fro), .val (.int jnk), .val (.ref b3), .val (.ref b10), .val (.ref b34), .val (.ref b60), .val (.ref b10), .val (.ref b34), .val (.int (1 : Int32)), .unset] [(.ref b10), (.ref b3), (.int (1 : Int32)), (.ref b34)]))
          refine GoW.step (fun _ k => XS.iloadN X166.here hx rfl (hb hby at_309) rfl  k) ?_
          show GoW _ _ _ _ _ _ _ (T166.setTop (mkF m 310 #[.val (.int qc), .val (.int qf), .val (.int (2 : Int32)), .val (.int fro), .val (.int jnk), .val (.ref b3), .val (.ref b10), .val (.ref b34), .val (.ref b60), .val (.ref b10), .val (.ref b34), .val (.int (1 : Int32)), .unset] [(.int (2 : Int32)), (.ref b10), (.ref b3), (.int (1 : Int32)), (.ref b34)]))
          refine GoW.step (fun _ k => XS.iconst X166.here hx rfl (hb hby at_310) k) ?_
          show GoW _ _ _ _ _ _ _ (T166.setTop (mkF m 311 #[.val (.int qc), .val (.int qf), .val (.int (2 : Int32)), .val (.int fro), .val (.int jnk), .val (.ref b3), .val (.ref b10), .val (.ref b34), .val (.ref b60), .val (.ref b10), .val (.ref b34), .val (.int (1 : Int32)), .unset] [(.int (3 : Int32)), (.int (2 : Int32)), (.ref b10), (.ref b3), (.int (1 : Int32)), (.ref b34)]))
          have hc311 : (2 : Int32) < (3 : Int32) := hc144
          refine GoW.step (fun _ k => XS.icmpYes X166.here hx rfl (pc0 := 311) (pc' := 319) rfl (hb hby at_311) rfl (tlt hc311).1 (by decide) (by decide) k) ?_
          show GoW _ _ _ _ _ _ _ (T166.setTop (mkF m 319 #[.val (.int qc), .val (.int qf), .val (.int (2 : Int32)), .val (.int fro), .val (.int jnk), .val (.ref b3), .val (.ref b10), .val (.ref b34), .val (.ref b60), .val (.ref b10), .val (.ref b34), .val (.int (1 : Int32)), .unset] [(.ref b10), (.ref b3), (.int (1 : Int32)), (.ref b34)]))
          refine GoW.step (fun _ k => XS.aconstNull X166.here hx rfl (hb hby at_319) k) ?_
          show GoW _ _ _ _ _ _ _ (T166.setTop (mkF m 320 #[.val (.int qc), .val (.int qf), .val (.int (2 : Int32)), .val (.int fro), .val (.int jnk), .val (.ref b3), .val (.ref b10), .val (.ref b34), .val (.ref b60), .val (.ref b10), .val (.ref b34), .val (.int (1 : Int32)), .unset] [.null, (.ref b10), (.ref b3), (.int (1 : Int32)), (.ref b34)]))
          have pq167 : (Value.ref b10).isRef = true := (by first | assumption | rfl | decide)
          have pq168 : Value.null.isRef = true := (by first | assumption | rfl | decide)
          have pq169 : (1 : Int32) = (1 : Int32) := rfl
          obtain ⟨_, _, ⟨T170, L170, k170, n170⟩, -, X170, ⟨Lc170, hQ170, l170, y170, z170⟩, st170⟩ := Jvm.LawKit.callS X166 hx (y := (⟨"com/example/steward/steward/runtime/GroupAddPinLaw", "linked", "(Lcom/example/steward/steward/runtime/Agent;ZLcom/example/steward/steward/runtime/Group;Lcom/example/steward/steward/runtime/Agent;Lcom/example/steward/steward/runtime/Agent;)Z"⟩ : MethodName)) hown (mvT hZ (hw _ (List.mem_of_getElem? (i := 64) rfl))) (mvT hZ (hw _ (List.mem_of_getElem? (i := 65) rfl))) (mvT hZ (hw _ (List.mem_of_getElem? (i := 66) rfl))) (mvT hZ (hw _ (List.mem_of_getElem? (i := 67) rfl))) (by decide) (backOf (W := 0) (rmli1 l Z aZ hw [] b34 (1 : Int32) b3 (Value.ref b10) Value.null T156.heap n0 z157 pq167 pq168 c156_3 c156_4 c156_5 pq169) hZ (hw _ (List.mem_of_getElem? (i := 67) rfl)) (hw _ (List.mem_of_getElem? (i := 66) rfl)) (by decide) (by decide)) (g := (mkF m 320 #[.val (.int qc), .val (.int qf), .val (.int (2 : Int32)), .val (.int fro), .val (.int jnk), .val (.ref b3), .val (.ref b10), .val (.ref b34), .val (.ref b60), .val (.ref b10), .val (.ref b34), .val (.int (1 : Int32)), .unset] [.null, (.ref b10), (.ref b3), (.int (1 : Int32)), (.ref b34)])) rfl (by rw [hml]; rfl) (argsL := [(.ref b34), (.int (1 : Int32)), (.ref b3), (.ref b10), .null]) (rest := []) (lenOf pd_6 rfl) rfl (by show 2 * 0 + _ ≤ _; exact Nat.le_of_eq rfl) (hb hby at_320) (fun _ _ => ⟨rfl, e166, (by decide : 16 + 0 ≤ _), (by decide : 74 + 0 ≤ _)⟩)
          dsimp only [Pt.U, Pt.locs, Pt.cells, Pt.slots] at X170 l170 y170 z170 st170 hQ170
          subst l170 y170 z170
          obtain ⟨rfl, Nq170, e170⟩ := hQ170
          have N170 := Fr.app N166 Nq170
          refine GoW.step st170 ?_
          show GoW _ _ _ _ _ _ _ (T170.setTop (mkF m 323 #[.val (.int qc), .val (.int qf), .val (.int (2 : Int32)), .val (.int fro), .val (.int jnk), .val (.ref b3), .val (.ref b10), .val (.ref b34), .val (.ref b60), .val (.ref b10), .val (.ref b34), .val (.int (1 : Int32)), .unset] [(.int (1 : Int32))]))
          have hc323 : ¬ ((1 : Int32) = (0 : Int32)) := hc290
          refine GoW.step (fun _ k => XS.ifNo X170.here hx rfl (hb hby at_323) rfl ((if0 _ _).trans (feq hc323).1) k) ?_
          show GoW _ _ _ _ _ _ _ (T170.setTop (mkF m 326 #[.val (.int qc), .val (.int qf), .val (.int (2 : Int32)), .val (.int fro), .val (.int jnk), .val (.ref b3), .val (.ref b10), .val (.ref b34), .val (.ref b60), .val (.ref b10), .val (.ref b34), .val (.int (1 : Int32)), .unset] []))
          refine GoW.step (fun _ k => XS.iconst X170.here hx rfl (hb hby at_326) k) ?_
          show GoW _ _ _ _ _ _ _ (T170.setTop (mkF m 327 #[.val (.int qc), .val (.int qf), .val (.int (2 : Int32)), .val (.int fro), .val (.int jnk), .val (.ref b3), .val (.ref b10), .val (.ref b34), .val (.ref b60), .val (.ref b10), .val (.ref b34), .val (.int (1 : Int32)), .unset] [(.int (1 : Int32))]))
          refine GoW.step (fun _ k => XS.goto X170.here hx rfl (pc0 := 327) (pc' := 331) rfl (hb hby at_327) (by decide) (by decide) k) ?_
          show GoW _ _ _ _ _ _ _ (T170.setTop (mkF m 331 #[.val (.int qc), .val (.int qf), .val (.int (2 : Int32)), .val (.int fro), .val (.int jnk), .val (.ref b3), .val (.ref b10), .val (.ref b34), .val (.ref b60), .val (.ref b10), .val (.ref b34), .val (.int (1 : Int32)), .unset] [(.int (1 : Int32))]))
          refine GoW.step (fun _ k => XS.istore X170.here hx rfl (hb hby at_331) rfl (l' := #[.val (.int qc), .val (.int qf), .val (.int (2 : Int32)), .val (.int fro), .val (.int jnk), .val (.ref b3), .val (.ref b10), .val (.ref b34), .val (.ref b60), .val (.ref b10), .val (.ref b34), .val (.int (1 : Int32)), .unset]) rfl k) ?_
          show GoW _ _ _ _ _ _ _ (T170.setTop (mkF m 333 #[.val (.int qc), .val (.int qf), .val (.int (2 : Int32)), .val (.int fro), .val (.int jnk), .val (.ref b3), .val (.ref b10), .val (.ref b34), .val (.ref b60), .val (.ref b10), .val (.ref b34), .val (.int (1 : Int32)), .unset] []))
          refine GoW.step (fun _ k => XS.iload X170.here hx rfl (hb hby at_333) rfl  k) ?_
          show GoW _ _ _ _ _ _ _ (T170.setTop (mkF m 335 #[.val (.int qc), .val (.int qf), .val (.int (2 : Int32)), .val (.int fro), .val (.int jnk), .val (.ref b3), .val (.ref b10), .val (.ref b34), .val (.ref b60), .val (.ref b10), .val (.ref b34), .val (.int (1 : Int32)), .unset] [(.int (1 : Int32))]))
          have hc335 : ¬ ((1 : Int32) = (0 : Int32)) := hc323
          refine GoW.step (fun _ k => XS.ifNo X170.here hx rfl (hb hby at_335) rfl ((if0 _ _).trans (feq hc335).1) k) ?_
          show GoW _ _ _ _ _ _ _ (T170.setTop (mkF m 338 #[.val (.int qc), .val (.int qf), .val (.int (2 : Int32)), .val (.int fro), .val (.int jnk), .val (.ref b3), .val (.ref b10), .val (.ref b34), .val (.ref b60), .val (.ref b10), .val (.ref b34), .val (.int (1 : Int32)), .unset] []))
          refine GoW.step (fun _ k => XS.aload X170.here hx rfl (hb hby at_338) rfl rfl  k) ?_
          show GoW _ _ _ _ _ _ _ (T170.setTop (mkF m 340 #[.val (.int qc), .val (.int qf), .val (.int (2 : Int32)), .val (.int fro), .val (.int jnk), .val (.ref b3), .val (.ref b10), .val (.ref b34), .val (.ref b60), .val (.ref b10), .val (.ref b34), .val (.int (1 : Int32)), .unset] [(.ref b60)]))
          refine GoW.step (fun _ k => XS.iloadN X170.here hx rfl (hb hby at_340) rfl  k) ?_
          show GoW _ _ _ _ _ _ _ (T170.setTop (mkF m 341 #[.val (.int qc), .val (.int qf), .val (.int (2 : Int32)), .val (.int fro), .val (.int jnk), .val (.ref b3), .val (.ref b10), .val (.ref b34), .val (.ref b60), .val (.ref b10), .val (.ref b34), .val (.int (1 : Int32)), .unset] [(.int (2 : Int32)), (.ref b60)]))
          refine GoW.step (fun _ k => XS.iconst X170.here hx rfl (hb hby at_341) k) ?_
          show GoW _ _ _ _ _ _ _ (T170.setTop (mkF m 342 #[.val (.int qc), .val (.int qf), .val (.int (2 : Int32)), .val (.int fro), .val (.int jnk), .val (.ref b3), .val (.ref b10), .val (.ref b34), .val (.ref b60), .val (.ref b10), .val (.ref b34), .val (.int (1 : Int32)), .unset] [(.int (3 : Int32)), (.int (2 : Int32)), (.ref b60)]))
          have hc342 : (2 : Int32) < (3 : Int32) := hc311
          refine GoW.step (fun _ k => XS.icmpYes X170.here hx rfl (pc0 := 342) (pc' := 349) rfl (hb hby at_342) rfl (tlt hc342).1 (by decide) (by decide) k) ?_
          show GoW _ _ _ _ _ _ _ (T170.setTop (mkF m 349 #[.val (.int qc), .val (.int qf), .val (.int (2 : Int32)), .val (.int fro), .val (.int jnk), .val (.ref b3), .val (.ref b10), .val (.ref b34), .val (.ref b60), .val (.ref b10), .val (.ref b34), .val (.int (1 : Int32)), .unset] [(.ref b60)]))
          refine GoW.step (fun _ k => XS.iconst X170.here hx rfl (hb hby at_349) k) ?_
          show GoW _ _ _ _ _ _ _ (T170.setTop (mkF m 350 #[.val (.int qc), .val (.int qf), .val (.int (2 : Int32)), .val (.int fro), .val (.int jnk), .val (.ref b3), .val (.ref b10), .val (.ref b34), .val (.ref b60), .val (.ref b10), .val (.ref b34), .val (.int (1 : Int32)), .unset] [(.int (0 : Int32)), (.ref b60)]))
          refine GoW.step (fun _ k => XS.aload X170.here hx rfl (hb hby at_350) rfl rfl  k) ?_
          show GoW _ _ _ _ _ _ _ (T170.setTop (mkF m 352 #[.val (.int qc), .val (.int qf), .val (.int (2 : Int32)), .val (.int fro), .val (.int jnk), .val (.ref b3), .val (.ref b10), .val (.ref b34), .val (.ref b60), .val (.ref b10), .val (.ref b34), .val (.int (1 : Int32)), .unset] [(.ref b3), (.int (0 : Int32)), (.ref b60)]))
          refine GoW.step (fun _ k => XS.aload X170.here hx rfl (hb hby at_352) rfl rfl  k) ?_
          show GoW _ _ _ _ _ _ _ (T170.setTop (mkF m 354 #[.val (.int qc), .val (.int qf), .val (.int (2 : Int32)), .val (.int fro), .val (.int jnk), .val (.ref b3), .val (.ref b10), .val (.ref b34), .val (.ref b60), .val (.ref b10), .val (.ref b34), .val (.int (1 : Int32)), .unset] [(.ref b34), (.ref b3), (.int (0 : Int32)), (.ref b60)]))
          refine GoW.step (fun _ k => XS.aconstNull X170.here hx rfl (hb hby at_354) k) ?_
          show GoW _ _ _ _ _ _ _ (T170.setTop (mkF m 355 #[.val (.int qc), .val (.int qf), .val (.int (2 : Int32)), .val (.int fro), .val (.int jnk), .val (.ref b3), .val (.ref b10), .val (.ref b34), .val (.ref b60), .val (.ref b10), .val (.ref b34), .val (.int (1 : Int32)), .unset] [.null, (.ref b34), (.ref b3), (.int (0 : Int32)), (.ref b60)]))
          have pq171 : (Value.ref b34).isRef = true := (by first | assumption | rfl | decide)
          have pq172 : Value.null.isRef = true := (by first | assumption | rfl | decide)
          have f173 : Fld Z T156.heap b60 "com/example/steward/steward/runtime/Agent" "group" "Lcom/example/steward/steward/runtime/Group;" .null := ((jf88_6.keep K148 (ninS (Ne.symm ne62) (ninS (Ne.symm ne64) nin0))).keep K156 (ninS (Ne.symm ne62) (ninS (Ne.symm ne65) (ninS (Ne.symm ne64) nin0))))
          have pq174 : (0 : Int32) = (0 : Int32) := rfl
          obtain ⟨_, _, ⟨T175, L175, k175, n175⟩, -, X175, ⟨Lc175, hQ175, l175, y175, z175⟩, st175⟩ := Jvm.LawKit.callS X170 hx (y := (⟨"com/example/steward/steward/runtime/GroupAddPinLaw", "linked", "(Lcom/example/steward/steward/runtime/Agent;ZLcom/example/steward/steward/runtime/Group;Lcom/example/steward/steward/runtime/Agent;Lcom/example/steward/steward/runtime/Agent;)Z"⟩ : MethodName)) hown (mvT hZ (hw _ (List.mem_of_getElem? (i := 64) rfl))) (mvT hZ (hw _ (List.mem_of_getElem? (i := 65) rfl))) (mvT hZ (hw _ (List.mem_of_getElem? (i := 66) rfl))) (mvT hZ (hw _ (List.mem_of_getElem? (i := 67) rfl))) (by decide) (backOf (W := 0) (rmli0 l Z aZ hw [] b60 (0 : Int32) b3 (Value.ref b34) Value.null T156.heap n0 z157 pq171 pq172 f173 pq174) hZ (hw _ (List.mem_of_getElem? (i := 67) rfl)) (hw _ (List.mem_of_getElem? (i := 66) rfl)) (by decide) (by decide)) (g := (mkF m 355 #[.val (.int qc), .val (.int qf), .val (.int (2 : Int32)), .val (.int fro), .val (.int jnk), .val (.ref b3), .val (.ref b10), .val (.ref b34), .val (.ref b60), .val (.ref b10), .val (.ref b34), .val (.int (1 : Int32)), .unset] [.null, (.ref b34), (.ref b3), (.int (0 : Int32)), (.ref b60)])) rfl (by rw [hml]; rfl) (argsL := [(.ref b60), (.int (0 : Int32)), (.ref b3), (.ref b34), .null]) (rest := []) (lenOf pd_6 rfl) rfl (by show 2 * 0 + _ ≤ _; exact Nat.le_of_eq rfl) (hb hby at_355) (fun _ _ => ⟨rfl, e170, (by decide : 16 + 0 ≤ _), (by decide : 74 + 0 ≤ _)⟩)
          dsimp only [Pt.U, Pt.locs, Pt.cells, Pt.slots] at X175 l175 y175 z175 st175 hQ175
          subst l175 y175 z175
          obtain ⟨rfl, Nq175, e175⟩ := hQ175
          have N175 := Fr.app N170 Nq175
          refine GoW.step st175 ?_
          show GoW _ _ _ _ _ _ _ (T175.setTop (mkF m 358 #[.val (.int qc), .val (.int qf), .val (.int (2 : Int32)), .val (.int fro), .val (.int jnk), .val (.ref b3), .val (.ref b10), .val (.ref b34), .val (.ref b60), .val (.ref b10), .val (.ref b34), .val (.int (1 : Int32)), .unset] [(.int (1 : Int32))]))
          have hc358 : ¬ ((1 : Int32) = (0 : Int32)) := hc335
          refine GoW.step (fun _ k => XS.ifNo X175.here hx rfl (hb hby at_358) rfl ((if0 _ _).trans (feq hc358).1) k) ?_
          show GoW _ _ _ _ _ _ _ (T175.setTop (mkF m 361 #[.val (.int qc), .val (.int qf), .val (.int (2 : Int32)), .val (.int fro), .val (.int jnk), .val (.ref b3), .val (.ref b10), .val (.ref b34), .val (.ref b60), .val (.ref b10), .val (.ref b34), .val (.int (1 : Int32)), .unset] []))
          refine GoW.step (fun _ k => XS.iconst X175.here hx rfl (hb hby at_361) k) ?_
          show GoW _ _ _ _ _ _ _ (T175.setTop (mkF m 362 #[.val (.int qc), .val (.int qf), .val (.int (2 : Int32)), .val (.int fro), .val (.int jnk), .val (.ref b3), .val (.ref b10), .val (.ref b34), .val (.ref b60), .val (.ref b10), .val (.ref b34), .val (.int (1 : Int32)), .unset] [(.int (1 : Int32))]))
          refine GoW.step (fun _ k => XS.goto X175.here hx rfl (pc0 := 362) (pc' := 366) rfl (hb hby at_362) (by decide) (by decide) k) ?_
          show GoW _ _ _ _ _ _ _ (T175.setTop (mkF m 366 #[.val (.int qc), .val (.int qf), .val (.int (2 : Int32)), .val (.int fro), .val (.int jnk), .val (.ref b3), .val (.ref b10), .val (.ref b34), .val (.ref b60), .val (.ref b10), .val (.ref b34), .val (.int (1 : Int32)), .unset] [(.int (1 : Int32))]))
          refine GoW.step (fun _ k => XS.istore X175.here hx rfl (hb hby at_366) rfl (l' := #[.val (.int qc), .val (.int qf), .val (.int (2 : Int32)), .val (.int fro), .val (.int jnk), .val (.ref b3), .val (.ref b10), .val (.ref b34), .val (.ref b60), .val (.ref b10), .val (.ref b34), .val (.int (1 : Int32)), .unset]) rfl k) ?_
          show GoW _ _ _ _ _ _ _ (T175.setTop (mkF m 368 #[.val (.int qc), .val (.int qf), .val (.int (2 : Int32)), .val (.int fro), .val (.int jnk), .val (.ref b3), .val (.ref b10), .val (.ref b34), .val (.ref b60), .val (.ref b10), .val (.ref b34), .val (.int (1 : Int32)), .unset] []))
          refine GoW.step (fun _ k => XS.iloadN X175.here hx rfl (hb hby at_368) rfl  k) ?_
          show GoW _ _ _ _ _ _ _ (T175.setTop (mkF m 369 #[.val (.int qc), .val (.int qf), .val (.int (2 : Int32)), .val (.int fro), .val (.int jnk), .val (.ref b3), .val (.ref b10), .val (.ref b34), .val (.ref b60), .val (.ref b10), .val (.ref b34), .val (.int (1 : Int32)), .unset] [(.int fro)]))
          by_cases hc369 : fro = (0 : Int32)
          · skip
            refine GoW.step (fun _ k => XS.ifYes X175.here hx rfl (pc0 := 369) (pc' := 380) rfl (hb hby at_369) rfl ((if0 _ _).trans (teq hc369).1) (by decide) (by decide) k) ?_
            show GoW _ _ _ _ _ _ _ (T175.setTop (mkF m 380 #[.val (.int qc), .val (.int qf), .val (.int (2 : Int32)), .val (.int fro), .val (.int jnk), .val (.ref b3), .val (.ref b10), .val (.ref b34), .val (.ref b60), .val (.ref b10), .val (.ref b34), .val (.int (1 : Int32)), .unset] []))
            refine GoW.step (fun _ k => XS.aload X175.here hx rfl (hb hby at_380) rfl rfl  k) ?_
            show GoW _ _ _ _ _ _ _ (T175.setTop (mkF m 382 #[.val (.int qc), .val (.int qf), .val (.int (2 : Int32)), .val (.int fro), .val (.int jnk), .val (.ref b3), .val (.ref b10), .val (.ref b34), .val (.ref b60), .val (.ref b10), .val (.ref b34), .val (.int (1 : Int32)), .unset] [(.ref b3)]))
            obtain ⟨cq176, kq176, q176a, q176b, q176c⟩ := isOf hZ e175 c156_0
            obtain ⟨_, _, ⟨T176, L176, k176, n176⟩, -, X176, ⟨Lc176, hQ176, l176, y176, z176⟩, st176⟩ := X175.virtualBack hx (y := (⟨"com/example/steward/steward/runtime/Group", "pollLast", "()Lcom/example/steward/steward/runtime/Agent;"⟩ : MethodName)) (z := (⟨"com/example/steward/steward/runtime/Group", "pollLast", "()Lcom/example/steward/steward/runtime/Agent;"⟩ : MethodName)) hown (mvT hZ (hw _ (List.mem_of_getElem? (i := 90) rfl))) (mvT hZ (hw _ (List.mem_of_getElem? (i := 91) rfl))) (notFace_of_selects (args := #[]) (mvT hZ (hw _ (List.mem_of_getElem? (i := 93) rfl)))) (mvT hZ (hw _ (List.mem_of_getElem? (i := 93) rfl))) (mvT hZ (hw _ (List.mem_of_getElem? (i := 92) rfl))) (by decide) (backOf (W := 0) (rmpollLast2 l Z aZ hw [] b3 b34 (Value.ref b3) (Value.ref b10) b10 (Value.ref b34) (Value.ref b3) Value.null T156.heap n0 z157 c156_10 c156_0 c156_1 c156_3 c156_10 gn3 gn34 c156_9 c156_4 c156_5 c156_2 c156_6 c156_7 c156_8 (Ne.symm ne37) gn10) hZ (hw _ (List.mem_of_getElem? (i := 94) rfl)) (hw _ (List.mem_of_getElem? (i := 2) rfl)) (by decide) (by decide)) q176a q176c (g := (mkF m 382 #[.val (.int qc), .val (.int qf), .val (.int (2 : Int32)), .val (.int fro), .val (.int jnk), .val (.ref b3), .val (.ref b10), .val (.ref b34), .val (.ref b60), .val (.ref b10), .val (.ref b34), .val (.int (1 : Int32)), .unset] [(.ref b3)])) rfl (by rw [hml]; rfl) (Steps.refl _) (argsL := []) (rest := []) (lenOf pd_5 rfl) rfl (by show 2 * 0 + _ ≤ _; exact Nat.le_of_eq rfl) (hb hby at_382) (fun _ _ => ⟨rfl, e175, (by decide : 16 + 0 ≤ _), (by decide : 74 + 0 ≤ _)⟩)
            dsimp only [Pt.U, Pt.locs, Pt.cells, Pt.slots] at X176 l176 y176 z176 st176 hQ176
            subst l176 y176 z176
            obtain ⟨rfl, Nq176, K176⟩ := hQ176
            have N176 := Fr.app N175 Nq176
            refine GoW.tr st176 ?_
            have z177 : n0 ≤ T176.heap.size := Nat.le_trans z157 K176.1
            have sqz177 : h0.size ≤ T176.heap.size := Nat.le_trans sqz157 K176.1
            have hk179 := Nat.le_trans hk159 K176.1
            show GoW _ _ _ _ _ _ _ (T176.setTop (mkF m 385 #[.val (.int qc), .val (.int qf), .val (.int (2 : Int32)), .val (.int fro), .val (.int jnk), .val (.ref b3), .val (.ref b10), .val (.ref b34), .val (.ref b60), .val (.ref b10), .val (.ref b34), .val (.int (1 : Int32)), .unset] [(.ref b34)]))
            refine GoW.step (fun _ k => XS.astore X176.here hx rfl (hb hby at_385) rfl rfl (l' := #[.val (.int qc), .val (.int qf), .val (.int (2 : Int32)), .val (.int fro), .val (.int jnk), .val (.ref b3), .val (.ref b10), .val (.ref b34), .val (.ref b60), .val (.ref b10), .val (.ref b34), .val (.int (1 : Int32)), .val (.ref b34)]) rfl k) ?_
            show GoW _ _ _ _ _ _ _ (T176.setTop (mkF m 387 #[.val (.int qc), .val (.int qf), .val (.int (2 : Int32)), .val (.int fro), .val (.int jnk), .val (.ref b3), .val (.ref b10), .val (.ref b34), .val (.ref b60), .val (.ref b10), .val (.ref b34), .val (.int (1 : Int32)), .val (.ref b34)] []))
            refine GoW.step (fun _ k => XS.iload X176.here hx rfl (hb hby at_387) rfl  k) ?_
            show GoW _ _ _ _ _ _ _ (T176.setTop (mkF m 389 #[.val (.int qc), .val (.int qf), .val (.int (2 : Int32)), .val (.int fro), .val (.int jnk), .val (.ref b3), .val (.ref b10), .val (.ref b34), .val (.ref b60), .val (.ref b10), .val (.ref b34), .val (.int (1 : Int32)), .val (.ref b34)] [(.int (1 : Int32))]))
            have hc389 : ¬ ((1 : Int32) = (0 : Int32)) := hc358
            refine GoW.step (fun _ k => XS.ifNo X176.here hx rfl (hb hby at_389) rfl ((if0 _ _).trans (feq hc389).1) k) ?_
            show GoW _ _ _ _ _ _ _ (T176.setTop (mkF m 392 #[.val (.int qc), .val (.int qf), .val (.int (2 : Int32)), .val (.int fro), .val (.int jnk), .val (.ref b3), .val (.ref b10), .val (.ref b34), .val (.ref b60), .val (.ref b10), .val (.ref b34), .val (.int (1 : Int32)), .val (.ref b34)] []))
            refine GoW.step (fun _ k => XS.aload X176.here hx rfl (hb hby at_392) rfl rfl  k) ?_
            show GoW _ _ _ _ _ _ _ (T176.setTop (mkF m 394 #[.val (.int qc), .val (.int qf), .val (.int (2 : Int32)), .val (.int fro), .val (.int jnk), .val (.ref b3), .val (.ref b10), .val (.ref b34), .val (.ref b60), .val (.ref b10), .val (.ref b34), .val (.int (1 : Int32)), .val (.ref b34)] [(.ref b34)]))
            refine GoW.step (fun _ k => XS.iloadN X176.here hx rfl (hb hby at_394) rfl  k) ?_
            show GoW _ _ _ _ _ _ _ (T176.setTop (mkF m 395 #[.val (.int qc), .val (.int qf), .val (.int (2 : Int32)), .val (.int fro), .val (.int jnk), .val (.ref b3), .val (.ref b10), .val (.ref b34), .val (.ref b60), .val (.ref b10), .val (.ref b34), .val (.int (1 : Int32)), .val (.ref b34)] [(.int fro), (.ref b34)]))
            have hc395 : fro = (0 : Int32) := hc369
            refine GoW.step (fun _ k => XS.ifYes X176.here hx rfl (pc0 := 395) (pc' := 403) rfl (hb hby at_395) rfl ((if0 _ _).trans (teq hc395).1) (by decide) (by decide) k) ?_
            show GoW _ _ _ _ _ _ _ (T176.setTop (mkF m 403 #[.val (.int qc), .val (.int qf), .val (.int (2 : Int32)), .val (.int fro), .val (.int jnk), .val (.ref b3), .val (.ref b10), .val (.ref b34), .val (.ref b60), .val (.ref b10), .val (.ref b34), .val (.int (1 : Int32)), .val (.ref b34)] [(.ref b34)]))
            refine GoW.step (fun _ k => XS.aload X176.here hx rfl (hb hby at_403) rfl rfl  k) ?_
            show GoW _ _ _ _ _ _ _ (T176.setTop (mkF m 405 #[.val (.int qc), .val (.int qf), .val (.int (2 : Int32)), .val (.int fro), .val (.int jnk), .val (.ref b3), .val (.ref b10), .val (.ref b34), .val (.ref b60), .val (.ref b10), .val (.ref b34), .val (.int (1 : Int32)), .val (.ref b34)] [(.ref b34), (.ref b34)]))
            refine GoW.step (fun _ k => Jvm.RoadKit.acmp (g := (mkF m 405 #[.val (.int qc), .val (.int qf), .val (.int (2 : Int32)), .val (.int fro), .val (.int jnk), .val (.ref b3), .val (.ref b10), .val (.ref b34), .val (.ref b60), .val (.ref b10), .val (.ref b34), .val (.int (1 : Int32)), .val (.ref b34)] [(.ref b34), (.ref b34)])) X176 hx rfl rfl rfl (pc0 := 405) (pc' := 408) (same := true) rfl (hb hby at_405) rfl (decide_eq_true rfl) (by decide) (by decide) k) ?_
            show GoW _ _ _ _ _ _ _ (T176.setTop (mkF m 408 #[.val (.int qc), .val (.int qf), .val (.int (2 : Int32)), .val (.int fro), .val (.int jnk), .val (.ref b3), .val (.ref b10), .val (.ref b34), .val (.ref b60), .val (.ref b10), .val (.ref b34), .val (.int (1 : Int32)), .val (.ref b34)] []))
            refine GoW.step (fun _ k => XS.iconst X176.here hx rfl (hb hby at_408) k) ?_
            show GoW _ _ _ _ _ _ _ (T176.setTop (mkF m 409 #[.val (.int qc), .val (.int qf), .val (.int (2 : Int32)), .val (.int fro), .val (.int jnk), .val (.ref b3), .val (.ref b10), .val (.ref b34), .val (.ref b60), .val (.ref b10), .val (.ref b34), .val (.int (1 : Int32)), .val (.ref b34)] [(.int (1 : Int32))]))
            refine GoW.step (fun _ k => XS.goto X176.here hx rfl (pc0 := 409) (pc' := 413) rfl (hb hby at_409) (by decide) (by decide) k) ?_
            show GoW _ _ _ _ _ _ _ (T176.setTop (mkF m 413 #[.val (.int qc), .val (.int qf), .val (.int (2 : Int32)), .val (.int fro), .val (.int jnk), .val (.ref b3), .val (.ref b10), .val (.ref b34), .val (.ref b60), .val (.ref b10), .val (.ref b34), .val (.int (1 : Int32)), .val (.ref b34)] [(.int (1 : Int32))]))
            refine GoW.step (fun _ k => XS.istore X176.here hx rfl (hb hby at_413) rfl (l' := #[.val (.int qc), .val (.int qf), .val (.int (2 : Int32)), .val (.int fro), .val (.int jnk), .val (.ref b3), .val (.ref b10), .val (.ref b34), .val (.ref b60), .val (.ref b10), .val (.ref b34), .val (.int (1 : Int32)), .val (.ref b34)]) rfl k) ?_
            show GoW _ _ _ _ _ _ _ (T176.setTop (mkF m 415 #[.val (.int qc), .val (.int qf), .val (.int (2 : Int32)), .val (.int fro), .val (.int jnk), .val (.ref b3), .val (.ref b10), .val (.ref b34), .val (.ref b60), .val (.ref b10), .val (.ref b34), .val (.int (1 : Int32)), .val (.ref b34)] []))
            refine GoW.step (fun _ k => XS.iload X176.here hx rfl (hb hby at_415) rfl  k) ?_
            show GoW _ _ _ _ _ _ _ (T176.setTop (mkF m 417 #[.val (.int qc), .val (.int qf), .val (.int (2 : Int32)), .val (.int fro), .val (.int jnk), .val (.ref b3), .val (.ref b10), .val (.ref b34), .val (.ref b60), .val (.ref b10), .val (.ref b34), .val (.int (1 : Int32)), .val (.ref b34)] [(.int (1 : Int32))]))
            refine GoW.retN X176 hS88 hk179 hx (t := .boolean) Bd.returns (by simp) hlk (hb hby at_417) ?_ (by decide) (by decide)
            exact ⟨(by first | rfl | (simp_all [own_nb1, own_nb0]; done)), N176⟩
          · skip
            refine GoW.step (fun _ k => XS.ifNo X175.here hx rfl (hb hby at_369) rfl ((if0 _ _).trans (feq hc369).1) k) ?_
            show GoW _ _ _ _ _ _ _ (T175.setTop (mkF m 372 #[.val (.int qc), .val (.int qf), .val (.int (2 : Int32)), .val (.int fro), .val (.int jnk), .val (.ref b3), .val (.ref b10), .val (.ref b34), .val (.ref b60), .val (.ref b10), .val (.ref b34), .val (.int (1 : Int32)), .unset] []))
            refine GoW.step (fun _ k => XS.aload X175.here hx rfl (hb hby at_372) rfl rfl  k) ?_
            show GoW _ _ _ _ _ _ _ (T175.setTop (mkF m 374 #[.val (.int qc), .val (.int qf), .val (.int (2 : Int32)), .val (.int fro), .val (.int jnk), .val (.ref b3), .val (.ref b10), .val (.ref b34), .val (.ref b60), .val (.ref b10), .val (.ref b34), .val (.int (1 : Int32)), .unset] [(.ref b3)]))
            obtain ⟨cq180, kq180, q180a, q180b, q180c⟩ := isOf hZ e175 c156_0
            obtain ⟨_, _, ⟨T180, L180, k180, n180⟩, -, X180, ⟨Lc180, hQ180, l180, y180, z180⟩, st180⟩ := X175.virtualBack hx (y := (⟨"com/example/steward/steward/runtime/Group", "pollFirst", "()Lcom/example/steward/steward/runtime/Agent;"⟩ : MethodName)) (z := (⟨"com/example/steward/steward/runtime/Group", "pollFirst", "()Lcom/example/steward/steward/runtime/Agent;"⟩ : MethodName)) hown (mvT hZ (hw _ (List.mem_of_getElem? (i := 70) rfl))) (mvT hZ (hw _ (List.mem_of_getElem? (i := 71) rfl))) (notFace_of_selects (args := #[]) (mvT hZ (hw _ (List.mem_of_getElem? (i := 73) rfl)))) (mvT hZ (hw _ (List.mem_of_getElem? (i := 73) rfl))) (mvT hZ (hw _ (List.mem_of_getElem? (i := 72) rfl))) (by decide) (backOf (W := 0) (rmpollFirst2 l Z aZ hw [] b3 b10 (Value.ref b3) (Value.ref b34) b34 Value.null (Value.ref b3) (Value.ref b10) T156.heap n0 z157 c156_9 c156_0 c156_2 c156_7 c156_9 gn3 gn10 c156_10 c156_6 c156_8 c156_1 c156_5 c156_3 c156_4 ne37 gn34) hZ (hw _ (List.mem_of_getElem? (i := 74) rfl)) (hw _ (List.mem_of_getElem? (i := 2) rfl)) (by decide) (by decide)) q180a q180c (g := (mkF m 374 #[.val (.int qc), .val (.int qf), .val (.int (2 : Int32)), .val (.int fro), .val (.int jnk), .val (.ref b3), .val (.ref b10), .val (.ref b34), .val (.ref b60), .val (.ref b10), .val (.ref b34), .val (.int (1 : Int32)), .unset] [(.ref b3)])) rfl (by rw [hml]; rfl) (Steps.refl _) (argsL := []) (rest := []) (lenOf pd_5 rfl) rfl (by show 2 * 0 + _ ≤ _; exact Nat.le_of_eq rfl) (hb hby at_374) (fun _ _ => ⟨rfl, e175, (by decide : 16 + 0 ≤ _), (by decide : 74 + 0 ≤ _)⟩)
            dsimp only [Pt.U, Pt.locs, Pt.cells, Pt.slots] at X180 l180 y180 z180 st180 hQ180
            subst l180 y180 z180
            obtain ⟨rfl, Nq180, K180⟩ := hQ180
            have N180 := Fr.app N175 Nq180
            refine GoW.tr st180 ?_
            have z181 : n0 ≤ T180.heap.size := Nat.le_trans z157 K180.1
            have sqz181 : h0.size ≤ T180.heap.size := Nat.le_trans sqz157 K180.1
            have hk183 := Nat.le_trans hk159 K180.1
            show GoW _ _ _ _ _ _ _ (T180.setTop (mkF m 377 #[.val (.int qc), .val (.int qf), .val (.int (2 : Int32)), .val (.int fro), .val (.int jnk), .val (.ref b3), .val (.ref b10), .val (.ref b34), .val (.ref b60), .val (.ref b10), .val (.ref b34), .val (.int (1 : Int32)), .unset] [(.ref b10)]))
            refine GoW.step (fun _ k => XS.goto X180.here hx rfl (pc0 := 377) (pc' := 385) rfl (hb hby at_377) (by decide) (by decide) k) ?_
            show GoW _ _ _ _ _ _ _ (T180.setTop (mkF m 385 #[.val (.int qc), .val (.int qf), .val (.int (2 : Int32)), .val (.int fro), .val (.int jnk), .val (.ref b3), .val (.ref b10), .val (.ref b34), .val (.ref b60), .val (.ref b10), .val (.ref b34), .val (.int (1 : Int32)), .unset] [(.ref b10)]))
            refine GoW.step (fun _ k => XS.astore X180.here hx rfl (hb hby at_385) rfl rfl (l' := #[.val (.int qc), .val (.int qf), .val (.int (2 : Int32)), .val (.int fro), .val (.int jnk), .val (.ref b3), .val (.ref b10), .val (.ref b34), .val (.ref b60), .val (.ref b10), .val (.ref b34), .val (.int (1 : Int32)), .val (.ref b10)]) rfl k) ?_
            show GoW _ _ _ _ _ _ _ (T180.setTop (mkF m 387 #[.val (.int qc), .val (.int qf), .val (.int (2 : Int32)), .val (.int fro), .val (.int jnk), .val (.ref b3), .val (.ref b10), .val (.ref b34), .val (.ref b60), .val (.ref b10), .val (.ref b34), .val (.int (1 : Int32)), .val (.ref b10)] []))
            refine GoW.step (fun _ k => XS.iload X180.here hx rfl (hb hby at_387) rfl  k) ?_
            show GoW _ _ _ _ _ _ _ (T180.setTop (mkF m 389 #[.val (.int qc), .val (.int qf), .val (.int (2 : Int32)), .val (.int fro), .val (.int jnk), .val (.ref b3), .val (.ref b10), .val (.ref b34), .val (.ref b60), .val (.ref b10), .val (.ref b34), .val (.int (1 : Int32)), .val (.ref b10)] [(.int (1 : Int32))]))
            have hc389 : ¬ ((1 : Int32) = (0 : Int32)) := hc358
            refine GoW.step (fun _ k => XS.ifNo X180.here hx rfl (hb hby at_389) rfl ((if0 _ _).trans (feq hc389).1) k) ?_
            show GoW _ _ _ _ _ _ _ (T180.setTop (mkF m 392 #[.val (.int qc), .val (.int qf), .val (.int (2 : Int32)), .val (.int fro), .val (.int jnk), .val (.ref b3), .val (.ref b10), .val (.ref b34), .val (.ref b60), .val (.ref b10), .val (.ref b34), .val (.int (1 : Int32)), .val (.ref b10)] []))
            refine GoW.step (fun _ k => XS.aload X180.here hx rfl (hb hby at_392) rfl rfl  k) ?_
            show GoW _ _ _ _ _ _ _ (T180.setTop (mkF m 394 #[.val (.int qc), .val (.int qf), .val (.int (2 : Int32)), .val (.int fro), .val (.int jnk), .val (.ref b3), .val (.ref b10), .val (.ref b34), .val (.ref b60), .val (.ref b10), .val (.ref b34), .val (.int (1 : Int32)), .val (.ref b10)] [(.ref b10)]))
            refine GoW.step (fun _ k => XS.iloadN X180.here hx rfl (hb hby at_394) rfl  k) ?_
            show GoW _ _ _ _ _ _ _ (T180.setTop (mkF m 395 #[.val (.int qc), .val (.int qf), .val (.int (2 : Int32)), .val (.int fro), .val (.int jnk), .val (.ref b3), .val (.ref b10), .val (.ref b34), .val (.ref b60), .val (.ref b10), .val (.ref b34), .val (.int (1 : Int32)), .val (.ref b10)] [(.int fro), (.ref b10)]))
            have hc395 : ¬ (fro = (0 : Int32)) := hc369
            refine GoW.step (fun _ k => XS.ifNo X180.here hx rfl (hb hby at_395) rfl ((if0 _ _).trans (feq hc395).1) k) ?_
            show GoW _ _ _ _ _ _ _ (T180.setTop (mkF m 398 #[.val (.int qc), .val (.int qf), .val (.int (2 : Int32)), .val (.int fro), .val (.int jnk), .val (.ref b3), .val (.ref b10), .val (.ref b34), .val (.ref b60), .val (.ref b10), .val (.ref b34), .val (.int (1 : Int32)), .val (.ref b10)] [(.ref b10)]))
            refine GoW.step (fun _ k => XS.aload X180.here hx rfl (hb hby at_398) rfl rfl  k) ?_
            show GoW _ _ _ _ _ _ _ (T180.setTop (mkF m 400 #[.val (.int qc), .val (.int qf), .val (.int (2 : Int32)), .val (.int fro), .val (.int jnk), .val (.ref b3), .val (.ref b10), .val (.ref b34), .val (.ref b60), .val (.ref b10), .val (.ref b34), .val (.int (1 : Int32)), .val (.ref b10)] [(.ref b10), (.ref b10)]))
            refine GoW.step (fun _ k => XS.goto X180.here hx rfl (pc0 := 400) (pc' := 405) rfl (hb hby at_400) (by decide) (by decide) k) ?_
            show GoW _ _ _ _ _ _ _ (T180.setTop (mkF m 405 #[.val (.int qc), .val (.int qf), .val (.int (2 : Int32)), .val (.int fro), .val (.int jnk), .val (.ref b3), .val (.ref b10), .val (.ref b34), .val (.ref b60), .val (.ref b10), .val (.ref b34), .val (.int (1 : Int32)), .val (.ref b10)] [(.ref b10), (.ref b10)]))
            refine GoW.step (fun _ k => Jvm.RoadKit.acmp (g := (mkF m 405 #[.val (.int qc), .val (.int qf), .val (.int (2 : Int32)), .val (.int fro), .val (.int jnk), .val (.ref b3), .val (.ref b10), .val (.ref b34), .val (.ref b60), .val (.ref b10), .val (.ref b34), .val (.int (1 : Int32)), .val (.ref b10)] [(.ref b10), (.ref b10)])) X180 hx rfl rfl rfl (pc0 := 405) (pc' := 408) (same := true) rfl (hb hby at_405) rfl (decide_eq_true rfl) (by decide) (by decide) k) ?_
            show GoW _ _ _ _ _ _ _ (T180.setTop (mkF m 408 #[.val (.int qc), .val (.int qf), .val (.int (2 : Int32)), .val (.int fro), .val (.int jnk), .val (.ref b3), .val (.ref b10), .val (.ref b34), .val (.ref b60), .val (.ref b10), .val (.ref b34), .val (.int (1 : Int32)), .val (.ref b10)] []))
            refine GoW.step (fun _ k => XS.iconst X180.here hx rfl (hb hby at_408) k) ?_
            show GoW _ _ _ _ _ _ _ (T180.setTop (mkF m 409 #[.val (.int qc), .val (.int qf), .val (.int (2 : Int32)), .val (.int fro), .val (.int jnk), .val (.ref b3), .val (.ref b10), .val (.ref b34), .val (.ref b60), .val (.ref b10), .val (.ref b34), .val (.int (1 : Int32)), .val (.ref b10)] [(.int (1 : Int32))]))
            refine GoW.step (fun _ k => XS.goto X180.here hx rfl (pc0 := 409) (pc' := 413) rfl (hb hby at_409) (by decide) (by decide) k) ?_
            show GoW _ _ _ _ _ _ _ (T180.setTop (mkF m 413 #[.val (.int qc), .val (.int qf), .val (.int (2 : Int32)), .val (.int fro), .val (.int jnk), .val (.ref b3), .val (.ref b10), .val (.ref b34), .val (.ref b60), .val (.ref b10), .val (.ref b34), .val (.int (1 : Int32)), .val (.ref b10)] [(.int (1 : Int32))]))
            refine GoW.step (fun _ k => XS.istore X180.here hx rfl (hb hby at_413) rfl (l' := #[.val (.int qc), .val (.int qf), .val (.int (2 : Int32)), .val (.int fro), .val (.int jnk), .val (.ref b3), .val (.ref b10), .val (.ref b34), .val (.ref b60), .val (.ref b10), .val (.ref b34), .val (.int (1 : Int32)), .val (.ref b10)]) rfl k) ?_
            show GoW _ _ _ _ _ _ _ (T180.setTop (mkF m 415 #[.val (.int qc), .val (.int qf), .val (.int (2 : Int32)), .val (.int fro), .val (.int jnk), .val (.ref b3), .val (.ref b10), .val (.ref b34), .val (.ref b60), .val (.ref b10), .val (.ref b34), .val (.int (1 : Int32)), .val (.ref b10)] []))
            refine GoW.step (fun _ k => XS.iload X180.here hx rfl (hb hby at_415) rfl  k) ?_
            show GoW _ _ _ _ _ _ _ (T180.setTop (mkF m 417 #[.val (.int qc), .val (.int qf), .val (.int (2 : Int32)), .val (.int fro), .val (.int jnk), .val (.ref b3), .val (.ref b10), .val (.ref b34), .val (.ref b60), .val (.ref b10), .val (.ref b34), .val (.int (1 : Int32)), .val (.ref b10)] [(.int (1 : Int32))]))
            refine GoW.retN X180 hS88 hk183 hx (t := .boolean) Bd.returns (by simp) hlk (hb hby at_417) ?_ (by decide) (by decide)
            exact ⟨(by first | rfl | (simp_all [own_nb1, own_nb0]; done)), N180⟩
        · skip
          subst h1
          show GoW _ _ _ _ _ _ _ (TJ88.setTop (mkF m 118 #[.val (.int qc), .val (.int qf), .val (.int (3 : Int32)), .val (.int fro), .val (.int jnk), .val (.ref b3), .val (.ref b10), .val (.ref b34), .val (.ref b60), .unset, .unset, .unset, .unset] []))
          refine GoW.step (fun _ k => XS.iloadN X88.here hx rfl (hb hby at_118) rfl  k) ?_
          show GoW _ _ _ _ _ _ _ (TJ88.setTop (mkF m 119 #[.val (.int qc), .val (.int qf), .val (.int (3 : Int32)), .val (.int fro), .val (.int jnk), .val (.ref b3), .val (.ref b10), .val (.ref b34), .val (.ref b60), .unset, .unset, .unset, .unset] [(.int (3 : Int32))]))
          refine GoW.step (fun _ k => XS.iconst X88.here hx rfl (hb hby at_119) k) ?_
          show GoW _ _ _ _ _ _ _ (TJ88.setTop (mkF m 120 #[.val (.int qc), .val (.int qf), .val (.int (3 : Int32)), .val (.int fro), .val (.int jnk), .val (.ref b3), .val (.ref b10), .val (.ref b34), .val (.ref b60), .unset, .unset, .unset, .unset] [(.int (1 : Int32)), (.int (3 : Int32))]))
          have hc120 : ¬ ((3 : Int32) < (1 : Int32)) := by decide
          refine GoW.step (fun _ k => XS.icmpNo X88.here hx rfl (hb hby at_120) rfl (flt hc120).1 k) ?_
          show GoW _ _ _ _ _ _ _ (TJ88.setTop (mkF m 123 #[.val (.int qc), .val (.int qf), .val (.int (3 : Int32)), .val (.int fro), .val (.int jnk), .val (.ref b3), .val (.ref b10), .val (.ref b34), .val (.ref b60), .unset, .unset, .unset, .unset] []))
          refine GoW.step (fun _ k => XS.aload X88.here hx rfl (hb hby at_123) rfl rfl  k) ?_
          show GoW _ _ _ _ _ _ _ (TJ88.setTop (mkF m 125 #[.val (.int qc), .val (.int qf), .val (.int (3 : Int32)), .val (.int fro), .val (.int jnk), .val (.ref b3), .val (.ref b10), .val (.ref b34), .val (.ref b60), .unset, .unset, .unset, .unset] [(.ref b3)]))
          refine GoW.step (fun _ k => XS.aload X88.here hx rfl (hb hby at_125) rfl rfl  k) ?_
          show GoW _ _ _ _ _ _ _ (TJ88.setTop (mkF m 127 #[.val (.int qc), .val (.int qf), .val (.int (3 : Int32)), .val (.int fro), .val (.int jnk), .val (.ref b3), .val (.ref b10), .val (.ref b34), .val (.ref b60), .unset, .unset, .unset, .unset] [(.ref b10), (.ref b3)]))
          have f184 : Exa Z hJ88 b3 "com/example/steward/steward/runtime/Group" := ((((f61.ext E60).ext E74).keep K84).keep K88)
          have f185 : Exa Z hJ88 b10 "com/example/steward/steward/runtime/Agent" := ((((f63.ext E60).ext E74).keep K84).keep K88)
          have f186 : Fld Z hJ88 b3 "com/example/steward/steward/runtime/Group" "first" "Lcom/example/steward/steward/runtime/Agent;" .null := ((((((((((f7.ext E10).ext E20).keep K30 (ninS ne11 nin0)).ext E34).ext E46).keep K56 (ninS ne36 nin0)).ext E60).ext E74).keep K84 (ninS ne62 nin0)).keep K88 (ninS ne11 (ninS ne36 (ninS ne62 nin0))))
          have f187 : Fld Z hJ88 b3 "com/example/steward/steward/runtime/Group" "last" "Lcom/example/steward/steward/runtime/Agent;" .null := ((((((((((f8.ext E10).ext E20).keep K30 (ninS ne11 nin0)).ext E34).ext E46).keep K56 (ninS ne36 nin0)).ext E60).ext E74).keep K84 (ninS ne62 nin0)).keep K88 (ninS ne11 (ninS ne36 (ninS ne62 nin0))))
          obtain ⟨cq188, kq188, q188a, q188b, q188c⟩ := isOf hZ e88 f184
          obtain ⟨_, _, ⟨T188, L188, k188, n188⟩, -, X188, ⟨Lc188, hQ188, l188, y188, z188⟩, st188⟩ := X88.virtualBack hx (y := (⟨"com/example/steward/steward/runtime/Group", "add", "(Lcom/example/steward/steward/runtime/Agent;)V"⟩ : MethodName)) (z := (⟨"com/example/steward/steward/runtime/Group", "add", "(Lcom/example/steward/steward/runtime/Agent;)V"⟩ : MethodName)) hown (mvT hZ (hw _ (List.mem_of_getElem? (i := 75) rfl))) (mvT hZ (hw _ (List.mem_of_getElem? (i := 76) rfl))) (notFace_of_selects (args := #[]) (mvT hZ (hw _ (List.mem_of_getElem? (i := 78) rfl)))) (mvT hZ (hw _ (List.mem_of_getElem? (i := 78) rfl))) (mvT hZ (hw _ (List.mem_of_getElem? (i := 77) rfl))) (by decide) (backOf (W := 0) (rmadd0 l Z aZ hw [] b3 b10 Value.null ja0 jb0 Value.null hJ88 n0 z89 f184 f185 jf88_0 jf88_1 jf88_2 f186 f187 gn3 gn10) hZ (hw _ (List.mem_of_getElem? (i := 79) rfl)) (hw _ (List.mem_of_getElem? (i := 2) rfl)) (by decide) (by decide)) q188a q188c (g := (mkF m 127 #[.val (.int qc), .val (.int qf), .val (.int (3 : Int32)), .val (.int fro), .val (.int jnk), .val (.ref b3), .val (.ref b10), .val (.ref b34), .val (.ref b60), .unset, .unset, .unset, .unset] [(.ref b10), (.ref b3)])) rfl (by rw [hml]; rfl) (Steps.refl _) (argsL := [(.ref b10)]) (rest := []) (lenOf pd_2 rfl) rfl (by show 2 * 0 + _ ≤ _; exact Nat.le_of_eq rfl) (hb hby at_127) (fun _ _ => ⟨rfl, e88, (by decide : 16 + 0 ≤ _), (by decide : 74 + 0 ≤ _)⟩)
          dsimp only [Pt.U, Pt.locs, Pt.cells, Pt.slots] at X188 l188 y188 z188 st188 hQ188
          subst l188 y188 z188
          obtain ⟨rfl, Nq188, K188, c188_0, c188_1, c188_2, c188_3, c188_4, c188_5, c188_6⟩ := hQ188
          have N188 := Fr.app N88 Nq188
          refine GoW.tr st188 ?_
          have z189 : n0 ≤ T188.heap.size := Nat.le_trans z89 K188.1
          have sqz189 : h0.size ≤ T188.heap.size := Nat.le_trans sqz89 K188.1
          have hk191 := Nat.le_trans hk88 K188.1
          show GoW _ _ _ _ _ _ _ (T188.setTop (mkF m 130 #[.val (.int qc), .val (.int qf), .val (.int (3 : Int32)), .val (.int fro), .val (.int jnk), .val (.ref b3), .val (.ref b10), .val (.ref b34), .val (.ref b60), .unset, .unset, .unset, .unset] []))
          refine GoW.step (fun _ k => XS.iloadN X188.here hx rfl (hb hby at_130) rfl  k) ?_
          show GoW _ _ _ _ _ _ _ (T188.setTop (mkF m 131 #[.val (.int qc), .val (.int qf), .val (.int (3 : Int32)), .val (.int fro), .val (.int jnk), .val (.ref b3), .val (.ref b10), .val (.ref b34), .val (.ref b60), .unset, .unset, .unset, .unset] [(.int (3 : Int32))]))
          refine GoW.step (fun _ k => XS.iconst X188.here hx rfl (hb hby at_131) k) ?_
          show GoW _ _ _ _ _ _ _ (T188.setTop (mkF m 132 #[.val (.int qc), .val (.int qf), .val (.int (3 : Int32)), .val (.int fro), .val (.int jnk), .val (.ref b3), .val (.ref b10), .val (.ref b34), .val (.ref b60), .unset, .unset, .unset, .unset] [(.int (2 : Int32)), (.int (3 : Int32))]))
          have hc132 : ¬ ((3 : Int32) < (2 : Int32)) := by decide
          refine GoW.step (fun _ k => XS.icmpNo X188.here hx rfl (hb hby at_132) rfl (flt hc132).1 k) ?_
          show GoW _ _ _ _ _ _ _ (T188.setTop (mkF m 135 #[.val (.int qc), .val (.int qf), .val (.int (3 : Int32)), .val (.int fro), .val (.int jnk), .val (.ref b3), .val (.ref b10), .val (.ref b34), .val (.ref b60), .unset, .unset, .unset, .unset] []))
          refine GoW.step (fun _ k => XS.aload X188.here hx rfl (hb hby at_135) rfl rfl  k) ?_
          show GoW _ _ _ _ _ _ _ (T188.setTop (mkF m 137 #[.val (.int qc), .val (.int qf), .val (.int (3 : Int32)), .val (.int fro), .val (.int jnk), .val (.ref b3), .val (.ref b10), .val (.ref b34), .val (.ref b60), .unset, .unset, .unset, .unset] [(.ref b3)]))
          refine GoW.step (fun _ k => XS.aload X188.here hx rfl (hb hby at_137) rfl rfl  k) ?_
          show GoW _ _ _ _ _ _ _ (T188.setTop (mkF m 139 #[.val (.int qc), .val (.int qf), .val (.int (3 : Int32)), .val (.int fro), .val (.int jnk), .val (.ref b3), .val (.ref b10), .val (.ref b34), .val (.ref b60), .unset, .unset, .unset, .unset] [(.ref b34), (.ref b3)]))
          have f192 : Exa Z T188.heap b34 "com/example/steward/steward/runtime/Agent" := (((((c56_0.ext E60).ext E74).keep K84).keep K88).keep K188)
          have f193 : Fld Z T188.heap b34 "com/example/steward/steward/runtime/Agent" "group" "Lcom/example/steward/steward/runtime/Group;" .null := (jf88_3.keep K188 (ninS (Ne.symm ne36) (ninS (Ne.symm ne37) nin0)))
          have f194 : Fld Z T188.heap b34 "com/example/steward/steward/runtime/Agent" "ahead" "Lcom/example/steward/steward/runtime/Agent;" ja1 := (jf88_4.keep K188 (ninS (Ne.symm ne36) (ninS (Ne.symm ne37) nin0)))
          have f195 : Fld Z T188.heap b34 "com/example/steward/steward/runtime/Agent" "behind" "Lcom/example/steward/steward/runtime/Agent;" jb1 := (jf88_5.keep K188 (ninS (Ne.symm ne36) (ninS (Ne.symm ne37) nin0)))
          obtain ⟨cq196, kq196, q196a, q196b, q196c⟩ := isOf hZ rfl c188_0
          obtain ⟨_, _, ⟨T196, L196, k196, n196⟩, -, X196, ⟨Lc196, hQ196, l196, y196, z196⟩, st196⟩ := X188.virtualBack hx (y := (⟨"com/example/steward/steward/runtime/Group", "add", "(Lcom/example/steward/steward/runtime/Agent;)V"⟩ : MethodName)) (z := (⟨"com/example/steward/steward/runtime/Group", "add", "(Lcom/example/steward/steward/runtime/Agent;)V"⟩ : MethodName)) hown (mvT hZ (hw _ (List.mem_of_getElem? (i := 75) rfl))) (mvT hZ (hw _ (List.mem_of_getElem? (i := 76) rfl))) (notFace_of_selects (args := #[]) (mvT hZ (hw _ (List.mem_of_getElem? (i := 78) rfl)))) (mvT hZ (hw _ (List.mem_of_getElem? (i := 78) rfl))) (mvT hZ (hw _ (List.mem_of_getElem? (i := 77) rfl))) (by decide) (backOf (W := 0) (rmadd1 l Z aZ hw [] b3 b34 Value.null ja1 jb1 (Value.ref b10) b10 Value.null (Value.ref b3) Value.null T188.heap n0 z189 c188_0 f192 f193 f194 f195 c188_5 c188_6 c188_1 c188_4 c188_2 c188_3 (Ne.symm ne37) gn3 gn34 gn10) hZ (hw _ (List.mem_of_getElem? (i := 79) rfl)) (hw _ (List.mem_of_getElem? (i := 2) rfl)) (by decide) (by decide)) q196a q196c (g := (mkF m 139 #[.val (.int qc), .val (.int qf), .val (.int (3 : Int32)), .val (.int fro), .val (.int jnk), .val (.ref b3), .val (.ref b10), .val (.ref b34), .val (.ref b60), .unset, .unset, .unset, .unset] [(.ref b34), (.ref b3)])) rfl (by rw [hml]; rfl) (Steps.refl _) (argsL := [(.ref b34)]) (rest := []) (lenOf pd_2 rfl) rfl (by show 2 * 0 + _ ≤ _; exact Nat.le_of_eq rfl) (hb hby at_139) (fun _ _ => ⟨rfl, rfl, (by decide : 16 + 0 ≤ _), (by decide : 74 + 0 ≤ _)⟩)
          dsimp only [Pt.U, Pt.locs, Pt.cells, Pt.slots] at X196 l196 y196 z196 st196 hQ196
          subst l196 y196 z196
          obtain ⟨rfl, Nq196, K196, c196_0, c196_1, c196_2, c196_3, c196_4, c196_5, c196_6, c196_7, c196_8, c196_9, c196_10⟩ := hQ196
          have N196 := Fr.app N188 Nq196
          refine GoW.tr st196 ?_
          have z197 : n0 ≤ T196.heap.size := Nat.le_trans z189 K196.1
          have sqz197 : h0.size ≤ T196.heap.size := Nat.le_trans sqz189 K196.1
          have hk199 := Nat.le_trans hk191 K196.1
          show GoW _ _ _ _ _ _ _ (T196.setTop (mkF m 142 #[.val (.int qc), .val (.int qf), .val (.int (3 : Int32)), .val (.int fro), .val (.int jnk), .val (.ref b3), .val (.ref b10), .val (.ref b34), .val (.ref b60), .unset, .unset, .unset, .unset] []))
          refine GoW.step (fun _ k => XS.iloadN X196.here hx rfl (hb hby at_142) rfl  k) ?_
          show GoW _ _ _ _ _ _ _ (T196.setTop (mkF m 143 #[.val (.int qc), .val (.int qf), .val (.int (3 : Int32)), .val (.int fro), .val (.int jnk), .val (.ref b3), .val (.ref b10), .val (.ref b34), .val (.ref b60), .unset, .unset, .unset, .unset] [(.int (3 : Int32))]))
          refine GoW.step (fun _ k => XS.iconst X196.here hx rfl (hb hby at_143) k) ?_
          show GoW _ _ _ _ _ _ _ (T196.setTop (mkF m 144 #[.val (.int qc), .val (.int qf), .val (.int (3 : Int32)), .val (.int fro), .val (.int jnk), .val (.ref b3), .val (.ref b10), .val (.ref b34), .val (.ref b60), .unset, .unset, .unset, .unset] [(.int (3 : Int32)), (.int (3 : Int32))]))
          have hc144 : ¬ ((3 : Int32) < (3 : Int32)) := by decide
          refine GoW.step (fun _ k => XS.icmpNo X196.here hx rfl (hb hby at_144) rfl (flt hc144).1 k) ?_
          show GoW _ _ _ _ _ _ _ (T196.setTop (mkF m 147 #[.val (.int qc), .val (.int qf), .val (.int (3 : Int32)), .val (.int fro), .val (.int jnk), .val (.ref b3), .val (.ref b10), .val (.ref b34), .val (.ref b60), .unset, .unset, .unset, .unset] []))
          refine GoW.step (fun _ k => XS.aload X196.here hx rfl (hb hby at_147) rfl rfl  k) ?_
          show GoW _ _ _ _ _ _ _ (T196.setTop (mkF m 149 #[.val (.int qc), .val (.int qf), .val (.int (3 : Int32)), .val (.int fro), .val (.int jnk), .val (.ref b3), .val (.ref b10), .val (.ref b34), .val (.ref b60), .unset, .unset, .unset, .unset] [(.ref b3)]))
          refine GoW.step (fun _ k => XS.aload X196.here hx rfl (hb hby at_149) rfl rfl  k) ?_
          show GoW _ _ _ _ _ _ _ (T196.setTop (mkF m 151 #[.val (.int qc), .val (.int qf), .val (.int (3 : Int32)), .val (.int fro), .val (.int jnk), .val (.ref b3), .val (.ref b10), .val (.ref b34), .val (.ref b60), .unset, .unset, .unset, .unset] [(.ref b60), (.ref b3)]))
          have f200 : Exa Z T196.heap b60 "com/example/steward/steward/runtime/Agent" := (((c84_0.keep K88).keep K188).keep K196)
          have f201 : Fld Z T196.heap b60 "com/example/steward/steward/runtime/Agent" "group" "Lcom/example/steward/steward/runtime/Group;" .null := ((jf88_6.keep K188 (ninS (Ne.symm ne62) (ninS (Ne.symm ne64) nin0))).keep K196 (ninS (Ne.symm ne62) (ninS (Ne.symm ne65) (ninS (Ne.symm ne64) nin0))))
          have f202 : Fld Z T196.heap b60 "com/example/steward/steward/runtime/Agent" "ahead" "Lcom/example/steward/steward/runtime/Agent;" ja2 := ((jf88_7.keep K188 (ninS (Ne.symm ne62) (ninS (Ne.symm ne64) nin0))).keep K196 (ninS (Ne.symm ne62) (ninS (Ne.symm ne65) (ninS (Ne.symm ne64) nin0))))
          have f203 : Fld Z T196.heap b60 "com/example/steward/steward/runtime/Agent" "behind" "Lcom/example/steward/steward/runtime/Agent;" jb2 := ((jf88_8.keep K188 (ninS (Ne.symm ne62) (ninS (Ne.symm ne64) nin0))).keep K196 (ninS (Ne.symm ne62) (ninS (Ne.symm ne65) (ninS (Ne.symm ne64) nin0))))
          obtain ⟨cq204, kq204, q204a, q204b, q204c⟩ := isOf hZ rfl c196_0
          obtain ⟨_, _, ⟨T204, L204, k204, n204⟩, -, X204, ⟨Lc204, hQ204, l204, y204, z204⟩, st204⟩ := X196.virtualBack hx (y := (⟨"com/example/steward/steward/runtime/Group", "add", "(Lcom/example/steward/steward/runtime/Agent;)V"⟩ : MethodName)) (z := (⟨"com/example/steward/steward/runtime/Group", "add", "(Lcom/example/steward/steward/runtime/Agent;)V"⟩ : MethodName)) hown (mvT hZ (hw _ (List.mem_of_getElem? (i := 75) rfl))) (mvT hZ (hw _ (List.mem_of_getElem? (i := 76) rfl))) (notFace_of_selects (args := #[]) (mvT hZ (hw _ (List.mem_of_getElem? (i := 78) rfl)))) (mvT hZ (hw _ (List.mem_of_getElem? (i := 78) rfl))) (mvT hZ (hw _ (List.mem_of_getElem? (i := 77) rfl))) (by decide) (backOf (W := 0) (rmadd1 l Z aZ hw [] b3 b60 Value.null ja2 jb2 (Value.ref b10) b34 Value.null (Value.ref b3) (Value.ref b10) T196.heap n0 z197 c196_0 f200 f201 f202 f203 c196_9 c196_10 c196_1 c196_5 c196_3 c196_4 (Ne.symm ne65) gn3 gn60 gn34) hZ (hw _ (List.mem_of_getElem? (i := 79) rfl)) (hw _ (List.mem_of_getElem? (i := 2) rfl)) (by decide) (by decide)) q204a q204c (g := (mkF m 151 #[.val (.int qc), .val (.int qf), .val (.int (3 : Int32)), .val (.int fro), .val (.int jnk), .val (.ref b3), .val (.ref b10), .val (.ref b34), .val (.ref b60), .unset, .unset, .unset, .unset] [(.ref b60), (.ref b3)])) rfl (by rw [hml]; rfl) (Steps.refl _) (argsL := [(.ref b60)]) (rest := []) (lenOf pd_2 rfl) rfl (by show 2 * 0 + _ ≤ _; exact Nat.le_of_eq rfl) (hb hby at_151) (fun _ _ => ⟨rfl, rfl, (by decide : 16 + 0 ≤ _), (by decide : 74 + 0 ≤ _)⟩)
          dsimp only [Pt.U, Pt.locs, Pt.cells, Pt.slots] at X204 l204 y204 z204 st204 hQ204
          subst l204 y204 z204
          obtain ⟨rfl, Nq204, K204, c204_0, c204_1, c204_2, c204_3, c204_4, c204_5, c204_6, c204_7, c204_8, c204_9, c204_10⟩ := hQ204
          have N204 := Fr.app N196 Nq204
          refine GoW.tr st204 ?_
          have z205 : n0 ≤ T204.heap.size := Nat.le_trans z197 K204.1
          have sqz205 : h0.size ≤ T204.heap.size := Nat.le_trans sqz197 K204.1
          have hk207 := Nat.le_trans hk199 K204.1
          show GoW _ _ _ _ _ _ _ (T204.setTop (mkF m 154 #[.val (.int qc), .val (.int qf), .val (.int (3 : Int32)), .val (.int fro), .val (.int jnk), .val (.ref b3), .val (.ref b10), .val (.ref b34), .val (.ref b60), .unset, .unset, .unset, .unset] []))
          refine GoW.step (fun _ k => XS.iloadN X204.here hx rfl (hb hby at_154) rfl  k) ?_
          show GoW _ _ _ _ _ _ _ (T204.setTop (mkF m 155 #[.val (.int qc), .val (.int qf), .val (.int (3 : Int32)), .val (.int fro), .val (.int jnk), .val (.ref b3), .val (.ref b10), .val (.ref b34), .val (.ref b60), .unset, .unset, .unset, .unset] [(.int (3 : Int32))]))
          have hc155 : ¬ ((3 : Int32) = (0 : Int32)) := by decide
          refine GoW.step (fun _ k => XS.ifYes X204.here hx rfl (pc0 := 155) (pc' := 162) rfl (hb hby at_155) rfl ((if0 _ _).trans (feq hc155).2) (by decide) (by decide) k) ?_
          show GoW _ _ _ _ _ _ _ (T204.setTop (mkF m 162 #[.val (.int qc), .val (.int qf), .val (.int (3 : Int32)), .val (.int fro), .val (.int jnk), .val (.ref b3), .val (.ref b10), .val (.ref b34), .val (.ref b60), .unset, .unset, .unset, .unset] []))
          refine GoW.step (fun _ k => XS.aload X204.here hx rfl (hb hby at_162) rfl rfl  k) ?_
          show GoW _ _ _ _ _ _ _ (T204.setTop (mkF m 164 #[.val (.int qc), .val (.int qf), .val (.int (3 : Int32)), .val (.int fro), .val (.int jnk), .val (.ref b3), .val (.ref b10), .val (.ref b34), .val (.ref b60), .unset, .unset, .unset, .unset] [(.ref b10)]))
          refine GoW.step (fun _ k => XS.astore X204.here hx rfl (hb hby at_164) rfl rfl (l' := #[.val (.int qc), .val (.int qf), .val (.int (3 : Int32)), .val (.int fro), .val (.int jnk), .val (.ref b3), .val (.ref b10), .val (.ref b34), .val (.ref b60), .val (.ref b10), .unset, .unset, .unset]) rfl k) ?_
          show GoW _ _ _ _ _ _ _ (T204.setTop (mkF m 166 #[.val (.int qc), .val (.int qf), .val (.int (3 : Int32)), .val (.int fro), .val (.int jnk), .val (.ref b3), .val (.ref b10), .val (.ref b34), .val (.ref b60), .val (.ref b10), .unset, .unset, .unset] []))
          refine GoW.step (fun _ k => XS.iloadN X204.here hx rfl (hb hby at_166) rfl  k) ?_
          show GoW _ _ _ _ _ _ _ (T204.setTop (mkF m 167 #[.val (.int qc), .val (.int qf), .val (.int (3 : Int32)), .val (.int fro), .val (.int jnk), .val (.ref b3), .val (.ref b10), .val (.ref b34), .val (.ref b60), .val (.ref b10), .unset, .unset, .unset] [(.int (3 : Int32))]))
          have hc167 : ¬ ((3 : Int32) = (0 : Int32)) := hc155
          refine GoW.step (fun _ k => XS.ifYes X204.here hx rfl (pc0 := 167) (pc' := 174) rfl (hb hby at_167) rfl ((if0 _ _).trans (feq hc167).2) (by decide) (by decide) k) ?_
          show GoW _ _ _ _ _ _ _ (T204.setTop (mkF m 174 #[.val (.int qc), .val (.int qf), .val (.int (3 : Int32)), .val (.int fro), .val (.int jnk), .val (.ref b3), .val (.ref b10), .val (.ref b34), .val (.ref b60), .val (.ref b10), .unset, .unset, .unset] []))
          refine GoW.step (fun _ k => XS.iloadN X204.here hx rfl (hb hby at_174) rfl  k) ?_
          show GoW _ _ _ _ _ _ _ (T204.setTop (mkF m 175 #[.val (.int qc), .val (.int qf), .val (.int (3 : Int32)), .val (.int fro), .val (.int jnk), .val (.ref b3), .val (.ref b10), .val (.ref b34), .val (.ref b60), .val (.ref b10), .unset, .unset, .unset] [(.int (3 : Int32))]))
          refine GoW.step (fun _ k => XS.iconst X204.here hx rfl (hb hby at_175) k) ?_
          show GoW _ _ _ _ _ _ _ (T204.setTop (mkF m 176 #[.val (.int qc), .val (.int qf), .val (.int (3 : Int32)), .val (.int fro), .val (.int jnk), .val (.ref b3), .val (.ref b10), .val (.ref b34), .val (.ref b60), .val (.ref b10), .unset, .unset, .unset] [(.int (1 : Int32)), (.int (3 : Int32))]))
          have hc176 : ¬ ((3 : Int32) = (1 : Int32)) := by decide
          refine GoW.step (fun _ k => XS.icmpYes X204.here hx rfl (pc0 := 176) (pc' := 184) rfl (hb hby at_176) rfl (feq hc176).2 (by decide) (by decide) k) ?_
          show GoW _ _ _ _ _ _ _ (T204.setTop (mkF m 184 #[.val (.int qc), .val (.int qf), .val (.int (3 : Int32)), .val (.int fro), .val (.int jnk), .val (.ref b3), .val (.ref b10), .val (.ref b34), .val (.ref b60), .val (.ref b10), .unset, .unset, .unset] []))
          refine GoW.step (fun _ k => XS.iloadN X204.here hx rfl (hb hby at_184) rfl  k) ?_
          show GoW _ _ _ _ _ _ _ (T204.setTop (mkF m 185 #[.val (.int qc), .val (.int qf), .val (.int (3 : Int32)), .val (.int fro), .val (.int jnk), .val (.ref b3), .val (.ref b10), .val (.ref b34), .val (.ref b60), .val (.ref b10), .unset, .unset, .unset] [(.int (3 : Int32))]))
          refine GoW.step (fun _ k => XS.iconst X204.here hx rfl (hb hby at_185) k) ?_
          show GoW _ _ _ _ _ _ _ (T204.setTop (mkF m 186 #[.val (.int qc), .val (.int qf), .val (.int (3 : Int32)), .val (.int fro), .val (.int jnk), .val (.ref b3), .val (.ref b10), .val (.ref b34), .val (.ref b60), .val (.ref b10), .unset, .unset, .unset] [(.int (2 : Int32)), (.int (3 : Int32))]))
          have hc186 : ¬ ((3 : Int32) = (2 : Int32)) := by decide
          refine GoW.step (fun _ k => XS.icmpYes X204.here hx rfl (pc0 := 186) (pc' := 194) rfl (hb hby at_186) rfl (feq hc186).2 (by decide) (by decide) k) ?_
          show GoW _ _ _ _ _ _ _ (T204.setTop (mkF m 194 #[.val (.int qc), .val (.int qf), .val (.int (3 : Int32)), .val (.int fro), .val (.int jnk), .val (.ref b3), .val (.ref b10), .val (.ref b34), .val (.ref b60), .val (.ref b10), .unset, .unset, .unset] []))
          refine GoW.step (fun _ k => XS.aload X204.here hx rfl (hb hby at_194) rfl rfl  k) ?_
          show GoW _ _ _ _ _ _ _ (T204.setTop (mkF m 196 #[.val (.int qc), .val (.int qf), .val (.int (3 : Int32)), .val (.int fro), .val (.int jnk), .val (.ref b3), .val (.ref b10), .val (.ref b34), .val (.ref b60), .val (.ref b10), .unset, .unset, .unset] [(.ref b60)]))
          refine GoW.step (fun _ k => XS.astore X204.here hx rfl (hb hby at_196) rfl rfl (l' := #[.val (.int qc), .val (.int qf), .val (.int (3 : Int32)), .val (.int fro), .val (.int jnk), .val (.ref b3), .val (.ref b10), .val (.ref b34), .val (.ref b60), .val (.ref b10), .val (.ref b60), .unset, .unset]) rfl k) ?_
          show GoW _ _ _ _ _ _ _ (T204.setTop (mkF m 198 #[.val (.int qc), .val (.int qf), .val (.int (3 : Int32)), .val (.int fro), .val (.int jnk), .val (.ref b3), .val (.ref b10), .val (.ref b34), .val (.ref b60), .val (.ref b10), .val (.ref b60), .unset, .unset] []))
          refine GoW.step (fun _ k => XS.aload X204.here hx rfl (hb hby at_198) rfl rfl  k) ?_
          show GoW _ _ _ _ _ _ _ (T204.setTop (mkF m 200 #[.val (.int qc), .val (.int qf), .val (.int (3 : Int32)), .val (.int fro), .val (.int jnk), .val (.ref b3), .val (.ref b10), .val (.ref b34), .val (.ref b60), .val (.ref b10), .val (.ref b60), .unset, .unset] [(.ref b3)]))
          obtain ⟨cq208, kq208, q208a, q208b, q208c⟩ := isOf hZ rfl c204_0
          obtain ⟨_, _, ⟨T208, L208, k208, n208⟩, -, X208, ⟨Lc208, hQ208, l208, y208, z208⟩, st208⟩ := X204.virtualBack hx (y := (⟨"com/example/steward/steward/runtime/Group", "isEmpty", "()Z"⟩ : MethodName)) (z := (⟨"com/example/steward/steward/runtime/Group", "isEmpty", "()Z"⟩ : MethodName)) hown (mvT hZ (hw _ (List.mem_of_getElem? (i := 52) rfl))) (mvT hZ (hw _ (List.mem_of_getElem? (i := 53) rfl))) (notFace_of_selects (args := #[]) (mvT hZ (hw _ (List.mem_of_getElem? (i := 55) rfl)))) (mvT hZ (hw _ (List.mem_of_getElem? (i := 55) rfl))) (mvT hZ (hw _ (List.mem_of_getElem? (i := 54) rfl))) (by decide) (backOf (W := 0) (rmem1 l Z aZ hw [] b3 b10 T204.heap n0 z205 c204_9) hZ (hw _ (List.mem_of_getElem? (i := 56) rfl)) (hw _ (List.mem_of_getElem? (i := 2) rfl)) (by decide) (by decide)) q208a q208c (g := (mkF m 200 #[.val (.int qc), .val (.int qf), .val (.int (3 : Int32)), .val (.int fro), .val (.int jnk), .val (.ref b3), .val (.ref b10), .val (.ref b34), .val (.ref b60), .val (.ref b10), .val (.ref b60), .unset, .unset] [(.ref b3)])) rfl (by rw [hml]; rfl) (Steps.refl _) (argsL := []) (rest := []) (lenOf pd_4 rfl) rfl (by show 2 * 0 + _ ≤ _; exact Nat.le_of_eq rfl) (hb hby at_200) (fun _ _ => ⟨rfl, rfl, (by decide : 16 + 0 ≤ _), (by decide : 74 + 0 ≤ _)⟩)
          dsimp only [Pt.U, Pt.locs, Pt.cells, Pt.slots] at X208 l208 y208 z208 st208 hQ208
          subst l208 y208 z208
          obtain ⟨rfl, Nq208, e208⟩ := hQ208
          have N208 := Fr.app N204 Nq208
          refine GoW.tr st208 ?_
          show GoW _ _ _ _ _ _ _ (T208.setTop (mkF m 203 #[.val (.int qc), .val (.int qf), .val (.int (3 : Int32)), .val (.int fro), .val (.int jnk), .val (.ref b3), .val (.ref b10), .val (.ref b34), .val (.ref b60), .val (.ref b10), .val (.ref b60), .unset, .unset] [(.int (0 : Int32))]))
          refine GoW.step (fun _ k => XS.iloadN X208.here hx rfl (hb hby at_203) rfl  k) ?_
          show GoW _ _ _ _ _ _ _ (T208.setTop (mkF m 204 #[.val (.int qc), .val (.int qf), .val (.int (3 : Int32)), .val (.int fro), .val (.int jnk), .val (.ref b3), .val (.ref b10), .val (.ref b34), .val (.ref b60), .val (.ref b10), .val (.ref b60), .unset, .unset] [(.int (3 : Int32)), (.int (0 : Int32))]))
          have hc204 : ¬ ((3 : Int32) = (0 : Int32)) := hc167
          refine GoW.step (fun _ k => XS.ifYes X208.here hx rfl (pc0 := 204) (pc' := 211) rfl (hb hby at_204) rfl ((if0 _ _).trans (feq hc204).2) (by decide) (by decide) k) ?_
          show GoW _ _ _ _ _ _ _ (T208.setTop (mkF m 211 #[.val (.int qc), .val (.int qf), .val (.int (3 : Int32)), .val (.int fro), .val (.int jnk), .val (.ref b3), .val (.ref b10), .val (.ref b34), .val (.ref b60), .val (.ref b10), .val (.ref b60), .unset, .unset] [(.int (0 : Int32))]))
          refine GoW.step (fun _ k => XS.iconst X208.here hx rfl (hb hby at_211) k) ?_
          show GoW _ _ _ _ _ _ _ (T208.setTop (mkF m 212 #[.val (.int qc), .val (.int qf), .val (.int (3 : Int32)), .val (.int fro), .val (.int jnk), .val (.ref b3), .val (.ref b10), .val (.ref b34), .val (.ref b60), .val (.ref b10), .val (.ref b60), .unset, .unset] [(.int (0 : Int32)), (.int (0 : Int32))]))
          have hc212 : (0 : Int32) = (0 : Int32) := by decide
          refine GoW.step (fun _ k => XS.icmpNo X208.here hx rfl (hb hby at_212) rfl (teq hc212).2 k) ?_
          show GoW _ _ _ _ _ _ _ (T208.setTop (mkF m 215 #[.val (.int qc), .val (.int qf), .val (.int (3 : Int32)), .val (.int fro), .val (.int jnk), .val (.ref b3), .val (.ref b10), .val (.ref b34), .val (.ref b60), .val (.ref b10), .val (.ref b60), .unset, .unset] []))
          refine GoW.step (fun _ k => XS.iconst X208.here hx rfl (hb hby at_215) k) ?_
          show GoW _ _ _ _ _ _ _ (T208.setTop (mkF m 216 #[.val (.int qc), .val (.int qf), .val (.int (3 : Int32)), .val (.int fro), .val (.int jnk), .val (.ref b3), .val (.ref b10), .val (.ref b34), .val (.ref b60), .val (.ref b10), .val (.ref b60), .unset, .unset] [(.int (1 : Int32))]))
          refine GoW.step (fun _ k => XS.goto X208.here hx rfl (pc0 := 216) (pc' := 220) rfl (hb hby at_216) (by decide) (by decide) k) ?_
          show GoW _ _ _ _ _ _ _ (T208.setTop (mkF m 220 #[.val (.int qc), .val (.int qf), .val (.int (3 : Int32)), .val (.int fro), .val (.int jnk), .val (.ref b3), .val (.ref b10), .val (.ref b34), .val (.ref b60), .val (.ref b10), .val (.ref b60), .unset, .unset] [(.int (1 : Int32))]))
          refine GoW.step (fun _ k => XS.istore X208.here hx rfl (hb hby at_220) rfl (l' := #[.val (.int qc), .val (.int qf), .val (.int (3 : Int32)), .val (.int fro), .val (.int jnk), .val (.ref b3), .val (.ref b10), .val (.ref b34), .val (.ref b60), .val (.ref b10), .val (.ref b60), .val (.int (1 : Int32)), .unset]) rfl k) ?_
          show GoW _ _ _ _ _ _ _ (T208.setTop (mkF m 222 #[.val (.int qc), .val (.int qf), .val (.int (3 : Int32)), .val (.int fro), .val (.int jnk), .val (.ref b3), .val (.ref b10), .val (.ref b34), .val (.ref b60), .val (.ref b10), .val (.ref b60), .val (.int (1 : Int32)), .unset] []))
          refine GoW.step (fun _ k => XS.iload X208.here hx rfl (hb hby at_222) rfl  k) ?_
          show GoW _ _ _ _ _ _ _ (T208.setTop (mkF m 224 #[.val (.int qc), .val (.int qf), .val (.int (3 : Int32)), .val (.int fro), .val (.int jnk), .val (.ref b3), .val (.ref b10), .val (.ref b34), .val (.ref b60), .val (.ref b10), .val (.ref b60), .val (.int (1 : Int32)), .unset] [(.int (1 : Int32))]))
          have hc224 : ¬ ((1 : Int32) = (0 : Int32)) := by decide
          refine GoW.step (fun _ k => XS.ifNo X208.here hx rfl (hb hby at_224) rfl ((if0 _ _).trans (feq hc224).1) k) ?_
          show GoW _ _ _ _ _ _ _ (T208.setTop (mkF m 227 #[.val (.int qc), .val (.int qf), .val (.int (3 : Int32)), .val (.int fro), .val (.int jnk), .val (.ref b3), .val (.ref b10), .val (.ref b34), .val (.ref b60), .val (.ref b10), .val (.ref b60), .val (.int (1 : Int32)), .unset] []))
          refine GoW.step (fun _ k => XS.aload X208.here hx rfl (hb hby at_227) rfl rfl  k) ?_
          show GoW _ _ _ _ _ _ _ (T208.setTop (mkF m 229 #[.val (.int qc), .val (.int qf), .val (.int (3 : Int32)), .val (.int fro), .val (.int jnk), .val (.ref b3), .val (.ref b10), .val (.ref b34), .val (.ref b60), .val (.ref b10), .val (.ref b60), .val (.int (1 : Int32)), .unset] [(.ref b3)]))
          have pq209 : (Value.ref b10).isRef = true := rfl
          obtain ⟨cq210, kq210, q210a, q210b, q210c⟩ := isOf hZ e208 c204_0
          obtain ⟨_, _, ⟨T210, L210, k210, n210⟩, -, X210, ⟨Lc210, hQ210, l210, y210, z210⟩, st210⟩ := X208.virtualBack hx (y := (⟨"com/example/steward/steward/runtime/Group", "first", "()Lcom/example/steward/steward/runtime/Agent;"⟩ : MethodName)) (z := (⟨"com/example/steward/steward/runtime/Group", "first", "()Lcom/example/steward/steward/runtime/Agent;"⟩ : MethodName)) hown (mvT hZ (hw _ (List.mem_of_getElem? (i := 59) rfl))) (mvT hZ (hw _ (List.mem_of_getElem? (i := 60) rfl))) (notFace_of_selects (args := #[]) (mvT hZ (hw _ (List.mem_of_getElem? (i := 62) rfl)))) (mvT hZ (hw _ (List.mem_of_getElem? (i := 62) rfl))) (mvT hZ (hw _ (List.mem_of_getElem? (i := 61) rfl))) (by decide) (backOf (W := 0) (rm7 l Z aZ hw [] b3 (Value.ref b10) T204.heap n0 z205 c204_9 pq209) hZ (hw _ (List.mem_of_getElem? (i := 63) rfl)) (hw _ (List.mem_of_getElem? (i := 2) rfl)) (by decide) (by decide)) q210a q210c (g := (mkF m 229 #[.val (.int qc), .val (.int qf), .val (.int (3 : Int32)), .val (.int fro), .val (.int jnk), .val (.ref b3), .val (.ref b10), .val (.ref b34), .val (.ref b60), .val (.ref b10), .val (.ref b60), .val (.int (1 : Int32)), .unset] [(.ref b3)])) rfl (by rw [hml]; rfl) (Steps.refl _) (argsL := []) (rest := []) (lenOf pd_5 rfl) rfl (by show 2 * 0 + _ ≤ _; exact Nat.le_of_eq rfl) (hb hby at_229) (fun _ _ => ⟨rfl, e208, (by decide : 16 + 0 ≤ _), (by decide : 74 + 0 ≤ _)⟩)
          dsimp only [Pt.U, Pt.locs, Pt.cells, Pt.slots] at X210 l210 y210 z210 st210 hQ210
          subst l210 y210 z210
          obtain ⟨rfl, Nq210, e210⟩ := hQ210
          have N210 := Fr.app N208 Nq210
          refine GoW.tr st210 ?_
          show GoW _ _ _ _ _ _ _ (T210.setTop (mkF m 232 #[.val (.int qc), .val (.int qf), .val (.int (3 : Int32)), .val (.int fro), .val (.int jnk), .val (.ref b3), .val (.ref b10), .val (.ref b34), .val (.ref b60), .val (.ref b10), .val (.ref b60), .val (.int (1 : Int32)), .unset] [(.ref b10)]))
          refine GoW.step (fun _ k => XS.aload X210.here hx rfl (hb hby at_232) rfl rfl  k) ?_
          show GoW _ _ _ _ _ _ _ (T210.setTop (mkF m 234 #[.val (.int qc), .val (.int qf), .val (.int (3 : Int32)), .val (.int fro), .val (.int jnk), .val (.ref b3), .val (.ref b10), .val (.ref b34), .val (.ref b60), .val (.ref b10), .val (.ref b60), .val (.int (1 : Int32)), .unset] [(.ref b10), (.ref b10)]))
          refine GoW.step (fun _ k => Jvm.RoadKit.acmp (g := (mkF m 234 #[.val (.int qc), .val (.int qf), .val (.int (3 : Int32)), .val (.int fro), .val (.int jnk), .val (.ref b3), .val (.ref b10), .val (.ref b34), .val (.ref b60), .val (.ref b10), .val (.ref b60), .val (.int (1 : Int32)), .unset] [(.ref b10), (.ref b10)])) X210 hx rfl rfl rfl (pc0 := 234) (pc' := 237) (same := true) rfl (hb hby at_234) rfl (decide_eq_true rfl) (by decide) (by decide) k) ?_
          show GoW _ _ _ _ _ _ _ (T210.setTop (mkF m 237 #[.val (.int qc), .val (.int qf), .val (.int (3 : Int32)), .val (.int fro), .val (.int jnk), .val (.ref b3), .val (.ref b10), .val (.ref b34), .val (.ref b60), .val (.ref b10), .val (.ref b60), .val (.int (1 : Int32)), .unset] []))
          refine GoW.step (fun _ k => XS.iconst X210.here hx rfl (hb hby at_237) k) ?_
          show GoW _ _ _ _ _ _ _ (T210.setTop (mkF m 238 #[.val (.int qc), .val (.int qf), .val (.int (3 : Int32)), .val (.int fro), .val (.int jnk), .val (.ref b3), .val (.ref b10), .val (.ref b34), .val (.ref b60), .val (.ref b10), .val (.ref b60), .val (.int (1 : Int32)), .unset] [(.int (1 : Int32))]))
          refine GoW.step (fun _ k => XS.goto X210.here hx rfl (pc0 := 238) (pc' := 242) rfl (hb hby at_238) (by decide) (by decide) k) ?_
          show GoW _ _ _ _ _ _ _ (T210.setTop (mkF m 242 #[.val (.int qc), .val (.int qf), .val (.int (3 : Int32)), .val (.int fro), .val (.int jnk), .val (.ref b3), .val (.ref b10), .val (.ref b34), .val (.ref b60), .val (.ref b10), .val (.ref b60), .val (.int (1 : Int32)), .unset] [(.int (1 : Int32))]))
          refine GoW.step (fun _ k => XS.istore X210.here hx rfl (hb hby at_242) rfl (l' := #[.val (.int qc), .val (.int qf), .val (.int (3 : Int32)), .val (.int fro), .val (.int jnk), .val (.ref b3), .val (.ref b10), .val (.ref b34), .val (.ref b60), .val (.ref b10), .val (.ref b60), .val (.int (1 : Int32)), .unset]) rfl k) ?_
          show GoW _ _ _ _ _ _ _ (T210.setTop (mkF m 244 #[.val (.int qc), .val (.int qf), .val (.int (3 : Int32)), .val (.int fro), .val (.int jnk), .val (.ref b3), .val (.ref b10), .val (.ref b34), .val (.ref b60), .val (.ref b10), .val (.ref b60), .val (.int (1 : Int32)), .unset] []))
          refine GoW.step (fun _ k => XS.iload X210.here hx rfl (hb hby at_244) rfl  k) ?_
          show GoW _ _ _ _ _ _ _ (T210.setTop (mkF m 246 #[.val (.int qc), .val (.int qf), .val (.int (3 : Int32)), .val (.int fro), .val (.int jnk), .val (.ref b3), .val (.ref b10), .val (.ref b34), .val (.ref b60), .val (.ref b10), .val (.ref b60), .val (.int (1 : Int32)), .unset] [(.int (1 : Int32))]))
          have hc246 : ¬ ((1 : Int32) = (0 : Int32)) := hc224
          refine GoW.step (fun _ k => XS.ifNo X210.here hx rfl (hb hby at_246) rfl ((if0 _ _).trans (feq hc246).1) k) ?_
          show GoW _ _ _ _ _ _ _ (T210.setTop (mkF m 249 #[.val (.int qc), .val (.int qf), .val (.int (3 : Int32)), .val (.int fro), .val (.int jnk), .val (.ref b3), .val (.ref b10), .val (.ref b34), .val (.ref b60), .val (.ref b10), .val (.ref b60), .val (.int (1 : Int32)), .unset] []))
          refine GoW.step (fun _ k => XS.aload X210.here hx rfl (hb hby at_249) rfl rfl  k) ?_
          show GoW _ _ _ _ _ _ _ (T210.setTop (mkF m 251 #[.val (.int qc), .val (.int qf), .val (.int (3 : Int32)), .val (.int fro), .val (.int jnk), .val (.ref b3), .val (.ref b10), .val (.ref b34), .val (.ref b60), .val (.ref b10), .val (.ref b60), .val (.int (1 : Int32)), .unset] [(.ref b10)]))
          refine GoW.step (fun _ k => XS.iloadN X210.here hx rfl (hb hby at_251) rfl  k) ?_
          show GoW _ _ _ _ _ _ _ (T210.setTop (mkF m 252 #[.val (.int qc), .val (.int qf), .val (.int (3 : Int32)), .val (.int fro), .val (.int jnk), .val (.ref b3), .val (.ref b10), .val (.ref b34), .val (.ref b60), .val (.ref b10), .val (.ref b60), .val (.int (1 : Int32)), .unset] [(.int (3 : Int32)), (.ref b10)]))
          refine GoW.step (fun _ k => XS.iconst X210.here hx rfl (hb hby at_252) k) ?_
          show GoW _ _ _ _ _ _ _ (T210.setTop (mkF m 253 #[.val (.int qc), .val (.int qf), .val (.int (3 : Int32)), .val (.int fro), .val (.int jnk), .val (.ref b3), .val (.ref b10), .val (.ref b34), .val (.ref b60), .val (.ref b10), .val (.ref b60), .val (.int (1 : Int32)), .unset] [(.int (1 : Int32)), (.int (3 : Int32)), (.ref b10)]))
          have hc253 : ¬ ((3 : Int32) < (1 : Int32)) := hc120
          refine GoW.step (fun _ k => XS.icmpNo X210.here hx rfl (hb hby at_253) rfl (flt hc253).1 k) ?_
          show GoW _ _ _ _ _ _ _ (T210.setTop (mkF m 256 #[.val (.int qc), .val (.int qf), .val (.int (3 : Int32)), .val (.int fro), .val (.int jnk), .val (.ref b3), .val (.ref b10), .val (.ref b34), .val (.ref b60), .val (.ref b10), .val (.ref b60), .val (.int (1 : Int32)), .unset] [(.ref b10)]))
          refine GoW.step (fun _ k => XS.iconst X210.here hx rfl (hb hby at_256) k) ?_
          show GoW _ _ _ _ _ _ _ (T210.setTop (mkF m 257 #[.val (.int qc), .val (.int qf), .val (.int (3 : Int32)), .val (.int fro), .val (.int jnk), .val (.ref b3), .val (.ref b10), .val (.ref b34), .val (.ref b60), .val (.ref b10), .val (.ref b60), .val (.int (1 : Int32)), .unset] [(.int (1 : Int32)), (.ref b10)]))
          refine GoW.step (fun _ k => XS.goto X210.here hx rfl (pc0 := 257) (pc' := 261) rfl (hb hby at_257) (by decide) (by decide) k) ?_
          show GoW _ _ _ _ _ _ _ (T210.setTop (mkF m 261 #[.val (.int qc), .val (.int qf), .val (.int (3 : Int32)), .val (.int fro), .val (.int jnk), .val (.ref b3), .val (.ref b10), .val (.ref b34), .val (.ref b60), .val (.ref b10), .val (.ref b60), .val (.int (1 : Int32)), .unset] [(.int (1 : Int32)), (.ref b10)]))
          refine GoW.step (fun _ k => XS.aload X210.here hx rfl (hb hby at_261) rfl rfl  k) ?_
          show GoW _ _ _ _ _ _ _ (T210.setTop (mkF m 263 #[.val (.int qc), .val (.int qf), .val (.int (3 : Int32)), .val (.int fro), .val (.int jnk), .val (.ref b3), .val (.ref b10), .val (.ref b34), .val (.ref b60), .val (.ref b10), .val (.ref b60), .val (.int (1 : Int32)), .unset] [(.ref b3), (.int (1 : Int32)), (.ref b10)]))
          refine GoW.step (fun _ k => XS.aconstNull X210.here hx rfl (hb hby at_263) k) ?_
          show GoW _ _ _ _ _ _ _ (T210.setTop (mkF m 264 #[.val (.int qc), .val (.int qf), .val (.int (3 : Int32)), .val (.int fro), .val (.int jnk), .val (.ref b3), .val (.ref b10), .val (.ref b34), .val (.ref b60), .val (.ref b10), .val (.ref b60), .val (.int (1 : Int32)), .unset] [.null, (.ref b3), (.int (1 : Int32)), (.ref b10)]))
          refine GoW.step (fun _ k => XS.iloadN X210.here hx rfl (hb hby at_264) rfl  k) ?_
          show GoW _ _ _ _ _ _ _ (T210.setTop (mkF m 265 #[.val (.int qc), .val (.int qf), .val (.int (3 : Int32)), .val (.int fro), .val (.int jnk), .val (.ref b3), .val (.ref b10), .val (.ref b34), .val (.ref b60), .val (.ref b10), .val (.ref b60), .val (.int (1 : Int32)), .unset] [(.int (3 : Int32)), .null, (.ref b3), (.int (1 : Int32)), (.ref b10)]))
          refine GoW.step (fun _ k => XS.iconst X210.here hx rfl (hb hby at_265) k) ?_
          show GoW _ _ _ _ _ _ _ (T210.setTop (mkF m 266 #[.val (.int qc), .val (.int qf), .val (.int (3 : Int32)), .val (.int fro), .val (.int jnk), .val (.ref b3), .val (.ref b10), .val (.ref b34), .val (.ref b60), .val (.ref b10), .val (.ref b60), .val (.int (1 : Int32)), .unset] [(.int (2 : Int32)), (.int (3 : Int32)), .null, (.ref b3), (.int (1 : Int32)), (.ref b10)]))
          have hc266 : ¬ ((3 : Int32) < (2 : Int32)) := hc132
          refine GoW.step (fun _ k => XS.icmpNo X210.here hx rfl (hb hby at_266) rfl (flt hc266).1 k) ?_
          show GoW _ _ _ _ _ _ _ (T210.setTop (mkF m 269 #[.val (.int qc), .val (.int qf), .val (.int (3 : Int32)), .val (.int fro), .val (.int jnk), .val (.ref b3), .val (.ref b10), .val (.ref b34), .val (.ref b60), .val (.ref b10), .val (.ref b60), .val (.int (1 : Int32)), .unset] [.null, (.ref b3), (.int (1 : Int32)), (.ref b10)]))
          refine GoW.step (fun _ k => XS.aload X210.here hx rfl (hb hby at_269) rfl rfl  k) ?_
          show GoW _ _ _ _ _ _ _ (T210.setTop (mkF m 271 #[.val (.int qc), .val (.int qf), .val (.int (3 : Int32)), .val (.int fro), .val (.int jnk), .val (.ref b3), .val (.ref b10), .val (.ref b34), .val (.ref b60), .val (.ref b10), .val (.ref b60), .val (.int (1 : Int32)), .unset] [(.ref b34), .null, (.ref b3), (.int (1 : Int32)), (.ref b10)]))
          refine GoW.step (fun _ k => XS.goto X210.here hx rfl (pc0 := 271) (pc' := 275) rfl (hb hby at_271) (by decide) (by decide) k) ?_
          show GoW _ _ _ _ _ _ _ (T210.setTop (mkF m 275 #[.val (.int qc), .val (.int qf), .val (.int (3 : Int32)), .val (.int fro), .val (.int jnk), .val (.ref b3), .val (.ref b10), .val (.ref b34), .val (.ref b60), .val (.ref b10), .val (.ref b60), .val (.int (1 : Int32)), .unset] [(.ref b34), .null, (.ref b3), (.int (1 : Int32)), (.ref b10)]))
          have pq211 : Value.null.isRef = true := (by first | assumption | rfl | decide)
          have pq212 : (Value.ref b34).isRef = true := (by first | assumption | rfl | decide)
          have f213 : Fld Z T204.heap b10 "com/example/steward/steward/runtime/Agent" "group" "Lcom/example/steward/steward/runtime/Group;" (.ref b3) := (c196_7.keep K204 (ninS (Ne.symm ne11) (ninS ne64 (ninS ne37 nin0))))
          have f214 : Fld Z T204.heap b10 "com/example/steward/steward/runtime/Agent" "ahead" "Lcom/example/steward/steward/runtime/Agent;" .null := (c196_8.keep K204 (ninS (Ne.symm ne11) (ninS ne64 (ninS ne37 nin0))))
          have f215 : Fld Z T204.heap b10 "com/example/steward/steward/runtime/Agent" "behind" "Lcom/example/steward/steward/runtime/Agent;" (.ref b34) := (c196_6.keep K204 (ninS (Ne.symm ne11) (ninS ne64 (ninS ne37 nin0))))
          have pq216 : (1 : Int32) = (1 : Int32) := rfl
          obtain ⟨_, _, ⟨T217, L217, k217, n217⟩, -, X217, ⟨Lc217, hQ217, l217, y217, z217⟩, st217⟩ := Jvm.LawKit.callS X210 hx (y := (⟨"com/example/steward/steward/runtime/GroupAddPinLaw", "linked", "(Lcom/example/steward/steward/runtime/Agent;ZLcom/example/steward/steward/runtime/Group;Lcom/example/steward/steward/runtime/Agent;Lcom/example/steward/steward/runtime/Agent;)Z"⟩ : MethodName)) hown (mvT hZ (hw _ (List.mem_of_getElem? (i := 64) rfl))) (mvT hZ (hw _ (List.mem_of_getElem? (i := 65) rfl))) (mvT hZ (hw _ (List.mem_of_getElem? (i := 66) rfl))) (mvT hZ (hw _ (List.mem_of_getElem? (i := 67) rfl))) (by decide) (backOf (W := 0) (rmli1 l Z aZ hw [] b10 (1 : Int32) b3 Value.null (Value.ref b34) T204.heap n0 z205 pq211 pq212 f213 f214 f215 pq216) hZ (hw _ (List.mem_of_getElem? (i := 67) rfl)) (hw _ (List.mem_of_getElem? (i := 66) rfl)) (by decide) (by decide)) (g := (mkF m 275 #[.val (.int qc), .val (.int qf), .val (.int (3 : Int32)), .val (.int fro), .val (.int jnk), .val (.ref b3), .val (.ref b10), .val (.ref b34), .val (.ref b60), .val (.ref b10), .val (.ref b60), .val (.int (1 : Int32)), .unset] [(.ref b34), .null, (.ref b3), (.int (1 : Int32)), (.ref b10)])) rfl (by rw [hml]; rfl) (argsL := [(.ref b10), (.int (1 : Int32)), (.ref b3), .null, (.ref b34)]) (rest := []) (lenOf pd_6 rfl) rfl (by show 2 * 0 + _ ≤ _; exact Nat.le_of_eq rfl) (hb hby at_275) (fun _ _ => ⟨rfl, e210, (by decide : 16 + 0 ≤ _), (by decide : 74 + 0 ≤ _)⟩)
          dsimp only [Pt.U, Pt.locs, Pt.cells, Pt.slots] at X217 l217 y217 z217 st217 hQ217
          subst l217 y217 z217
          obtain ⟨rfl, Nq217, e217⟩ := hQ217
          have N217 := Fr.app N210 Nq217
          refine GoW.step st217 ?_
          show GoW _ _ _ _ _ _ _ (T217.setTop (mkF m 278 #[.val (.int qc), .val (.int qf), .val (.int (3 : Int32)), .val (.int fro), .val (.int jnk), .val (.ref b3), .val (.ref b10), .val (.ref b34), .val (.ref b60), .val (.ref b10), .val (.ref b60), .val (.int (1 : Int32)), .unset] [(.int (1 : Int32))]))
          have hc278 : ¬ ((1 : Int32) = (0 : Int32)) := hc246
          refine GoW.step (fun _ k => XS.ifNo X217.here hx rfl (hb hby at_278) rfl ((if0 _ _).trans (feq hc278).1) k) ?_
          show GoW _ _ _ _ _ _ _ (T217.setTop (mkF m 281 #[.val (.int qc), .val (.int qf), .val (.int (3 : Int32)), .val (.int fro), .val (.int jnk), .val (.ref b3), .val (.ref b10), .val (.ref b34), .val (.ref b60), .val (.ref b10), .val (.ref b60), .val (.int (1 : Int32)), .unset] []))
          refine GoW.step (fun _ k => XS.iconst X217.here hx rfl (hb hby at_281) k) ?_
          show GoW _ _ _ _ _ _ _ (T217.setTop (mkF m 282 #[.val (.int qc), .val (.int qf), .val (.int (3 : Int32)), .val (.int fro), .val (.int jnk), .val (.ref b3), .val (.ref b10), .val (.ref b34), .val (.ref b60), .val (.ref b10), .val (.ref b60), .val (.int (1 : Int32)), .unset] [(.int (1 : Int32))]))
          refine GoW.step (fun _ k => XS.goto X217.here hx rfl (pc0 := 282) (pc' := 286) rfl (hb hby at_282) (by decide) (by decide) k) ?_
          show GoW _ _ _ _ _ _ _ (T217.setTop (mkF m 286 #[.val (.int qc), .val (.int qf), .val (.int (3 : Int32)), .val (.int fro), .val (.int jnk), .val (.ref b3), .val (.ref b10), .val (.ref b34), .val (.ref b60), .val (.ref b10), .val (.ref b60), .val (.int (1 : Int32)), .unset] [(.int (1 : Int32))]))
          refine GoW.step (fun _ k => XS.istore X217.here hx rfl (hb hby at_286) rfl (l' := #[.val (.int qc), .val (.int qf), .val (.int (3 : Int32)), .val (.int fro), .val (.int jnk), .val (.ref b3), .val (.ref b10), .val (.ref b34), .val (.ref b60), .val (.ref b10), .val (.ref b60), .val (.int (1 : Int32)), .unset]) rfl k) ?_
          show GoW _ _ _ _ _ _ _ (T217.setTop (mkF m 288 #[.val (.int qc), .val (.int qf), .val (.int (3 : Int32)), .val (.int fro), .val (.int jnk), .val (.ref b3), .val (.ref b10), .val (.ref b34), .val (.ref b60), .val (.ref b10), .val (.ref b60), .val (.int (1 : Int32)), .unset] []))
          refine GoW.step (fun _ k => XS.iload X217.here hx rfl (hb hby at_288) rfl  k) ?_
          show GoW _ _ _ _ _ _ _ (T217.setTop (mkF m 290 #[.val (.int qc), .val (.int qf), .val (.int (3 : Int32)), .val (.int fro), .val (.int jnk), .val (.ref b3), .val (.ref b10), .val (.ref b34), .val (.ref b60), .val (.ref b10), .val (.ref b60), .val (.int (1 : Int32)), .unset] [(.int (1 : Int32))]))
          have hc290 : ¬ ((1 : Int32) = (0 : Int32)) := hc278
          refine GoW.step (fun _ k => XS.ifNo X217.here hx rfl (hb hby at_290) rfl ((if0 _ _).trans (feq hc290).1) k) ?_
          show GoW _ _ _ _ _ _ _ (T217.setTop (mkF m 293 #[.val (.int qc), .val (.int qf), .val (.int (3 : Int32)), .val (.int fro), .val (.int jnk), .val (.ref b3), .val (.ref b10), .val (.ref b34), .val (.ref b60), .val (.ref b10), .val (.ref b60), .val (.int (1 : Int32)), .unset] []))
          refine GoW.step (fun _ k => XS.aload X217.here hx rfl (hb hby at_293) rfl rfl  k) ?_
          show GoW _ _ _ _ _ _ _ (T217.setTop (mkF m 295 #[.val (.int qc), .val (.int qf), .val (.int (3 : Int32)), .val (.int fro), .val (.int jnk), .val (.ref b3), .val (.ref b10), .val (.ref b34), .val (.ref b60), .val (.ref b10), .val (.ref b60), .val (.int (1 : Int32)), .unset] [(.ref b34)]))
          refine GoW.step (fun _ k => XS.iloadN X217.here hx rfl (hb hby at_295) rfl  k) ?_
          show GoW _ _ _ _ _ _ _ (T217.setTop (mkF m 296 #[.val (.int qc), .val (.int qf), .val (.int (3 : Int32)), .val (.int fro), .val (.int jnk), .val (.ref b3), .val (.ref b10), .val (.ref b34), .val (.ref b60), .val (.ref b10), .val (.ref b60), .val (.int (1 : Int32)), .unset] [(.int (3 : Int32)), (.ref b34)]))
          refine GoW.step (fun _ k => XS.iconst X217.here hx rfl (hb hby at_296) k) ?_
          show GoW _ _ _ _ _ _ _ (T217.setTop (mkF m 297 #[.val (.int qc), .val (.int qf), .val (.int (3 : Int32)), .val (.int fro), .val (.int jnk), .val (.ref b3), .val (.ref b10), .val (.ref b34), .val (.ref b60), .val (.ref b10), .val (.ref b60), .val (.int (1 : Int32)), .unset] [(.int (2 : Int32)), (.int (3 : Int32)), (.ref b34)]))
          have hc297 : ¬ ((3 : Int32) < (2 : Int32)) := hc266
          refine GoW.step (fun _ k => XS.icmpNo X217.here hx rfl (hb hby at_297) rfl (flt hc297).1 k) ?_
          show GoW _ _ _ _ _ _ _ (T217.setTop (mkF m 300 #[.val (.int qc), .val (.int qf), .val (.int (3 : Int32)), .val (.int fro), .val (.int jnk), .val (.ref b3), .val (.ref b10), .val (.ref b34), .val (.ref b60), .val (.ref b10), .val (.ref b60), .val (.int (1 : Int32)), .unset] [(.ref b34)]))
          refine GoW.step (fun _ k => XS.iconst X217.here hx rfl (hb hby at_300) k) ?_
          show GoW _ _ _ _ _ _ _ (T217.setTop (mkF m 301 #[.val (.int qc), .val (.int qf), .val (.int (3 : Int32)), .val (.int fro), .val (.int jnk), .val (.ref b3), .val (.ref b10), .val (.ref b34), .val (.ref b60), .val (.ref b10), .val (.ref b60), .val (.int (1 : Int32)), .unset] [(.int (1 : Int32)), (.ref b34)]))
          refine GoW.step (fun _ k => XS.goto X217.here hx rfl (pc0 := 301) (pc' := 305) rfl (hb hby at_301) (by decide) (by decide) k) ?_
          show GoW _ _ _ _ _ _ _ (T217.setTop (mkF m 305 #[.val (.int qc), .val (.int qf), .val (.int (3 : Int32)), .val (.int fro), .val (.int jnk), .val (.ref b3), .val (.ref b10), .val (.ref b34), .val (.ref b60), .val (.ref b10), .val (.ref b60), .val (.int (1 : Int32)), .unset] [(.int (1 : Int32)), (.ref b34)]))
          refine GoW.step (fun _ k => XS.aload X217.here hx rfl (hb hby at_305) rfl rfl  k) ?_
          show GoW _ _ _ _ _ _ _ (T217.setTop (mkF m 307 #[.val (.int qc), .val (.int qf), .val (.int (3 : Int32)), .val (.int fro), .val (.int jnk), .val (.ref b3), .val (.ref b10), .val (.ref b34), .val (.ref b60), .val (.ref b10), .val (.ref b60), .val (.int (1 : Int32)), .unset] [(.ref b3), (.int (1 : Int32)), (.ref b34)]))
          refine GoW.step (fun _ k => XS.aload X217.here hx rfl (hb hby at_307) rfl rfl  k) ?_
          show GoW _ _ _ _ _ _ _ (T217.setTop (mkF m 309 #[.val (.int qc), .val (.int qf), .val (.int (3 : Int32)), .val (.int fro), .val (.int jnk), .val (.ref b3), .val (.ref b10), .val (.ref b34), .val (.ref b60), .val (.ref b10), .val (.ref b60), .val (.int (1 : Int32)), .unset] [(.ref b10), (.ref b3), (.int (1 : Int32)), (.ref b34)]))
          refine GoW.step (fun _ k => XS.iloadN X217.here hx rfl (hb hby at_309) rfl  k) ?_
          show GoW _ _ _ _ _ _ _ (T217.setTop (mkF m 310 #[.val (.int qc), .val (.int qf), .val (.int (3 : Int32)), .val (.int fro), .val (.int jnk), .val (.ref b3), .val (.ref b10), .val (.ref b34), .val (.ref b60), .val (.ref b10), .val (.ref b60), .val (.int (1 : Int32)), .unset] [(.int (3 : Int32)), (.ref b10), (.ref b3), (.int (1 : Int32)), (.ref b34)]))
          refine GoW.step (fun _ k => XS.iconst X217.here hx rfl (hb hby at_310) k) ?_
          show GoW _ _ _ _ _ _ _ (T217.setTop (mkF m 311 #[.val (.int qc), .val (.int qf), .val (.int (3 : Int32)), .val (.int fro), .val (.int jnk), .val (.ref b3), .val (.ref b10), .val (.ref b34), .val (.ref b60), .val (.ref b10), .val (.ref b60), .val (.int (1 : Int32)), .unset] [(.int (3 : Int32)), (.int (3 : Int32)), (.ref b10), (.ref b3), (.int (1 : Int32)), (.ref b34)]))
          have hc311 : ¬ ((3 : Int32) < (3 : Int32)) := hc144
          refine GoW.step (fun _ k => XS.icmpNo X217.here hx rfl (hb hby at_311) rfl (flt hc311).1 k) ?_
          show GoW _ _ _ _ _ _ _ (T217.setTop (mkF m 314 #[.val (.int qc), .val (.int qf), .val (.int (3 : Int32)), .val (.int fro), .val (.int jnk), .val (.ref b3), .val (.ref b10), .val (.ref b34), .val (.ref b60), .val (.ref b10), .val (.ref b60), .val (.int (1 : Int32)), .unset] [(.ref b10), (.ref b3), (.int (1 : Int32)), (.ref b34)]))
          refine GoW.step (fun _ k => XS.aload X217.here hx rfl (hb hby at_314) rfl rfl  k) ?_
          show GoW _ _ _ _ _ _ _ (T217.setTop (mkF m 316 #[.val (.int qc), .val (.int qf), .val (.int (3 : Int32)), .val (.int fro), .val (.int jnk), .val (.ref b3), .val (.ref b10), .val (.ref b34), .val (.ref b60), .val (.ref b10), .val (.ref b60), .val (.int (1 : Int32)), .unset] [(.ref b60), (.ref b10), (.ref b3), (.int (1 : Int32)), (.ref b34)]))
          refine GoW.step (fun _ k => XS.goto X217.here hx rfl (pc0 := 316) (pc' := 320) rfl (hb hby at_316) (by decide) (by decide) k) ?_
          show GoW _ _ _ _ _ _ _ (T217.setTop (mkF m 320 #[.val (.int qc), .val (.int qf), .val (.int (3 : Int32)), .val (.int fro), .val (.int jnk), .val (.ref b3), .val (.ref b10), .val (.ref b34), .val (.ref b60), .val (.ref b10), .val (.ref b60), .val (.int (1 : Int32)), .unset] [(.ref b60), (.ref b10), (.ref b3), (.int (1 : Int32)), (.ref b34)]))
          have pq218 : (Value.ref b10).isRef = true := (by first | assumption | rfl | decide)
          have pq219 : (Value.ref b60).isRef = true := (by first | assumption | rfl | decide)
          have pq220 : (1 : Int32) = (1 : Int32) := rfl
          obtain ⟨_, _, ⟨T221, L221, k221, n221⟩, -, X221, ⟨Lc221, hQ221, l221, y221, z221⟩, st221⟩ := Jvm.LawKit.callS X217 hx (y := (⟨"com/example/steward/steward/runtime/GroupAddPinLaw", "linked", "(Lcom/example/steward/steward/runtime/Agent;ZLcom/example/steward/steward/runtime/Group;Lcom/example/steward/steward/runtime/Agent;Lcom/example/steward/steward/runtime/Agent;)Z"⟩ : MethodName)) hown (mvT hZ (hw _ (List.mem_of_getElem? (i := 64) rfl))) (mvT hZ (hw _ (List.mem_of_getElem? (i := 65) rfl))) (mvT hZ (hw _ (List.mem_of_getElem? (i := 66) rfl))) (mvT hZ (hw _ (List.mem_of_getElem? (i := 67) rfl))) (by decide) (backOf (W := 0) (rmli1 l Z aZ hw [] b34 (1 : Int32) b3 (Value.ref b10) (Value.ref b60) T204.heap n0 z205 pq218 pq219 c204_7 c204_8 c204_6 pq220) hZ (hw _ (List.mem_of_getElem? (i := 67) rfl)) (hw _ (List.mem_of_getElem? (i := 66) rfl)) (by decide) (by decide)) (g := (mkF m 320 #[.val (.int qc), .val (.int qf), .val (.int (3 : Int32)), .val (.int fro), .val (.int jnk), .val (.ref b3), .val (.ref b10), .val (.ref b34), .val (.ref b60), .val (.ref b10), .val (.ref b60), .val (.int (1 : Int32)), .unset] [(.ref b60), (.ref b10), (.ref b3), (.int (1 : Int32)), (.ref b34)])) rfl (by rw [hml]; rfl) (argsL := [(.ref b34), (.int (1 : Int32)), (.ref b3), (.ref b10), (.ref b60)]) (rest := []) (lenOf pd_6 rfl) rfl (by show 2 * 0 + _ ≤ _; exact Nat.le_of_eq rfl) (hb hby at_320) (fun _ _ => ⟨rfl, e217, (by decide : 16 + 0 ≤ _), (by decide : 74 + 0 ≤ _)⟩)
          dsimp only [Pt.U, Pt.locs, Pt.cells, Pt.slots] at X221 l221 y221 z221 st221 hQ221
          subst l221 y221 z221
          obtain ⟨rfl, Nq221, e221⟩ := hQ221
          have N221 := Fr.app N217 Nq221
          refine GoW.step st221 ?_
          show GoW _ _ _ _ _ _ _ (T221.setTop (mkF m 323 #[.val (.int qc), .val (.int qf), .val (.int (3 : Int32)), .val (.int fro), .val (.int jnk), .val (.ref b3), .val (.ref b10), .val (.ref b34), .val (.ref b60), .val (.ref b10), .val (.ref b60), .val (.int (1 : Int32)), .unset] [(.int (1 : Int32))]))
          have hc323 : ¬ ((1 : Int32) = (0 : Int32)) := hc290
          refine GoW.step (fun _ k => XS.ifNo X221.here hx rfl (hb hby at_323) rfl ((if0 _ _).trans (feq hc323).1) k) ?_
          show GoW _ _ _ _ _ _ _ (T221.setTop (mkF m 326 #[.val (.int qc), .val (.int qf), .val (.int (3 : Int32)), .val (.int fro), .val (.int jnk), .val (.ref b3), .val (.ref b10), .val (.ref b34), .val (.ref b60), .val (.ref b10), .val (.ref b60), .val (.int (1 : Int32)), .unset] []))
          refine GoW.step (fun _ k => XS.iconst X221.here hx rfl (hb hby at_326) k) ?_
          show GoW _ _ _ _ _ _ _ (T221.setTop (mkF m 327 #[.val (.int qc), .val (.int qf), .val (.int (3 : Int32)), .val (.int fro), .val (.int jnk), .val (.ref b3), .val (.ref b10), .val (.ref b34), .val (.ref b60), .val (.ref b10), .val (.ref b60), .val (.int (1 : Int32)), .unset] [(.int (1 : Int32))]))
          refine GoW.step (fun _ k => XS.goto X221.here hx rfl (pc0 := 327) (pc' := 331) rfl (hb hby at_327) (by decide) (by decide) k) ?_
          show GoW _ _ _ _ _ _ _ (T221.setTop (mkF m 331 #[.val (.int qc), .val (.int qf), .val (.int (3 : Int32)), .val (.int fro), .val (.int jnk), .val (.ref b3), .val (.ref b10), .val (.ref b34), .val (.ref b60), .val (.ref b10), .val (.ref b60), .val (.int (1 : Int32)), .unset] [(.int (1 : Int32))]))
          refine GoW.step (fun _ k => XS.istore X221.here hx rfl (hb hby at_331) rfl (l' := #[.val (.int qc), .val (.int qf), .val (.int (3 : Int32)), .val (.int fro), .val (.int jnk), .val (.ref b3), .val (.ref b10), .val (.ref b34), .val (.ref b60), .val (.ref b10), .val (.ref b60), .val (.int (1 : Int32)), .unset]) rfl k) ?_
          show GoW _ _ _ _ _ _ _ (T221.setTop (mkF m 333 #[.val (.int qc), .val (.int qf), .val (.int (3 : Int32)), .val (.int fro), .val (.int jnk), .val (.ref b3), .val (.ref b10), .val (.ref b34), .val (.ref b60), .val (.ref b10), .val (.ref b60), .val (.int (1 : Int32)), .unset] []))
          refine GoW.step (fun _ k => XS.iload X221.here hx rfl (hb hby at_333) rfl  k) ?_
          show GoW _ _ _ _ _ _ _ (T221.setTop (mkF m 335 #[.val (.int qc), .val (.int qf), .val (.int (3 : Int32)), .val (.int fro), .val (.int jnk), .val (.ref b3), .val (.ref b10), .val (.ref b34), .val (.ref b60), .val (.ref b10), .val (.ref b60), .val (.int (1 : Int32)), .unset] [(.int (1 : Int32))]))
          have hc335 : ¬ ((1 : Int32) = (0 : Int32)) := hc323
          refine GoW.step (fun _ k => XS.ifNo X221.here hx rfl (hb hby at_335) rfl ((if0 _ _).trans (feq hc335).1) k) ?_
          show GoW _ _ _ _ _ _ _ (T221.setTop (mkF m 338 #[.val (.int qc), .val (.int qf), .val (.int (3 : Int32)), .val (.int fro), .val (.int jnk), .val (.ref b3), .val (.ref b10), .val (.ref b34), .val (.ref b60), .val (.ref b10), .val (.ref b60), .val (.int (1 : Int32)), .unset] []))
          refine GoW.step (fun _ k => XS.aload X221.here hx rfl (hb hby at_338) rfl rfl  k) ?_
          show GoW _ _ _ _ _ _ _ (T221.setTop (mkF m 340 #[.val (.int qc), .val (.int qf), .val (.int (3 : Int32)), .val (.int fro), .val (.int jnk), .val (.ref b3), .val (.ref b10), .val (.ref b34), .val (.ref b60), .val (.ref b10), .val (.ref b60), .val (.int (1 : Int32)), .unset] [(.ref b60)]))
          refine GoW.step (fun _ k => XS.iloadN X221.here hx rfl (hb hby at_340) rfl  k) ?_
          show GoW _ _ _ _ _ _ _ (T221.setTop (mkF m 341 #[.val (.int qc), .val (.int qf), .val (.int (3 : Int32)), .val (.int fro), .val (.int jnk), .val (.ref b3), .val (.ref b10), .val (.ref b34), .val (.ref b60), .val (.ref b10), .val (.ref b60), .val (.int (1 : Int32)), .unset] [(.int (3 : Int32)), (.ref b60)]))
          refine GoW.step (fun _ k => XS.iconst X221.here hx rfl (hb hby at_341) k) ?_
          show GoW _ _ _ _ _ _ _ (T221.setTop (mkF m 342 #[.val (.int qc), .val (.int qf), .val (.int (3 : Int32)), .val (.int fro), .val (.int jnk), .val (.ref b3), .val (.ref b10), .val (.ref b34), .val (.ref b60), .val (.ref b10), .val (.ref b60), .val (.int (1 : Int32)), .unset] [(.int (3 : Int32)), (.int (3 : Int32)), (.ref b60)]))
          have hc342 : ¬ ((3 : Int32) < (3 : Int32)) := hc311
          refine GoW.step (fun _ k => XS.icmpNo X221.here hx rfl (hb hby at_342) rfl (flt hc342).1 k) ?_
          show GoW _ _ _ _ _ _ _ (T221.setTop (mkF m 345 #[.val (.int qc), .val (.int qf), .val (.int (3 : Int32)), .val (.int fro), .val (.int jnk), .val (.ref b3), .val (.ref b10), .val (.ref b34), .val (.ref b60), .val (.ref b10), .val (.ref b60), .val (.int (1 : Int32)), .unset] [(.ref b60)]))
          refine GoW.step (fun _ k => XS.iconst X221.here hx rfl (hb hby at_345) k) ?_
          show GoW _ _ _ _ _ _ _ (T221.setTop (mkF m 346 #[.val (.int qc), .val (.int qf), .val (.int (3 : Int32)), .val (.int fro), .val (.int jnk), .val (.ref b3), .val (.ref b10), .val (.ref b34), .val (.ref b60), .val (.ref b10), .val (.ref b60), .val (.int (1 : Int32)), .unset] [(.int (1 : Int32)), (.ref b60)]))
          refine GoW.step (fun _ k => XS.goto X221.here hx rfl (pc0 := 346) (pc' := 350) rfl (hb hby at_346) (by decide) (by decide) k) ?_
          show GoW _ _ _ _ _ _ _ (T221.setTop (mkF m 350 #[.val (.int qc), .val (.int qf), .val (.int (3 : Int32)), .val (.int fro), .val (.int jnk), .val (.ref b3), .val (.ref b10), .val (.ref b34), .val (.ref b60), .val (.ref b10), .val (.ref b60), .val (.int (1 : Int32)), .unset] [(.int (1 : Int32)), (.ref b60)]))
          refine GoW.step (fun _ k => XS.aload X221.here hx rfl (hb hby at_350) rfl rfl  k) ?_
          show GoW _ _ _ _ _ _ _ (T221.setTop (mkF m 352 #[.val (.int qc), .val (.int qf), .val (.int (3 : Int32)), .val (.int fro), .val (.int jnk), .val (.ref b3), .val (.ref b10), .val (.ref b34), .val (.ref b60), .val (.ref b10), .val (.ref b60), .val (.int (1 : Int32)), .unset] [(.ref b3), (.int (1 : Int32)), (.ref b60)]))
          refine GoW.step (fun _ k => XS.aload X221.here hx rfl (hb hby at_352) rfl rfl  k) ?_
          show GoW _ _ _ _ _ _ _ (T221.setTop (mkF m 354 #[.val (.int qc), .val (.int qf), .val (.int (3 : Int32)), .val (.int fro), .val (.int jnk), .val (.ref b3), .val (.ref b10), .val (.ref b34), .val (.ref b60), .val (.ref b10), .val (.ref b60), .val (.int (1 : Int32)), .unset] [(.ref b34), (.ref b3), (.int (1 : Int32)), (.ref b60)]))
          refine GoW.step (fun _ k => XS.aconstNull X221.here hx rfl (hb hby at_354) k) ?_
          show GoW _ _ _ _ _ _ _ (T221.setTop (mkF m 355 #[.val (.int qc), .val (.int qf), .val (.int (3 : Int32)), .val (.int fro), .val (.int jnk), .val (.ref b3), .val (.ref b10), .val (.ref b34), .val (.ref b60), .val (.ref b10), .val (.ref b60), .val (.int (1 : Int32)), .unset] [.null, (.ref b34), (.ref b3), (.int (1 : Int32)), (.ref b60)]))
          have pq222 : (Value.ref b34).isRef = true := (by first | assumption | rfl | decide)
          have pq223 : Value.null.isRef = true := (by first | assumption | rfl | decide)
          have pq224 : (1 : Int32) = (1 : Int32) := rfl
          obtain ⟨_, _, ⟨T225, L225, k225, n225⟩, -, X225, ⟨Lc225, hQ225, l225, y225, z225⟩, st225⟩ := Jvm.LawKit.callS X221 hx (y := (⟨"com/example/steward/steward/runtime/GroupAddPinLaw", "linked", "(Lcom/example/steward/steward/runtime/Agent;ZLcom/example/steward/steward/runtime/Group;Lcom/example/steward/steward/runtime/Agent;Lcom/example/steward/steward/runtime/Agent;)Z"⟩ : MethodName)) hown (mvT hZ (hw _ (List.mem_of_getElem? (i := 64) rfl))) (mvT hZ (hw _ (List.mem_of_getElem? (i := 65) rfl))) (mvT hZ (hw _ (List.mem_of_getElem? (i := 66) rfl))) (mvT hZ (hw _ (List.mem_of_getElem? (i := 67) rfl))) (by decide) (backOf (W := 0) (rmli1 l Z aZ hw [] b60 (1 : Int32) b3 (Value.ref b34) Value.null T204.heap n0 z205 pq222 pq223 c204_3 c204_4 c204_5 pq224) hZ (hw _ (List.mem_of_getElem? (i := 67) rfl)) (hw _ (List.mem_of_getElem? (i := 66) rfl)) (by decide) (by decide)) (g := (mkF m 355 #[.val (.int qc), .val (.int qf), .val (.int (3 : Int32)), .val (.int fro), .val (.int jnk), .val (.ref b3), .val (.ref b10), .val (.ref b34), .val (.ref b60), .val (.ref b10), .val (.ref b60), .val (.int (1 : Int32)), .unset] [.null, (.ref b34), (.ref b3), (.int (1 : Int32)), (.ref b60)])) rfl (by rw [hml]; rfl) (argsL := [(.ref b60), (.int (1 : Int32)), (.ref b3), (.ref b34), .null]) (rest := []) (lenOf pd_6 rfl) rfl (by show 2 * 0 + _ ≤ _; exact Nat.le_of_eq rfl) (hb hby at_355) (fun _ _ => ⟨rfl, e221, (by decide : 16 + 0 ≤ _), (by decide : 74 + 0 ≤ _)⟩)
          dsimp only [Pt.U, Pt.locs, Pt.cells, Pt.slots] at X225 l225 y225 z225 st225 hQ225
          subst l225 y225 z225
          obtain ⟨rfl, Nq225, e225⟩ := hQ225
          have N225 := Fr.app N221 Nq225
          refine GoW.step st225 ?_
          show GoW _ _ _ _ _ _ _ (T225.setTop (mkF m 358 #[.val (.int qc), .val (.int qf), .val (.int (3 : Int32)), .val (.int fro), .val (.int jnk), .val (.ref b3), .val (.ref b10), .val (.ref b34), .val (.ref b60), .val (.ref b10), .val (.ref b60), .val (.int (1 : Int32)), .unset] [(.int (1 : Int32))]))
          have hc358 : ¬ ((1 : Int32) = (0 : Int32)) := hc335
          refine GoW.step (fun _ k => XS.ifNo X225.here hx rfl (hb hby at_358) rfl ((if0 _ _).trans (feq hc358).1) k) ?_
          show GoW _ _ _ _ _ _ _ (T225.setTop (mkF m 361 #[.val (.int qc), .val (.int qf), .val (.int (3 : Int32)), .val (.int fro), .val (.int jnk), .val (.ref b3), .val (.ref b10), .val (.ref b34), .val (.ref b60), .val (.ref b10), .val (.ref b60), .val (.int (1 : Int32)), .unset] []))
          refine GoW.step (fun _ k => XS.iconst X225.here hx rfl (hb hby at_361) k) ?_
          show GoW _ _ _ _ _ _ _ (T225.setTop (mkF m 362 #[.val (.int qc), .val (.int qf), .val (.int (3 : Int32)), .val (.int fro), .val (.int jnk), .val (.ref b3), .val (.ref b10), .val (.ref b34), .val (.ref b60), .val (.ref b10), .val (.ref b60), .val (.int (1 : Int32)), .unset] [(.int (1 : Int32))]))
          refine GoW.step (fun _ k => XS.goto X225.here hx rfl (pc0 := 362) (pc' := 366) rfl (hb hby at_362) (by decide) (by decide) k) ?_
          show GoW _ _ _ _ _ _ _ (T225.setTop (mkF m 366 #[.val (.int qc), .val (.int qf), .val (.int (3 : Int32)), .val (.int fro), .val (.int jnk), .val (.ref b3), .val (.ref b10), .val (.ref b34), .val (.ref b60), .val (.ref b10), .val (.ref b60), .val (.int (1 : Int32)), .unset] [(.int (1 : Int32))]))
          refine GoW.step (fun _ k => XS.istore X225.here hx rfl (hb hby at_366) rfl (l' := #[.val (.int qc), .val (.int qf), .val (.int (3 : Int32)), .val (.int fro), .val (.int jnk), .val (.ref b3), .val (.ref b10), .val (.ref b34), .val (.ref b60), .val (.ref b10), .val (.ref b60), .val (.int (1 : Int32)), .unset]) rfl k) ?_
          show GoW _ _ _ _ _ _ _ (T225.setTop (mkF m 368 #[.val (.int qc), .val (.int qf), .val (.int (3 : Int32)), .val (.int fro), .val (.int jnk), .val (.ref b3), .val (.ref b10), .val (.ref b34), .val (.ref b60), .val (.ref b10), .val (.ref b60), .val (.int (1 : Int32)), .unset] []))
          refine GoW.step (fun _ k => XS.iloadN X225.here hx rfl (hb hby at_368) rfl  k) ?_
          show GoW _ _ _ _ _ _ _ (T225.setTop (mkF m 369 #[.val (.int qc), .val (.int qf), .val (.int (3 : Int32)), .val (.int fro), .val (.int jnk), .val (.ref b3), .val (.ref b10), .val (.ref b34), .val (.ref b60), .val (.ref b10), .val (.ref b60), .val (.int (1 : Int32)), .unset] [(.int fro)]))
          by_cases hc369 : fro = (0 : Int32)
          · skip
            refine GoW.step (fun _ k => XS.ifYes X225.here hx rfl (pc0 := 369) (pc' := 380) rfl (hb hby at_369) rfl ((if0 _ _).trans (teq hc369).1) (by decide) (by decide) k) ?_
            show GoW _ _ _ _ _ _ _ (T225.setTop (mkF m 380 #[.val (.int qc), .val (.int qf), .val (.int (3 : Int32)), .val (.int fro), .val (.int jnk), .val (.ref b3), .val (.ref b10), .val (.ref b34), .val (.ref b60), .val (.ref b10), .val (.ref b60), .val (.int (1 : Int32)), .unset] []))
            refine GoW.step (fun _ k => XS.aload X225.here hx rfl (hb hby at_380) rfl rfl  k) ?_
            show GoW _ _ _ _ _ _ _ (T225.setTop (mkF m 382 #[.val (.int qc), .val (.int qf), .val (.int (3 : Int32)), .val (.int fro), .val (.int jnk), .val (.ref b3), .val (.ref b10), .val (.ref b34), .val (.ref b60), .val (.ref b10), .val (.ref b60), .val (.int (1 : Int32)), .unset] [(.ref b3)]))
            obtain ⟨cq226, kq226, q226a, q226b, q226c⟩ := isOf hZ e225 c204_0
            obtain ⟨_, _, ⟨T226, L226, k226, n226⟩, -, X226, ⟨Lc226, hQ226, l226, y226, z226⟩, st226⟩ := X225.virtualBack hx (y := (⟨"com/example/steward/steward/runtime/Group", "pollLast", "()Lcom/example/steward/steward/runtime/Agent;"⟩ : MethodName)) (z := (⟨"com/example/steward/steward/runtime/Group", "pollLast", "()Lcom/example/steward/steward/runtime/Agent;"⟩ : MethodName)) hown (mvT hZ (hw _ (List.mem_of_getElem? (i := 90) rfl))) (mvT hZ (hw _ (List.mem_of_getElem? (i := 91) rfl))) (notFace_of_selects (args := #[]) (mvT hZ (hw _ (List.mem_of_getElem? (i := 93) rfl)))) (mvT hZ (hw _ (List.mem_of_getElem? (i := 93) rfl))) (mvT hZ (hw _ (List.mem_of_getElem? (i := 92) rfl))) (by decide) (backOf (W := 0) (rmpollLast2 l Z aZ hw [] b3 b60 (Value.ref b3) (Value.ref b10) b34 (Value.ref b60) (Value.ref b3) (Value.ref b10) T204.heap n0 z205 c204_10 c204_0 c204_1 c204_3 c204_10 gn3 gn60 c204_9 c204_4 c204_5 c204_2 c204_6 c204_7 c204_8 (Ne.symm ne65) gn34) hZ (hw _ (List.mem_of_getElem? (i := 94) rfl)) (hw _ (List.mem_of_getElem? (i := 2) rfl)) (by decide) (by decide)) q226a q226c (g := (mkF m 382 #[.val (.int qc), .val (.int qf), .val (.int (3 : Int32)), .val (.int fro), .val (.int jnk), .val (.ref b3), .val (.ref b10), .val (.ref b34), .val (.ref b60), .val (.ref b10), .val (.ref b60), .val (.int (1 : Int32)), .unset] [(.ref b3)])) rfl (by rw [hml]; rfl) (Steps.refl _) (argsL := []) (rest := []) (lenOf pd_5 rfl) rfl (by show 2 * 0 + _ ≤ _; exact Nat.le_of_eq rfl) (hb hby at_382) (fun _ _ => ⟨rfl, e225, (by decide : 16 + 0 ≤ _), (by decide : 74 + 0 ≤ _)⟩)
            dsimp only [Pt.U, Pt.locs, Pt.cells, Pt.slots] at X226 l226 y226 z226 st226 hQ226
            subst l226 y226 z226
            obtain ⟨rfl, Nq226, K226⟩ := hQ226
            have N226 := Fr.app N225 Nq226
            refine GoW.tr st226 ?_
            have z227 : n0 ≤ T226.heap.size := Nat.le_trans z205 K226.1
            have sqz227 : h0.size ≤ T226.heap.size := Nat.le_trans sqz205 K226.1
            have hk229 := Nat.le_trans hk207 K226.1
            show GoW _ _ _ _ _ _ _ (T226.setTop (mkF m 385 #[.val (.int qc), .val (.int qf), .val (.int (3 : Int32)), .val (.int fro), .val (.int jnk), .val (.ref b3), .val (.ref b10), .val (.ref b34), .val (.ref b60), .val (.ref b10), .val (.ref b60), .val (.int (1 : Int32)), .unset] [(.ref b60)]))
            refine GoW.step (fun _ k => XS.astore X226.here hx rfl (hb hby at_385) rfl rfl (l' := #[.val (.int qc), .val (.int qf), .val (.int (3 : Int32)), .val (.int fro), .val (.int jnk), .val (.ref b3), .val (.ref b10), .val (.ref b34), .val (.ref b60), .val (.ref b10), .val (.ref b60), .val (.int (1 : Int32)), .val (.ref b60)]) rfl k) ?_
            show GoW _ _ _ _ _ _ _ (T226.setTop (mkF m 387 #[.val (.int qc), .val (.int qf), .val (.int (3 : Int32)), .val (.int fro), .val (.int jnk), .val (.ref b3), .val (.ref b10), .val (.ref b34), .val (.ref b60), .val (.ref b10), .val (.ref b60), .val (.int (1 : Int32)), .val (.ref b60)] []))
            refine GoW.step (fun _ k => XS.iload X226.here hx rfl (hb hby at_387) rfl  k) ?_
            show GoW _ _ _ _ _ _ _ (T226.setTop (mkF m 389 #[.val (.int qc), .val (.int qf), .val (.int (3 : Int32)), .val (.int fro), .val (.int jnk), .val (.ref b3), .val (.ref b10), .val (.ref b34), .val (.ref b60), .val (.ref b10), .val (.ref b60), .val (.int (1 : Int32)), .val (.ref b60)] [(.int (1 : Int32))]))
            have hc389 : ¬ ((1 : Int32) = (0 : Int32)) := hc358
            refine GoW.step (fun _ k => XS.ifNo X226.here hx rfl (hb hby at_389) rfl ((if0 _ _).trans (feq hc389).1) k) ?_
            show GoW _ _ _ _ _ _ _ (T226.setTop (mkF m 392 #[.val (.int qc), .val (.int qf), .val (.int (3 : Int32)), .val (.int fro), .val (.int jnk), .val (.ref b3), .val (.ref b10), .val (.ref b34), .val (.ref b60), .val (.ref b10), .val (.ref b60), .val (.int (1 : Int32)), .val (.ref b60)] []))
            refine GoW.step (fun _ k => XS.aload X226.here hx rfl (hb hby at_392) rfl rfl  k) ?_
            show GoW _ _ _ _ _ _ _ (T226.setTop (mkF m 394 #[.val (.int qc), .val (.int qf), .val (.int (3 : Int32)), .val (.int fro), .val (.int jnk), .val (.ref b3), .val (.ref b10), .val (.ref b34), .val (.ref b60), .val (.ref b10), .val (.ref b60), .val (.int (1 : Int32)), .val (.ref b60)] [(.ref b60)]))
            refine GoW.step (fun _ k => XS.iloadN X226.here hx rfl (hb hby at_394) rfl  k) ?_
            show GoW _ _ _ _ _ _ _ (T226.setTop (mkF m 395 #[.val (.int qc), .val (.int qf), .val (.int (3 : Int32)), .val (.int fro), .val (.int jnk), .val (.ref b3), .val (.ref b10), .val (.ref b34), .val (.ref b60), .val (.ref b10), .val (.ref b60), .val (.int (1 : Int32)), .val (.ref b60)] [(.int fro), (.ref b60)]))
            have hc395 : fro = (0 : Int32) := hc369
            refine GoW.step (fun _ k => XS.ifYes X226.here hx rfl (pc0 := 395) (pc' := 403) rfl (hb hby at_395) rfl ((if0 _ _).trans (teq hc395).1) (by decide) (by decide) k) ?_
            show GoW _ _ _ _ _ _ _ (T226.setTop (mkF m 403 #[.val (.int qc), .val (.int qf), .val (.int (3 : Int32)), .val (.int fro), .val (.int jnk), .val (.ref b3), .val (.ref b10), .val (.ref b34), .val (.ref b60), .val (.ref b10), .val (.ref b60), .val (.int (1 : Int32)), .val (.ref b60)] [(.ref b60)]))
            refine GoW.step (fun _ k => XS.aload X226.here hx rfl (hb hby at_403) rfl rfl  k) ?_
            show GoW _ _ _ _ _ _ _ (T226.setTop (mkF m 405 #[.val (.int qc), .val (.int qf), .val (.int (3 : Int32)), .val (.int fro), .val (.int jnk), .val (.ref b3), .val (.ref b10), .val (.ref b34), .val (.ref b60), .val (.ref b10), .val (.ref b60), .val (.int (1 : Int32)), .val (.ref b60)] [(.ref b60), (.ref b60)]))
            refine GoW.step (fun _ k => Jvm.RoadKit.acmp (g := (mkF m 405 #[.val (.int qc), .val (.int qf), .val (.int (3 : Int32)), .val (.int fro), .val (.int jnk), .val (.ref b3), .val (.ref b10), .val (.ref b34), .val (.ref b60), .val (.ref b10), .val (.ref b60), .val (.int (1 : Int32)), .val (.ref b60)] [(.ref b60), (.ref b60)])) X226 hx rfl rfl rfl (pc0 := 405) (pc' := 408) (same := true) rfl (hb hby at_405) rfl (decide_eq_true rfl) (by decide) (by decide) k) ?_
            show GoW _ _ _ _ _ _ _ (T226.setTop (mkF m 408 #[.val (.int qc), .val (.int qf), .val (.int (3 : Int32)), .val (.int fro), .val (.int jnk), .val (.ref b3), .val (.ref b10), .val (.ref b34), .val (.ref b60), .val (.ref b10), .val (.ref b60), .val (.int (1 : Int32)), .val (.ref b60)] []))
            refine GoW.step (fun _ k => XS.iconst X226.here hx rfl (hb hby at_408) k) ?_
            show GoW _ _ _ _ _ _ _ (T226.setTop (mkF m 409 #[.val (.int qc), .val (.int qf), .val (.int (3 : Int32)), .val (.int fro), .val (.int jnk), .val (.ref b3), .val (.ref b10), .val (.ref b34), .val (.ref b60), .val (.ref b10), .val (.ref b60), .val (.int (1 : Int32)), .val (.ref b60)] [(.int (1 : Int32))]))
            refine GoW.step (fun _ k => XS.goto X226.here hx rfl (pc0 := 409) (pc' := 413) rfl (hb hby at_409) (by decide) (by decide) k) ?_
            show GoW _ _ _ _ _ _ _ (T226.setTop (mkF m 413 #[.val (.int qc), .val (.int qf), .val (.int (3 : Int32)), .val (.int fro), .val (.int jnk), .val (.ref b3), .val (.ref b10), .val (.ref b34), .val (.ref b60), .val (.ref b10), .val (.ref b60), .val (.int (1 : Int32)), .val (.ref b60)] [(.int (1 : Int32))]))
            refine GoW.step (fun _ k => XS.istore X226.here hx rfl (hb hby at_413) rfl (l' := #[.val (.int qc), .val (.int qf), .val (.int (3 : Int32)), .val (.int fro), .val (.int jnk), .val (.ref b3), .val (.ref b10), .val (.ref b34), .val (.ref b60), .val (.ref b10), .val (.ref b60), .val (.int (1 : Int32)), .val (.ref b60)]) rfl k) ?_
            show GoW _ _ _ _ _ _ _ (T226.setTop (mkF m 415 #[.val (.int qc), .val (.int qf), .val (.int (3 : Int32)), .val (.int fro), .val (.int jnk), .val (.ref b3), .val (.ref b10), .val (.ref b34), .val (.ref b60), .val (.ref b10), .val (.ref b60), .val (.int (1 : Int32)), .val (.ref b60)] []))
            refine GoW.step (fun _ k => XS.iload X226.here hx rfl (hb hby at_415) rfl  k) ?_
            show GoW _ _ _ _ _ _ _ (T226.setTop (mkF m 417 #[.val (.int qc), .val (.int qf), .val (.int (3 : Int32)), .val (.int fro), .val (.int jnk), .val (.ref b3), .val (.ref b10), .val (.ref b34), .val (.ref b60), .val (.ref b10), .val (.ref b60), .val (.int (1 : Int32)), .val (.ref b60)] [(.int (1 : Int32))]))
            refine GoW.retN X226 hS88 hk229 hx (t := .boolean) Bd.returns (by simp) hlk (hb hby at_417) ?_ (by decide) (by decide)
            exact ⟨(by first | rfl | (simp_all [own_nb1, own_nb0]; done)), N226⟩
          · skip
            refine GoW.step (fun _ k => XS.ifNo X225.here hx rfl (hb hby at_369) rfl ((if0 _ _).trans (feq hc369).1) k) ?_
            show GoW _ _ _ _ _ _ _ (T225.setTop (mkF m 372 #[.val (.int qc), .val (.int qf), .val (.int (3 : Int32)), .val (.int fro), .val (.int jnk), .val (.ref b3), .val (.ref b10), .val (.ref b34), .val (.ref b60), .val (.ref b10), .val (.ref b60), .val (.int (1 : Int32)), .unset] []))
            refine GoW.step (fun _ k => XS.aload X225.here hx rfl (hb hby at_372) rfl rfl  k) ?_
            show GoW _ _ _ _ _ _ _ (T225.setTop (mkF m 374 #[.val (.int qc), .val (.int qf), .val (.int (3 : Int32)), .val (.int fro), .val (.int jnk), .val (.ref b3), .val (.ref b10), .val (.ref b34), .val (.ref b60), .val (.ref b10), .val (.ref b60), .val (.int (1 : Int32)), .unset] [(.ref b3)]))
            have f230 : Exa Z T204.heap b10 "com/example/steward/steward/runtime/Agent" := (c196_2.keep K204)
            obtain ⟨cq231, kq231, q231a, q231b, q231c⟩ := isOf hZ e225 c204_0
            obtain ⟨_, _, ⟨T231, L231, k231, n231⟩, -, X231, ⟨Lc231, hQ231, l231, y231, z231⟩, st231⟩ := X225.virtualBack hx (y := (⟨"com/example/steward/steward/runtime/Group", "pollFirst", "()Lcom/example/steward/steward/runtime/Agent;"⟩ : MethodName)) (z := (⟨"com/example/steward/steward/runtime/Group", "pollFirst", "()Lcom/example/steward/steward/runtime/Agent;"⟩ : MethodName)) hown (mvT hZ (hw _ (List.mem_of_getElem? (i := 70) rfl))) (mvT hZ (hw _ (List.mem_of_getElem? (i := 71) rfl))) (notFace_of_selects (args := #[]) (mvT hZ (hw _ (List.mem_of_getElem? (i := 73) rfl)))) (mvT hZ (hw _ (List.mem_of_getElem? (i := 73) rfl))) (mvT hZ (hw _ (List.mem_of_getElem? (i := 72) rfl))) (by decide) (backOf (W := 0) (rmpollFirst2 l Z aZ hw [] b3 b10 (Value.ref b3) (Value.ref b60) b34 (Value.ref b60) (Value.ref b3) (Value.ref b10) T204.heap n0 z205 c204_9 c204_0 f230 f213 c204_9 gn3 gn10 c204_10 f215 f214 c204_2 c204_6 c204_7 c204_8 ne37 gn34) hZ (hw _ (List.mem_of_getElem? (i := 74) rfl)) (hw _ (List.mem_of_getElem? (i := 2) rfl)) (by decide) (by decide)) q231a q231c (g := (mkF m 374 #[.val (.int qc), .val (.int qf), .val (.int (3 : Int32)), .val (.int fro), .val (.int jnk), .val (.ref b3), .val (.ref b10), .val (.ref b34), .val (.ref b60), .val (.ref b10), .val (.ref b60), .val (.int (1 : Int32)), .unset] [(.ref b3)])) rfl (by rw [hml]; rfl) (Steps.refl _) (argsL := []) (rest := []) (lenOf pd_5 rfl) rfl (by show 2 * 0 + _ ≤ _; exact Nat.le_of_eq rfl) (hb hby at_374) (fun _ _ => ⟨rfl, e225, (by decide : 16 + 0 ≤ _), (by decide : 74 + 0 ≤ _)⟩)
            dsimp only [Pt.U, Pt.locs, Pt.cells, Pt.slots] at X231 l231 y231 z231 st231 hQ231
            subst l231 y231 z231
            obtain ⟨rfl, Nq231, K231⟩ := hQ231
            have N231 := Fr.app N225 Nq231
            refine GoW.tr st231 ?_
            have z232 : n0 ≤ T231.heap.size := Nat.le_trans z205 K231.1
            have sqz232 : h0.size ≤ T231.heap.size := Nat.le_trans sqz205 K231.1
            have hk234 := Nat.le_trans hk207 K231.1
            show GoW _ _ _ _ _ _ _ (T231.setTop (mkF m 377 #[.val (.int qc), .val (.int qf), .val (.int (3 : Int32)), .val (.int fro), .val (.int jnk), .val (.ref b3), .val (.ref b10), .val (.ref b34), .val (.ref b60), .val (.ref b10), .val (.ref b60), .val (.int (1 : Int32)), .unset] [(.ref b10)]))
            refine GoW.step (fun _ k => XS.goto X231.here hx rfl (pc0 := 377) (pc' := 385) rfl (hb hby at_377) (by decide) (by decide) k) ?_
            show GoW _ _ _ _ _ _ _ (T231.setTop (mkF m 385 #[.val (.int qc), .val (.int qf), .val (.int (3 : Int32)), .val (.int fro), .val (.int jnk), .val (.ref b3), .val (.ref b10), .val (.ref b34), .val (.ref b60), .val (.ref b10), .val (.ref b60), .val (.int (1 : Int32)), .unset] [(.ref b10)]))
            refine GoW.step (fun _ k => XS.astore X231.here hx rfl (hb hby at_385) rfl rfl (l' := #[.val (.int qc), .val (.int qf), .val (.int (3 : Int32)), .val (.int fro), .val (.int jnk), .val (.ref b3), .val (.ref b10), .val (.ref b34), .val (.ref b60), .val (.ref b10), .val (.ref b60), .val (.int (1 : Int32)), .val (.ref b10)]) rfl k) ?_
            show GoW _ _ _ _ _ _ _ (T231.setTop (mkF m 387 #[.val (.int qc), .val (.int qf), .val (.int (3 : Int32)), .val (.int fro), .val (.int jnk), .val (.ref b3), .val (.ref b10), .val (.ref b34), .val (.ref b60), .val (.ref b10), .val (.ref b60), .val (.int (1 : Int32)), .val (.ref b10)] []))
            refine GoW.step (fun _ k => XS.iload X231.here hx rfl (hb hby at_387) rfl  k) ?_
            show GoW _ _ _ _ _ _ _ (T231.setTop (mkF m 389 #[.val (.int qc), .val (.int qf), .val (.int (3 : Int32)), .val (.int fro), .val (.int jnk), .val (.ref b3), .val (.ref b10), .val (.ref b34), .val (.ref b60), .val (.ref b10), .val (.ref b60), .val (.int (1 : Int32)), .val (.ref b10)] [(.int (1 : Int32))]))
            have hc389 : ¬ ((1 : Int32) = (0 : Int32)) := hc358
            refine GoW.step (fun _ k => XS.ifNo X231.here hx rfl (hb hby at_389) rfl ((if0 _ _).trans (feq hc389).1) k) ?_
            show GoW _ _ _ _ _ _ _ (T231.setTop (mkF m 392 #[.val (.int qc), .val (.int qf), .val (.int (3 : Int32)), .val (.int fro), .val (.int jnk), .val (.ref b3), .val (.ref b10), .val (.ref b34), .val (.ref b60), .val (.ref b10), .val (.ref b60), .val (.int (1 : Int32)), .val (.ref b10)] []))
            refine GoW.step (fun _ k => XS.aload X231.here hx rfl (hb hby at_392) rfl rfl  k) ?_
            show GoW _ _ _ _ _ _ _ (T231.setTop (mkF m 394 #[.val (.int qc), .val (.int qf), .val (.int (3 : Int32)), .val (.int fro), .val (.int jnk), .val (.ref b3), .val (.ref b10), .val (.ref b34), .val (.ref b60), .val (.ref b10), .val (.ref b60), .val (.int (1 : Int32)), .val (.ref b10)] [(.ref b10)]))
            refine GoW.step (fun _ k => XS.iloadN X231.here hx rfl (hb hby at_394) rfl  k) ?_
            show GoW _ _ _ _ _ _ _ (T231.setTop (mkF m 395 #[.val (.int qc), .val (.int qf), .val (.int (3 : Int32)), .val (.int fro), .val (.int jnk), .val (.ref b3), .val (.ref b10), .val (.ref b34), .val (.ref b60), .val (.ref b10), .val (.ref b60), .val (.int (1 : Int32)), .val (.ref b10)] [(.int fro), (.ref b10)]))
            have hc395 : ¬ (fro = (0 : Int32)) := hc369
            refine GoW.step (fun _ k => XS.ifNo X231.here hx rfl (hb hby at_395) rfl ((if0 _ _).trans (feq hc395).1) k) ?_
            show GoW _ _ _ _ _ _ _ (T231.setTop (mkF m 398 #[.val (.int qc), .val (.int qf), .val (.int (3 : Int32)), .val (.int fro), .val (.int jnk), .val (.ref b3), .val (.ref b10), .val (.ref b34), .val (.ref b60), .val (.ref b10), .val (.ref b60), .val (.int (1 : Int32)), .val (.ref b10)] [(.ref b10)]))
            refine GoW.step (fun _ k => XS.aload X231.here hx rfl (hb hby at_398) rfl rfl  k) ?_
            show GoW _ _ _ _ _ _ _ (T231.setTop (mkF m 400 #[.val (.int qc), .val (.int qf), .val (.int (3 : Int32)), .val (.int fro), .val (.int jnk), .val (.ref b3), .val (.ref b10), .val (.ref b34), .val (.ref b60), .val (.ref b10), .val (.ref b60), .val (.int (1 : Int32)), .val (.ref b10)] [(.ref b10), (.ref b10)]))
            refine GoW.step (fun _ k => XS.goto X231.here hx rfl (pc0 := 400) (pc' := 405) rfl (hb hby at_400) (by decide) (by decide) k) ?_
            show GoW _ _ _ _ _ _ _ (T231.setTop (mkF m 405 #[.val (.int qc), .val (.int qf), .val (.int (3 : Int32)), .val (.int fro), .val (.int jnk), .val (.ref b3), .val (.ref b10), .val (.ref b34), .val (.ref b60), .val (.ref b10), .val (.ref b60), .val (.int (1 : Int32)), .val (.ref b10)] [(.ref b10), (.ref b10)]))
            refine GoW.step (fun _ k => Jvm.RoadKit.acmp (g := (mkF m 405 #[.val (.int qc), .val (.int qf), .val (.int (3 : Int32)), .val (.int fro), .val (.int jnk), .val (.ref b3), .val (.ref b10), .val (.ref b34), .val (.ref b60), .val (.ref b10), .val (.ref b60), .val (.int (1 : Int32)), .val (.ref b10)] [(.ref b10), (.ref b10)])) X231 hx rfl rfl rfl (pc0 := 405) (pc' := 408) (same := true) rfl (hb hby at_405) rfl (decide_eq_true rfl) (by decide) (by decide) k) ?_
            show GoW _ _ _ _ _ _ _ (T231.setTop (mkF m 408 #[.val (.int qc), .val (.int qf), .val (.int (3 : Int32)), .val (.int fro), .val (.int jnk), .val (.ref b3), .val (.ref b10), .val (.ref b34), .val (.ref b60), .val (.ref b10), .val (.ref b60), .val (.int (1 : Int32)), .val (.ref b10)] []))
            refine GoW.step (fun _ k => XS.iconst X231.here hx rfl (hb hby at_408) k) ?_
            show GoW _ _ _ _ _ _ _ (T231.setTop (mkF m 409 #[.val (.int qc), .val (.int qf), .val (.int (3 : Int32)), .val (.int fro), .val (.int jnk), .val (.ref b3), .val (.ref b10), .val (.ref b34), .val (.ref b60), .val (.ref b10), .val (.ref b60), .val (.int (1 : Int32)), .val (.ref b10)] [(.int (1 : Int32))]))
            refine GoW.step (fun _ k => XS.goto X231.here hx rfl (pc0 := 409) (pc' := 413) rfl (hb hby at_409) (by decide) (by decide) k) ?_
            show GoW _ _ _ _ _ _ _ (T231.setTop (mkF m 413 #[.val (.int qc), .val (.int qf), .val (.int (3 : Int32)), .val (.int fro), .val (.int jnk), .val (.ref b3), .val (.ref b10), .val (.ref b34), .val (.ref b60), .val (.ref b10), .val (.ref b60), .val (.int (1 : Int32)), .val (.ref b10)] [(.int (1 : Int32))]))
            refine GoW.step (fun _ k => XS.istore X231.here hx rfl (hb hby at_413) rfl (l' := #[.val (.int qc), .val (.int qf), .val (.int (3 : Int32)), .val (.int fro), .val (.int jnk), .val (.ref b3), .val (.ref b10), .val (.ref b34), .val (.ref b60), .val (.ref b10), .val (.ref b60), .val (.int (1 : Int32)), .val (.ref b10)]) rfl k) ?_
            show GoW _ _ _ _ _ _ _ (T231.setTop (mkF m 415 #[.val (.int qc), .val (.int qf), .val (.int (3 : Int32)), .val (.int fro), .val (.int jnk), .val (.ref b3), .val (.ref b10), .val (.ref b34), .val (.ref b60), .val (.ref b10), .val (.ref b60), .val (.int (1 : Int32)), .val (.ref b10)] []))
            refine GoW.step (fun _ k => XS.iload X231.here hx rfl (hb hby at_415) rfl  k) ?_
            show GoW _ _ _ _ _ _ _ (T231.setTop (mkF m 417 #[.val (.int qc), .val (.int qf), .val (.int (3 : Int32)), .val (.int fro), .val (.int jnk), .val (.ref b3), .val (.ref b10), .val (.ref b34), .val (.ref b60), .val (.ref b10), .val (.ref b60), .val (.int (1 : Int32)), .val (.ref b10)] [(.int (1 : Int32))]))
            refine GoW.retN X231 hS88 hk234 hx (t := .boolean) Bd.returns (by simp) hlk (hb hby at_417) ?_ (by decide) (by decide)
            exact ⟨(by first | rfl | (simp_all [own_nb1, own_nb0]; done)), N231⟩
      show GoW _ _ _ _ _ _ _ (T84.setTop (mkF m 71 #[.val (.int qc), .val (.int qf), .val (.int nn), .val (.int fro), .val (.int jnk), .val (.ref b3), .val (.ref b10), .val (.ref b34), .val (.ref b60), .unset, .unset, .unset, .unset] []))
      refine GoW.step (fun _ k => XS.iload X84.here hx rfl (hb hby at_71) rfl  k) ?_
      show GoW _ _ _ _ _ _ _ (T84.setTop (mkF m 73 #[.val (.int qc), .val (.int qf), .val (.int nn), .val (.int fro), .val (.int jnk), .val (.ref b3), .val (.ref b10), .val (.ref b34), .val (.ref b60), .unset, .unset, .unset, .unset] [(.int jnk)]))
      by_cases hc73 : jnk = (0 : Int32)
      · skip
        refine GoW.step (fun _ k => XS.ifYes X84.here hx rfl (pc0 := 73) (pc' := 118) rfl (hb hby at_73) rfl ((if0 _ _).trans (teq hc73).1) (by decide) (by decide) k) ?_
        have f235 : Fld Z T84.heap b10 "com/example/steward/steward/runtime/Agent" "group" "Lcom/example/steward/steward/runtime/Group;" .null := ((((((c30_1.ext E34).ext E46).keep K56 (ninS ne37 nin0)).ext E60).ext E74).keep K84 (ninS ne64 nin0))
        have f236 : Fld Z T84.heap b10 "com/example/steward/steward/runtime/Agent" "ahead" "Lcom/example/steward/steward/runtime/Agent;" .null := ((((((c30_2.ext E34).ext E46).keep K56 (ninS ne37 nin0)).ext E60).ext E74).keep K84 (ninS ne64 nin0))
        have f237 : Fld Z T84.heap b10 "com/example/steward/steward/runtime/Agent" "behind" "Lcom/example/steward/steward/runtime/Agent;" .null := ((((((c30_3.ext E34).ext E46).keep K56 (ninS ne37 nin0)).ext E60).ext E74).keep K84 (ninS ne64 nin0))
        have f238 : Fld Z T84.heap b34 "com/example/steward/steward/runtime/Agent" "group" "Lcom/example/steward/steward/runtime/Group;" .null := (((c56_1.ext E60).ext E74).keep K84 (ninS ne65 nin0))
        have f239 : Fld Z T84.heap b34 "com/example/steward/steward/runtime/Agent" "ahead" "Lcom/example/steward/steward/runtime/Agent;" .null := (((c56_2.ext E60).ext E74).keep K84 (ninS ne65 nin0))
        have f240 : Fld Z T84.heap b34 "com/example/steward/steward/runtime/Agent" "behind" "Lcom/example/steward/steward/runtime/Agent;" .null := (((c56_3.ext E60).ext E74).keep K84 (ninS ne65 nin0))
        exact J118_88 (Value.null) (Value.null) (Value.null) (Value.null) (Value.null) (Value.null) T84.heap _ _ _ _ X84 rfl N84 hS74 hk87 hZ hown (Keep.refl _ _) f235 f236 f237 f238 f239 f240 c84_1 c84_2 c84_3
      · skip
        refine GoW.step (fun _ k => XS.ifNo X84.here hx rfl (hb hby at_73) rfl ((if0 _ _).trans (feq hc73).1) k) ?_
        show GoW _ _ _ _ _ _ _ (T84.setTop (mkF m 76 #[.val (.int qc), .val (.int qf), .val (.int nn), .val (.int fro), .val (.int jnk), .val (.ref b3), .val (.ref b10), .val (.ref b34), .val (.ref b60), .unset, .unset, .unset, .unset] []))
        refine GoW.step (fun _ k => XS.aload X84.here hx rfl (hb hby at_76) rfl rfl  k) ?_
        show GoW _ _ _ _ _ _ _ (T84.setTop (mkF m 78 #[.val (.int qc), .val (.int qf), .val (.int nn), .val (.int fro), .val (.int jnk), .val (.ref b3), .val (.ref b10), .val (.ref b34), .val (.ref b60), .unset, .unset, .unset, .unset] [(.ref b10)]))
        refine GoW.step (fun _ k => XS.aload X84.here hx rfl (hb hby at_78) rfl rfl  k) ?_
        show GoW _ _ _ _ _ _ _ (T84.setTop (mkF m 80 #[.val (.int qc), .val (.int qf), .val (.int nn), .val (.int fro), .val (.int jnk), .val (.ref b3), .val (.ref b10), .val (.ref b34), .val (.ref b60), .unset, .unset, .unset, .unset] [(.ref b10), (.ref b10)]))
        have f241 : Exa Z T84.heap b10 "com/example/steward/steward/runtime/Agent" := (((f63.ext E60).ext E74).keep K84)
        have f242 : Fld Z T84.heap b10 "com/example/steward/steward/runtime/Agent" "ahead" "Lcom/example/steward/steward/runtime/Agent;" .null := ((((((c30_2.ext E34).ext E46).keep K56 (ninS ne37 nin0)).ext E60).ext E74).keep K84 (ninS ne64 nin0))
        obtain ⟨T243, h243, X243, e243, W243, st243⟩ := putF X84 hx hZ hown (host := "") (Or.inl (hw _ (List.mem_of_getElem? (i := 48) rfl))) Via.refl rfl f242 f241 (Or.inl (hw _ (List.mem_of_getElem? (i := 49) rfl))) (hw _ (List.mem_of_getElem? (i := 10) rfl)) (ty := (.object "com/example/steward/steward/runtime/Agent")) (v := (.ref b10)) (by decide) rfl rfl (g := (mkF m 80 #[.val (.int qc), .val (.int qf), .val (.int nn), .val (.int fro), .val (.int jnk), .val (.ref b3), .val (.ref b10), .val (.ref b34), .val (.ref b60), .unset, .unset, .unset, .unset] [(.ref b10), (.ref b10)])) rfl rfl (hb hby at_80)
        refine GoW.step st243 ?_
        have N243 := Fr.snoc X243 N84 gn10
        have z244 : n0 ≤ h243.size := Nat.le_trans z85 (Keep.of_wr W243).1
        have sqz244 : h0.size ≤ h243.size := Nat.le_trans sqz85 (Keep.of_wr W243).1
        have hk246 := Nat.le_trans hk87 (Keep.of_wr W243).1
        have f247 : Fld Z h243 b10 "com/example/steward/steward/runtime/Agent" "ahead" "Lcom/example/steward/steward/runtime/Agent;" (.ref b10) := f242.same W243
        show GoW _ _ _ _ _ _ _ (T243.setTop (mkF m 83 #[.val (.int qc), .val (.int qf), .val (.int nn), .val (.int fro), .val (.int jnk), .val (.ref b3), .val (.ref b10), .val (.ref b34), .val (.ref b60), .unset, .unset, .unset, .unset] []))
        refine GoW.step (fun _ k => XS.aload X243.here hx rfl (hb hby at_83) rfl rfl  k) ?_
        show GoW _ _ _ _ _ _ _ (T243.setTop (mkF m 85 #[.val (.int qc), .val (.int qf), .val (.int nn), .val (.int fro), .val (.int jnk), .val (.ref b3), .val (.ref b10), .val (.ref b34), .val (.ref b60), .unset, .unset, .unset, .unset] [(.ref b10)]))
        refine GoW.step (fun _ k => XS.aload X243.here hx rfl (hb hby at_85) rfl rfl  k) ?_
        show GoW _ _ _ _ _ _ _ (T243.setTop (mkF m 87 #[.val (.int qc), .val (.int qf), .val (.int nn), .val (.int fro), .val (.int jnk), .val (.ref b3), .val (.ref b10), .val (.ref b34), .val (.ref b60), .unset, .unset, .unset, .unset] [(.ref b10), (.ref b10)]))
        have f248 : Exa Z h243 b10 "com/example/steward/steward/runtime/Agent" := (f241.wr W243)
        have f249 : Fld Z h243 b10 "com/example/steward/steward/runtime/Agent" "behind" "Lcom/example/steward/steward/runtime/Agent;" .null := (((((((c30_3.ext E34).ext E46).keep K56 (ninS ne37 nin0)).ext E60).ext E74).keep K84 (ninS ne64 nin0)).other W243 (Or.inr (slot_ne (Or.inl (hw _ (List.mem_of_getElem? (i := 51) rfl))) (Or.inl (hw _ (List.mem_of_getElem? (i := 49) rfl))) (by decide) (t := (.object "com/example/steward/steward/runtime/Agent")) (t' := (.object "com/example/steward/steward/runtime/Agent")) (by decide) (by decide))))
        obtain ⟨T250, h250, X250, e250, W250, st250⟩ := putF X243 hx hZ hown (host := "") (Or.inl (hw _ (List.mem_of_getElem? (i := 50) rfl))) Via.refl e243 f249 f248 (Or.inl (hw _ (List.mem_of_getElem? (i := 51) rfl))) (hw _ (List.mem_of_getElem? (i := 10) rfl)) (ty := (.object "com/example/steward/steward/runtime/Agent")) (v := (.ref b10)) (by decide) rfl rfl (g := (mkF m 87 #[.val (.int qc), .val (.int qf), .val (.int nn), .val (.int fro), .val (.int jnk), .val (.ref b3), .val (.ref b10), .val (.ref b34), .val (.ref b60), .unset, .unset, .unset, .unset] [(.ref b10), (.ref b10)])) rfl rfl (hb hby at_87)
        refine GoW.step st250 ?_
        have N250 := Fr.snoc X250 N243 gn10
        have z251 : n0 ≤ h250.size := Nat.le_trans z244 (Keep.of_wr W250).1
        have sqz251 : h0.size ≤ h250.size := Nat.le_trans sqz244 (Keep.of_wr W250).1
        have hk253 := Nat.le_trans hk246 (Keep.of_wr W250).1
        have f254 : Fld Z h250 b10 "com/example/steward/steward/runtime/Agent" "behind" "Lcom/example/steward/steward/runtime/Agent;" (.ref b10) := f249.same W250
        show GoW _ _ _ _ _ _ _ (T250.setTop (mkF m 90 #[.val (.int qc), .val (.int qf), .val (.int nn), .val (.int fro), .val (.int jnk), .val (.ref b3), .val (.ref b10), .val (.ref b34), .val (.ref b60), .unset, .unset, .unset, .unset] []))
        refine GoW.step (fun _ k => XS.aload X250.here hx rfl (hb hby at_90) rfl rfl  k) ?_
        show GoW _ _ _ _ _ _ _ (T250.setTop (mkF m 92 #[.val (.int qc), .val (.int qf), .val (.int nn), .val (.int fro), .val (.int jnk), .val (.ref b3), .val (.ref b10), .val (.ref b34), .val (.ref b60), .unset, .unset, .unset, .unset] [(.ref b34)]))
        refine GoW.step (fun _ k => XS.aload X250.here hx rfl (hb hby at_92) rfl rfl  k) ?_
        show GoW _ _ _ _ _ _ _ (T250.setTop (mkF m 94 #[.val (.int qc), .val (.int qf), .val (.int nn), .val (.int fro), .val (.int jnk), .val (.ref b3), .val (.ref b10), .val (.ref b34), .val (.ref b60), .unset, .unset, .unset, .unset] [(.ref b34), (.ref b34)]))
        have f255 : Exa Z h250 b34 "com/example/steward/steward/runtime/Agent" := (((((c56_0.ext E60).ext E74).keep K84).wr W243).wr W250)
        have f256 : Fld Z h250 b34 "com/example/steward/steward/runtime/Agent" "ahead" "Lcom/example/steward/steward/runtime/Agent;" .null := (((((c56_2.ext E60).ext E74).keep K84 (ninS ne65 nin0)).other W243 (Or.inl (Ne.symm ne37))).other W250 (Or.inl (Ne.symm ne37)))
        obtain ⟨T257, h257, X257, e257, W257, st257⟩ := putF X250 hx hZ hown (host := "") (Or.inl (hw _ (List.mem_of_getElem? (i := 48) rfl))) Via.refl e250 f256 f255 (Or.inl (hw _ (List.mem_of_getElem? (i := 49) rfl))) (hw _ (List.mem_of_getElem? (i := 10) rfl)) (ty := (.object "com/example/steward/steward/runtime/Agent")) (v := (.ref b34)) (by decide) rfl rfl (g := (mkF m 94 #[.val (.int qc), .val (.int qf), .val (.int nn), .val (.int fro), .val (.int jnk), .val (.ref b3), .val (.ref b10), .val (.ref b34), .val (.ref b60), .unset, .unset, .unset, .unset] [(.ref b34), (.ref b34)])) rfl rfl (hb hby at_94)
        refine GoW.step st257 ?_
        have N257 := Fr.snoc X257 N250 gn34
        have z258 : n0 ≤ h257.size := Nat.le_trans z251 (Keep.of_wr W257).1
        have sqz258 : h0.size ≤ h257.size := Nat.le_trans sqz251 (Keep.of_wr W257).1
        have hk260 := Nat.le_trans hk253 (Keep.of_wr W257).1
        have f261 : Fld Z h257 b34 "com/example/steward/steward/runtime/Agent" "ahead" "Lcom/example/steward/steward/runtime/Agent;" (.ref b34) := f256.same W257
        show GoW _ _ _ _ _ _ _ (T257.setTop (mkF m 97 #[.val (.int qc), .val (.int qf), .val (.int nn), .val (.int fro), .val (.int jnk), .val (.ref b3), .val (.ref b10), .val (.ref b34), .val (.ref b60), .unset, .unset, .unset, .unset] []))
        refine GoW.step (fun _ k => XS.aload X257.here hx rfl (hb hby at_97) rfl rfl  k) ?_
        show GoW _ _ _ _ _ _ _ (T257.setTop (mkF m 99 #[.val (.int qc), .val (.int qf), .val (.int nn), .val (.int fro), .val (.int jnk), .val (.ref b3), .val (.ref b10), .val (.ref b34), .val (.ref b60), .unset, .unset, .unset, .unset] [(.ref b34)]))
        refine GoW.step (fun _ k => XS.aload X257.here hx rfl (hb hby at_99) rfl rfl  k) ?_
        show GoW _ _ _ _ _ _ _ (T257.setTop (mkF m 101 #[.val (.int qc), .val (.int qf), .val (.int nn), .val (.int fro), .val (.int jnk), .val (.ref b3), .val (.ref b10), .val (.ref b34), .val (.ref b60), .unset, .unset, .unset, .unset] [(.ref b34), (.ref b34)]))
        have f262 : Exa Z h257 b34 "com/example/steward/steward/runtime/Agent" := (f255.wr W257)
        have f263 : Fld Z h257 b34 "com/example/steward/steward/runtime/Agent" "behind" "Lcom/example/steward/steward/runtime/Agent;" .null := ((((((c56_3.ext E60).ext E74).keep K84 (ninS ne65 nin0)).other W243 (Or.inl (Ne.symm ne37))).other W250 (Or.inl (Ne.symm ne37))).other W257 (Or.inr (slot_ne (Or.inl (hw _ (List.mem_of_getElem? (i := 51) rfl))) (Or.inl (hw _ (List.mem_of_getElem? (i := 49) rfl))) (by decide) (t := (.object "com/example/steward/steward/runtime/Agent")) (t' := (.object "com/example/steward/steward/runtime/Agent")) (by decide) (by decide))))
        obtain ⟨T264, h264, X264, e264, W264, st264⟩ := putF X257 hx hZ hown (host := "") (Or.inl (hw _ (List.mem_of_getElem? (i := 50) rfl))) Via.refl e257 f263 f262 (Or.inl (hw _ (List.mem_of_getElem? (i := 51) rfl))) (hw _ (List.mem_of_getElem? (i := 10) rfl)) (ty := (.object "com/example/steward/steward/runtime/Agent")) (v := (.ref b34)) (by decide) rfl rfl (g := (mkF m 101 #[.val (.int qc), .val (.int qf), .val (.int nn), .val (.int fro), .val (.int jnk), .val (.ref b3), .val (.ref b10), .val (.ref b34), .val (.ref b60), .unset, .unset, .unset, .unset] [(.ref b34), (.ref b34)])) rfl rfl (hb hby at_101)
        refine GoW.step st264 ?_
        have N264 := Fr.snoc X264 N257 gn34
        have z265 : n0 ≤ h264.size := Nat.le_trans z258 (Keep.of_wr W264).1
        have sqz265 : h0.size ≤ h264.size := Nat.le_trans sqz258 (Keep.of_wr W264).1
        have hk267 := Nat.le_trans hk260 (Keep.of_wr W264).1
        have f268 : Fld Z h264 b34 "com/example/steward/steward/runtime/Agent" "behind" "Lcom/example/steward/steward/runtime/Agent;" (.ref b34) := f263.same W264
        show GoW _ _ _ _ _ _ _ (T264.setTop (mkF m 104 #[.val (.int qc), .val (.int qf), .val (.int nn), .val (.int fro), .val (.int jnk), .val (.ref b3), .val (.ref b10), .val (.ref b34), .val (.ref b60), .unset, .unset, .unset, .unset] []))
        refine GoW.step (fun _ k => XS.aload X264.here hx rfl (hb hby at_104) rfl rfl  k) ?_
        show GoW _ _ _ _ _ _ _ (T264.setTop (mkF m 106 #[.val (.int qc), .val (.int qf), .val (.int nn), .val (.int fro), .val (.int jnk), .val (.ref b3), .val (.ref b10), .val (.ref b34), .val (.ref b60), .unset, .unset, .unset, .unset] [(.ref b60)]))
        refine GoW.step (fun _ k => XS.aload X264.here hx rfl (hb hby at_106) rfl rfl  k) ?_
        show GoW _ _ _ _ _ _ _ (T264.setTop (mkF m 108 #[.val (.int qc), .val (.int qf), .val (.int nn), .val (.int fro), .val (.int jnk), .val (.ref b3), .val (.ref b10), .val (.ref b34), .val (.ref b60), .unset, .unset, .unset, .unset] [(.ref b60), (.ref b60)]))
        have f269 : Exa Z h264 b60 "com/example/steward/steward/runtime/Agent" := ((((c84_0.wr W243).wr W250).wr W257).wr W264)
        have f270 : Fld Z h264 b60 "com/example/steward/steward/runtime/Agent" "ahead" "Lcom/example/steward/steward/runtime/Agent;" .null := ((((c84_2.other W243 (Or.inl (Ne.symm ne64))).other W250 (Or.inl (Ne.symm ne64))).other W257 (Or.inl (Ne.symm ne65))).other W264 (Or.inl (Ne.symm ne65)))
        obtain ⟨T271, h271, X271, e271, W271, st271⟩ := putF X264 hx hZ hown (host := "") (Or.inl (hw _ (List.mem_of_getElem? (i := 48) rfl))) Via.refl e264 f270 f269 (Or.inl (hw _ (List.mem_of_getElem? (i := 49) rfl))) (hw _ (List.mem_of_getElem? (i := 10) rfl)) (ty := (.object "com/example/steward/steward/runtime/Agent")) (v := (.ref b60)) (by decide) rfl rfl (g := (mkF m 108 #[.val (.int qc), .val (.int qf), .val (.int nn), .val (.int fro), .val (.int jnk), .val (.ref b3), .val (.ref b10), .val (.ref b34), .val (.ref b60), .unset, .unset, .unset, .unset] [(.ref b60), (.ref b60)])) rfl rfl (hb hby at_108)
        refine GoW.step st271 ?_
        have N271 := Fr.snoc X271 N264 gn60
        have z272 : n0 ≤ h271.size := Nat.le_trans z265 (Keep.of_wr W271).1
        have sqz272 : h0.size ≤ h271.size := Nat.le_trans sqz265 (Keep.of_wr W271).1
        have hk274 := Nat.le_trans hk267 (Keep.of_wr W271).1
        have f275 : Fld Z h271 b60 "com/example/steward/steward/runtime/Agent" "ahead" "Lcom/example/steward/steward/runtime/Agent;" (.ref b60) := f270.same W271
        show GoW _ _ _ _ _ _ _ (T271.setTop (mkF m 111 #[.val (.int qc), .val (.int qf), .val (.int nn), .val (.int fro), .val (.int jnk), .val (.ref b3), .val (.ref b10), .val (.ref b34), .val (.ref b60), .unset, .unset, .unset, .unset] []))
        refine GoW.step (fun _ k => XS.aload X271.here hx rfl (hb hby at_111) rfl rfl  k) ?_
        show GoW _ _ _ _ _ _ _ (T271.setTop (mkF m 113 #[.val (.int qc), .val (.int qf), .val (.int nn), .val (.int fro), .val (.int jnk), .val (.ref b3), .val (.ref b10), .val (.ref b34), .val (.ref b60), .unset, .unset, .unset, .unset] [(.ref b60)]))
        refine GoW.step (fun _ k => XS.aload X271.here hx rfl (hb hby at_113) rfl rfl  k) ?_
        show GoW _ _ _ _ _ _ _ (T271.setTop (mkF m 115 #[.val (.int qc), .val (.int qf), .val (.int nn), .val (.int fro), .val (.int jnk), .val (.ref b3), .val (.ref b10), .val (.ref b34), .val (.ref b60), .unset, .unset, .unset, .unset] [(.ref b60), (.ref b60)]))
        have f276 : Exa Z h271 b60 "com/example/steward/steward/runtime/Agent" := (f269.wr W271)
        have f277 : Fld Z h271 b60 "com/example/steward/steward/runtime/Agent" "behind" "Lcom/example/steward/steward/runtime/Agent;" .null := (((((c84_3.other W243 (Or.inl (Ne.symm ne64))).other W250 (Or.inl (Ne.symm ne64))).other W257 (Or.inl (Ne.symm ne65))).other W264 (Or.inl (Ne.symm ne65))).other W271 (Or.inr (slot_ne (Or.inl (hw _ (List.mem_of_getElem? (i := 51) rfl))) (Or.inl (hw _ (List.mem_of_getElem? (i := 49) rfl))) (by decide) (t := (.object "com/example/steward/steward/runtime/Agent")) (t' := (.object "com/example/steward/steward/runtime/Agent")) (by decide) (by decide))))
        obtain ⟨T278, h278, X278, e278, W278, st278⟩ := putF X271 hx hZ hown (host := "") (Or.inl (hw _ (List.mem_of_getElem? (i := 50) rfl))) Via.refl e271 f277 f276 (Or.inl (hw _ (List.mem_of_getElem? (i := 51) rfl))) (hw _ (List.mem_of_getElem? (i := 10) rfl)) (ty := (.object "com/example/steward/steward/runtime/Agent")) (v := (.ref b60)) (by decide) rfl rfl (g := (mkF m 115 #[.val (.int qc), .val (.int qf), .val (.int nn), .val (.int fro), .val (.int jnk), .val (.ref b3), .val (.ref b10), .val (.ref b34), .val (.ref b60), .unset, .unset, .unset, .unset] [(.ref b60), (.ref b60)])) rfl rfl (hb hby at_115)
        refine GoW.step st278 ?_
        have N278 := Fr.snoc X278 N271 gn60
        have z279 : n0 ≤ h278.size := Nat.le_trans z272 (Keep.of_wr W278).1
        have sqz279 : h0.size ≤ h278.size := Nat.le_trans sqz272 (Keep.of_wr W278).1
        have hk281 := Nat.le_trans hk274 (Keep.of_wr W278).1
        have f282 : Fld Z h278 b60 "com/example/steward/steward/runtime/Agent" "behind" "Lcom/example/steward/steward/runtime/Agent;" (.ref b60) := f277.same W278
        have f283 : Fld Z h278 b10 "com/example/steward/steward/runtime/Agent" "group" "Lcom/example/steward/steward/runtime/Group;" .null := ((((((((((((c30_1.ext E34).ext E46).keep K56 (ninS ne37 nin0)).ext E60).ext E74).keep K84 (ninS ne64 nin0)).other W243 (Or.inr (slot_ne (Or.inl (hw _ (List.mem_of_getElem? (i := 69) rfl))) (Or.inl (hw _ (List.mem_of_getElem? (i := 49) rfl))) (by decide) (t := (.object "com/example/steward/steward/runtime/Group")) (t' := (.object "com/example/steward/steward/runtime/Agent")) (by decide) (by decide)))).other W250 (Or.inr (slot_ne (Or.inl (hw _ (List.mem_of_getElem? (i := 69) rfl))) (Or.inl (hw _ (List.mem_of_getElem? (i := 51) rfl))) (by decide) (t := (.object "com/example/steward/steward/runtime/Group")) (t' := (.object "com/example/steward/steward/runtime/Agent")) (by decide) (by decide)))).other W257 (Or.inl ne37)).other W264 (Or.inl ne37)).other W271 (Or.inl ne64)).other W278 (Or.inl ne64))
        have f284 : Fld Z h278 b10 "com/example/steward/steward/runtime/Agent" "ahead" "Lcom/example/steward/steward/runtime/Agent;" (.ref b10) := (((((f247.other W250 (Or.inr (slot_ne (Or.inl (hw _ (List.mem_of_getElem? (i := 49) rfl))) (Or.inl (hw _ (List.mem_of_getElem? (i := 51) rfl))) (by decide) (t := (.object "com/example/steward/steward/runtime/Agent")) (t' := (.object "com/example/steward/steward/runtime/Agent")) (by decide) (by decide)))).other W257 (Or.inl ne37)).other W264 (Or.inl ne37)).other W271 (Or.inl ne64)).other W278 (Or.inl ne64))
        have f285 : Fld Z h278 b10 "com/example/steward/steward/runtime/Agent" "behind" "Lcom/example/steward/steward/runtime/Agent;" (.ref b10) := ((((f254.other W257 (Or.inl ne37)).other W264 (Or.inl ne37)).other W271 (Or.inl ne64)).other W278 (Or.inl ne64))
        have f286 : Fld Z h278 b34 "com/example/steward/steward/runtime/Agent" "group" "Lcom/example/steward/steward/runtime/Group;" .null := (((((((((c56_1.ext E60).ext E74).keep K84 (ninS ne65 nin0)).other W243 (Or.inl (Ne.symm ne37))).other W250 (Or.inl (Ne.symm ne37))).other W257 (Or.inr (slot_ne (Or.inl (hw _ (List.mem_of_getElem? (i := 69) rfl))) (Or.inl (hw _ (List.mem_of_getElem? (i := 49) rfl))) (by decide) (t := (.object "com/example/steward/steward/runtime/Group")) (t' := (.object "com/example/steward/steward/runtime/Agent")) (by decide) (by decide)))).other W264 (Or.inr (slot_ne (Or.inl (hw _ (List.mem_of_getElem? (i := 69) rfl))) (Or.inl (hw _ (List.mem_of_getElem? (i := 51) rfl))) (by decide) (t := (.object "com/example/steward/steward/runtime/Group")) (t' := (.object "com/example/steward/steward/runtime/Agent")) (by decide) (by decide)))).other W271 (Or.inl ne65)).other W278 (Or.inl ne65))
        have f287 : Fld Z h278 b34 "com/example/steward/steward/runtime/Agent" "ahead" "Lcom/example/steward/steward/runtime/Agent;" (.ref b34) := (((f261.other W264 (Or.inr (slot_ne (Or.inl (hw _ (List.mem_of_getElem? (i := 49) rfl))) (Or.inl (hw _ (List.mem_of_getElem? (i := 51) rfl))) (by decide) (t := (.object "com/example/steward/steward/runtime/Agent")) (t' := (.object "com/example/steward/steward/runtime/Agent")) (by decide) (by decide)))).other W271 (Or.inl ne65)).other W278 (Or.inl ne65))
        have f288 : Fld Z h278 b34 "com/example/steward/steward/runtime/Agent" "behind" "Lcom/example/steward/steward/runtime/Agent;" (.ref b34) := ((f268.other W271 (Or.inl ne65)).other W278 (Or.inl ne65))
        have f289 : Fld Z h278 b60 "com/example/steward/steward/runtime/Agent" "group" "Lcom/example/steward/steward/runtime/Group;" .null := ((((((c84_1.other W243 (Or.inl (Ne.symm ne64))).other W250 (Or.inl (Ne.symm ne64))).other W257 (Or.inl (Ne.symm ne65))).other W264 (Or.inl (Ne.symm ne65))).other W271 (Or.inr (slot_ne (Or.inl (hw _ (List.mem_of_getElem? (i := 69) rfl))) (Or.inl (hw _ (List.mem_of_getElem? (i := 49) rfl))) (by decide) (t := (.object "com/example/steward/steward/runtime/Group")) (t' := (.object "com/example/steward/steward/runtime/Agent")) (by decide) (by decide)))).other W278 (Or.inr (slot_ne (Or.inl (hw _ (List.mem_of_getElem? (i := 69) rfl))) (Or.inl (hw _ (List.mem_of_getElem? (i := 51) rfl))) (by decide) (t := (.object "com/example/steward/steward/runtime/Group")) (t' := (.object "com/example/steward/steward/runtime/Agent")) (by decide) (by decide))))
        have f290 : Fld Z h278 b60 "com/example/steward/steward/runtime/Agent" "ahead" "Lcom/example/steward/steward/runtime/Agent;" (.ref b60) := (f275.other W278 (Or.inr (slot_ne (Or.inl (hw _ (List.mem_of_getElem? (i := 49) rfl))) (Or.inl (hw _ (List.mem_of_getElem? (i := 51) rfl))) (by decide) (t := (.object "com/example/steward/steward/runtime/Agent")) (t' := (.object "com/example/steward/steward/runtime/Agent")) (by decide) (by decide))))
        exact J118_88 (Value.ref b10) (Value.ref b10) (Value.ref b34) (Value.ref b34) (Value.ref b60) (Value.ref b60) h278 _ _ _ _ X278 e278 N278 hS74 hk281 hZ hown (Keep.wr (Keep.wr (Keep.wr (Keep.wr (Keep.wr (Keep.wr (Keep.refl _ _) W243 (Or.inl (List.mem_of_getElem? (i := 0) rfl))) W250 (Or.inl (List.mem_of_getElem? (i := 0) rfl))) W257 (Or.inl (List.mem_of_getElem? (i := 1) rfl))) W264 (Or.inl (List.mem_of_getElem? (i := 1) rfl))) W271 (Or.inl (List.mem_of_getElem? (i := 2) rfl))) W278 (Or.inl (List.mem_of_getElem? (i := 2) rfl))) f283 f284 f285 f286 f287 f288 f289 f290 f282
    show GoW _ _ _ _ _ _ _ (TJ1.setTop (mkF m 16 #[.val (.int qc), .val (.int qf), .val (.int nn), .val (.int fro), .unset, .unset, .unset, .unset, .unset, .unset, .unset, .unset, .unset] []))
    refine GoW.step (fun _ k => XS.iloadN X1.here hx rfl (hb hby at_16) rfl  k) ?_
    show GoW _ _ _ _ _ _ _ (TJ1.setTop (mkF m 17 #[.val (.int qc), .val (.int qf), .val (.int nn), .val (.int fro), .unset, .unset, .unset, .unset, .unset, .unset, .unset, .unset, .unset] [(.int qf)]))
    refine GoW.step (fun _ k => XS.iconst X1.here hx rfl (hb hby at_17) k) ?_
    show GoW _ _ _ _ _ _ _ (TJ1.setTop (mkF m 18 #[.val (.int qc), .val (.int qf), .val (.int nn), .val (.int fro), .unset, .unset, .unset, .unset, .unset, .unset, .unset, .unset, .unset] [(.int (2 : Int32)), (.int qf)]))
    refine GoW.step (fun _ k => XS.iand X1.here hx rfl (hb hby at_18) rfl k) ?_
    show GoW _ _ _ _ _ _ _ (TJ1.setTop (mkF m 19 #[.val (.int qc), .val (.int qf), .val (.int nn), .val (.int fro), .unset, .unset, .unset, .unset, .unset, .unset, .unset, .unset, .unset] [(.int (qf &&& (2 : Int32)))]))
    by_cases hc19 : (qf &&& (2 : Int32)) = (0 : Int32)
    · skip
      refine GoW.step (fun _ k => XS.ifYes X1.here hx rfl (pc0 := 19) (pc' := 26) rfl (hb hby at_19) rfl ((if0 _ _).trans (teq hc19).1) (by decide) (by decide) k) ?_
      show GoW _ _ _ _ _ _ _ (TJ1.setTop (mkF m 26 #[.val (.int qc), .val (.int qf), .val (.int nn), .val (.int fro), .unset, .unset, .unset, .unset, .unset, .unset, .unset, .unset, .unset] []))
      refine GoW.step (fun _ k => XS.iconst X1.here hx rfl (hb hby at_26) k) ?_
      exact J27_2 _ _ _ _ _ X1 e1 N1 hS1 hk1 hZ hown
    · skip
      refine GoW.step (fun _ k => XS.ifNo X1.here hx rfl (hb hby at_19) rfl ((if0 _ _).trans (feq hc19).1) k) ?_
      show GoW _ _ _ _ _ _ _ (TJ1.setTop (mkF m 22 #[.val (.int qc), .val (.int qf), .val (.int nn), .val (.int fro), .unset, .unset, .unset, .unset, .unset, .unset, .unset, .unset, .unset] []))
      refine GoW.step (fun _ k => XS.iconst X1.here hx rfl (hb hby at_22) k) ?_
      show GoW _ _ _ _ _ _ _ (TJ1.setTop (mkF m 23 #[.val (.int qc), .val (.int qf), .val (.int nn), .val (.int fro), .unset, .unset, .unset, .unset, .unset, .unset, .unset, .unset, .unset] [(.int (1 : Int32))]))
      refine GoW.step (fun _ k => XS.goto X1.here hx rfl (pc0 := 23) (pc' := 27) rfl (hb hby at_23) (by decide) (by decide) k) ?_
      exact J27_2 _ _ _ _ _ X1 e1 N1 hS1 hk1 hZ hown
  show GoW _ _ _ _ _ _ _ (s₁.setTop (mkF m 4 #[.val (.int qc), .val (.int qf), .val (.int nn), .unset, .unset, .unset, .unset, .unset, .unset, .unset, .unset, .unset, .unset] []))
  refine GoW.step (fun _ k => XS.iloadN X0.here hx rfl (hb hby at_4) rfl  k) ?_
  show GoW _ _ _ _ _ _ _ (s₁.setTop (mkF m 5 #[.val (.int qc), .val (.int qf), .val (.int nn), .unset, .unset, .unset, .unset, .unset, .unset, .unset, .unset, .unset, .unset] [(.int qf)]))
  refine GoW.step (fun _ k => XS.iconst X0.here hx rfl (hb hby at_5) k) ?_
  show GoW _ _ _ _ _ _ _ (s₁.setTop (mkF m 6 #[.val (.int qc), .val (.int qf), .val (.int nn), .unset, .unset, .unset, .unset, .unset, .unset, .unset, .unset, .unset, .unset] [(.int (1 : Int32)), (.int qf)]))
  refine GoW.step (fun _ k => XS.iand X0.here hx rfl (hb hby at_6) rfl k) ?_
  show GoW _ _ _ _ _ _ _ (s₁.setTop (mkF m 7 #[.val (.int qc), .val (.int qf), .val (.int nn), .unset, .unset, .unset, .unset, .unset, .unset, .unset, .unset, .unset, .unset] [(.int (qf &&& (1 : Int32)))]))
  by_cases hc7 : (qf &&& (1 : Int32)) = (0 : Int32)
  · skip
    refine GoW.step (fun _ k => XS.ifYes X0.here hx rfl (pc0 := 7) (pc' := 14) rfl (hb hby at_7) rfl ((if0 _ _).trans (teq hc7).1) (by decide) (by decide) k) ?_
    show GoW _ _ _ _ _ _ _ (s₁.setTop (mkF m 14 #[.val (.int qc), .val (.int qf), .val (.int nn), .unset, .unset, .unset, .unset, .unset, .unset, .unset, .unset, .unset, .unset] []))
    refine GoW.step (fun _ k => XS.iconst X0.here hx rfl (hb hby at_14) k) ?_
    exact J15_1 _ _ _ _ _ X0 e0 N0 hS0 hk0 hZ hown
  · skip
    refine GoW.step (fun _ k => XS.ifNo X0.here hx rfl (hb hby at_7) rfl ((if0 _ _).trans (feq hc7).1) k) ?_
    show GoW _ _ _ _ _ _ _ (s₁.setTop (mkF m 10 #[.val (.int qc), .val (.int qf), .val (.int nn), .unset, .unset, .unset, .unset, .unset, .unset, .unset, .unset, .unset, .unset] []))
    refine GoW.step (fun _ k => XS.iconst X0.here hx rfl (hb hby at_10) k) ?_
    show GoW _ _ _ _ _ _ _ (s₁.setTop (mkF m 11 #[.val (.int qc), .val (.int qf), .val (.int nn), .unset, .unset, .unset, .unset, .unset, .unset, .unset, .unset, .unset, .unset] [(.int (1 : Int32))]))
    refine GoW.step (fun _ k => XS.goto X0.here hx rfl (pc0 := 11) (pc' := 15) rfl (hb hby at_11) (by decide) (by decide) k) ?_
    exact J15_1 _ _ _ _ _ X0 e0 N0 hS0 hk0 hZ hown
set_option maxRecDepth 65536 in
set_option maxHeartbeats 40000000 in
theorem comes_1 {Post : Tables → Env → Array Value → State → Outcome → State → Prop} (hpost : ∀ tb e args s v u, (limb_1_1.after args s (.returned v) u = true ∧ limb_1_2.after args s (.returned v) u = true ∧ True) → ReturnedEndW s (.returned v) u (Jvm.fieldLocs frame_1_writes args s ++ Jvm.arrayLocs frame_1_arrays args s ++ Jvm.staticLocs frame_1_statics s) 40 3264 → Post tb e args s (.returned v) u) :
    ArmFor flags0 classFile x code maxLocals ret World_1 tables_1 room_1 Calls_1 rest_1 Pre_1 Post := by
  intro l hfl _ _ p e ha hc hk s m args below hf hA hF happ hP
  obtain ⟨hcalls, hrest, hpre⟩ := hP
  obtain ⟨-, -, -, hnamed, -, -, -, hat⟩ := (Spec.applies_iff hf).mp happ
  obtain ⟨hg, hn⟩ := and_e (Cond.before_iff.mp (show (Jvm.Cond.and given_1 narrow_1).before args s = true from hpre))
  obtain ⟨g0, r0⟩ := and_e hg
  obtain ⟨a0, r1⟩ := and_e r0
  have a1 := r1
  obtain ⟨w0, w1, rfl⟩ : ∃ w0 w1 : Value, args = #[w0, w1] := by
    have hs : args.size = 2 := by simpa [Cond.value, given_1] using g0
    obtain ⟨L⟩ := args
    match L, hs with
    | [w0, w1], _ => exact ⟨w0, w1, rfl⟩
  have hw := fun d (hd : d ∈ tables_1) => atoms_spec (ws := Jvm.Cond.code x code maxLocals ret :: tables_1) hat d (List.mem_cons_of_mem _ hd)
  have hfit : Fit s := fun {y c} hc i hi => by
    obtain ⟨ha, rfl⟩ := Array.getElem?_eq_some_iff.mp hc
    have q := List.all_eq_true.mp ((Array.all_eq_true_iff_forall_mem.mp hF) _ (Array.getElem_mem ha)) i (List.mem_range.mpr hi)
    simpa [Array.getElem?_eq_getElem hi] using q
  obtain ⟨i0, ei0⟩ := is_v a0
  obtain rfl : w0 = (.int i0) := Option.some.inj ei0
  obtain ⟨i1, ei1⟩ := is_v a1
  obtain rfl : w1 = (.int i1) := Option.some.inj ei1
  obtain ⟨n, o, h1, h2, h3, _, L, rfl, ⟨rfl, N⟩, hq⟩ := rm0 l s _ hw tables_1 i0 i1  s.heap s.heap.size (Nat.le_refl _)  p e ha hc hk s m _ below hf ((Spec.applies_iff_loose hf).mp happ).1 ⟨rfl, State.Warmed39.refl s, rfl⟩ trivial
  refine ⟨n, _, h1, h2, h3, hpost _ _ _ _ _ _ ⟨Cond.after_iff.mpr rfl, Cond.after_iff.mpr (eq_i res_at (Term.int_eval (1)) rfl), trivial⟩ ⟨hq.1, hq.2.1, hq.2.2.1, (hq.2.2.2.sift fun y hy => Or.inr (N y hy)).mono (by decide) (by decide)⟩⟩
theorem main_1_1 : Claimed_1_1 := comes_1 fun _ _ _ _ _ _ h hF => ⟨h.1, hF⟩
theorem main_1_2 : Claimed_1_2 := comes_1 fun _ _ _ _ _ _ h hF => ⟨h.2.1, hF⟩
end Jvm.Pilot.@@N@@
namespace Jvm.Pilot.@@N@@
open Jvm Jvm.ClassFile Sem Op Lib Jvm.Free Jvm.Stand Jvm.Pilot.@@N@@.Jvm.D
/-! MADE BY PROGRAM (witnessworld.py) out of the Statement's table words and the real class files: 23 classes; the members and pool entries that the words name. The judged class is class 1, her method 1. -/
namespace start1
open Jvm.ClassFile
def u (s : String) : CpInfo := .utf8 (stringToUtf16 s)
/-- a pool by its gaps: so many unusable entries, then the entry; so many at the end -/
def gap : Nat → List CpInfo → List CpInfo
  | 0, r => r
  | n + 1, r => .unusable :: gap n r
def poolList (es : List (Nat × CpInfo)) (last : Nat) : List CpInfo := es.foldr (fun e r => gap e.1 (e.2 :: r)) (gap last [])
def pool (es : List (Nat × CpInfo)) (last : Nat) : Array CpInfo := ⟨poolList es last⟩
def fileOf (pool : Array CpInfo) (this : Nat) (attrs : Array Attribute := #[]) (ms : Array MethodInfo := #[]) (fl : Nat := 33) (sup : Nat := 0) (ifs : Array Nat := #[]) (fds : Array FieldInfo := #[]) : ClassFile where
  minorVersion := 0
  majorVersion := 65
  constantPool := pool
  accessFlags := fl
  thisClass := this
  superClass := sup
  interfaces := ifs
  fields := fds
  methods := ms
  attributes := attrs
def plain (name : String) (sup : Option ClassId) : Class where
  name := name
  kind := .ordinary
  loader := none
  accessFlags := 33
  super := sup
  interfaces := #[]
  cf := none
  fields := #[]
  methods := #[]
  instanceTypes := #[]
  staticTypes := #[]
  resolved := #[]
  callSites := []
  init := .initialized
  statics := none
  mirror := none

def pool0 : Array CpInfo := pool [(5, u "<init>"), (0, u "()V"), (1, .class_ 10), (1, u "java/lang/Object")] 113

def k0c0 : Code := { maxStack := 0, maxLocals := 1, code := object_method_1_code, exceptionTable := #[], attributes := #[] }
def k0m0 : Method := { name := "<init>", desc := "()V", sig := { parameters := [], returnType := none }, accessFlags := 1, code := some k0c0 }
/-- java/lang/Object -/
def k0 : Class := { plain "java/lang/Object" none with
  accessFlags := 33
  interfaces := #[]
  cf := some (fileOf pool0 8 #[] #[{ accessFlags := 1, nameIndex := 5, descriptorIndex := 6, attributes := #[] }] 33 0 #[] #[])
  fields := #[]
  methods := #[k0m0]
  instanceTypes := #[]
  staticTypes := #[]
  resolved := Array.replicate 124 none
  statics := none }

def pool1 : Array CpInfo := pool [(2, .class_ 4), (0, .nameAndType 5 6), (0, u "java/lang/Object"), (0, u "<init>"), (0, u "()V"), (0, .class_ 8), (0, u "com/example/steward/steward/runtime/Group"), (0, .methodref 7 3), (0, .class_ 11), (0, u "com/example/steward/steward/runtime/Agent"), (0, .string 13), (0, u "a"), (0, .methodref 10 15), (0, .nameAndType 5 16), (0, u "(Ljava/lang/String;)V"), (0, .string 18), (0, u "b"), (0, .string 20), (0, u "c"), (0, .fieldref 10 22), (0, .nameAndType 23 24), (0, u "ahead"), (0, u "Lcom/example/steward/steward/runtime/Agent;"), (0, .fieldref 10 26), (0, .nameAndType 27 24), (0, u "behind"), (0, .methodref 7 29), (0, .nameAndType 30 31), (0, u "add"), (0, u "(Lcom/example/steward/steward/runtime/Agent;)V"), (0, .methodref 7 33), (0, .nameAndType 34 35), (0, u "isEmpty"), (0, u "()Z"), (0, .methodref 7 37), (0, .nameAndType 38 39), (0, u "first"), (0, u "()Lcom/example/steward/steward/runtime/Agent;"), (0, .methodref 41 42), (0, .class_ 43), (0, .nameAndType 44 45), (0, u "com/example/steward/steward/runtime/GroupAddPinLaw"), (0, u "linked"), (0, u "(Lcom/example/steward/steward/runtime/Agent;ZLcom/example/steward/steward/runtime/Group;Lcom/example/steward/steward/runtime/Agent;Lcom/example/steward/steward/runtime/Agent;)Z"), (0, .methodref 7 47), (0, .nameAndType 48 39), (0, u "pollFirst"), (0, .methodref 7 50), (0, .nameAndType 51 39), (0, u "pollLast"), (0, .fieldref 10 53), (0, .nameAndType 54 55), (0, u "group"), (0, u "Lcom/example/steward/steward/runtime/Group;"), (2, u "law"), (0, u "(II)Z")] 5

def k1m0 : Method := { name := "<init>", desc := "()V", sig := { parameters := [], returnType := none }, accessFlags := 1, code := none }
def k1c1 : Code := { maxStack := 6, maxLocals := 13, code := code, exceptionTable := #[], attributes := #[] }
def k1m1 : Method := { name := "law", desc := "(II)Z", sig := { parameters := [.int, .int], returnType := some .boolean }, accessFlags := 9, code := some k1c1 }
def k1c2 : Code := { maxStack := 2, maxLocals := 5, code := method_3_code, exceptionTable := #[], attributes := #[] }
def k1m2 : Method := { name := "linked", desc := "(Lcom/example/steward/steward/runtime/Agent;ZLcom/example/steward/steward/runtime/Group;Lcom/example/steward/steward/runtime/Agent;Lcom/example/steward/steward/runtime/Agent;)Z", sig := { parameters := [(.object "com/example/steward/steward/runtime/Agent"), .boolean, (.object "com/example/steward/steward/runtime/Group"), (.object "com/example/steward/steward/runtime/Agent"), (.object "com/example/steward/steward/runtime/Agent")], returnType := some .boolean }, accessFlags := 10, code := some k1c2 }
/-- com/example/steward/steward/runtime/GroupAddPinLaw -/
def k1 : Class := { plain "com/example/steward/steward/runtime/GroupAddPinLaw" (some 0) with
  accessFlags := 49
  interfaces := #[]
  cf := some (fileOf pool1 41 #[] #[{ accessFlags := 1, nameIndex := 5, descriptorIndex := 6, attributes := #[] }, { accessFlags := 9, nameIndex := 58, descriptorIndex := 59, attributes := #[] }, { accessFlags := 10, nameIndex := 44, descriptorIndex := 45, attributes := #[] }] 49 2 #[] #[])
  fields := #[]
  methods := #[k1m0, k1m1, k1m2]
  instanceTypes := #[]
  staticTypes := #[]
  resolved := Array.replicate 65 none
  statics := none }

def pool2 : Array CpInfo := pool [(1, .methodref 2 3), (0, .class_ 4), (0, .nameAndType 5 6), (0, u "java/lang/Object"), (0, u "<init>"), (0, u "()V"), (0, .fieldref 8 9), (0, .class_ 10), (0, .nameAndType 11 12), (0, u "com/example/steward/steward/runtime/Group"), (0, u "first"), (0, u "Lcom/example/steward/steward/runtime/Agent;"), (0, .fieldref 14 15), (0, .class_ 16), (0, .nameAndType 17 18), (0, u "com/example/steward/steward/runtime/Agent"), (0, u "group"), (0, u "Lcom/example/steward/steward/runtime/Group;"), (0, .fieldref 8 20), (0, .nameAndType 21 12), (0, u "last"), (0, .fieldref 14 23), (0, .nameAndType 24 12), (0, u "ahead"), (0, .fieldref 14 26), (0, .nameAndType 27 12), (0, u "behind"), (0, .methodref 8 29), (0, .nameAndType 30 31), (0, u "remove"), (0, u "(Lcom/example/steward/steward/runtime/Agent;)V"), (4, u "isEmpty"), (0, u "()Z"), (1, u "()Lcom/example/steward/steward/runtime/Agent;"), (1, u "add"), (1, u "pollFirst"), (0, u "pollLast")] 3

def k2c0 : Code := { maxStack := 1, maxLocals := 1, code := prog_44_method_1_code, exceptionTable := #[], attributes := #[] }
def k2m0 : Method := { name := "<init>", desc := "()V", sig := { parameters := [], returnType := none }, accessFlags := 0, code := some k2c0 }
def k2c1 : Code := { maxStack := 1, maxLocals := 1, code := prog_44_method_2_code, exceptionTable := #[], attributes := #[] }
def k2m1 : Method := { name := "isEmpty", desc := "()Z", sig := { parameters := [], returnType := some .boolean }, accessFlags := 0, code := some k2c1 }
def k2c2 : Code := { maxStack := 1, maxLocals := 1, code := prog_44_method_3_code, exceptionTable := #[], attributes := #[] }
def k2m2 : Method := { name := "first", desc := "()Lcom/example/steward/steward/runtime/Agent;", sig := { parameters := [], returnType := some (.object "com/example/steward/steward/runtime/Agent") }, accessFlags := 0, code := some k2c2 }
def k2c3 : Code := { maxStack := 2, maxLocals := 2, code := prog_44_method_4_code, exceptionTable := #[], attributes := #[] }
def k2m3 : Method := { name := "add", desc := "(Lcom/example/steward/steward/runtime/Agent;)V", sig := { parameters := [(.object "com/example/steward/steward/runtime/Agent")], returnType := none }, accessFlags := 0, code := some k2c3 }
def k2c4 : Code := { maxStack := 2, maxLocals := 2, code := prog_44_method_5_code, exceptionTable := #[], attributes := #[] }
def k2m4 : Method := { name := "remove", desc := "(Lcom/example/steward/steward/runtime/Agent;)V", sig := { parameters := [(.object "com/example/steward/steward/runtime/Agent")], returnType := none }, accessFlags := 0, code := some k2c4 }
def k2c5 : Code := { maxStack := 2, maxLocals := 2, code := prog_44_method_6_code, exceptionTable := #[], attributes := #[] }
def k2m5 : Method := { name := "pollFirst", desc := "()Lcom/example/steward/steward/runtime/Agent;", sig := { parameters := [], returnType := some (.object "com/example/steward/steward/runtime/Agent") }, accessFlags := 0, code := some k2c5 }
def k2c6 : Code := { maxStack := 2, maxLocals := 2, code := prog_44_method_7_code, exceptionTable := #[], attributes := #[] }
def k2m6 : Method := { name := "pollLast", desc := "()Lcom/example/steward/steward/runtime/Agent;", sig := { parameters := [], returnType := some (.object "com/example/steward/steward/runtime/Agent") }, accessFlags := 0, code := some k2c6 }
/-- com/example/steward/steward/runtime/Group -/
def k2 : Class := { plain "com/example/steward/steward/runtime/Group" (some 0) with
  accessFlags := 48
  interfaces := #[]
  cf := some (fileOf pool2 8 #[] #[{ accessFlags := 0, nameIndex := 5, descriptorIndex := 6, attributes := #[] }, { accessFlags := 0, nameIndex := 36, descriptorIndex := 37, attributes := #[] }, { accessFlags := 0, nameIndex := 11, descriptorIndex := 39, attributes := #[] }, { accessFlags := 0, nameIndex := 41, descriptorIndex := 31, attributes := #[] }, { accessFlags := 0, nameIndex := 30, descriptorIndex := 31, attributes := #[] }, { accessFlags := 0, nameIndex := 43, descriptorIndex := 39, attributes := #[] }, { accessFlags := 0, nameIndex := 44, descriptorIndex := 39, attributes := #[] }] 48 2 #[] #[{ accessFlags := 2, nameIndex := 11, descriptorIndex := 12, attributes := #[] }, { accessFlags := 2, nameIndex := 21, descriptorIndex := 12, attributes := #[] }])
  fields := #[{ name := "first", type := (.object "com/example/steward/steward/runtime/Agent"), accessFlags := 2, slot := 0, constantValue := 0 }, { name := "last", type := (.object "com/example/steward/steward/runtime/Agent"), accessFlags := 2, slot := 1, constantValue := 0 }]
  methods := #[k2m0, k2m1, k2m2, k2m3, k2m4, k2m5, k2m6]
  instanceTypes := #[(.object "com/example/steward/steward/runtime/Agent"), (.object "com/example/steward/steward/runtime/Agent")]
  staticTypes := #[]
  resolved := Array.replicate 48 none
  statics := none }

def pool3 : Array CpInfo := pool [(1, .methodref 2 3), (0, .class_ 4), (0, .nameAndType 5 6), (0, u "java/lang/Object"), (0, u "<init>"), (0, u "()V"), (0, .class_ 8), (0, u "java/util/ArrayDeque"), (0, .methodref 7 10), (0, .nameAndType 5 11), (0, u "(I)V"), (0, .fieldref 13 14), (0, .class_ 15), (0, .nameAndType 16 17), (0, u "com/example/steward/steward/runtime/Agent"), (0, u "normal"), (0, u "Ljava/util/ArrayDeque;"), (0, .fieldref 13 19), (0, .nameAndType 20 21), (0, u "key"), (0, u "Ljava/lang/String;"), (12, u "highest"), (11, u "state"), (0, u "Ljava/lang/Object;"), (2, u "inCache"), (0, u "Z"), (0, u "running"), (1, u "group"), (0, u "Lcom/example/steward/steward/runtime/Group;"), (1, u "ahead"), (0, u "Lcom/example/steward/steward/runtime/Agent;"), (1, u "behind"), (0, u "entered"), (0, u "J"), (0, u "streak"), (0, u "I"), (0, u "(Ljava/lang/String;)V")] 10

def k3c0 : Code := { maxStack := 4, maxLocals := 2, code := prog_29_method_1_code, exceptionTable := #[], attributes := #[] }
def k3m0 : Method := { name := "<init>", desc := "(Ljava/lang/String;)V", sig := { parameters := [(.object "java/lang/String")], returnType := none }, accessFlags := 0, code := some k3c0 }
/-- com/example/steward/steward/runtime/Agent -/
def k3 : Class := { plain "com/example/steward/steward/runtime/Agent" (some 0) with
  accessFlags := 48
  interfaces := #[]
  cf := some (fileOf pool3 13 #[] #[{ accessFlags := 0, nameIndex := 5, descriptorIndex := 65, attributes := #[] }] 48 2 #[] #[{ accessFlags := 16, nameIndex := 20, descriptorIndex := 21, attributes := #[] }, { accessFlags := 0, nameIndex := 46, descriptorIndex := 47, attributes := #[] }, { accessFlags := 0, nameIndex := 50, descriptorIndex := 51, attributes := #[] }, { accessFlags := 0, nameIndex := 52, descriptorIndex := 51, attributes := #[] }, { accessFlags := 18, nameIndex := 16, descriptorIndex := 17, attributes := #[] }, { accessFlags := 2, nameIndex := 34, descriptorIndex := 17, attributes := #[] }, { accessFlags := 0, nameIndex := 54, descriptorIndex := 55, attributes := #[] }, { accessFlags := 0, nameIndex := 57, descriptorIndex := 58, attributes := #[] }, { accessFlags := 0, nameIndex := 60, descriptorIndex := 58, attributes := #[] }, { accessFlags := 0, nameIndex := 61, descriptorIndex := 62, attributes := #[] }, { accessFlags := 0, nameIndex := 63, descriptorIndex := 64, attributes := #[] }])
  fields := #[{ name := "key", type := (.object "java/lang/String"), accessFlags := 16, slot := 0, constantValue := 0 }, { name := "state", type := (.object "java/lang/Object"), accessFlags := 0, slot := 1, constantValue := 0 }, { name := "inCache", type := .boolean, accessFlags := 0, slot := 2, constantValue := 0 }, { name := "running", type := .boolean, accessFlags := 0, slot := 3, constantValue := 0 }, { name := "normal", type := (.object "java/util/ArrayDeque"), accessFlags := 18, slot := 4, constantValue := 0 }, { name := "highest", type := (.object "java/util/ArrayDeque"), accessFlags := 2, slot := 5, constantValue := 0 }, { name := "group", type := (.object "com/example/steward/steward/runtime/Group"), accessFlags := 0, slot := 6, constantValue := 0 }, { name := "ahead", type := (.object "com/example/steward/steward/runtime/Agent"), accessFlags := 0, slot := 7, constantValue := 0 }, { name := "behind", type := (.object "com/example/steward/steward/runtime/Agent"), accessFlags := 0, slot := 8, constantValue := 0 }, { name := "entered", type := .long, accessFlags := 0, slot := 9, constantValue := 0 }, { name := "streak", type := .int, accessFlags := 0, slot := 10, constantValue := 0 }]
  methods := #[k3m0]
  instanceTypes := #[(.object "java/lang/String"), (.object "java/lang/Object"), .boolean, .boolean, (.object "java/util/ArrayDeque"), (.object "java/util/ArrayDeque"), (.object "com/example/steward/steward/runtime/Group"), (.object "com/example/steward/steward/runtime/Agent"), (.object "com/example/steward/steward/runtime/Agent"), .long, .int]
  staticTypes := #[]
  resolved := Array.replicate 76 none
  statics := none }

def pool4 : Array CpInfo := pool [(1, .class_ 2), (0, u "java/io/Serializable"), (0, .class_ 4), (0, u "java/lang/Object")] 2

/-- java/io/Serializable -/
def k4 : Class := { plain "java/io/Serializable" (some 0) with
  accessFlags := 1537
  interfaces := #[]
  cf := some (fileOf pool4 1 #[] #[] 1537 3 #[] #[])
  fields := #[]
  methods := #[]
  instanceTypes := #[]
  staticTypes := #[]
  resolved := Array.replicate 7 none
  statics := none }

def pool5 : Array CpInfo := pool [(1, .class_ 2), (0, u "java/lang/Comparable"), (0, .class_ 4), (0, u "java/lang/Object")] 7

/-- java/lang/Comparable -/
def k5 : Class := { plain "java/lang/Comparable" (some 0) with
  accessFlags := 1537
  interfaces := #[]
  cf := some (fileOf pool5 1 #[] #[] 1537 3 #[] #[])
  fields := #[]
  methods := #[]
  instanceTypes := #[]
  staticTypes := #[]
  resolved := Array.replicate 12 none
  statics := none }

def pool6 : Array CpInfo := pool [(2, .class_ 4), (1, u "java/lang/CharSequence"), (42, .class_ 48), (0, u "java/lang/CharSequence$1CodePointIterator"), (10, .class_ 60), (0, u "java/lang/CharSequence$1CharIterator"), (5, .class_ 67), (0, u "java/lang/Object")] 63

/-- java/lang/CharSequence -/
def k6 : Class := { plain "java/lang/CharSequence" (some 0) with
  accessFlags := 1537
  interfaces := #[]
  cf := some (fileOf pool6 2 #[.nestMembers #[47, 59]] #[] 1537 66 #[] #[])
  fields := #[]
  methods := #[]
  instanceTypes := #[]
  staticTypes := #[]
  resolved := Array.replicate 131 none
  statics := none }

def pool7 : Array CpInfo := pool [(1, .class_ 2), (0, u "java/lang/constant/Constable"), (0, .class_ 4), (0, u "java/lang/Object")] 6

/-- java/lang/constant/Constable -/
def k7 : Class := { plain "java/lang/constant/Constable" (some 0) with
  accessFlags := 1537
  interfaces := #[]
  cf := some (fileOf pool7 1 #[] #[] 1537 3 #[] #[])
  fields := #[]
  methods := #[]
  instanceTypes := #[]
  staticTypes := #[]
  resolved := Array.replicate 11 none
  statics := none }

def pool8 : Array CpInfo := pool [(1, .class_ 2), (0, u "java/lang/constant/ConstantDesc"), (0, .class_ 4), (0, u "java/lang/Object")] 32

/-- java/lang/constant/ConstantDesc -/
def k8 : Class := { plain "java/lang/constant/ConstantDesc" (some 0) with
  accessFlags := 1537
  interfaces := #[]
  cf := some (fileOf pool8 1 #[] #[] 1537 3 #[] #[])
  fields := #[]
  methods := #[]
  instanceTypes := #[]
  staticTypes := #[]
  resolved := Array.replicate 37 none
  statics := none }

def pool9 : Array CpInfo := pool [(2, .class_ 4), (1, u "java/lang/Object"), (0, u "<init>"), (0, u "()V"), (3, .class_ 12), (1, u "java/lang/String"), (0, u "value"), (0, u "[B"), (2, u "coder"), (0, u "B"), (2, u "hash"), (0, u "I"), (2, u "hashIsZero"), (0, u "Z"), (13, u "COMPACT_STRINGS"), (534, .class_ 576), (0, u "java/lang/CharSequence"), (22, u "CASE_INSENSITIVE_ORDER"), (0, u "Ljava/util/Comparator;"), (500, u "serialPersistentFields"), (0, u "[Ljava/io/ObjectStreamField;"), (0, .class_ 1104), (0, u "java/lang/String$CaseInsensitiveComparator"), (1, .class_ 1107), (0, u "java/io/Serializable"), (0, .class_ 1109), (0, u "java/lang/Comparable"), (0, .class_ 1111), (0, u "java/lang/constant/Constable"), (0, .class_ 1113), (0, u "java/lang/constant/ConstantDesc"), (2, u "serialVersionUID"), (0, u "J"), (3, u "REPL"), (0, u "C"), (2, u "LATIN1"), (1, u "UTF16")] 323

def k9m0 : Method := { name := "<init>", desc := "()V", sig := { parameters := [], returnType := none }, accessFlags := 1, code := none }
/-- java/lang/String -/
def k9 : Class := { plain "java/lang/String" (some 0) with
  accessFlags := 49
  interfaces := #[4, 5, 6, 7, 8]
  cf := some (fileOf pool9 10 #[.nestMembers #[1103]] #[{ accessFlags := 1, nameIndex := 5, descriptorIndex := 6, attributes := #[] }] 49 2 #[1106, 1108, 575, 1110, 1112] #[{ accessFlags := 18, nameIndex := 13, descriptorIndex := 14, attributes := #[] }, { accessFlags := 18, nameIndex := 17, descriptorIndex := 18, attributes := #[] }, { accessFlags := 2, nameIndex := 21, descriptorIndex := 22, attributes := #[] }, { accessFlags := 2, nameIndex := 25, descriptorIndex := 26, attributes := #[] }, { accessFlags := 26, nameIndex := 1116, descriptorIndex := 1117, attributes := #[] }, { accessFlags := 24, nameIndex := 40, descriptorIndex := 26, attributes := #[] }, { accessFlags := 26, nameIndex := 1101, descriptorIndex := 1102, attributes := #[] }, { accessFlags := 26, nameIndex := 1121, descriptorIndex := 1122, attributes := #[] }, { accessFlags := 25, nameIndex := 599, descriptorIndex := 600, attributes := #[] }, { accessFlags := 24, nameIndex := 1125, descriptorIndex := 18, attributes := #[] }, { accessFlags := 24, nameIndex := 1127, descriptorIndex := 18, attributes := #[] }])
  fields := #[{ name := "value", type := (.array .byte), accessFlags := 18, slot := 0, constantValue := 0 }, { name := "coder", type := .byte, accessFlags := 18, slot := 1, constantValue := 0 }, { name := "hash", type := .int, accessFlags := 2, slot := 2, constantValue := 0 }, { name := "hashIsZero", type := .boolean, accessFlags := 2, slot := 3, constantValue := 0 }, { name := "serialVersionUID", type := .long, accessFlags := 26, slot := 0, constantValue := 0 }, { name := "COMPACT_STRINGS", type := .boolean, accessFlags := 24, slot := 1, constantValue := 0 }, { name := "serialPersistentFields", type := (.array (.object "java/io/ObjectStreamField")), accessFlags := 26, slot := 2, constantValue := 0 }, { name := "REPL", type := .char, accessFlags := 26, slot := 3, constantValue := 0 }, { name := "CASE_INSENSITIVE_ORDER", type := (.object "java/util/Comparator"), accessFlags := 25, slot := 4, constantValue := 0 }, { name := "LATIN1", type := .byte, accessFlags := 24, slot := 5, constantValue := 0 }, { name := "UTF16", type := .byte, accessFlags := 24, slot := 6, constantValue := 0 }]
  methods := #[k9m0]
  instanceTypes := #[(.array .byte), .byte, .int, .boolean]
  staticTypes := #[.long, .boolean, (.array (.object "java/io/ObjectStreamField")), .char, (.object "java/util/Comparator"), .byte, .byte]
  resolved := Array.replicate 1451 none
  statics := none }

def pool10 : Array CpInfo := pool [(8, .class_ 10), (1, u "java/lang/Iterable"), (24, .class_ 36), (0, u "java/lang/Object")] 25

/-- java/lang/Iterable -/
def k10 : Class := { plain "java/lang/Iterable" (some 0) with
  accessFlags := 1537
  interfaces := #[]
  cf := some (fileOf pool10 8 #[] #[] 1537 35 #[] #[])
  fields := #[]
  methods := #[]
  instanceTypes := #[]
  staticTypes := #[]
  resolved := Array.replicate 62 none
  statics := none }

def pool11 : Array CpInfo := pool [(10, .class_ 12), (1, u "java/util/Collection"), (47, .class_ 61), (0, u "java/lang/Object"), (0, .class_ 63), (0, u "java/lang/Iterable")] 51

/-- java/util/Collection -/
def k11 : Class := { plain "java/util/Collection" (some 0) with
  accessFlags := 1537
  interfaces := #[10]
  cf := some (fileOf pool11 10 #[] #[] 1537 60 #[62] #[])
  fields := #[]
  methods := #[]
  instanceTypes := #[]
  staticTypes := #[]
  resolved := Array.replicate 115 none
  statics := none }

def pool12 : Array CpInfo := pool [(1, .methodref 2 3), (0, .class_ 4), (0, .nameAndType 5 6), (0, u "java/lang/Object"), (0, u "<init>"), (0, u "()V"), (1, .class_ 10), (1, u "java/util/AbstractCollection"), (66, .class_ 78), (0, u "java/util/Collection")] 81

def k12c0 : Code := { maxStack := 1, maxLocals := 1, code := jdk_22_method_1_code, exceptionTable := #[], attributes := #[] }
def k12m0 : Method := { name := "<init>", desc := "()V", sig := { parameters := [], returnType := none }, accessFlags := 4, code := some k12c0 }
/-- java/util/AbstractCollection -/
def k12 : Class := { plain "java/util/AbstractCollection" (some 0) with
  accessFlags := 1057
  interfaces := #[11]
  cf := some (fileOf pool12 8 #[] #[{ accessFlags := 4, nameIndex := 5, descriptorIndex := 6, attributes := #[] }] 1057 2 #[77] #[])
  fields := #[]
  methods := #[k12m0]
  instanceTypes := #[]
  staticTypes := #[]
  resolved := Array.replicate 160 none
  statics := none }

def pool13 : Array CpInfo := pool [(1, .class_ 2), (0, u "java/util/Queue"), (0, .class_ 4), (0, u "java/lang/Object"), (0, .class_ 6), (0, u "java/util/Collection")] 14

/-- java/util/Queue -/
def k13 : Class := { plain "java/util/Queue" (some 0) with
  accessFlags := 1537
  interfaces := #[11]
  cf := some (fileOf pool13 1 #[] #[] 1537 3 #[5] #[])
  fields := #[]
  methods := #[]
  instanceTypes := #[]
  staticTypes := #[]
  resolved := Array.replicate 21 none
  statics := none }

def pool14 : Array CpInfo := pool [(8, .class_ 10), (1, u "java/util/SequencedCollection"), (15, .class_ 27), (0, u "java/lang/Object"), (0, .class_ 29), (0, u "java/util/Collection")] 27

/-- java/util/SequencedCollection -/
def k14 : Class := { plain "java/util/SequencedCollection" (some 0) with
  accessFlags := 1537
  interfaces := #[11]
  cf := some (fileOf pool14 8 #[] #[] 1537 26 #[28] #[])
  fields := #[]
  methods := #[]
  instanceTypes := #[]
  staticTypes := #[]
  resolved := Array.replicate 57 none
  statics := none }

def pool15 : Array CpInfo := pool [(8, .class_ 10), (1, u "java/util/Deque"), (2, .class_ 14), (0, u "java/lang/Object"), (0, .class_ 16), (0, u "java/util/Queue"), (0, .class_ 18), (0, u "java/util/SequencedCollection")] 51

/-- java/util/Deque -/
def k15 : Class := { plain "java/util/Deque" (some 0) with
  accessFlags := 1537
  interfaces := #[13, 14]
  cf := some (fileOf pool15 8 #[] #[] 1537 13 #[15, 17] #[])
  fields := #[]
  methods := #[]
  instanceTypes := #[]
  staticTypes := #[]
  resolved := Array.replicate 70 none
  statics := none }

def pool16 : Array CpInfo := pool [(1, .class_ 2), (0, u "java/lang/Cloneable"), (0, .class_ 4), (0, u "java/lang/Object")] 2

/-- java/lang/Cloneable -/
def k16 : Class := { plain "java/lang/Cloneable" (some 0) with
  accessFlags := 1537
  interfaces := #[]
  cf := some (fileOf pool16 1 #[] #[] 1537 3 #[] #[])
  fields := #[]
  methods := #[]
  instanceTypes := #[]
  staticTypes := #[]
  resolved := Array.replicate 7 none
  statics := none }

def pool17 : Array CpInfo := pool [(3, .fieldref 4 5), (0, .class_ 6), (0, .nameAndType 7 8), (0, u "java/util/ArrayDeque"), (0, u "elements"), (0, u "[Ljava/lang/Object;"), (13, u "tail"), (0, u "I"), (2, u "head"), (12, u "<init>"), (1, .integer 2147483647), (0, .methodref 43 44), (0, .class_ 45), (0, .nameAndType 39 46), (0, u "java/util/AbstractCollection"), (0, u "()V"), (0, .class_ 48), (0, u "java/lang/Object"), (8, u "(I)V"), (73, .class_ 132), (0, u "java/util/ArrayDeque$DeqIterator"), (3, .class_ 137), (0, u "java/util/ArrayDeque$DescendingIterator"), (1, .class_ 140), (0, u "java/util/ArrayDeque$DeqSpliterator"), (137, .class_ 279), (0, u "java/util/Deque"), (0, .class_ 281), (0, u "java/lang/Cloneable"), (0, .class_ 283), (0, u "java/io/Serializable"), (0, u "MAX_ARRAY_SIZE"), (1, u "serialVersionUID"), (0, u "J")] 150

def k17m0 : Method := { name := "<init>", desc := "()V", sig := { parameters := [], returnType := none }, accessFlags := 1, code := none }
def k17c1 : Code := { maxStack := 3, maxLocals := 2, code := jdk_21_method_4_code, exceptionTable := #[], attributes := #[] }
def k17m1 : Method := { name := "<init>", desc := "(I)V", sig := { parameters := [.int], returnType := none }, accessFlags := 1, code := some k17c1 }
/-- java/util/ArrayDeque -/
def k17 : Class := { plain "java/util/ArrayDeque" (some 12) with
  accessFlags := 33
  interfaces := #[15, 16, 4]
  cf := some (fileOf pool17 4 #[.nestMembers #[139, 136, 131]] #[{ accessFlags := 1, nameIndex := 39, descriptorIndex := 46, attributes := #[] }, { accessFlags := 1, nameIndex := 39, descriptorIndex := 57, attributes := #[] }] 33 43 #[278, 280, 282] #[{ accessFlags := 128, nameIndex := 7, descriptorIndex := 8, attributes := #[] }, { accessFlags := 128, nameIndex := 26, descriptorIndex := 23, attributes := #[] }, { accessFlags := 128, nameIndex := 22, descriptorIndex := 23, attributes := #[] }, { accessFlags := 26, nameIndex := 284, descriptorIndex := 23, attributes := #[] }, { accessFlags := 26, nameIndex := 286, descriptorIndex := 287, attributes := #[] }])
  fields := #[{ name := "elements", type := (.array (.object "java/lang/Object")), accessFlags := 128, slot := 0, constantValue := 0 }, { name := "head", type := .int, accessFlags := 128, slot := 1, constantValue := 0 }, { name := "tail", type := .int, accessFlags := 128, slot := 2, constantValue := 0 }, { name := "MAX_ARRAY_SIZE", type := .int, accessFlags := 26, slot := 0, constantValue := 0 }, { name := "serialVersionUID", type := .long, accessFlags := 26, slot := 1, constantValue := 0 }]
  methods := #[k17m0, k17m1]
  instanceTypes := #[(.array (.object "java/lang/Object")), .int, .int]
  staticTypes := #[.int, .long]
  resolved := Array.replicate 438 none
  statics := none }

/-- the primitive byte -/
def k18 : Class := { plain "byte" none with kind := .primitive 'B', accessFlags := 0x411 }
/-- [B -/
def k19 : Class := { plain "[B" (some 0) with kind := .array 18 .byte, interfaces := #[16, 4], accessFlags := 1041 }

/-- the primitive int -/
def k20 : Class := { plain "int" none with kind := .primitive 'I', accessFlags := 0x411 }
/-- [I -/
def k21 : Class := { plain "[I" (some 0) with kind := .array 20 .int, interfaces := #[16, 4], accessFlags := 1041 }

/-- [Ljava/lang/Object; -/
def k22 : Class := { plain "[Ljava/lang/Object;" (some 0) with kind := .array 0 (.object "java/lang/Object"), interfaces := #[16, 4], accessFlags := 1041 }

def heap : Heap := #[]
def classes : Array Class := #[k0, k1, k2, k3, k4, k5, k6, k7, k8, k9, k10, k11, k12, k13, k14, k15, k16, k17, k18, k19, k20, k21, k22]
def interned : List (Array UInt16 × Addr) := []
def slotsUsed : Nat := 0
def theMethod : MethodId := ⟨1, 1⟩
def args0 : Array Value := #[.int 5, .int 3]
def aboutOver (below : List Frame) : State where
  vm := { classes := classes, interned := interned.toArray }
  heap := heap
  slotsUsed := slotsUsed
  threads := #[{ frames := .invoking theMethod args0 :: below }]
def below0 : List Frame := [.native { method := ⟨0, 0⟩, args := #[] }]
def about1 : State := aboutOver below0
def p0 : Program := .bare "" "" ""
def e0 : Env := launch0.env 0 0 0
theorem w_frames : about1.frames = Frame.invoking theMethod args0 :: below0 := rfl
set_option maxRecDepth 65536 in
theorem w_args : argsFit about1.vm theMethod args0 = true := by decide +kernel
set_option maxRecDepth 65536 in
theorem w_heap : heapFits about1 = true := by decide +kernel
set_option maxRecDepth 65536 in
theorem w_runnable : about1.curStatus? = some .runnable := by decide +kernel
set_option maxRecDepth 65536 in
theorem w_alone : about1.alone = true := by decide +kernel
set_option maxRecDepth 65536 in
theorem w_named : about1.methodNamed? x = some theMethod := by decide +kernel
set_option maxRecDepth 65536 in
theorem w_hears : about1.hears theMethod below0 = true := by decide +kernel
set_option maxRecDepth 65536 in
theorem w_ripe : about1.ripe theMethod args0 below0 = true := by decide +kernel
theorem w_running : about1.status = .running := rfl
set_option maxRecDepth 65536 in
theorem w_room : about1.hasRoom e0.platform room_1 = true :=
  launch0.hasRoom_least _ room_1 (by decide +kernel) (by decide +kernel) (by decide +kernel) (by decide +kernel) (by decide +kernel) (by decide +kernel)
theorem allAtoms_all (ts : List Jvm.Cond) (a : Array Jvm.Value) (st : Jvm.State) : (allAtoms ts).before a st = ts.all (fun c => c.before a st) := by
  induction ts with
  | nil => rfl
  | cons c t ih =>
    show (Jvm.Cond.and c (allAtoms t)).before a st = _
    rw [Jvm.Cond.before_and, ih, List.all_cons]
def words1 : List Jvm.Cond := Jvm.Cond.code x code maxLocals ret :: tables_1
/-- a 'code' word, met by the world's own term for the bytes: nothing is compared byte by byte -/
theorem code_word {y : MethodName} {bytes : ByteArray} {mx : Nat} {rt : Option FieldType} {a : Array Value} {s : State} {m : MethodId} {meth : Method} {c : Code} (h1 : s.methodNamed? y = some m) (h2 : s.vm.method? m = some meth) (h3 : meth.code = some c) (h4 : c.code = bytes)
    (h5 : (c.maxLocals == mx && c.exceptionTable.isEmpty && decide (c.maxStack ≤ mostOperands) && decide (meth.sig.returnType = rt) && !meth.locks && decide (parseMethodDescriptor y.desc = some meth.sig)) = true) : (Jvm.Cond.code y bytes mx rt).before a s = true := by
  simp only [Bool.and_eq_true, beq_iff_eq, Bool.not_eq_true', decide_eq_true_eq] at h5
  obtain ⟨⟨⟨⟨⟨g1, g2⟩, g3⟩, g4⟩, g5⟩, g6⟩ := h5
  simp [Cond.before, Cond.holds, Cond.value, h1, h2, h3, h4, g1, g2, g3, g4, g5, g6]
def isCode : Jvm.Cond → Bool
  | .code _ _ _ _ => true
  | _ => false
theorem all_split {L : List Jvm.Cond} {P : Jvm.Cond → Bool} (h1 : L.all (fun c => isCode c || P c) = true) (h2 : ∀ c ∈ L.filter isCode, P c = true) : L.all P = true := by
  refine List.all_eq_true.mpr fun c hc => ?_
  have h := List.all_eq_true.mp h1 c hc
  rcases Bool.eq_false_or_eq_true (isCode c) with hi | hi
  · exact h2 c (List.mem_filter.mpr ⟨hc, hi⟩)
  · simpa [hi] using h
set_option maxRecDepth 65536 in
theorem w_c0 : (Jvm.Cond.code x code maxLocals ret).before args0 about1 = true := code_word (m := ⟨1, 1⟩) (meth := k1m1) (c := k1c1) (by decide +kernel) rfl rfl rfl (by decide +kernel)
set_option maxRecDepth 65536 in
theorem w_c1 : (Jvm.Cond.code ({ cls := "com/example/steward/steward/runtime/Group", name := "<init>", desc := "()V" } : Jvm.MethodName) prog_44_method_1_code (1 : Nat) (Option.none : Option Jvm.ClassFile.FieldType)).before args0 about1 = true := code_word (m := ⟨2, 0⟩) (meth := k2m0) (c := k2c0) (by decide +kernel) rfl rfl rfl (by decide +kernel)
set_option maxRecDepth 65536 in
theorem w_c2 : (Jvm.Cond.code ({ cls := "java/lang/Object", name := "<init>", desc := "()V" } : Jvm.MethodName) object_method_1_code (1 : Nat) (Option.none : Option Jvm.ClassFile.FieldType)).before args0 about1 = true := code_word (m := ⟨0, 0⟩) (meth := k0m0) (c := k0c0) (by decide +kernel) rfl rfl rfl (by decide +kernel)
set_option maxRecDepth 65536 in
theorem w_c3 : (Jvm.Cond.code ({ cls := "com/example/steward/steward/runtime/Agent", name := "<init>", desc := "(Ljava/lang/String;)V" } : Jvm.MethodName) prog_29_method_1_code (2 : Nat) (Option.none : Option Jvm.ClassFile.FieldType)).before args0 about1 = true := code_word (m := ⟨3, 0⟩) (meth := k3m0) (c := k3c0) (by decide +kernel) rfl rfl rfl (by decide +kernel)
set_option maxRecDepth 65536 in
theorem w_c4 : (Jvm.Cond.code ({ cls := "java/util/ArrayDeque", name := "<init>", desc := "(I)V" } : Jvm.MethodName) jdk_21_method_4_code (2 : Nat) (Option.none : Option Jvm.ClassFile.FieldType)).before args0 about1 = true := code_word (m := ⟨17, 1⟩) (meth := k17m1) (c := k17c1) (by decide +kernel) rfl rfl rfl (by decide +kernel)
set_option maxRecDepth 65536 in
theorem w_c5 : (Jvm.Cond.code ({ cls := "java/util/AbstractCollection", name := "<init>", desc := "()V" } : Jvm.MethodName) jdk_22_method_1_code (1 : Nat) (Option.none : Option Jvm.ClassFile.FieldType)).before args0 about1 = true := code_word (m := ⟨12, 0⟩) (meth := k12m0) (c := k12c0) (by decide +kernel) rfl rfl rfl (by decide +kernel)
set_option maxRecDepth 65536 in
theorem w_c6 : (Jvm.Cond.code ({ cls := "com/example/steward/steward/runtime/Group", name := "isEmpty", desc := "()Z" } : Jvm.MethodName) prog_44_method_2_code (1 : Nat) (Option.some Jvm.ClassFile.FieldType.boolean)).before args0 about1 = true := code_word (m := ⟨2, 1⟩) (meth := k2m1) (c := k2c1) (by decide +kernel) rfl rfl rfl (by decide +kernel)
set_option maxRecDepth 65536 in
theorem w_c7 : (Jvm.Cond.code ({ cls := "com/example/steward/steward/runtime/Group", name := "first", desc := "()Lcom/example/steward/steward/runtime/Agent;" } : Jvm.MethodName) prog_44_method_3_code (1 : Nat) (Option.some (Jvm.ClassFile.FieldType.object "com/example/steward/steward/runtime/Agent"))).before args0 about1 = true := code_word (m := ⟨2, 2⟩) (meth := k2m2) (c := k2c2) (by decide +kernel) rfl rfl rfl (by decide +kernel)
set_option maxRecDepth 65536 in
theorem w_c8 : (Jvm.Cond.code ({ cls := "com/example/steward/steward/runtime/GroupAddPinLaw", name := "linked", desc := "(Lcom/example/steward/steward/runtime/Agent;ZLcom/example/steward/steward/runtime/Group;Lcom/example/steward/steward/runtime/Agent;Lcom/example/steward/steward/runtime/Agent;)Z" } : Jvm.MethodName) method_3_code (5 : Nat) (Option.some Jvm.ClassFile.FieldType.boolean)).before args0 about1 = true := code_word (m := ⟨1, 2⟩) (meth := k1m2) (c := k1c2) (by decide +kernel) rfl rfl rfl (by decide +kernel)
set_option maxRecDepth 65536 in
theorem w_c9 : (Jvm.Cond.code ({ cls := "com/example/steward/steward/runtime/Group", name := "pollFirst", desc := "()Lcom/example/steward/steward/runtime/Agent;" } : Jvm.MethodName) prog_44_method_6_code (2 : Nat) (Option.some (Jvm.ClassFile.FieldType.object "com/example/steward/steward/runtime/Agent"))).before args0 about1 = true := code_word (m := ⟨2, 5⟩) (meth := k2m5) (c := k2c5) (by decide +kernel) rfl rfl rfl (by decide +kernel)
set_option maxRecDepth 65536 in
theorem w_c10 : (Jvm.Cond.code ({ cls := "com/example/steward/steward/runtime/Group", name := "add", desc := "(Lcom/example/steward/steward/runtime/Agent;)V" } : Jvm.MethodName) prog_44_method_4_code (2 : Nat) (Option.none : Option Jvm.ClassFile.FieldType)).before args0 about1 = true := code_word (m := ⟨2, 3⟩) (meth := k2m3) (c := k2c3) (by decide +kernel) rfl rfl rfl (by decide +kernel)
set_option maxRecDepth 65536 in
theorem w_c11 : (Jvm.Cond.code ({ cls := "com/example/steward/steward/runtime/Group", name := "remove", desc := "(Lcom/example/steward/steward/runtime/Agent;)V" } : Jvm.MethodName) prog_44_method_5_code (2 : Nat) (Option.none : Option Jvm.ClassFile.FieldType)).before args0 about1 = true := code_word (m := ⟨2, 4⟩) (meth := k2m4) (c := k2c4) (by decide +kernel) rfl rfl rfl (by decide +kernel)
set_option maxRecDepth 65536 in
theorem w_c12 : (Jvm.Cond.code ({ cls := "com/example/steward/steward/runtime/Group", name := "pollLast", desc := "()Lcom/example/steward/steward/runtime/Agent;" } : Jvm.MethodName) prog_44_method_7_code (2 : Nat) (Option.some (Jvm.ClassFile.FieldType.object "com/example/steward/steward/runtime/Agent"))).before args0 about1 = true := code_word (m := ⟨2, 6⟩) (meth := k2m6) (c := k2c6) (by decide +kernel) rfl rfl rfl (by decide +kernel)
def codes1 : List Jvm.Cond := [Jvm.Cond.code x code maxLocals ret, Jvm.Cond.code ({ cls := "com/example/steward/steward/runtime/Group", name := "<init>", desc := "()V" } : Jvm.MethodName) prog_44_method_1_code (1 : Nat) (Option.none : Option Jvm.ClassFile.FieldType), Jvm.Cond.code ({ cls := "java/lang/Object", name := "<init>", desc := "()V" } : Jvm.MethodName) object_method_1_code (1 : Nat) (Option.none : Option Jvm.ClassFile.FieldType), Jvm.Cond.code ({ cls := "com/example/steward/steward/runtime/Agent", name := "<init>", desc := "(Ljava/lang/String;)V" } : Jvm.MethodName) prog_29_method_1_code (2 : Nat) (Option.none : Option Jvm.ClassFile.FieldType), Jvm.Cond.code ({ cls := "java/util/ArrayDeque", name := "<init>", desc := "(I)V" } : Jvm.MethodName) jdk_21_method_4_code (2 : Nat) (Option.none : Option Jvm.ClassFile.FieldType), Jvm.Cond.code ({ cls := "java/util/AbstractCollection", name := "<init>", desc := "()V" } : Jvm.MethodName) jdk_22_method_1_code (1 : Nat) (Option.none : Option Jvm.ClassFile.FieldType), Jvm.Cond.code ({ cls := "com/example/steward/steward/runtime/Group", name := "isEmpty", desc := "()Z" } : Jvm.MethodName) prog_44_method_2_code (1 : Nat) (Option.some Jvm.ClassFile.FieldType.boolean), Jvm.Cond.code ({ cls := "com/example/steward/steward/runtime/Group", name := "first", desc := "()Lcom/example/steward/steward/runtime/Agent;" } : Jvm.MethodName) prog_44_method_3_code (1 : Nat) (Option.some (Jvm.ClassFile.FieldType.object "com/example/steward/steward/runtime/Agent")), Jvm.Cond.code ({ cls := "com/example/steward/steward/runtime/GroupAddPinLaw", name := "linked", desc := "(Lcom/example/steward/steward/runtime/Agent;ZLcom/example/steward/steward/runtime/Group;Lcom/example/steward/steward/runtime/Agent;Lcom/example/steward/steward/runtime/Agent;)Z" } : Jvm.MethodName) method_3_code (5 : Nat) (Option.some Jvm.ClassFile.FieldType.boolean), Jvm.Cond.code ({ cls := "com/example/steward/steward/runtime/Group", name := "pollFirst", desc := "()Lcom/example/steward/steward/runtime/Agent;" } : Jvm.MethodName) prog_44_method_6_code (2 : Nat) (Option.some (Jvm.ClassFile.FieldType.object "com/example/steward/steward/runtime/Agent")), Jvm.Cond.code ({ cls := "com/example/steward/steward/runtime/Group", name := "add", desc := "(Lcom/example/steward/steward/runtime/Agent;)V" } : Jvm.MethodName) prog_44_method_4_code (2 : Nat) (Option.none : Option Jvm.ClassFile.FieldType), Jvm.Cond.code ({ cls := "com/example/steward/steward/runtime/Group", name := "remove", desc := "(Lcom/example/steward/steward/runtime/Agent;)V" } : Jvm.MethodName) prog_44_method_5_code (2 : Nat) (Option.none : Option Jvm.ClassFile.FieldType), Jvm.Cond.code ({ cls := "com/example/steward/steward/runtime/Group", name := "pollLast", desc := "()Lcom/example/steward/steward/runtime/Agent;" } : Jvm.MethodName) prog_44_method_7_code (2 : Nat) (Option.some (Jvm.ClassFile.FieldType.object "com/example/steward/steward/runtime/Agent"))]
set_option maxRecDepth 65536 in
theorem codes_eq : words1.filter isCode = codes1 := rfl
theorem w_codes : ∀ c ∈ words1.filter isCode, c.before args0 about1 = true := by
  rw [codes_eq]
  intro c hc
  simp only [codes1, List.mem_cons, List.not_mem_nil, or_false] at hc
  rcases hc with rfl | rfl | rfl | rfl | rfl | rfl | rfl | rfl | rfl | rfl | rfl | rfl | rfl
  · exact w_c0
  · exact w_c1
  · exact w_c2
  · exact w_c3
  · exact w_c4
  · exact w_c5
  · exact w_c6
  · exact w_c7
  · exact w_c8
  · exact w_c9
  · exact w_c10
  · exact w_c11
  · exact w_c12
set_option maxRecDepth 65536 in
theorem w_t1 : (words1.take 24).all (fun c => isCode c || c.before args0 about1) = true := by decide +kernel
set_option maxRecDepth 65536 in
theorem w_t2 : ((words1.drop 24).take 24).all (fun c => isCode c || c.before args0 about1) = true := by decide +kernel
set_option maxRecDepth 65536 in
theorem w_t3 : (((words1.drop 24).drop 24).take 24).all (fun c => isCode c || c.before args0 about1) = true := by decide +kernel
set_option maxRecDepth 65536 in
theorem w_t4 : (((words1.drop 24).drop 24).drop 24).all (fun c => isCode c || c.before args0 about1) = true := by decide +kernel
theorem w_tables : (allAtoms (Jvm.Cond.code x code maxLocals ret :: tables_1)).before args0 about1 = true := by
  rw [allAtoms_all]
  show words1.all (fun c => c.before args0 about1) = true
  refine all_split ?_ w_codes
  rw [← List.take_append_drop 24 words1, List.all_append, w_t1, ← List.take_append_drop 24 (words1.drop 24), List.all_append, w_t2, ← List.take_append_drop 24 ((words1.drop 24).drop 24), List.all_append, w_t3, w_t4]
  rfl
set_option maxRecDepth 65536 in
theorem w_case : (Jvm.Cond.and given_1 narrow_1).before args0 about1 = true := by decide +kernel
theorem w_applies : (headSpec (Jvm.Cond.code x code maxLocals ret :: tables_1) room_1).applies x e0.platform about1 = true :=
  (Spec.applies_iff w_frames).mpr ⟨w_running, w_runnable, w_alone, w_named, w_hears, w_ripe, w_room, w_tables⟩
theorem atStart : AtStart classFile x code maxLocals ret World_1 tables_1 room_1 Calls_1 rest_1 Pre_1 launch0 p0 e0 about1 theMethod args0 below0 :=
  ⟨lists_1, trivial, launch0.admits_env _ _ _, launch0.least_env, fairChoices_fair.cas, fairChoices_fair.clock, w_frames, w_args, w_heap, w_applies, trivial, trivial, w_case⟩
end start1
theorem witness_1 : WitnessClaimed_1 := ⟨start1.p0, start1.e0, start1.about1, start1.theMethod, start1.args0, start1.below0, start1.atStart⟩
end Jvm.Pilot.@@N@@
