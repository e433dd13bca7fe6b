import JvmDerived
import JvmDerived.Pilot.@@N@@Statement
import JvmDerived.Pilot.@@N@@Code
set_option linter.unusedVariables false
set_option linter.unusedSimpArgs false
namespace Jvm.Pilot.@@N@@
open Jvm Jvm.ClassFile Sem Op Lib Jvm.Free Jvm.Stand Jvm.LawKit Jvm.RoadKit Bundle Jvm.Pilot.@@N@@.Jvm.D
section Own
variable {p : Program} {l : Launch} {e : Env} {R : Room} {s : State} {m : MethodId} {args : Array Value} {below : List Frame} {meth : Method} {c : Code} {T : State} {locs : List Loc} {cells slots : Nat} {C N : Nat} {Q : Option Value → Heap → List Loc → Prop} {S S' : State} {Z : State} {h h' : Heap}
/-- from the state S the invocation ends in a return, and Q holds there -/
def Go (p : Program) (e : Env) (below : List Frame) (s : State) (C N : Nat) (Q : Option Value → Heap → List Loc → Prop) (S : State) : Prop :=
  ∃ s₂ o, Steps p.tables e below S s₂ ∧ s₂.status = .running ∧ Ended s₂ below o ∧ ∃ v L, o = .returned v ∧ Q v s₂.heap L ∧ FrameEnd s o s₂ L C N
theorem Go.step (st : ∀ t, Steps p.tables e below S' t → Steps p.tables e below S t) (G : Go p e below s C N Q S') : Go p e below s C N Q S := by
  obtain ⟨s₂, o, h, r⟩ := G
  exact ⟨s₂, o, st _ h, r⟩
theorem Go.tr (st : Steps p.tables e below S S') (G : Go p e below s C N Q S') : Go p e below s C N Q S := by
  obtain ⟨s₂, o, h, r⟩ := G
  exact ⟨s₂, o, st.trans h, r⟩
theorem Go.out (X : Stand p l e R s m args below meth c T locs cells slots) {v : Option Value} {g : JFrame} (hv : meth.sig.returnType = none → v = none) (hlk : meth.locks = false)
    (hst : ∀ fs, (∀ (f : JFrame) (acts : List Action), f.method = m → f.locked = none → f.entered = [] → (doReturn e (T.setTop f) acts v).1 = T.setFrames fs) → Steps p.tables e below (T.setTop g) (T.setFrames fs))
    (hQ : Q v T.heap locs) (hc : cells ≤ C) (hn : slots ≤ N) : Go p e below s C N Q (T.setTop g) := by
  obtain ⟨fs, hr, hrun, hended, hW, hsame⟩ := X.leave (v := v) hv hlk
  exact ⟨_, _, hst fs hr, hrun, hended, _, _, rfl, hQ, ⟨_, rfl⟩, hW, hsame.mono hc hn⟩
theorem Go.retV (X : Stand p l e R s m args below meth c T locs cells slots) (hx : p.tables.exec = Jvm.exec) {pc : Nat} {Ls : Array Slot} (hret : meth.sig.returnType = none) (hlk : meth.locks = false) (hd : decode c.code pc = .ok (.return_, 1))
    (hQ : Q none T.heap locs) (hc : cells ≤ C) (hn : slots ≤ N) : Go p e below s C N Q (T.setTop (mkF m pc Ls [])) :=
  Go.out X (fun _ => rfl) hlk (fun fs hr => X.returnOut hx hret hd hr) hQ hc hn
theorem Go.retI (X : Stand p l e R s m args below meth c T locs cells slots) (hx : p.tables.exec = Jvm.exec) {pc : Nat} {Ls : Array Slot} {z : Int32} {rest : List Value} (hret : meth.sig.returnType = some .int) (hlk : meth.locks = false) (hd : decode c.code pc = .ok (.ireturn, 1))
    (hQ : Q (some (.int z)) T.heap locs) (hc : cells ≤ C) (hn : slots ≤ N) : Go p e below s C N Q (T.setTop (mkF m pc Ls (.int z :: rest))) :=
  Go.out X (fun h => by rw [hret] at h; cases h) hlk (fun fs hr => retOut X hx hret rfl (Or.inl ⟨rfl, Or.inl rfl, z, rfl⟩) hd hr) hQ hc hn
theorem Go.retN (X : Stand p l e R s m args below meth c T locs cells slots) (hx : p.tables.exec = Jvm.exec) {pc : Nat} {Ls : Array Slot} {z : Int32} {t : FieldType} {rest : List Value} (hret : meth.sig.returnType = some t) (ht : t = .boolean ∨ t = .byte ∨ t = .char ∨ t = .short) (hlk : meth.locks = false) (hd : decode c.code pc = .ok (.ireturn, 1))
    (hQ : Q (some (.int (nar t z))) T.heap locs) (hc : cells ≤ C) (hn : slots ≤ N) : Go p e below s C N Q (T.setTop (mkF m pc Ls (.int z :: rest))) :=
  Go.out X (fun h => by rw [hret] at h; cases h) hlk (fun fs hr => Jvm.RoadKit.retN X hx hret ht hd hr) hQ hc hn
theorem Go.retJ (X : Stand p l e R s m args below meth c T locs cells slots) (hx : p.tables.exec = Jvm.exec) {pc : Nat} {Ls : Array Slot} {z : Int64} {rest : List Value} (hret : meth.sig.returnType = some .long) (hlk : meth.locks = false) (hd : decode c.code pc = .ok (.lreturn, 1))
    (hQ : Q (some (.long z)) T.heap locs) (hc : cells ≤ C) (hn : slots ≤ N) : Go p e below s C N Q (T.setTop (mkF m pc Ls (.long z :: rest))) :=
  Go.out X (fun h => by rw [hret] at h; cases h) hlk (fun fs hr => retOut X hx hret rfl (Or.inr (Or.inl ⟨rfl, rfl, z, rfl⟩)) hd hr) hQ hc hn
theorem Go.retA (X : Stand p l e R s m args below meth c T locs cells slots) (hx : p.tables.exec = Jvm.exec) {pc : Nat} {Ls : Array Slot} {w : Value} {t : FieldType} {rest : List Value} (hret : meth.sig.returnType = some t) (ht : t.isReference = true) (hw : w.isRef = true) (hlk : meth.locks = false) (hd : decode c.code pc = .ok (.areturn, 1))
    (hQ : Q (some w) T.heap locs) (hc : cells ≤ C) (hn : slots ≤ N) : Go p e below s C N Q (T.setTop (mkF m pc Ls (w :: rest))) :=
  Go.out X (fun h => by rw [hret] at h; cases h) hlk (fun fs hr => retOut X hx hret (by rcases ref_cases hw with rfl | ⟨a, rfl⟩ <;> cases t <;> first | rfl | cases ht) (Or.inr (Or.inr (Or.inr (Or.inr ⟨rfl, ht, hw⟩)))) hd hr) hQ hc hn
/-- an array of ints, bytes ..: z places, the j-th holds f j -/
def Ai (Z : State) (h : Heap) (a : Addr) (ty : FieldType) (z : Int32) (f : Int32 → Int32) : Prop :=
  ∃ c : Cell, Arr Z h a c ty ∧ c.slots.size = z.toNatClampNeg ∧ ¬ z < 0 ∧ ∀ j : Int32, ¬ j < 0 → j < z → c.slots[j.toNatClampNeg]? = some (.int (f j))
theorem own_inb {cl : Cell} {z j : Int32} (S : cl.slots.size = z.toNatClampNeg) (h0 : ¬ j < 0) (h1 : j < z) : ¬ (j < 0 ∨ cl.slots.size ≤ j.toNatClampNeg) := inb_of S ⟨h0, h1⟩
theorem Ai.lt {a : Addr} {ty : FieldType} {z : Int32} {f : Int32 → Int32} (F : Ai Z h a ty z f) : a < h.size := by obtain ⟨c, A, -⟩ := F; exact A.lt
theorem Ai.nn {a : Addr} {ty : FieldType} {z : Int32} {f : Int32 → Int32} (F : Ai Z h a ty z f) : ¬ z < 0 := by obtain ⟨c, -, -, q, -⟩ := F; exact q
theorem Ai.ext {a : Addr} {ty : FieldType} {z : Int32} {f : Int32 → Int32} (F : Ai Z h a ty z f) (E : Ext h h') : Ai Z h' a ty z f := by obtain ⟨c, A, r⟩ := F; exact ⟨c, A.ext E, r⟩
theorem Ai.other {a b : Addr} {sl : Nat} {v : Value} {ty : FieldType} {z : Int32} {f : Int32 → Int32} (F : Ai Z h b ty z f) (W : Wr h h' a sl v) (q : b ≠ a) : Ai Z h' b ty z f := by obtain ⟨c, A, r⟩ := F; exact ⟨c, A.other W q, r⟩
theorem Ai.keep {a : Addr} {ws : List Addr} {ty : FieldType} {z : Int32} {f : Int32 → Int32} (F : Ai Z h a ty z f) (K : Keep h h' ws) (q : a ∉ ws) : Ai Z h' a ty z f := by obtain ⟨c, A, r⟩ := F; exact ⟨c, ⟨K.2.1 a c A.1 q, A.2⟩, r⟩
theorem Ai.new {a : Addr} {k : ClassId} {ty : FieldType} {z : Int32} (A : Arr Z h a (newA k ty z) ty) (q : ¬ z < 0) (hd : defaultValue ty = .int 0) : Ai Z h a ty z (fun _ => 0) :=
  ⟨_, A, sz_new _ _ _, q, fun j h0 h1 => by rw [get_new (sz_new k ty z ▸ own_inb (sz_new k ty z) h0 h1), hd]⟩
theorem Ai.eqf {a : Addr} {ty : FieldType} {z : Int32} {f g : Int32 → Int32} (F : Ai Z h a ty z f) (q : ∀ j : Int32, ¬ j < 0 → j < z → f j = g j) : Ai Z h a ty z g := by
  obtain ⟨c, A, S, n, H⟩ := F; exact ⟨c, A, S, n, fun j h0 h1 => by rw [← q j h0 h1]; exact H j h0 h1⟩
theorem Ai.set {a : Addr} {ty : FieldType} {z j x : Int32} {f : Int32 → Int32} (F : Ai Z h a ty z f) (h0 : ¬ j < 0) (h1 : j < z) (W : Wr h h' a j.toNatClampNeg (.int x)) : Ai Z h' a ty z (fun i => if i = j then x else f i) := by
  obtain ⟨c, A, S, n, H⟩ := F
  refine ⟨_, A.same W, by rw [sz_set]; exact S, n, fun i g0 g1 => ?_⟩
  by_cases e : i = j
  · rw [get_hit (own_inb S h0 h1) e]; simp [e]
  · rw [get_miss h0 g0 e, H i g0 g1]; simp [e]
theorem Ai.len (X : Stand p l e R s m args below meth c T locs cells slots) (hx : p.tables.exec = Jvm.exec) (hZ : Z.Warmed39 s.vm) (eT : T.heap = h) {a : Addr} {ty : FieldType} {z : Int32} {f : Int32 → Int32} (F : Ai Z h a ty z f)
    {g : JFrame} (hg : g.method = m) {rest : List Value} (hs : g.stack = .ref a :: rest) (hd : decode c.code g.pc = .ok (.arraylength, 1)) : ∀ target, Steps p.tables e below (T.setTop { g with pc := g.pc + 1, stack := .int z :: rest }) target → Steps p.tables e below (T.setTop g) target := by
  obtain ⟨cl, A, S, n, H⟩ := F
  intro t k
  refine X.arraylength hx (by rw [eT]; exact A.1) (State.isArrayOf_alike hZ.alike A.2.1) hg hs hd _ ?_
  rw [len_of S n]; exact k
theorem Ai.iaload (X : Stand p l e R s m args below meth c T locs cells slots) (hx : p.tables.exec = Jvm.exec) (hZ : Z.Warmed39 s.vm) (eT : T.heap = h) {a : Addr} {z j : Int32} {f : Int32 → Int32} (F : Ai Z h a .int z f) (h0 : ¬ j < 0) (h1 : j < z)
    {g : JFrame} (hg : g.method = m) {rest : List Value} (hs : g.stack = .int j :: .ref a :: rest) (hd : decode c.code g.pc = .ok (.iaload, 1)) : ∀ target, Steps p.tables e below (T.setTop { g with pc := g.pc + 1, stack := .int (f j) :: rest }) target → Steps p.tables e below (T.setTop g) target := by
  obtain ⟨cl, A, S, n, H⟩ := F
  exact X.iaload hx (by rw [eT]; exact A.1) (State.isArrayOf_alike hZ.alike A.2.1) A.2.2 (own_inb S h0 h1) (H j h0 h1) hg hs hd
theorem Ai.baload (X : Stand p l e R s m args below meth c T locs cells slots) (hx : p.tables.exec = Jvm.exec) (hZ : Z.Warmed39 s.vm) (eT : T.heap = h) {a : Addr} {z j : Int32} {f : Int32 → Int32} (F : Ai Z h a .byte z f) (h0 : ¬ j < 0) (h1 : j < z)
    {g : JFrame} (hg : g.method = m) {rest : List Value} (hs : g.stack = .int j :: .ref a :: rest) (hd : decode c.code g.pc = .ok (.baload, 1)) : ∀ target, Steps p.tables e below (T.setTop { g with pc := g.pc + 1, stack := .int (f j) :: rest }) target → Steps p.tables e below (T.setTop g) target := by
  obtain ⟨cl, A, S, n, H⟩ := F
  exact X.baloadBytes hx (by rw [eT]; exact A.1) (State.isArrayOf_alike hZ.alike A.2.1) A.2.2 (own_inb S h0 h1) (H j h0 h1) hg hs hd
theorem Ai.stI (X : Stand p l e R s m args below meth c T locs cells slots) (hx : p.tables.exec = Jvm.exec) (hZ : Z.Warmed39 s.vm) (eT : T.heap = h) {a : Addr} {z j x : Int32} {f : Int32 → Int32} (F : Ai Z h a .int z f) (h0 : ¬ j < 0) (h1 : j < z)
    {g : JFrame} (hg : g.method = m) {rest : List Value} (hs : g.stack = .int x :: .int j :: .ref a :: rest) (hd : decode c.code g.pc = .ok (.iastore, 1)) :
    ∃ T' h', Stand p l e R s m args below meth c T' (locs ++ [⟨a, j.toNatClampNeg⟩]) cells slots ∧ T'.heap = h' ∧ Wr h h' a j.toNatClampNeg (.int x) ∧ Ai Z h' a .int z (fun i => if i = j then x else f i) ∧ ∀ target, Steps p.tables e below (T'.setTop { g with pc := g.pc + 1, stack := rest }) target → Steps p.tables e below (T.setTop g) target := by
  obtain ⟨cl, A, S, n, H⟩ := F
  obtain ⟨T', h', X', e', W, st⟩ := Jvm.RoadKit.stI X hx hZ eT A (own_inb S h0 h1) hg hs hd
  exact ⟨T', h', X', e', W, Ai.set ⟨cl, A, S, n, H⟩ h0 h1 W, st⟩
theorem Ai.stB (X : Stand p l e R s m args below meth c T locs cells slots) (hx : p.tables.exec = Jvm.exec) (hZ : Z.Warmed39 s.vm) (eT : T.heap = h) {a : Addr} {z j x : Int32} {f : Int32 → Int32} (F : Ai Z h a .byte z f) (h0 : ¬ j < 0) (h1 : j < z)
    {g : JFrame} (hg : g.method = m) {rest : List Value} (hs : g.stack = .int x :: .int j :: .ref a :: rest) (hd : decode c.code g.pc = .ok (.bastore, 1)) :
    ∃ T' h', Stand p l e R s m args below meth c T' (locs ++ [⟨a, j.toNatClampNeg⟩]) cells slots ∧ T'.heap = h' ∧ Wr h h' a j.toNatClampNeg (.int (nar .byte x)) ∧ Ai Z h' a .byte z (fun i => if i = j then nar .byte x else f i) ∧ ∀ target, Steps p.tables e below (T'.setTop { g with pc := g.pc + 1, stack := rest }) target → Steps p.tables e below (T.setTop g) target := by
  obtain ⟨cl, A, S, n, H⟩ := F
  obtain ⟨T', h', X', e', W, st⟩ := Jvm.RoadKit.stB X hx hZ eT A (own_inb S h0 h1) hg hs hd
  exact ⟨T', h', X', e', W, Ai.set ⟨cl, A, S, n, H⟩ h0 h1 W, st⟩
end Own
theorem narrow_ref {t : FieldType} {v : Value} (hv : v.isRef = true) (ht : t.isReference = true) : narrow t v = v := by rcases ref_cases hv with rfl | ⟨a, rfl⟩ <;> cases t <;> first | rfl | cases ht
theorem fits_refV {t : FieldType} {v : Value} (hv : v.isRef = true) (ht : t.isReference = true) : fits t v = true := by rcases ref_cases hv with rfl | ⟨a, rfl⟩ <;> cases t <;> first | rfl | cases ht
theorem own_iincW {tb : Tables} [Ours tb] {e : Env} {below : List Frame} {T target : State} {m : MethodId} {c : Code} {g : JFrame} (h : At T m c below) (hx : tb.exec = Jvm.exec) (hg : g.method = m) {k : Nat} {cst : Int} {x : Int32} {l' : Array Slot} (hd : decode c.code g.pc = .ok (.iinc k cst, 6)) (hl : g.locals[k]? = some (.val (.int x))) (hl' : storeLocals g.locals k (.int (x + Int32.ofInt cst)) = some l')
    (hr : Steps tb e below (T.setTop { g with pc := g.pc + 6, locals := l' }) target) : Steps tb e below (T.setTop g) target := by
  subst hg
  jvm_step h [h.top, hx, hd, hl, hl']
  exact hr

section Wide
variable {p : Program} {l : Launch} {e : Env} {R : Room} {s : State} {m : MethodId} {args : Array Value} {below : List Frame} {meth : Method} {c : Code} {T : State} {locs : List Loc} {cells slots : Nat} {C N : Nat} {Q : Option Value → Heap → List Loc → Prop} {S S' : State} {Z : State} {h h' : Heap} {vm0 : Vm} {k0 : Nat}
/-- as Go, for a body that may load String constants: the end is the wide one -/
def GoW (p : Program) (e : Env) (below : List Frame) (s : State) (C N : Nat) (Q : Option Value → Heap → List Loc → Prop) (S : State) : Prop :=
  ∃ s₂ o, Steps p.tables e below S s₂ ∧ s₂.status = .running ∧ Ended s₂ below o ∧ ∃ v L, o = .returned v ∧ Q v s₂.heap L ∧ ReturnedEndW s o s₂ L C N
theorem GoW.step (st : ∀ t, Steps p.tables e below S' t → Steps p.tables e below S t) (G : GoW p e below s C N Q S') : GoW p e below s C N Q S := by
  obtain ⟨s₂, o, h, r⟩ := G
  exact ⟨s₂, o, st _ h, r⟩
theorem GoW.tr (st : Steps p.tables e below S S') (G : GoW p e below s C N Q S') : GoW p e below s C N Q S := by
  obtain ⟨s₂, o, h, r⟩ := G
  exact ⟨s₂, o, st.trans h, r⟩
theorem GoW.out (X : Stand p l e R (s.setVm vm0) m args below meth c T locs cells slots) (hS : s.Since vm0 k0) (hk : k0 ≤ T.heap.size) {v : Option Value} {g : JFrame} (hv : meth.sig.returnType = none → v = none) (hlk : meth.locks = false)
    (hst : ∀ fs, (∀ (f : JFrame) (acts : List Action), f.method = m → f.locked = none → f.entered = [] → (doReturn e (T.setTop f) acts v).1 = T.setFrames fs) → Steps p.tables e below (T.setTop g) (T.setFrames fs))
    (hQ : Q v T.heap locs) (hc : cells ≤ C) (hn : slots ≤ N) : GoW p e below s C N Q (T.setTop g) := by
  obtain ⟨fs, hr, hrun, hended, hW, hsame⟩ := X.leave (v := v) hv hlk
  have q := hS.ended hW hk hsame
  exact ⟨_, _, hst fs hr, hrun, hended, _, _, rfl, hQ, ⟨_, rfl⟩, q.1, q.2.1, q.2.2.mono hc hn⟩
theorem GoW.retV (X : Stand p l e R (s.setVm vm0) m args below meth c T locs cells slots) (hS : s.Since vm0 k0) (hk : k0 ≤ T.heap.size) (hx : p.tables.exec = Jvm.exec) {pc : Nat} {Ls : Array Slot} (hret : meth.sig.returnType = none) (hlk : meth.locks = false) (hd : decode c.code pc = .ok (.return_, 1))
    (hQ : Q none T.heap locs) (hc : cells ≤ C) (hn : slots ≤ N) : GoW p e below s C N Q (T.setTop (mkF m pc Ls [])) :=
  GoW.out X hS hk (fun _ => rfl) hlk (fun fs hr => X.returnOut hx hret hd hr) hQ hc hn
theorem GoW.retN (X : Stand p l e R (s.setVm vm0) m args below meth c T locs cells slots) (hS : s.Since vm0 k0) (hk : k0 ≤ T.heap.size) (hx : p.tables.exec = Jvm.exec) {pc : Nat} {Ls : Array Slot} {z : Int32} {t : FieldType} {rest : List Value} (hret : meth.sig.returnType = some t) (ht : t = .boolean ∨ t = .byte ∨ t = .char ∨ t = .short) (hlk : meth.locks = false) (hd : decode c.code pc = .ok (.ireturn, 1))
    (hQ : Q (some (.int (nar t z))) T.heap locs) (hc : cells ≤ C) (hn : slots ≤ N) : GoW p e below s C N Q (T.setTop (mkF m pc Ls (.int z :: rest))) :=
  GoW.out X hS hk (fun h => by rw [hret] at h; cases h) hlk (fun fs hr => Jvm.RoadKit.retN X hx hret ht hd hr) hQ hc hn
end Wide

theorem own_nb1 : nar .boolean 1 = 1 := by decide
theorem own_nb0 : nar .boolean 0 = 0 := by decide
theorem own_lirr {a : Int32} : ¬ a < a := by rw [Int32.lt_iff_toInt_lt]; omega
theorem own_lasym {a b : Int32} (h : a < b) : ¬ b < a := by rw [Int32.lt_iff_toInt_lt] at *; omega
theorem own_lneg {a b : Int32} (h0 : ¬ a < 0) (h : a < b) : ¬ b < 0 := by rw [Int32.lt_iff_toInt_lt] at *; omega
theorem own_clamp {z : Int32} {n : Nat} (h : z.toInt ≤ n) : z.toNatClampNeg ≤ n := by
  show z.toInt.toNat ≤ n
  omega
theorem own_i_0 : (0 : Int32).toInt = 0 := by decide
theorem own_i_1 : (1 : Int32).toInt = 1 := by decide
theorem own_i_2 : (2 : Int32).toInt = 2 := by decide
theorem own_i_3 : (3 : Int32).toInt = 3 := by decide
theorem own_nn (x : Int32) : ((x &&& (3 : Int32)) % (3 : Int32) + (1 : Int32) = 1 ∨ (x &&& (3 : Int32)) % (3 : Int32) + (1 : Int32) = 2 ∨ (x &&& (3 : Int32)) % (3 : Int32) + (1 : Int32) = 3) := by
  have h := c_mask x 3 2 (by decide) (by decide)
  have h1 := (c_iremV (x &&& 3) 3).1 (by omega) (by decide)
  have h2 := c_iadd ((x &&& 3) % 3) 1
  have h3 := rng32 ((x &&& 3) % 3 + 1)
  simp only [← Int32.toInt_inj, own_i_1, own_i_2, own_i_3] at *
  omega
theorem own_pp (y m : Int32) (hm : m = 1 ∨ m = 2 ∨ m = 3) : (m = 1 ∧ (y &&& (2147483647 : Int32)) % m = 0) ∨ (m = 2 ∧ (y &&& (2147483647 : Int32)) % m = 0) ∨ (m = 2 ∧ (y &&& (2147483647 : Int32)) % m = 1) ∨ (m = 3 ∧ (y &&& (2147483647 : Int32)) % m = 0) ∨ (m = 3 ∧ (y &&& (2147483647 : Int32)) % m = 1) ∨ (m = 3 ∧ (y &&& (2147483647 : Int32)) % m = 2) := by
  have h := c_mask y 2147483647 31 (by decide) (by decide)
  generalize (y &&& (2147483647 : Int32)) = v at *
  have hv : 0 ≤ v.toInt := by omega
  rcases hm with rfl | rfl | rfl
  · have h1 := (c_iremV v 1).1 hv (by decide)
    simp only [own_i_1] at h1
    exact Or.inl ⟨rfl, Int32.toInt_inj.mp (by rw [own_i_0]; omega)⟩
  · have h1 := (c_iremV v 2).1 hv (by decide)
    simp only [own_i_2] at h1
    rcases (by omega : (v % 2).toInt = 0 ∨ (v % 2).toInt = 1) with q | q
    · exact Or.inr (Or.inl ⟨rfl, Int32.toInt_inj.mp (by rw [own_i_0]; exact q)⟩)
    · exact Or.inr (Or.inr (Or.inl ⟨rfl, Int32.toInt_inj.mp (by rw [own_i_1]; exact q)⟩))
  · have h1 := (c_iremV v 3).1 hv (by decide)
    simp only [own_i_3] at h1
    rcases (by omega : (v % 3).toInt = 0 ∨ (v % 3).toInt = 1 ∨ (v % 3).toInt = 2) with q | q | q
    · exact Or.inr (Or.inr (Or.inr (Or.inl ⟨rfl, Int32.toInt_inj.mp (by rw [own_i_0]; exact q)⟩)))
    · exact Or.inr (Or.inr (Or.inr (Or.inr (Or.inl ⟨rfl, Int32.toInt_inj.mp (by rw [own_i_1]; exact q)⟩))))
    · exact Or.inr (Or.inr (Or.inr (Or.inr (Or.inr ⟨rfl, Int32.toInt_inj.mp (by rw [own_i_2]; exact q)⟩))))
theorem pn_4 : plainName "java/util/AbstractCollection" = true := by first | (simp [plainName, overriddenIn]; done) | decide +kernel
theorem d5_0 : decode jdk_22_method_1_code 0 = .ok (.aload_n 0, 1) := by decide +kernel
theorem d5_1 : decode jdk_22_method_1_code 1 = .ok (.invokespecial 1, 3) := by decide +kernel
theorem d5_4 : decode jdk_22_method_1_code 4 = .ok (.return_, 1) := by decide +kernel
theorem ef_5 (m : MethodId) (a0 : Addr) : entryFrame m #[(.ref a0)] 1 = mkF m 0 #[.val (.ref a0)] [] := by first | (simp [entryFrame, mkF, argsToLocals, Value.category]; done) | rfl
def Q5 (Z : State) (a0 : Addr) (h0 : Heap) (n0 : Nat) (v : Option Value) (h : Heap) (L : List Loc) : Prop := (v = none) ∧ (Fr n0 L) ∧ (h = h0)
set_option maxRecDepth 65536 in
set_option maxHeartbeats 40000000 in
theorem rm5 (l : Launch) (Z : State) (aZ : Array Value) (hw : ∀ d ∈ tables_1, d.before aZ Z = true) (ws : List Jvm.Cond) (a0 : Addr) (h0 : Heap) (n0 : Nat) (Z0 : n0 ≤ h0.size)  :
    MetFree l (⟨"java/util/AbstractCollection", "<init>", "()V"⟩ : MethodName) (head1 (Jvm.Cond.code (⟨"java/util/AbstractCollection", "<init>", "()V"⟩ : MethodName) jdk_22_method_1_code 1 none :: ws) ({ frames := 1, cells := 0, slots := 0, locals := 12 } : Room)) (fun a U => a = #[(.ref a0)] ∧ Z.Warmed39 U.vm ∧ U.heap = h0) (fun _ _ _ _ _ => True) (fun _ U o U' => ∃ v L, o = .returned v ∧ Q5 Z a0 h0 n0 v U'.heap L ∧ FrameEnd U o U' L ({ frames := 1, cells := 0, slots := 0, locals := 12 } : Room).cells ({ frames := 1, cells := 0, slots := 0, locals := 12 } : Room).slots) := by
  refine MetFree.of_bodySF (plainFor_of_name pn_4) hisR ?_
  intro p e s m args below meth c s₁ Bd hml0 hP hK
  obtain ⟨rfl, hZ, hh⟩ := hP
  have hx := Bd.exec
  have hby := Bd.bytes
  have hml : c.maxLocals = 1 := hml0
  have hown : s.vm.findClass "java/util/AbstractCollection" = some m.cls := findClass_of_methodNamed Bd.named
  have hnm := (name_of_methodNamed Bd.named Bd.method).1
  have hlk : meth.locks = false := BodyLoose.notSynchronized Bd
  have X0 : Stand p l e ({ frames := 1, cells := 0, slots := 0, locals := 12 } : Room) s m #[(.ref a0)] below meth c s₁ [] 0 0 := Stand.of_body Bd
  have e0 : s₁.heap = h0 := by rw [← hh, Bd.state]; rfl
  have N0 := Fr.nil n0
  have sq0 : h0.size ≤ h0.size := Nat.le_refl _
  change Go p e below s ({ frames := 1, cells := 0, slots := 0, locals := 12 } : Room).cells ({ frames := 1, cells := 0, slots := 0, locals := 12 } : Room).slots (Q5 Z a0 h0 n0) (s₁.setTop (entryFrame m #[(.ref a0)] 1))
  rw [ef_5 m a0]
  show Go _ _ _ _ _ _ _ (s₁.setTop (mkF m 0 #[.val (.ref a0)] []))
  refine Go.step (fun _ k => XS.aloadN X0.here hx rfl (hb hby d5_0) rfl rfl  k) ?_
  show Go _ _ _ _ _ _ _ (s₁.setTop (mkF m 1 #[.val (.ref a0)] [(.ref a0)]))
  obtain ⟨T1, X1, e1, st1⟩ := initO X0 hx hZ hown (hw _ (List.mem_of_getElem? (i := 37) rfl)) (hw _ (List.mem_of_getElem? (i := 8) rfl)) (hw _ (List.mem_of_getElem? (i := 9) rfl)) e0 (g := (mkF m 1 #[.val (.ref a0)] [(.ref a0)])) rfl (by rw [hml]; rfl) rfl (hb hby d5_1) (by decide) (W := 0) (by show 2 * 0 + _ ≤ _; exact Nat.le_of_eq rfl) (by decide)
  refine Go.step st1 ?_
  show Go _ _ _ _ _ _ _ (T1.setTop (mkF m 4 #[.val (.ref a0)] []))
  refine Go.retV X1 hx Bd.returns hlk (hb hby d5_4) ?_ (by decide) (by decide)
  rw [e1]
  exact ⟨(rfl), N0, rfl⟩
theorem pn_5 : plainName "com/example/steward/steward/runtime/Group" = true := by first | (simp [plainName, overriddenIn]; done) | decide +kernel
theorem d1_0 : decode prog_44_method_1_code 0 = .ok (.aload_n 0, 1) := by decide +kernel
theorem d1_1 : decode prog_44_method_1_code 1 = .ok (.invokespecial 1, 3) := by decide +kernel
theorem d1_4 : decode prog_44_method_1_code 4 = .ok (.return_, 1) := by decide +kernel
theorem ef_1 (m : MethodId) (a0 : Addr) : entryFrame m #[(.ref a0)] 1 = mkF m 0 #[.val (.ref a0)] [] := by first | (simp [entryFrame, mkF, argsToLocals, Value.category]; done) | rfl
def Q1 (Z : State) (a0 : Addr) (h0 : Heap) (n0 : Nat) (v : Option Value) (h : Heap) (L : List Loc) : Prop := (v = none) ∧ (Fr n0 L) ∧ (h = h0)
set_option maxRecDepth 65536 in
set_option maxHeartbeats 40000000 in
theorem rm1 (l : Launch) (Z : State) (aZ : Array Value) (hw : ∀ d ∈ tables_1, d.before aZ Z = true) (ws : List Jvm.Cond) (a0 : Addr) (h0 : Heap) (n0 : Nat) (Z0 : n0 ≤ h0.size)  :
    MetFree l (⟨"com/example/steward/steward/runtime/Group", "<init>", "()V"⟩ : MethodName) (head1 (Jvm.Cond.code (⟨"com/example/steward/steward/runtime/Group", "<init>", "()V"⟩ : MethodName) prog_44_method_1_code 1 none :: ws) ({ frames := 1, cells := 0, slots := 0, locals := 12 } : Room)) (fun a U => a = #[(.ref a0)] ∧ Z.Warmed39 U.vm ∧ U.heap = h0) (fun _ _ _ _ _ => True) (fun _ U o U' => ∃ v L, o = .returned v ∧ Q1 Z a0 h0 n0 v U'.heap L ∧ FrameEnd U o U' L ({ frames := 1, cells := 0, slots := 0, locals := 12 } : Room).cells ({ frames := 1, cells := 0, slots := 0, locals := 12 } : Room).slots) := by
  refine MetFree.of_bodySF (plainFor_of_name pn_5) hisR ?_
  intro p e s m args below meth c s₁ Bd hml0 hP hK
  obtain ⟨rfl, hZ, hh⟩ := hP
  have hx := Bd.exec
  have hby := Bd.bytes
  have hml : c.maxLocals = 1 := hml0
  have hown : s.vm.findClass "com/example/steward/steward/runtime/Group" = some m.cls := findClass_of_methodNamed Bd.named
  have hnm := (name_of_methodNamed Bd.named Bd.method).1
  have hlk : meth.locks = false := BodyLoose.notSynchronized Bd
  have X0 : Stand p l e ({ frames := 1, cells := 0, slots := 0, locals := 12 } : Room) s m #[(.ref a0)] below meth c s₁ [] 0 0 := Stand.of_body Bd
  have e0 : s₁.heap = h0 := by rw [← hh, Bd.state]; rfl
  have N0 := Fr.nil n0
  have sq0 : h0.size ≤ h0.size := Nat.le_refl _
  change Go p e below s ({ frames := 1, cells := 0, slots := 0, locals := 12 } : Room).cells ({ frames := 1, cells := 0, slots := 0, locals := 12 } : Room).slots (Q1 Z a0 h0 n0) (s₁.setTop (entryFrame m #[(.ref a0)] 1))
  rw [ef_1 m a0]
  show Go _ _ _ _ _ _ _ (s₁.setTop (mkF m 0 #[.val (.ref a0)] []))
  refine Go.step (fun _ k => XS.aloadN X0.here hx rfl (hb hby d1_0) rfl rfl  k) ?_
  show Go _ _ _ _ _ _ _ (s₁.setTop (mkF m 1 #[.val (.ref a0)] [(.ref a0)]))
  obtain ⟨T1, X1, e1, st1⟩ := initO X0 hx hZ hown (hw _ (List.mem_of_getElem? (i := 7) rfl)) (hw _ (List.mem_of_getElem? (i := 8) rfl)) (hw _ (List.mem_of_getElem? (i := 9) rfl)) e0 (g := (mkF m 1 #[.val (.ref a0)] [(.ref a0)])) rfl (by rw [hml]; rfl) rfl (hb hby d1_1) (by decide) (W := 0) (by show 2 * 0 + _ ≤ _; exact Nat.le_of_eq rfl) (by decide)
  refine Go.step st1 ?_
  show Go _ _ _ _ _ _ _ (T1.setTop (mkF m 4 #[.val (.ref a0)] []))
  refine Go.retV X1 hx Bd.returns hlk (hb hby d1_4) ?_ (by decide) (by decide)
  rw [e1]
  exact ⟨(rfl), N0, rfl⟩
theorem pn_6 : plainName "java/util/ArrayDeque" = true := by first | (simp [plainName, overriddenIn]; done) | decide +kernel
theorem pd_0 : parseMethodDescriptor "()V" = some ⟨[], none⟩ := by decide +kernel
theorem d4_0 : decode jdk_21_method_4_code 0 = .ok (.aload_n 0, 1) := by decide +kernel
theorem d4_1 : decode jdk_21_method_4_code 1 = .ok (.invokespecial 42, 3) := by decide +kernel
theorem d4_4 : decode jdk_21_method_4_code 4 = .ok (.aload_n 0, 1) := by decide +kernel
theorem d4_5 : decode jdk_21_method_4_code 5 = .ok (.iload_n 1, 1) := by decide +kernel
theorem d4_6 : decode jdk_21_method_4_code 6 = .ok (.iconst 1, 1) := by decide +kernel
theorem d4_7 : decode jdk_21_method_4_code 7 = .ok (.if_icmp .ge 7, 3) := by decide +kernel
theorem d4_14 : decode jdk_21_method_4_code 14 = .ok (.iload_n 1, 1) := by decide +kernel
theorem d4_15 : decode jdk_21_method_4_code 15 = .ok (.ldc 41, 2) := by decide +kernel
theorem d4_17 : decode jdk_21_method_4_code 17 = .ok (.if_icmp .ne 8, 3) := by decide +kernel
theorem d4_25 : decode jdk_21_method_4_code 25 = .ok (.iload_n 1, 1) := by decide +kernel
theorem d4_26 : decode jdk_21_method_4_code 26 = .ok (.iconst 1, 1) := by decide +kernel
theorem d4_27 : decode jdk_21_method_4_code 27 = .ok (.iadd, 1) := by decide +kernel
theorem d4_28 : decode jdk_21_method_4_code 28 = .ok (.anewarray 47, 3) := by decide +kernel
theorem d4_31 : decode jdk_21_method_4_code 31 = .ok (.putfield 3, 3) := by decide +kernel
theorem d4_34 : decode jdk_21_method_4_code 34 = .ok (.return_, 1) := by decide +kernel
theorem ef_4 (m : MethodId) (a0 : Addr) (p1 : Int32) : entryFrame m #[(.ref a0), (.int p1)] 2 = mkF m 0 #[.val (.ref a0), .val (.int p1)] [] := by first | (simp [entryFrame, mkF, argsToLocals, Value.category]; done) | rfl
def Q4 (Z : State) (a0 : Addr) (p1 : Int32) (h0 : Heap) (n0 : Nat) (v : Option Value) (h : Heap) (L : List Loc) : Prop := (v = none) ∧ (Fr n0 L) ∧ (Keep h0 h [a0]) ∧ (Exa Z h a0 "java/util/ArrayDeque")
set_option maxRecDepth 65536 in
set_option maxHeartbeats 40000000 in
theorem rm4 (l : Launch) (Z : State) (aZ : Array Value) (hw : ∀ d ∈ tables_1, d.before aZ Z = true) (ws : List Jvm.Cond) (a0 : Addr) (p1 : Int32) (h0 : Heap) (n0 : Nat) (Z0 : n0 ≤ h0.size) (E_0 : Exa Z h0 a0 "java/util/ArrayDeque") (F_1 : Fld Z h0 a0 "java/util/ArrayDeque" "elements" "[Ljava/lang/Object;" .null) (g_2 : n0 ≤ a0) (hp1 : p1 = (1 : Int32)) :
    MetFree l (⟨"java/util/ArrayDeque", "<init>", "(I)V"⟩ : MethodName) (head1 (Jvm.Cond.code (⟨"java/util/ArrayDeque", "<init>", "(I)V"⟩ : MethodName) jdk_21_method_4_code 2 none :: ws) ({ frames := 2, cells := 1, slots := 2, locals := 24 } : Room)) (fun a U => a = #[(.ref a0), (.int p1)] ∧ Z.Warmed39 U.vm ∧ U.heap = h0) (fun _ _ _ _ _ => True) (fun _ U o U' => ∃ v L, o = .returned v ∧ Q4 Z a0 p1 h0 n0 v U'.heap L ∧ FrameEnd U o U' L ({ frames := 2, cells := 1, slots := 2, locals := 24 } : Room).cells ({ frames := 2, cells := 1, slots := 2, locals := 24 } : Room).slots) := by
  refine MetFree.of_bodySF (plainFor_of_name pn_6) hisR ?_
  intro p e s m args below meth c s₁ Bd hml0 hP hK
  obtain ⟨rfl, hZ, hh⟩ := hP
  have hx := Bd.exec
  have hby := Bd.bytes
  have hml : c.maxLocals = 2 := hml0
  have hown : s.vm.findClass "java/util/ArrayDeque" = some m.cls := findClass_of_methodNamed Bd.named
  have hnm := (name_of_methodNamed Bd.named Bd.method).1
  have hlk : meth.locks = false := BodyLoose.notSynchronized Bd
  have X0 : Stand p l e ({ frames := 2, cells := 1, slots := 2, locals := 24 } : Room) s m #[(.ref a0), (.int p1)] below meth c s₁ [] 0 0 := Stand.of_body Bd
  have e0 : s₁.heap = h0 := by rw [← hh, Bd.state]; rfl
  have N0 := Fr.nil n0
  have sq0 : h0.size ≤ h0.size := Nat.le_refl _
  have k0 : Keep h0 h0 [a0] := Keep.refl _ _
  change Go p e below s ({ frames := 2, cells := 1, slots := 2, locals := 24 } : Room).cells ({ frames := 2, cells := 1, slots := 2, locals := 24 } : Room).slots (Q4 Z a0 p1 h0 n0) (s₁.setTop (entryFrame m #[(.ref a0), (.int p1)] 2))
  rw [ef_4 m a0 p1]
  subst hp1
  show Go _ _ _ _ _ _ _ (s₁.setTop (mkF m 0 #[.val (.ref a0), .val (.int (1 : Int32))] []))
  refine Go.step (fun _ k => XS.aloadN X0.here hx rfl (hb hby d4_0) rfl rfl  k) ?_
  show Go _ _ _ _ _ _ _ (s₁.setTop (mkF m 1 #[.val (.ref a0), .val (.int (1 : Int32))] [(.ref a0)]))
  obtain ⟨_, _, ⟨T1, L1, k1, n1⟩, -, X1, ⟨Lc1, hQ1, l1, y1, z1⟩, st1⟩ := X0.specialBack hx (y := (⟨"java/util/AbstractCollection", "<init>", "()V"⟩ : MethodName)) rfl hown (mvT hZ (hw _ (List.mem_of_getElem? (i := 31) rfl))) (mvT hZ (hw _ (List.mem_of_getElem? (i := 32) rfl))) (mvT hZ (hw _ (List.mem_of_getElem? (i := 36) rfl))) (by decide) (backOf (W := 0) (rm5 l Z aZ hw [] a0 h0 n0 Z0 ) hZ (hw _ (List.mem_of_getElem? (i := 36) rfl)) (hw _ (List.mem_of_getElem? (i := 35) rfl)) (by decide) (by decide)) (g := (mkF m 1 #[.val (.ref a0), .val (.int (1 : Int32))] [(.ref a0)])) rfl (by rw [hml]; rfl) (Steps.refl _) (a := a0) (argsL := []) (rest := []) (lenOf pd_0 rfl) rfl (by show 2 * 0 + _ ≤ _; exact Nat.le_of_eq rfl) (hb hby d4_1) (fun _ _ => ⟨rfl, e0, (by decide : 0 + 0 ≤ _), (by decide : 0 + 0 ≤ _)⟩)
  dsimp only [Pt.U, Pt.locs, Pt.cells, Pt.slots] at X1 l1 y1 z1 st1 hQ1
  subst l1 y1 z1
  obtain ⟨rfl, Nq1, e1⟩ := hQ1
  have N1 := Fr.app N0 Nq1
  refine Go.tr st1 ?_
  show Go _ _ _ _ _ _ _ (T1.setTop (mkF m 4 #[.val (.ref a0), .val (.int (1 : Int32))] []))
  refine Go.step (fun _ k => XS.aloadN X1.here hx rfl (hb hby d4_4) rfl rfl  k) ?_
  show Go _ _ _ _ _ _ _ (T1.setTop (mkF m 5 #[.val (.ref a0), .val (.int (1 : Int32))] [(.ref a0)]))
  refine Go.step (fun _ k => XS.iloadN X1.here hx rfl (hb hby d4_5) rfl  k) ?_
  show Go _ _ _ _ _ _ _ (T1.setTop (mkF m 6 #[.val (.ref a0), .val (.int (1 : Int32))] [(.int (1 : Int32)), (.ref a0)]))
  refine Go.step (fun _ k => XS.iconst X1.here hx rfl (hb hby d4_6) k) ?_
  show Go _ _ _ _ _ _ _ (T1.setTop (mkF m 7 #[.val (.ref a0), .val (.int (1 : Int32))] [(.int (1 : Int32)), (.int (1 : Int32)), (.ref a0)]))
  have hc7 : ¬ ((1 : Int32) < (1 : Int32)) := by decide
  refine Go.step (fun _ k => XS.icmpYes X1.here hx rfl (pc0 := 7) (pc' := 14) rfl (hb hby d4_7) rfl (flt hc7).2.1 (by decide) (by decide) k) ?_
  show Go _ _ _ _ _ _ _ (T1.setTop (mkF m 14 #[.val (.ref a0), .val (.int (1 : Int32))] [(.ref a0)]))
  refine Go.step (fun _ k => XS.iloadN X1.here hx rfl (hb hby d4_14) rfl  k) ?_
  show Go _ _ _ _ _ _ _ (T1.setTop (mkF m 15 #[.val (.ref a0), .val (.int (1 : Int32))] [(.int (1 : Int32)), (.ref a0)]))
  refine Go.step (X1.ldcInt hx hown (mvT hZ (hw _ (List.mem_of_getElem? (i := 38) rfl))) (g := (mkF m 15 #[.val (.ref a0), .val (.int (1 : Int32))] [(.int (1 : Int32)), (.ref a0)])) rfl (hb hby d4_15)) ?_
  show Go _ _ _ _ _ _ _ (T1.setTop (mkF m 17 #[.val (.ref a0), .val (.int (1 : Int32))] [(.int (2147483647 : Int32)), (.int (1 : Int32)), (.ref a0)]))
  have hc17 : ¬ ((1 : Int32) = (2147483647 : Int32)) := by decide
  refine Go.step (fun _ k => XS.icmpYes X1.here hx rfl (pc0 := 17) (pc' := 25) rfl (hb hby d4_17) rfl (feq hc17).2 (by decide) (by decide) k) ?_
  show Go _ _ _ _ _ _ _ (T1.setTop (mkF m 25 #[.val (.ref a0), .val (.int (1 : Int32))] [(.ref a0)]))
  refine Go.step (fun _ k => XS.iloadN X1.here hx rfl (hb hby d4_25) rfl  k) ?_
  show Go _ _ _ _ _ _ _ (T1.setTop (mkF m 26 #[.val (.ref a0), .val (.int (1 : Int32))] [(.int (1 : Int32)), (.ref a0)]))
  refine Go.step (fun _ k => XS.iconst X1.here hx rfl (hb hby d4_26) k) ?_
  show Go _ _ _ _ _ _ _ (T1.setTop (mkF m 27 #[.val (.ref a0), .val (.int (1 : Int32))] [(.int (1 : Int32)), (.int (1 : Int32)), (.ref a0)]))
  refine Go.step (fun _ k => XS.iadd X1.here hx rfl (hb hby d4_27) rfl k) ?_
  show Go _ _ _ _ _ _ _ (T1.setTop (mkF m 28 #[.val (.ref a0), .val (.int (1 : Int32))] [(.int (2 : Int32)), (.ref a0)]))
  obtain ⟨T2, h2, k2, X2, e2, E2, A2, O2, st2⟩ := newR X1 hx hZ hown (hw _ (List.mem_of_getElem? (i := 39) rfl)) (hw _ (List.mem_of_getElem? (i := 40) rfl)) e1 (g := (mkF m 28 #[.val (.ref a0), .val (.int (1 : Int32))] [(.int (2 : Int32)), (.ref a0)])) rfl (hb hby d4_28) rfl (by decide) (cap := 2) (by decide) (by decide) (by decide) (by decide)
  obtain ⟨b2, g2⟩ : ∃ z, z = h0.size := ⟨_, rfl⟩
  rw [← g2] at A2 st2
  refine Go.step st2 ?_
  have gn2 : n0 ≤ b2 := Nat.le_trans Z0 (Nat.le_of_eq g2.symm)
  have sz2 : h0.size ≤ b2 := Nat.le_trans sq0 (Nat.le_of_eq g2.symm)
  have ne3 : a0 ≠ b2 := Nat.ne_of_lt (Nat.lt_of_lt_of_le E_0.lt (Nat.le_of_eq g2.symm))
  have z4 : n0 ≤ h2.size := Nat.le_trans Z0 E2.1
  have sqz4 : h0.size ≤ h2.size := Nat.le_trans sq0 E2.1
  have k5 : Keep h0 h2 [a0] := k0.ext E2
  show Go _ _ _ _ _ _ _ (T2.setTop (mkF m 31 #[.val (.ref a0), .val (.int (1 : Int32))] [(.ref b2), (.ref a0)]))
  have f6 : Exa Z h2 a0 "java/util/ArrayDeque" := (E_0.ext E2)
  have f7 : Fld Z h2 a0 "java/util/ArrayDeque" "elements" "[Ljava/lang/Object;" .null := (F_1.ext E2)
  obtain ⟨T8, h8, X8, e8, W8, st8⟩ := putF X2 hx hZ hown (host := "") (Or.inl (hw _ (List.mem_of_getElem? (i := 41) rfl))) Via.refl e2 f7 f6 (Or.inl (hw _ (List.mem_of_getElem? (i := 42) rfl))) (hw _ (List.mem_of_getElem? (i := 26) rfl)) (ty := (.array (.object "java/lang/Object"))) (v := (.ref b2)) (by decide) rfl rfl (g := (mkF m 31 #[.val (.ref a0), .val (.int (1 : Int32))] [(.ref b2), (.ref a0)])) rfl rfl (hb hby d4_31)
  refine Go.step st8 ?_
  have N8 := Fr.snoc X8 N1 g_2
  have z9 : n0 ≤ h8.size := Nat.le_trans z4 (Keep.of_wr W8).1
  have sqz9 : h0.size ≤ h8.size := Nat.le_trans sqz4 (Keep.of_wr W8).1
  have k10 : Keep h0 h8 [a0] := k5.wr W8 (Or.inl (List.mem_of_getElem? (i := 0) rfl))
  have f11 : Fld Z h8 a0 "java/util/ArrayDeque" "elements" "[Ljava/lang/Object;" (.ref b2) := f7.same W8
  show Go _ _ _ _ _ _ _ (T8.setTop (mkF m 34 #[.val (.ref a0), .val (.int (1 : Int32))] []))
  have f12 : Exa Z h8 a0 "java/util/ArrayDeque" := (f6.wr W8)
  refine Go.retV X8 hx Bd.returns hlk (hb hby d4_34) ?_ (by decide) (by decide)
  rw [e8]
  exact ⟨(rfl), N8, k10, f12⟩
theorem pn_7 : plainName "com/example/steward/steward/runtime/Agent" = true := by first | (simp [plainName, overriddenIn]; done) | decide +kernel
theorem pd_1 : parseMethodDescriptor "(I)V" = some ⟨[.int], none⟩ := by decide +kernel
theorem d3_0 : decode prog_29_method_1_code 0 = .ok (.aload_n 0, 1) := by decide +kernel
theorem d3_1 : decode prog_29_method_1_code 1 = .ok (.invokespecial 1, 3) := by decide +kernel
theorem d3_4 : decode prog_29_method_1_code 4 = .ok (.aload_n 0, 1) := by decide +kernel
theorem d3_5 : decode prog_29_method_1_code 5 = .ok (.new 7, 3) := by decide +kernel
theorem d3_8 : decode prog_29_method_1_code 8 = .ok (.dup, 1) := by decide +kernel
theorem d3_9 : decode prog_29_method_1_code 9 = .ok (.iconst 1, 1) := by decide +kernel
theorem d3_10 : decode prog_29_method_1_code 10 = .ok (.invokespecial 9, 3) := by decide +kernel
theorem d3_13 : decode prog_29_method_1_code 13 = .ok (.putfield 12, 3) := by decide +kernel
theorem d3_16 : decode prog_29_method_1_code 16 = .ok (.aload_n 0, 1) := by decide +kernel
theorem d3_17 : decode prog_29_method_1_code 17 = .ok (.aload_n 1, 1) := by decide +kernel
theorem d3_18 : decode prog_29_method_1_code 18 = .ok (.putfield 18, 3) := by decide +kernel
theorem d3_21 : decode prog_29_method_1_code 21 = .ok (.return_, 1) := by decide +kernel
theorem ef_3 (m : MethodId) (a0 : Addr) (s0 : Addr) : entryFrame m #[(.ref a0), (.ref s0)] 2 = mkF m 0 #[.val (.ref a0), .val (.ref s0)] [] := by first | (simp [entryFrame, mkF, argsToLocals, Value.category]; done) | rfl
def Q3 (Z : State) (a0 : Addr) (s0 : Addr) (h0 : Heap) (n0 : Nat) (v : Option Value) (h : Heap) (L : List Loc) : Prop := (v = none) ∧ (Fr n0 L) ∧ (Keep h0 h [a0]) ∧ (Exa Z h a0 "com/example/steward/steward/runtime/Agent") ∧ (Fld Z h a0 "com/example/steward/steward/runtime/Agent" "group" "Lcom/example/steward/steward/runtime/Group;" .null) ∧ (Fld Z h a0 "com/example/steward/steward/runtime/Agent" "ahead" "Lcom/example/steward/steward/runtime/Agent;" .null) ∧ (Fld Z h a0 "com/example/steward/steward/runtime/Agent" "behind" "Lcom/example/steward/steward/runtime/Agent;" .null)
set_option maxRecDepth 65536 in
set_option maxHeartbeats 40000000 in
theorem rm3 (l : Launch) (Z : State) (aZ : Array Value) (hw : ∀ d ∈ tables_1, d.before aZ Z = true) (ws : List Jvm.Cond) (a0 : Addr) (s0 : Addr) (h0 : Heap) (n0 : Nat) (Z0 : n0 ≤ h0.size) (E_0 : Exa Z h0 a0 "com/example/steward/steward/runtime/Agent") (F_1 : Fld Z h0 a0 "com/example/steward/steward/runtime/Agent" "normal" "Ljava/util/ArrayDeque;" .null) (F_2 : Fld Z h0 a0 "com/example/steward/steward/runtime/Agent" "key" "Ljava/lang/String;" .null) (F_3 : Fld Z h0 a0 "com/example/steward/steward/runtime/Agent" "group" "Lcom/example/steward/steward/runtime/Group;" .null) (F_4 : Fld Z h0 a0 "com/example/steward/steward/runtime/Agent" "ahead" "Lcom/example/steward/steward/runtime/Agent;" .null) (F_5 : Fld Z h0 a0 "com/example/steward/steward/runtime/Agent" "behind" "Lcom/example/steward/steward/runtime/Agent;" .null) (g_6 : n0 ≤ a0) :
    MetFree l (⟨"com/example/steward/steward/runtime/Agent", "<init>", "(Ljava/lang/String;)V"⟩ : MethodName) (head1 (Jvm.Cond.code (⟨"com/example/steward/steward/runtime/Agent", "<init>", "(Ljava/lang/String;)V"⟩ : MethodName) prog_29_method_1_code 2 none :: ws) ({ frames := 3, cells := 2, slots := 5, locals := 39 } : Room)) (fun a U => a = #[(.ref a0), (.ref s0)] ∧ Z.Warmed39 U.vm ∧ U.heap = h0) (fun _ _ _ _ _ => True) (fun _ U o U' => ∃ v L, o = .returned v ∧ Q3 Z a0 s0 h0 n0 v U'.heap L ∧ FrameEnd U o U' L ({ frames := 3, cells := 2, slots := 5, locals := 39 } : Room).cells ({ frames := 3, cells := 2, slots := 5, locals := 39 } : Room).slots) := by
  refine MetFree.of_bodySF (plainFor_of_name pn_7) hisR ?_
  intro p e s m args below meth c s₁ Bd hml0 hP hK
  obtain ⟨rfl, hZ, hh⟩ := hP
  have hx := Bd.exec
  have hby := Bd.bytes
  have hml : c.maxLocals = 2 := hml0
  have hown : s.vm.findClass "com/example/steward/steward/runtime/Agent" = some m.cls := findClass_of_methodNamed Bd.named
  have hnm := (name_of_methodNamed Bd.named Bd.method).1
  have hlk : meth.locks = false := BodyLoose.notSynchronized Bd
  have X0 : Stand p l e ({ frames := 3, cells := 2, slots := 5, locals := 39 } : Room) s m #[(.ref a0), (.ref s0)] below meth c s₁ [] 0 0 := Stand.of_body Bd
  have e0 : s₁.heap = h0 := by rw [← hh, Bd.state]; rfl
  have N0 := Fr.nil n0
  have sq0 : h0.size ≤ h0.size := Nat.le_refl _
  have k0 : Keep h0 h0 [a0] := Keep.refl _ _
  change Go p e below s ({ frames := 3, cells := 2, slots := 5, locals := 39 } : Room).cells ({ frames := 3, cells := 2, slots := 5, locals := 39 } : Room).slots (Q3 Z a0 s0 h0 n0) (s₁.setTop (entryFrame m #[(.ref a0), (.ref s0)] 2))
  rw [ef_3 m a0 s0]
  show Go _ _ _ _ _ _ _ (s₁.setTop (mkF m 0 #[.val (.ref a0), .val (.ref s0)] []))
  refine Go.step (fun _ k => XS.aloadN X0.here hx rfl (hb hby d3_0) rfl rfl  k) ?_
  show Go _ _ _ _ _ _ _ (s₁.setTop (mkF m 1 #[.val (.ref a0), .val (.ref s0)] [(.ref a0)]))
  obtain ⟨T1, X1, e1, st1⟩ := initO X0 hx hZ hown (hw _ (List.mem_of_getElem? (i := 24) rfl)) (hw _ (List.mem_of_getElem? (i := 8) rfl)) (hw _ (List.mem_of_getElem? (i := 9) rfl)) e0 (g := (mkF m 1 #[.val (.ref a0), .val (.ref s0)] [(.ref a0)])) rfl (by rw [hml]; rfl) rfl (hb hby d3_1) (by decide) (W := 0) (by show 2 * 0 + _ ≤ _; exact Nat.le_of_eq rfl) (by decide)
  refine Go.step st1 ?_
  show Go _ _ _ _ _ _ _ (T1.setTop (mkF m 4 #[.val (.ref a0), .val (.ref s0)] []))
  refine Go.step (fun _ k => XS.aloadN X1.here hx rfl (hb hby d3_4) rfl rfl  k) ?_
  show Go _ _ _ _ _ _ _ (T1.setTop (mkF m 5 #[.val (.ref a0), .val (.ref s0)] [(.ref a0)]))
  obtain ⟨T2, h2, X2, e2, E2, A2, D2, -, st2⟩ := newO X1 hx hZ hown (hw _ (List.mem_of_getElem? (i := 25) rfl)) (hw _ (List.mem_of_getElem? (i := 26) rfl)) (hw _ (List.mem_of_getElem? (i := 27) rfl)) e1 (g := (mkF m 5 #[.val (.ref a0), .val (.ref s0)] [(.ref a0)])) rfl (hb hby d3_5) (by decide) (by decide)
  obtain ⟨b2, g2⟩ : ∃ z, z = h0.size := ⟨_, rfl⟩
  rw [← g2] at A2 D2 st2
  refine Go.step st2 ?_
  have gn2 : n0 ≤ b2 := Nat.le_trans Z0 (Nat.le_of_eq g2.symm)
  have sz2 : h0.size ≤ b2 := Nat.le_trans sq0 (Nat.le_of_eq g2.symm)
  have ne3 : a0 ≠ b2 := Nat.ne_of_lt (Nat.lt_of_lt_of_le E_0.lt (Nat.le_of_eq g2.symm))
  have z4 : n0 ≤ h2.size := Nat.le_trans Z0 E2.1
  have sqz4 : h0.size ≤ h2.size := Nat.le_trans sq0 E2.1
  have k5 : Keep h0 h2 [a0] := k0.ext E2
  have f6 : Fld Z h2 b2 "java/util/ArrayDeque" "elements" "[Ljava/lang/Object;" .null := D2 (Or.inl (hw _ (List.mem_of_getElem? (i := 42) rfl))) (ty := (.array (.object "java/lang/Object"))) (by decide)
  show Go _ _ _ _ _ _ _ (T2.setTop (mkF m 8 #[.val (.ref a0), .val (.ref s0)] [(.ref b2), (.ref a0)]))
  refine Go.step (fun _ k => XS.dup X2.here hx rfl (hb hby d3_8) rfl rfl k) ?_
  show Go _ _ _ _ _ _ _ (T2.setTop (mkF m 9 #[.val (.ref a0), .val (.ref s0)] [(.ref b2), (.ref b2), (.ref a0)]))
  refine Go.step (fun _ k => XS.iconst X2.here hx rfl (hb hby d3_9) k) ?_
  show Go _ _ _ _ _ _ _ (T2.setTop (mkF m 10 #[.val (.ref a0), .val (.ref s0)] [(.int (1 : Int32)), (.ref b2), (.ref b2), (.ref a0)]))
  have pq7 : (1 : Int32) = (1 : Int32) := rfl
  obtain ⟨_, _, ⟨T8, L8, k8, n8⟩, -, X8, ⟨Lc8, hQ8, l8, y8, z8⟩, st8⟩ := X2.specialBack hx (y := (⟨"java/util/ArrayDeque", "<init>", "(I)V"⟩ : MethodName)) rfl hown (mvT hZ (hw _ (List.mem_of_getElem? (i := 28) rfl))) (mvT hZ (hw _ (List.mem_of_getElem? (i := 29) rfl))) (mvT hZ (hw _ (List.mem_of_getElem? (i := 30) rfl))) (by decide) (backOf (W := 2) (rm4 l Z aZ hw [] b2 (1 : Int32) h2 n0 z4 A2 f6 gn2 pq7) hZ (hw _ (List.mem_of_getElem? (i := 30) rfl)) (hw _ (List.mem_of_getElem? (i := 27) rfl)) (by decide) (by decide)) (g := (mkF m 10 #[.val (.ref a0), .val (.ref s0)] [(.int (1 : Int32)), (.ref b2), (.ref b2), (.ref a0)])) rfl (by rw [hml]; rfl) (Steps.refl _) (a := b2) (argsL := [(.int (1 : Int32))]) (rest := [(.ref b2), (.ref a0)]) (lenOf pd_1 rfl) rfl (by show 2 * 0 + _ ≤ _; exact Nat.le_of_eq rfl) (hb hby d3_10) (fun _ _ => ⟨rfl, e2, (by decide : 1 + 1 ≤ _), (by decide : 3 + 2 ≤ _)⟩)
  dsimp only [Pt.U, Pt.locs, Pt.cells, Pt.slots] at X8 l8 y8 z8 st8 hQ8
  subst l8 y8 z8
  obtain ⟨rfl, Nq8, K8, c8_0⟩ := hQ8
  have N8 := Fr.app N0 Nq8
  refine Go.tr st8 ?_
  have z9 : n0 ≤ T8.heap.size := Nat.le_trans z4 K8.1
  have sqz9 : h0.size ≤ T8.heap.size := Nat.le_trans sqz4 K8.1
  have k10 : Keep h0 T8.heap [a0] := k5.trans K8 (allS (Or.inr sz2) all0)
  show Go _ _ _ _ _ _ _ (T8.setTop (mkF m 13 #[.val (.ref a0), .val (.ref s0)] [(.ref b2), (.ref a0)]))
  have f11 : Exa Z T8.heap a0 "com/example/steward/steward/runtime/Agent" := ((E_0.ext E2).keep K8)
  have f12 : Fld Z T8.heap a0 "com/example/steward/steward/runtime/Agent" "normal" "Ljava/util/ArrayDeque;" .null := ((F_1.ext E2).keep K8 (ninS ne3 nin0))
  obtain ⟨T13, h13, X13, e13, W13, st13⟩ := putF X8 hx hZ hown (host := "") (Or.inl (hw _ (List.mem_of_getElem? (i := 43) rfl))) Via.refl rfl f12 f11 (Or.inr ⟨(hw _ (List.mem_of_getElem? (i := 44) rfl)), rfl, hnm⟩) (hw _ (List.mem_of_getElem? (i := 11) rfl)) (ty := (.object "java/util/ArrayDeque")) (v := (.ref b2)) (by decide) rfl rfl (g := (mkF m 13 #[.val (.ref a0), .val (.ref s0)] [(.ref b2), (.ref a0)])) rfl rfl (hb hby d3_13)
  refine Go.step st13 ?_
  have N13 := Fr.snoc X13 N8 g_6
  have z14 : n0 ≤ h13.size := Nat.le_trans z9 (Keep.of_wr W13).1
  have sqz14 : h0.size ≤ h13.size := Nat.le_trans sqz9 (Keep.of_wr W13).1
  have k15 : Keep h0 h13 [a0] := k10.wr W13 (Or.inl (List.mem_of_getElem? (i := 0) rfl))
  have f16 : Fld Z h13 a0 "com/example/steward/steward/runtime/Agent" "normal" "Ljava/util/ArrayDeque;" (.ref b2) := f12.same W13
  show Go _ _ _ _ _ _ _ (T13.setTop (mkF m 16 #[.val (.ref a0), .val (.ref s0)] []))
  refine Go.step (fun _ k => XS.aloadN X13.here hx rfl (hb hby d3_16) rfl rfl  k) ?_
  show Go _ _ _ _ _ _ _ (T13.setTop (mkF m 17 #[.val (.ref a0), .val (.ref s0)] [(.ref a0)]))
  refine Go.step (fun _ k => XS.aloadN X13.here hx rfl (hb hby d3_17) rfl rfl  k) ?_
  show Go _ _ _ _ _ _ _ (T13.setTop (mkF m 18 #[.val (.ref a0), .val (.ref s0)] [(.ref s0), (.ref a0)]))
  have f17 : Exa Z h13 a0 "com/example/steward/steward/runtime/Agent" := (f11.wr W13)
  have f18 : Fld Z h13 a0 "com/example/steward/steward/runtime/Agent" "key" "Ljava/lang/String;" .null := (((F_2.ext E2).keep K8 (ninS ne3 nin0)).other W13 (Or.inr (slot_ne (Or.inr (hw _ (List.mem_of_getElem? (i := 46) rfl))) (Or.inr (hw _ (List.mem_of_getElem? (i := 44) rfl))) (by decide) (t := (.object "java/lang/String")) (t' := (.object "java/util/ArrayDeque")) (by decide) (by decide))))
  obtain ⟨T19, h19, X19, e19, W19, st19⟩ := putF X13 hx hZ hown (host := "") (Or.inl (hw _ (List.mem_of_getElem? (i := 45) rfl))) Via.refl e13 f18 f17 (Or.inr ⟨(hw _ (List.mem_of_getElem? (i := 46) rfl)), rfl, hnm⟩) (hw _ (List.mem_of_getElem? (i := 11) rfl)) (ty := (.object "java/lang/String")) (v := (.ref s0)) (by decide) rfl rfl (g := (mkF m 18 #[.val (.ref a0), .val (.ref s0)] [(.ref s0), (.ref a0)])) rfl rfl (hb hby d3_18)
  refine Go.step st19 ?_
  have N19 := Fr.snoc X19 N13 g_6
  have z20 : n0 ≤ h19.size := Nat.le_trans z14 (Keep.of_wr W19).1
  have sqz20 : h0.size ≤ h19.size := Nat.le_trans sqz14 (Keep.of_wr W19).1
  have k21 : Keep h0 h19 [a0] := k15.wr W19 (Or.inl (List.mem_of_getElem? (i := 0) rfl))
  have f22 : Fld Z h19 a0 "com/example/steward/steward/runtime/Agent" "key" "Ljava/lang/String;" (.ref s0) := f18.same W19
  show Go _ _ _ _ _ _ _ (T19.setTop (mkF m 21 #[.val (.ref a0), .val (.ref s0)] []))
  have f23 : Exa Z h19 a0 "com/example/steward/steward/runtime/Agent" := (f17.wr W19)
  have f24 : Fld Z h19 a0 "com/example/steward/steward/runtime/Agent" "group" "Lcom/example/steward/steward/runtime/Group;" .null := ((((F_3.ext E2).keep K8 (ninS ne3 nin0)).other W13 (Or.inr (slot_ne (Or.inl (hw _ (List.mem_of_getElem? (i := 55) rfl))) (Or.inr (hw _ (List.mem_of_getElem? (i := 44) rfl))) (by decide) (t := (.object "com/example/steward/steward/runtime/Group")) (t' := (.object "java/util/ArrayDeque")) (by decide) (by decide)))).other W19 (Or.inr (slot_ne (Or.inl (hw _ (List.mem_of_getElem? (i := 55) rfl))) (Or.inr (hw _ (List.mem_of_getElem? (i := 46) rfl))) (by decide) (t := (.object "com/example/steward/steward/runtime/Group")) (t' := (.object "java/lang/String")) (by decide) (by decide))))
  have f25 : Fld Z h19 a0 "com/example/steward/steward/runtime/Agent" "ahead" "Lcom/example/steward/steward/runtime/Agent;" .null := ((((F_4.ext E2).keep K8 (ninS ne3 nin0)).other W13 (Or.inr (slot_ne (Or.inl (hw _ (List.mem_of_getElem? (i := 59) rfl))) (Or.inr (hw _ (List.mem_of_getElem? (i := 44) rfl))) (by decide) (t := (.object "com/example/steward/steward/runtime/Agent")) (t' := (.object "java/util/ArrayDeque")) (by decide) (by decide)))).other W19 (Or.inr (slot_ne (Or.inl (hw _ (List.mem_of_getElem? (i := 59) rfl))) (Or.inr (hw _ (List.mem_of_getElem? (i := 46) rfl))) (by decide) (t := (.object "com/example/steward/steward/runtime/Agent")) (t' := (.object "java/lang/String")) (by decide) (by decide))))
  have f26 : Fld Z h19 a0 "com/example/steward/steward/runtime/Agent" "behind" "Lcom/example/steward/steward/runtime/Agent;" .null := ((((F_5.ext E2).keep K8 (ninS ne3 nin0)).other W13 (Or.inr (slot_ne (Or.inl (hw _ (List.mem_of_getElem? (i := 61) rfl))) (Or.inr (hw _ (List.mem_of_getElem? (i := 44) rfl))) (by decide) (t := (.object "com/example/steward/steward/runtime/Agent")) (t' := (.object "java/util/ArrayDeque")) (by decide) (by decide)))).other W19 (Or.inr (slot_ne (Or.inl (hw _ (List.mem_of_getElem? (i := 61) rfl))) (Or.inr (hw _ (List.mem_of_getElem? (i := 46) rfl))) (by decide) (t := (.object "com/example/steward/steward/runtime/Agent")) (t' := (.object "java/lang/String")) (by decide) (by decide))))
  refine Go.retV X19 hx Bd.returns hlk (hb hby d3_21) ?_ (by decide) (by decide)
  rw [e19]
  exact ⟨(rfl), N19, k21, f23, f24, f25, f26⟩
theorem d6_0 : decode prog_44_method_4_code 0 = .ok (.aload_n 1, 1) := by decide +kernel
theorem d6_1 : decode prog_44_method_4_code 1 = .ok (.aload_n 0, 1) := by decide +kernel
theorem d6_2 : decode prog_44_method_4_code 2 = .ok (.putfield 13, 3) := by decide +kernel
theorem d6_5 : decode prog_44_method_4_code 5 = .ok (.aload_n 1, 1) := by decide +kernel
theorem d6_6 : decode prog_44_method_4_code 6 = .ok (.aload_n 0, 1) := by decide +kernel
theorem d6_7 : decode prog_44_method_4_code 7 = .ok (.getfield 19, 3) := by decide +kernel
theorem d6_10 : decode prog_44_method_4_code 10 = .ok (.putfield 22, 3) := by decide +kernel
theorem d6_13 : decode prog_44_method_4_code 13 = .ok (.aload_n 1, 1) := by decide +kernel
theorem d6_14 : decode prog_44_method_4_code 14 = .ok (.aconst_null, 1) := by decide +kernel
theorem d6_15 : decode prog_44_method_4_code 15 = .ok (.putfield 25, 3) := by decide +kernel
theorem d6_18 : decode prog_44_method_4_code 18 = .ok (.aload_n 0, 1) := by decide +kernel
theorem d6_19 : decode prog_44_method_4_code 19 = .ok (.getfield 19, 3) := by decide +kernel
theorem d6_22 : decode prog_44_method_4_code 22 = .ok (.ifnonnull 11, 3) := by decide +kernel
theorem d6_25 : decode prog_44_method_4_code 25 = .ok (.aload_n 0, 1) := by decide +kernel
theorem d6_26 : decode prog_44_method_4_code 26 = .ok (.aload_n 1, 1) := by decide +kernel
theorem d6_27 : decode prog_44_method_4_code 27 = .ok (.putfield 7, 3) := by decide +kernel
theorem d6_30 : decode prog_44_method_4_code 30 = .ok (.goto 11, 3) := by decide +kernel
theorem d6_41 : decode prog_44_method_4_code 41 = .ok (.aload_n 0, 1) := by decide +kernel
theorem d6_42 : decode prog_44_method_4_code 42 = .ok (.aload_n 1, 1) := by decide +kernel
theorem d6_43 : decode prog_44_method_4_code 43 = .ok (.putfield 19, 3) := by decide +kernel
theorem d6_46 : decode prog_44_method_4_code 46 = .ok (.return_, 1) := by decide +kernel
theorem ef_add0 (m : MethodId) (g0 : Addr) (x0 : Addr) : entryFrame m #[(.ref g0), (.ref x0)] 2 = mkF m 0 #[.val (.ref g0), .val (.ref x0)] [] := by first | (simp [entryFrame, mkF, argsToLocals, Value.category]; done) | rfl
def Qadd0 (Z : State) (g0 : Addr) (x0 : Addr) (u1 : Value) (u2 : Value) (u3 : Value) (u4 : Value) (h0 : Heap) (n0 : Nat) (v : Option Value) (h : Heap) (L : List Loc) : Prop := (v = none) ∧ (Fr n0 L) ∧ (Keep h0 h [g0, x0]) ∧ (Exa Z h g0 "com/example/steward/steward/runtime/Group") ∧ (Exa Z h x0 "com/example/steward/steward/runtime/Agent") ∧ (Fld Z h x0 "com/example/steward/steward/runtime/Agent" "group" "Lcom/example/steward/steward/runtime/Group;" (.ref g0)) ∧ (Fld Z h x0 "com/example/steward/steward/runtime/Agent" "ahead" "Lcom/example/steward/steward/runtime/Agent;" .null) ∧ (Fld Z h x0 "com/example/steward/steward/runtime/Agent" "behind" "Lcom/example/steward/steward/runtime/Agent;" .null) ∧ (Fld Z h g0 "com/example/steward/steward/runtime/Group" "first" "Lcom/example/steward/steward/runtime/Agent;" (.ref x0)) ∧ (Fld Z h g0 "com/example/steward/steward/runtime/Group" "last" "Lcom/example/steward/steward/runtime/Agent;" (.ref x0))
set_option maxRecDepth 65536 in
set_option maxHeartbeats 40000000 in
theorem rmadd0 (l : Launch) (Z : State) (aZ : Array Value) (hw : ∀ d ∈ tables_1, d.before aZ Z = true) (ws : List Jvm.Cond) (g0 : Addr) (x0 : Addr) (u1 : Value) (u2 : Value) (u3 : Value) (u4 : Value) (h0 : Heap) (n0 : Nat) (Z0 : n0 ≤ h0.size) (E_0 : Exa Z h0 g0 "com/example/steward/steward/runtime/Group") (E_1 : Exa Z h0 x0 "com/example/steward/steward/runtime/Agent") (F_2 : Fld Z h0 x0 "com/example/steward/steward/runtime/Agent" "group" "Lcom/example/steward/steward/runtime/Group;" u1) (F_3 : Fld Z h0 x0 "com/example/steward/steward/runtime/Agent" "ahead" "Lcom/example/steward/steward/runtime/Agent;" u2) (F_4 : Fld Z h0 x0 "com/example/steward/steward/runtime/Agent" "behind" "Lcom/example/steward/steward/runtime/Agent;" u3) (F_5 : Fld Z h0 g0 "com/example/steward/steward/runtime/Group" "first" "Lcom/example/steward/steward/runtime/Agent;" u4) (F_6 : Fld Z h0 g0 "com/example/steward/steward/runtime/Group" "last" "Lcom/example/steward/steward/runtime/Agent;" .null) (g_7 : n0 ≤ g0) (g_8 : n0 ≤ x0) :
    MetFree l (⟨"com/example/steward/steward/runtime/Group", "add", "(Lcom/example/steward/steward/runtime/Agent;)V"⟩ : MethodName) (head1 (Jvm.Cond.code (⟨"com/example/steward/steward/runtime/Group", "add", "(Lcom/example/steward/steward/runtime/Agent;)V"⟩ : MethodName) prog_44_method_4_code 2 none :: ws) ({ frames := 0, cells := 0, slots := 0, locals := 0 } : Room)) (fun a U => a = #[(.ref g0), (.ref x0)] ∧ Z.Warmed39 U.vm ∧ U.heap = h0) (fun _ _ _ _ _ => True) (fun _ U o U' => ∃ v L, o = .returned v ∧ Qadd0 Z g0 x0 u1 u2 u3 u4 h0 n0 v U'.heap L ∧ FrameEnd U o U' L ({ frames := 0, cells := 0, slots := 0, locals := 0 } : Room).cells ({ frames := 0, cells := 0, slots := 0, locals := 0 } : Room).slots) := by
  refine MetFree.of_bodySF (plainFor_of_name pn_5) hisR ?_
  intro p e s m args below meth c s₁ Bd hml0 hP hK
  obtain ⟨rfl, hZ, hh⟩ := hP
  have hx := Bd.exec
  have hby := Bd.bytes
  have hml : c.maxLocals = 2 := hml0
  have hown : s.vm.findClass "com/example/steward/steward/runtime/Group" = some m.cls := findClass_of_methodNamed Bd.named
  have hnm := (name_of_methodNamed Bd.named Bd.method).1
  have hlk : meth.locks = false := BodyLoose.notSynchronized Bd
  have X0 : Stand p l e ({ frames := 0, cells := 0, slots := 0, locals := 0 } : Room) s m #[(.ref g0), (.ref x0)] below meth c s₁ [] 0 0 := Stand.of_body Bd
  have e0 : s₁.heap = h0 := by rw [← hh, Bd.state]; rfl
  have N0 := Fr.nil n0
  have sq0 : h0.size ≤ h0.size := Nat.le_refl _
  have k0 : Keep h0 h0 [g0, x0] := Keep.refl _ _
  change Go p e below s ({ frames := 0, cells := 0, slots := 0, locals := 0 } : Room).cells ({ frames := 0, cells := 0, slots := 0, locals := 0 } : Room).slots (Qadd0 Z g0 x0 u1 u2 u3 u4 h0 n0) (s₁.setTop (entryFrame m #[(.ref g0), (.ref x0)] 2))
  rw [ef_add0 m g0 x0]
  show Go _ _ _ _ _ _ _ (s₁.setTop (mkF m 0 #[.val (.ref g0), .val (.ref x0)] []))
  refine Go.step (fun _ k => XS.aloadN X0.here hx rfl (hb hby d6_0) rfl rfl  k) ?_
  show Go _ _ _ _ _ _ _ (s₁.setTop (mkF m 1 #[.val (.ref g0), .val (.ref x0)] [(.ref x0)]))
  refine Go.step (fun _ k => XS.aloadN X0.here hx rfl (hb hby d6_1) rfl rfl  k) ?_
  show Go _ _ _ _ _ _ _ (s₁.setTop (mkF m 2 #[.val (.ref g0), .val (.ref x0)] [(.ref g0), (.ref x0)]))
  obtain ⟨T1, h1, X1, e1, W1, st1⟩ := putF X0 hx hZ hown (host := "") (Or.inl (hw _ (List.mem_of_getElem? (i := 54) rfl))) Via.refl e0 F_2 E_1 (Or.inl (hw _ (List.mem_of_getElem? (i := 55) rfl))) (hw _ (List.mem_of_getElem? (i := 11) rfl)) (ty := (.object "com/example/steward/steward/runtime/Group")) (v := (.ref g0)) (by decide) rfl rfl (g := (mkF m 2 #[.val (.ref g0), .val (.ref x0)] [(.ref g0), (.ref x0)])) rfl rfl (hb hby d6_2)
  refine Go.step st1 ?_
  have N1 := Fr.snoc X1 N0 g_8
  have z2 : n0 ≤ h1.size := Nat.le_trans Z0 (Keep.of_wr W1).1
  have sqz2 : h0.size ≤ h1.size := Nat.le_trans sq0 (Keep.of_wr W1).1
  have k3 : Keep h0 h1 [g0, x0] := k0.wr W1 (Or.inl (List.mem_of_getElem? (i := 1) rfl))
  have f4 : Fld Z h1 x0 "com/example/steward/steward/runtime/Agent" "group" "Lcom/example/steward/steward/runtime/Group;" (.ref g0) := F_2.same W1
  show Go _ _ _ _ _ _ _ (T1.setTop (mkF m 5 #[.val (.ref g0), .val (.ref x0)] []))
  refine Go.step (fun _ k => XS.aloadN X1.here hx rfl (hb hby d6_5) rfl rfl  k) ?_
  show Go _ _ _ _ _ _ _ (T1.setTop (mkF m 6 #[.val (.ref g0), .val (.ref x0)] [(.ref x0)]))
  refine Go.step (fun _ k => XS.aloadN X1.here hx rfl (hb hby d6_6) rfl rfl  k) ?_
  show Go _ _ _ _ _ _ _ (T1.setTop (mkF m 7 #[.val (.ref g0), .val (.ref x0)] [(.ref g0), (.ref x0)]))
  have f5 : Exa Z h1 g0 "com/example/steward/steward/runtime/Group" := (E_0.wr W1)
  have f6 : Exa Z h1 x0 "com/example/steward/steward/runtime/Agent" := (E_1.wr W1)
  have ne7 : g0 ≠ x0 := ne_exa f5 f6 (by decide)
  have f8 : Fld Z h1 g0 "com/example/steward/steward/runtime/Group" "last" "Lcom/example/steward/steward/runtime/Agent;" .null := (F_6.other W1 (Or.inl ne7))
  obtain ⟨T9, X9, e9, st9⟩ := getF X1 hx hZ hown (host := "") (Or.inl (hw _ (List.mem_of_getElem? (i := 56) rfl))) Via.refl e1 f8 (g := (mkF m 7 #[.val (.ref g0), .val (.ref x0)] [(.ref g0), (.ref x0)])) rfl rfl (hb hby d6_7)
  refine Go.step st9 ?_
  show Go _ _ _ _ _ _ _ (T9.setTop (mkF m 10 #[.val (.ref g0), .val (.ref x0)] [.null, (.ref x0)]))
  have f10 : Fld Z h1 x0 "com/example/steward/steward/runtime/Agent" "ahead" "Lcom/example/steward/steward/runtime/Agent;" u2 := (F_3.other W1 (Or.inr (slot_ne (Or.inl (hw _ (List.mem_of_getElem? (i := 59) rfl))) (Or.inl (hw _ (List.mem_of_getElem? (i := 55) rfl))) (by decide) (t := (.object "com/example/steward/steward/runtime/Agent")) (t' := (.object "com/example/steward/steward/runtime/Group")) (by decide) (by decide))))
  obtain ⟨T11, h11, X11, e11, W11, st11⟩ := putF X9 hx hZ hown (host := "") (Or.inl (hw _ (List.mem_of_getElem? (i := 58) rfl))) Via.refl e9 f10 f6 (Or.inl (hw _ (List.mem_of_getElem? (i := 59) rfl))) (hw _ (List.mem_of_getElem? (i := 11) rfl)) (ty := (.object "com/example/steward/steward/runtime/Agent")) (v := .null) (by decide) rfl rfl (g := (mkF m 10 #[.val (.ref g0), .val (.ref x0)] [.null, (.ref x0)])) rfl rfl (hb hby d6_10)
  refine Go.step st11 ?_
  have N11 := Fr.snoc X11 N1 g_8
  have z12 : n0 ≤ h11.size := Nat.le_trans z2 (Keep.of_wr W11).1
  have sqz12 : h0.size ≤ h11.size := Nat.le_trans sqz2 (Keep.of_wr W11).1
  have k13 : Keep h0 h11 [g0, x0] := k3.wr W11 (Or.inl (List.mem_of_getElem? (i := 1) rfl))
  have f14 : Fld Z h11 x0 "com/example/steward/steward/runtime/Agent" "ahead" "Lcom/example/steward/steward/runtime/Agent;" .null := f10.same W11
  show Go _ _ _ _ _ _ _ (T11.setTop (mkF m 13 #[.val (.ref g0), .val (.ref x0)] []))
  refine Go.step (fun _ k => XS.aloadN X11.here hx rfl (hb hby d6_13) rfl rfl  k) ?_
  show Go _ _ _ _ _ _ _ (T11.setTop (mkF m 14 #[.val (.ref g0), .val (.ref x0)] [(.ref x0)]))
  refine Go.step (fun _ k => XS.aconstNull X11.here hx rfl (hb hby d6_14) k) ?_
  show Go _ _ _ _ _ _ _ (T11.setTop (mkF m 15 #[.val (.ref g0), .val (.ref x0)] [.null, (.ref x0)]))
  have f15 : Exa Z h11 x0 "com/example/steward/steward/runtime/Agent" := (f6.wr W11)
  have f16 : Fld Z h11 x0 "com/example/steward/steward/runtime/Agent" "behind" "Lcom/example/steward/steward/runtime/Agent;" u3 := ((F_4.other W1 (Or.inr (slot_ne (Or.inl (hw _ (List.mem_of_getElem? (i := 61) rfl))) (Or.inl (hw _ (List.mem_of_getElem? (i := 55) rfl))) (by decide) (t := (.object "com/example/steward/steward/runtime/Agent")) (t' := (.object "com/example/steward/steward/runtime/Group")) (by decide) (by decide)))).other W11 (Or.inr (slot_ne (Or.inl (hw _ (List.mem_of_getElem? (i := 61) rfl))) (Or.inl (hw _ (List.mem_of_getElem? (i := 59) rfl))) (by decide) (t := (.object "com/example/steward/steward/runtime/Agent")) (t' := (.object "com/example/steward/steward/runtime/Agent")) (by decide) (by decide))))
  obtain ⟨T17, h17, X17, e17, W17, st17⟩ := putF X11 hx hZ hown (host := "") (Or.inl (hw _ (List.mem_of_getElem? (i := 60) rfl))) Via.refl e11 f16 f15 (Or.inl (hw _ (List.mem_of_getElem? (i := 61) rfl))) (hw _ (List.mem_of_getElem? (i := 11) rfl)) (ty := (.object "com/example/steward/steward/runtime/Agent")) (v := .null) (by decide) rfl rfl (g := (mkF m 15 #[.val (.ref g0), .val (.ref x0)] [.null, (.ref x0)])) rfl rfl (hb hby d6_15)
  refine Go.step st17 ?_
  have N17 := Fr.snoc X17 N11 g_8
  have z18 : n0 ≤ h17.size := Nat.le_trans z12 (Keep.of_wr W17).1
  have sqz18 : h0.size ≤ h17.size := Nat.le_trans sqz12 (Keep.of_wr W17).1
  have k19 : Keep h0 h17 [g0, x0] := k13.wr W17 (Or.inl (List.mem_of_getElem? (i := 1) rfl))
  have f20 : Fld Z h17 x0 "com/example/steward/steward/runtime/Agent" "behind" "Lcom/example/steward/steward/runtime/Agent;" .null := f16.same W17
  show Go _ _ _ _ _ _ _ (T17.setTop (mkF m 18 #[.val (.ref g0), .val (.ref x0)] []))
  refine Go.step (fun _ k => XS.aloadN X17.here hx rfl (hb hby d6_18) rfl rfl  k) ?_
  show Go _ _ _ _ _ _ _ (T17.setTop (mkF m 19 #[.val (.ref g0), .val (.ref x0)] [(.ref g0)]))
  have f21 : Fld Z h17 g0 "com/example/steward/steward/runtime/Group" "last" "Lcom/example/steward/steward/runtime/Agent;" .null := ((f8.other W11 (Or.inl ne7)).other W17 (Or.inl ne7))
  obtain ⟨T22, X22, e22, st22⟩ := getF X17 hx hZ hown (host := "") (Or.inl (hw _ (List.mem_of_getElem? (i := 56) rfl))) Via.refl e17 f21 (g := (mkF m 19 #[.val (.ref g0), .val (.ref x0)] [(.ref g0)])) rfl rfl (hb hby d6_19)
  refine Go.step st22 ?_
  show Go _ _ _ _ _ _ _ (T22.setTop (mkF m 22 #[.val (.ref g0), .val (.ref x0)] [.null]))
  refine Go.step (fun _ k => XS.ifnonnullNo X22.here hx rfl (hb hby d6_22) rfl k) ?_
  show Go _ _ _ _ _ _ _ (T22.setTop (mkF m 25 #[.val (.ref g0), .val (.ref x0)] []))
  refine Go.step (fun _ k => XS.aloadN X22.here hx rfl (hb hby d6_25) rfl rfl  k) ?_
  show Go _ _ _ _ _ _ _ (T22.setTop (mkF m 26 #[.val (.ref g0), .val (.ref x0)] [(.ref g0)]))
  refine Go.step (fun _ k => XS.aloadN X22.here hx rfl (hb hby d6_26) rfl rfl  k) ?_
  show Go _ _ _ _ _ _ _ (T22.setTop (mkF m 27 #[.val (.ref g0), .val (.ref x0)] [(.ref x0), (.ref g0)]))
  have f23 : Exa Z h17 g0 "com/example/steward/steward/runtime/Group" := ((f5.wr W11).wr W17)
  have f24 : Fld Z h17 g0 "com/example/steward/steward/runtime/Group" "first" "Lcom/example/steward/steward/runtime/Agent;" u4 := (((F_5.other W1 (Or.inl ne7)).other W11 (Or.inl ne7)).other W17 (Or.inl ne7))
  obtain ⟨T25, h25, X25, e25, W25, st25⟩ := putF X22 hx hZ hown (host := "") (Or.inl (hw _ (List.mem_of_getElem? (i := 62) rfl))) Via.refl e22 f24 f23 (Or.inl (hw _ (List.mem_of_getElem? (i := 63) rfl))) (hw _ (List.mem_of_getElem? (i := 2) rfl)) (ty := (.object "com/example/steward/steward/runtime/Agent")) (v := (.ref x0)) (by decide) rfl rfl (g := (mkF m 27 #[.val (.ref g0), .val (.ref x0)] [(.ref x0), (.ref g0)])) rfl rfl (hb hby d6_27)
  refine Go.step st25 ?_
  have N25 := Fr.snoc X25 N17 g_7
  have z26 : n0 ≤ h25.size := Nat.le_trans z18 (Keep.of_wr W25).1
  have sqz26 : h0.size ≤ h25.size := Nat.le_trans sqz18 (Keep.of_wr W25).1
  have k27 : Keep h0 h25 [g0, x0] := k19.wr W25 (Or.inl (List.mem_of_getElem? (i := 0) rfl))
  have f28 : Fld Z h25 g0 "com/example/steward/steward/runtime/Group" "first" "Lcom/example/steward/steward/runtime/Agent;" (.ref x0) := f24.same W25
  show Go _ _ _ _ _ _ _ (T25.setTop (mkF m 30 #[.val (.ref g0), .val (.ref x0)] []))
  refine Go.step (fun _ k => XS.goto X25.here hx rfl (pc0 := 30) (pc' := 41) rfl (hb hby d6_30) (by decide) (by decide) k) ?_
  show Go _ _ _ _ _ _ _ (T25.setTop (mkF m 41 #[.val (.ref g0), .val (.ref x0)] []))
  refine Go.step (fun _ k => XS.aloadN X25.here hx rfl (hb hby d6_41) rfl rfl  k) ?_
  show Go _ _ _ _ _ _ _ (T25.setTop (mkF m 42 #[.val (.ref g0), .val (.ref x0)] [(.ref g0)]))
  refine Go.step (fun _ k => XS.aloadN X25.here hx rfl (hb hby d6_42) rfl rfl  k) ?_
  show Go _ _ _ _ _ _ _ (T25.setTop (mkF m 43 #[.val (.ref g0), .val (.ref x0)] [(.ref x0), (.ref g0)]))
  have f29 : Exa Z h25 g0 "com/example/steward/steward/runtime/Group" := (f23.wr W25)
  have f30 : Fld Z h25 g0 "com/example/steward/steward/runtime/Group" "last" "Lcom/example/steward/steward/runtime/Agent;" .null := (f21.other W25 (Or.inr (slot_ne (Or.inl (hw _ (List.mem_of_getElem? (i := 57) rfl))) (Or.inl (hw _ (List.mem_of_getElem? (i := 63) rfl))) (by decide) (t := (.object "com/example/steward/steward/runtime/Agent")) (t' := (.object "com/example/steward/steward/runtime/Agent")) (by decide) (by decide))))
  obtain ⟨T31, h31, X31, e31, W31, st31⟩ := putF X25 hx hZ hown (host := "") (Or.inl (hw _ (List.mem_of_getElem? (i := 56) rfl))) Via.refl e25 f30 f29 (Or.inl (hw _ (List.mem_of_getElem? (i := 57) rfl))) (hw _ (List.mem_of_getElem? (i := 2) rfl)) (ty := (.object "com/example/steward/steward/runtime/Agent")) (v := (.ref x0)) (by decide) rfl rfl (g := (mkF m 43 #[.val (.ref g0), .val (.ref x0)] [(.ref x0), (.ref g0)])) rfl rfl (hb hby d6_43)
  refine Go.step st31 ?_
  have N31 := Fr.snoc X31 N25 g_7
  have z32 : n0 ≤ h31.size := Nat.le_trans z26 (Keep.of_wr W31).1
  have sqz32 : h0.size ≤ h31.size := Nat.le_trans sqz26 (Keep.of_wr W31).1
  have k33 : Keep h0 h31 [g0, x0] := k27.wr W31 (Or.inl (List.mem_of_getElem? (i := 0) rfl))
  have f34 : Fld Z h31 g0 "com/example/steward/steward/runtime/Group" "last" "Lcom/example/steward/steward/runtime/Agent;" (.ref x0) := f30.same W31
  show Go _ _ _ _ _ _ _ (T31.setTop (mkF m 46 #[.val (.ref g0), .val (.ref x0)] []))
  have f35 : Exa Z h31 g0 "com/example/steward/steward/runtime/Group" := (f29.wr W31)
  have f36 : Exa Z h31 x0 "com/example/steward/steward/runtime/Agent" := (((f15.wr W17).wr W25).wr W31)
  have f37 : Fld Z h31 x0 "com/example/steward/steward/runtime/Agent" "group" "Lcom/example/steward/steward/runtime/Group;" (.ref g0) := ((((f4.other W11 (Or.inr (slot_ne (Or.inl (hw _ (List.mem_of_getElem? (i := 55) rfl))) (Or.inl (hw _ (List.mem_of_getElem? (i := 59) rfl))) (by decide) (t := (.object "com/example/steward/steward/runtime/Group")) (t' := (.object "com/example/steward/steward/runtime/Agent")) (by decide) (by decide)))).other W17 (Or.inr (slot_ne (Or.inl (hw _ (List.mem_of_getElem? (i := 55) rfl))) (Or.inl (hw _ (List.mem_of_getElem? (i := 61) rfl))) (by decide) (t := (.object "com/example/steward/steward/runtime/Group")) (t' := (.object "com/example/steward/steward/runtime/Agent")) (by decide) (by decide)))).other W25 (Or.inl (Ne.symm ne7))).other W31 (Or.inl (Ne.symm ne7)))
  have f38 : Fld Z h31 x0 "com/example/steward/steward/runtime/Agent" "ahead" "Lcom/example/steward/steward/runtime/Agent;" .null := (((f14.other W17 (Or.inr (slot_ne (Or.inl (hw _ (List.mem_of_getElem? (i := 59) rfl))) (Or.inl (hw _ (List.mem_of_getElem? (i := 61) rfl))) (by decide) (t := (.object "com/example/steward/steward/runtime/Agent")) (t' := (.object "com/example/steward/steward/runtime/Agent")) (by decide) (by decide)))).other W25 (Or.inl (Ne.symm ne7))).other W31 (Or.inl (Ne.symm ne7)))
  have f39 : Fld Z h31 x0 "com/example/steward/steward/runtime/Agent" "behind" "Lcom/example/steward/steward/runtime/Agent;" .null := ((f20.other W25 (Or.inl (Ne.symm ne7))).other W31 (Or.inl (Ne.symm ne7)))
  have f40 : Fld Z h31 g0 "com/example/steward/steward/runtime/Group" "first" "Lcom/example/steward/steward/runtime/Agent;" (.ref x0) := (f28.other W31 (Or.inr (slot_ne (Or.inl (hw _ (List.mem_of_getElem? (i := 63) rfl))) (Or.inl (hw _ (List.mem_of_getElem? (i := 57) rfl))) (by decide) (t := (.object "com/example/steward/steward/runtime/Agent")) (t' := (.object "com/example/steward/steward/runtime/Agent")) (by decide) (by decide))))
  refine Go.retV X31 hx Bd.returns hlk (hb hby d6_46) ?_ (by decide) (by decide)
  rw [e31]
  exact ⟨(rfl), N31, k33, f35, f36, f37, f38, f39, f40, f34⟩
theorem d6_33 : decode prog_44_method_4_code 33 = .ok (.aload_n 0, 1) := by decide +kernel
theorem d6_34 : decode prog_44_method_4_code 34 = .ok (.getfield 19, 3) := by decide +kernel
theorem d6_37 : decode prog_44_method_4_code 37 = .ok (.aload_n 1, 1) := by decide +kernel
theorem d6_38 : decode prog_44_method_4_code 38 = .ok (.putfield 25, 3) := by decide +kernel
theorem ef_add1 (m : MethodId) (g0 : Addr) (x0 : Addr) : entryFrame m #[(.ref g0), (.ref x0)] 2 = mkF m 0 #[.val (.ref g0), .val (.ref x0)] [] := by first | (simp [entryFrame, mkF, argsToLocals, Value.category]; done) | rfl
def Qadd1 (Z : State) (g0 : Addr) (x0 : Addr) (u1 : Value) (u2 : Value) (u3 : Value) (u4 : Value) (y0 : Addr) (u5 : Value) (u6 : Value) (u7 : Value) (h0 : Heap) (n0 : Nat) (v : Option Value) (h : Heap) (L : List Loc) : Prop := (v = none) ∧ (Fr n0 L) ∧ (Keep h0 h [g0, x0, y0]) ∧ (Exa Z h g0 "com/example/steward/steward/runtime/Group") ∧ (Exa Z h x0 "com/example/steward/steward/runtime/Agent") ∧ (Exa Z h y0 "com/example/steward/steward/runtime/Agent") ∧ (Fld Z h x0 "com/example/steward/steward/runtime/Agent" "group" "Lcom/example/steward/steward/runtime/Group;" (.ref g0)) ∧ (Fld Z h x0 "com/example/steward/steward/runtime/Agent" "ahead" "Lcom/example/steward/steward/runtime/Agent;" (.ref y0)) ∧ (Fld Z h x0 "com/example/steward/steward/runtime/Agent" "behind" "Lcom/example/steward/steward/runtime/Agent;" .null) ∧ (Fld Z h y0 "com/example/steward/steward/runtime/Agent" "behind" "Lcom/example/steward/steward/runtime/Agent;" (.ref x0)) ∧ (Fld Z h y0 "com/example/steward/steward/runtime/Agent" "group" "Lcom/example/steward/steward/runtime/Group;" u6) ∧ (Fld Z h y0 "com/example/steward/steward/runtime/Agent" "ahead" "Lcom/example/steward/steward/runtime/Agent;" u7) ∧ (Fld Z h g0 "com/example/steward/steward/runtime/Group" "first" "Lcom/example/steward/steward/runtime/Agent;" u4) ∧ (Fld Z h g0 "com/example/steward/steward/runtime/Group" "last" "Lcom/example/steward/steward/runtime/Agent;" (.ref x0))
set_option maxRecDepth 65536 in
set_option maxHeartbeats 40000000 in
theorem rmadd1 (l : Launch) (Z : State) (aZ : Array Value) (hw : ∀ d ∈ tables_1, d.before aZ Z = true) (ws : List Jvm.Cond) (g0 : Addr) (x0 : Addr) (u1 : Value) (u2 : Value) (u3 : Value) (u4 : Value) (y0 : Addr) (u5 : Value) (u6 : Value) (u7 : Value) (h0 : Heap) (n0 : Nat) (Z0 : n0 ≤ h0.size) (E_0 : Exa Z h0 g0 "com/example/steward/steward/runtime/Group") (E_1 : Exa Z h0 x0 "com/example/steward/steward/runtime/Agent") (F_2 : Fld Z h0 x0 "com/example/steward/steward/runtime/Agent" "group" "Lcom/example/steward/steward/runtime/Group;" u1) (F_3 : Fld Z h0 x0 "com/example/steward/steward/runtime/Agent" "ahead" "Lcom/example/steward/steward/runtime/Agent;" u2) (F_4 : Fld Z h0 x0 "com/example/steward/steward/runtime/Agent" "behind" "Lcom/example/steward/steward/runtime/Agent;" u3) (F_5 : Fld Z h0 g0 "com/example/steward/steward/runtime/Group" "first" "Lcom/example/steward/steward/runtime/Agent;" u4) (F_6 : Fld Z h0 g0 "com/example/steward/steward/runtime/Group" "last" "Lcom/example/steward/steward/runtime/Agent;" (.ref y0)) (E_7 : Exa Z h0 y0 "com/example/steward/steward/runtime/Agent") (F_8 : Fld Z h0 y0 "com/example/steward/steward/runtime/Agent" "behind" "Lcom/example/steward/steward/runtime/Agent;" u5) (F_9 : Fld Z h0 y0 "com/example/steward/steward/runtime/Agent" "group" "Lcom/example/steward/steward/runtime/Group;" u6) (F_10 : Fld Z h0 y0 "com/example/steward/steward/runtime/Agent" "ahead" "Lcom/example/steward/steward/runtime/Agent;" u7) (ne_11 : x0 ≠ y0) (g_12 : n0 ≤ g0) (g_13 : n0 ≤ x0) (g_14 : n0 ≤ y0) :
    MetFree l (⟨"com/example/steward/steward/runtime/Group", "add", "(Lcom/example/steward/steward/runtime/Agent;)V"⟩ : MethodName) (head1 (Jvm.Cond.code (⟨"com/example/steward/steward/runtime/Group", "add", "(Lcom/example/steward/steward/runtime/Agent;)V"⟩ : MethodName) prog_44_method_4_code 2 none :: ws) ({ frames := 0, cells := 0, slots := 0, locals := 0 } : Room)) (fun a U => a = #[(.ref g0), (.ref x0)] ∧ Z.Warmed39 U.vm ∧ U.heap = h0) (fun _ _ _ _ _ => True) (fun _ U o U' => ∃ v L, o = .returned v ∧ Qadd1 Z g0 x0 u1 u2 u3 u4 y0 u5 u6 u7 h0 n0 v U'.heap L ∧ FrameEnd U o U' L ({ frames := 0, cells := 0, slots := 0, locals := 0 } : Room).cells ({ frames := 0, cells := 0, slots := 0, locals := 0 } : Room).slots) := by
  refine MetFree.of_bodySF (plainFor_of_name pn_5) hisR ?_
  intro p e s m args below meth c s₁ Bd hml0 hP hK
  obtain ⟨rfl, hZ, hh⟩ := hP
  have hx := Bd.exec
  have hby := Bd.bytes
  have hml : c.maxLocals = 2 := hml0
  have hown : s.vm.findClass "com/example/steward/steward/runtime/Group" = some m.cls := findClass_of_methodNamed Bd.named
  have hnm := (name_of_methodNamed Bd.named Bd.method).1
  have hlk : meth.locks = false := BodyLoose.notSynchronized Bd
  have X0 : Stand p l e ({ frames := 0, cells := 0, slots := 0, locals := 0 } : Room) s m #[(.ref g0), (.ref x0)] below meth c s₁ [] 0 0 := Stand.of_body Bd
  have e0 : s₁.heap = h0 := by rw [← hh, Bd.state]; rfl
  have N0 := Fr.nil n0
  have sq0 : h0.size ≤ h0.size := Nat.le_refl _
  have k0 : Keep h0 h0 [g0, x0, y0] := Keep.refl _ _
  change Go p e below s ({ frames := 0, cells := 0, slots := 0, locals := 0 } : Room).cells ({ frames := 0, cells := 0, slots := 0, locals := 0 } : Room).slots (Qadd1 Z g0 x0 u1 u2 u3 u4 y0 u5 u6 u7 h0 n0) (s₁.setTop (entryFrame m #[(.ref g0), (.ref x0)] 2))
  rw [ef_add1 m g0 x0]
  show Go _ _ _ _ _ _ _ (s₁.setTop (mkF m 0 #[.val (.ref g0), .val (.ref x0)] []))
  refine Go.step (fun _ k => XS.aloadN X0.here hx rfl (hb hby d6_0) rfl rfl  k) ?_
  show Go _ _ _ _ _ _ _ (s₁.setTop (mkF m 1 #[.val (.ref g0), .val (.ref x0)] [(.ref x0)]))
  refine Go.step (fun _ k => XS.aloadN X0.here hx rfl (hb hby d6_1) rfl rfl  k) ?_
  show Go _ _ _ _ _ _ _ (s₁.setTop (mkF m 2 #[.val (.ref g0), .val (.ref x0)] [(.ref g0), (.ref x0)]))
  obtain ⟨T1, h1, X1, e1, W1, st1⟩ := putF X0 hx hZ hown (host := "") (Or.inl (hw _ (List.mem_of_getElem? (i := 54) rfl))) Via.refl e0 F_2 E_1 (Or.inl (hw _ (List.mem_of_getElem? (i := 55) rfl))) (hw _ (List.mem_of_getElem? (i := 11) rfl)) (ty := (.object "com/example/steward/steward/runtime/Group")) (v := (.ref g0)) (by decide) rfl rfl (g := (mkF m 2 #[.val (.ref g0), .val (.ref x0)] [(.ref g0), (.ref x0)])) rfl rfl (hb hby d6_2)
  refine Go.step st1 ?_
  have N1 := Fr.snoc X1 N0 g_13
  have z2 : n0 ≤ h1.size := Nat.le_trans Z0 (Keep.of_wr W1).1
  have sqz2 : h0.size ≤ h1.size := Nat.le_trans sq0 (Keep.of_wr W1).1
  have k3 : Keep h0 h1 [g0, x0, y0] := k0.wr W1 (Or.inl (List.mem_of_getElem? (i := 1) rfl))
  have f4 : Fld Z h1 x0 "com/example/steward/steward/runtime/Agent" "group" "Lcom/example/steward/steward/runtime/Group;" (.ref g0) := F_2.same W1
  show Go _ _ _ _ _ _ _ (T1.setTop (mkF m 5 #[.val (.ref g0), .val (.ref x0)] []))
  refine Go.step (fun _ k => XS.aloadN X1.here hx rfl (hb hby d6_5) rfl rfl  k) ?_
  show Go _ _ _ _ _ _ _ (T1.setTop (mkF m 6 #[.val (.ref g0), .val (.ref x0)] [(.ref x0)]))
  refine Go.step (fun _ k => XS.aloadN X1.here hx rfl (hb hby d6_6) rfl rfl  k) ?_
  show Go _ _ _ _ _ _ _ (T1.setTop (mkF m 7 #[.val (.ref g0), .val (.ref x0)] [(.ref g0), (.ref x0)]))
  have f5 : Exa Z h1 g0 "com/example/steward/steward/runtime/Group" := (E_0.wr W1)
  have f6 : Exa Z h1 x0 "com/example/steward/steward/runtime/Agent" := (E_1.wr W1)
  have ne7 : g0 ≠ x0 := ne_exa f5 f6 (by decide)
  have f8 : Fld Z h1 g0 "com/example/steward/steward/runtime/Group" "last" "Lcom/example/steward/steward/runtime/Agent;" (.ref y0) := (F_6.other W1 (Or.inl ne7))
  obtain ⟨T9, X9, e9, st9⟩ := getF X1 hx hZ hown (host := "") (Or.inl (hw _ (List.mem_of_getElem? (i := 56) rfl))) Via.refl e1 f8 (g := (mkF m 7 #[.val (.ref g0), .val (.ref x0)] [(.ref g0), (.ref x0)])) rfl rfl (hb hby d6_7)
  refine Go.step st9 ?_
  show Go _ _ _ _ _ _ _ (T9.setTop (mkF m 10 #[.val (.ref g0), .val (.ref x0)] [(.ref y0), (.ref x0)]))
  have f10 : Fld Z h1 x0 "com/example/steward/steward/runtime/Agent" "ahead" "Lcom/example/steward/steward/runtime/Agent;" u2 := (F_3.other W1 (Or.inr (slot_ne (Or.inl (hw _ (List.mem_of_getElem? (i := 59) rfl))) (Or.inl (hw _ (List.mem_of_getElem? (i := 55) rfl))) (by decide) (t := (.object "com/example/steward/steward/runtime/Agent")) (t' := (.object "com/example/steward/steward/runtime/Group")) (by decide) (by decide))))
  obtain ⟨T11, h11, X11, e11, W11, st11⟩ := putF X9 hx hZ hown (host := "") (Or.inl (hw _ (List.mem_of_getElem? (i := 58) rfl))) Via.refl e9 f10 f6 (Or.inl (hw _ (List.mem_of_getElem? (i := 59) rfl))) (hw _ (List.mem_of_getElem? (i := 11) rfl)) (ty := (.object "com/example/steward/steward/runtime/Agent")) (v := (.ref y0)) (by decide) rfl rfl (g := (mkF m 10 #[.val (.ref g0), .val (.ref x0)] [(.ref y0), (.ref x0)])) rfl rfl (hb hby d6_10)
  refine Go.step st11 ?_
  have N11 := Fr.snoc X11 N1 g_13
  have z12 : n0 ≤ h11.size := Nat.le_trans z2 (Keep.of_wr W11).1
  have sqz12 : h0.size ≤ h11.size := Nat.le_trans sqz2 (Keep.of_wr W11).1
  have k13 : Keep h0 h11 [g0, x0, y0] := k3.wr W11 (Or.inl (List.mem_of_getElem? (i := 1) rfl))
  have f14 : Fld Z h11 x0 "com/example/steward/steward/runtime/Agent" "ahead" "Lcom/example/steward/steward/runtime/Agent;" (.ref y0) := f10.same W11
  show Go _ _ _ _ _ _ _ (T11.setTop (mkF m 13 #[.val (.ref g0), .val (.ref x0)] []))
  refine Go.step (fun _ k => XS.aloadN X11.here hx rfl (hb hby d6_13) rfl rfl  k) ?_
  show Go _ _ _ _ _ _ _ (T11.setTop (mkF m 14 #[.val (.ref g0), .val (.ref x0)] [(.ref x0)]))
  refine Go.step (fun _ k => XS.aconstNull X11.here hx rfl (hb hby d6_14) k) ?_
  show Go _ _ _ _ _ _ _ (T11.setTop (mkF m 15 #[.val (.ref g0), .val (.ref x0)] [.null, (.ref x0)]))
  have f15 : Exa Z h11 x0 "com/example/steward/steward/runtime/Agent" := (f6.wr W11)
  have f16 : Fld Z h11 x0 "com/example/steward/steward/runtime/Agent" "behind" "Lcom/example/steward/steward/runtime/Agent;" u3 := ((F_4.other W1 (Or.inr (slot_ne (Or.inl (hw _ (List.mem_of_getElem? (i := 61) rfl))) (Or.inl (hw _ (List.mem_of_getElem? (i := 55) rfl))) (by decide) (t := (.object "com/example/steward/steward/runtime/Agent")) (t' := (.object "com/example/steward/steward/runtime/Group")) (by decide) (by decide)))).other W11 (Or.inr (slot_ne (Or.inl (hw _ (List.mem_of_getElem? (i := 61) rfl))) (Or.inl (hw _ (List.mem_of_getElem? (i := 59) rfl))) (by decide) (t := (.object "com/example/steward/steward/runtime/Agent")) (t' := (.object "com/example/steward/steward/runtime/Agent")) (by decide) (by decide))))
  obtain ⟨T17, h17, X17, e17, W17, st17⟩ := putF X11 hx hZ hown (host := "") (Or.inl (hw _ (List.mem_of_getElem? (i := 60) rfl))) Via.refl e11 f16 f15 (Or.inl (hw _ (List.mem_of_getElem? (i := 61) rfl))) (hw _ (List.mem_of_getElem? (i := 11) rfl)) (ty := (.object "com/example/steward/steward/runtime/Agent")) (v := .null) (by decide) rfl rfl (g := (mkF m 15 #[.val (.ref g0), .val (.ref x0)] [.null, (.ref x0)])) rfl rfl (hb hby d6_15)
  refine Go.step st17 ?_
  have N17 := Fr.snoc X17 N11 g_13
  have z18 : n0 ≤ h17.size := Nat.le_trans z12 (Keep.of_wr W17).1
  have sqz18 : h0.size ≤ h17.size := Nat.le_trans sqz12 (Keep.of_wr W17).1
  have k19 : Keep h0 h17 [g0, x0, y0] := k13.wr W17 (Or.inl (List.mem_of_getElem? (i := 1) rfl))
  have f20 : Fld Z h17 x0 "com/example/steward/steward/runtime/Agent" "behind" "Lcom/example/steward/steward/runtime/Agent;" .null := f16.same W17
  show Go _ _ _ _ _ _ _ (T17.setTop (mkF m 18 #[.val (.ref g0), .val (.ref x0)] []))
  refine Go.step (fun _ k => XS.aloadN X17.here hx rfl (hb hby d6_18) rfl rfl  k) ?_
  show Go _ _ _ _ _ _ _ (T17.setTop (mkF m 19 #[.val (.ref g0), .val (.ref x0)] [(.ref g0)]))
  have f21 : Fld Z h17 g0 "com/example/steward/steward/runtime/Group" "last" "Lcom/example/steward/steward/runtime/Agent;" (.ref y0) := ((f8.other W11 (Or.inl ne7)).other W17 (Or.inl ne7))
  obtain ⟨T22, X22, e22, st22⟩ := getF X17 hx hZ hown (host := "") (Or.inl (hw _ (List.mem_of_getElem? (i := 56) rfl))) Via.refl e17 f21 (g := (mkF m 19 #[.val (.ref g0), .val (.ref x0)] [(.ref g0)])) rfl rfl (hb hby d6_19)
  refine Go.step st22 ?_
  show Go _ _ _ _ _ _ _ (T22.setTop (mkF m 22 #[.val (.ref g0), .val (.ref x0)] [(.ref y0)]))
  refine Go.step (fun _ k => XS.ifnonnullYes X22.here hx rfl (pc0 := 22) (pc' := 33) rfl (hb hby d6_22) rfl (by decide) (by decide) k) ?_
  show Go _ _ _ _ _ _ _ (T22.setTop (mkF m 33 #[.val (.ref g0), .val (.ref x0)] []))
  refine Go.step (fun _ k => XS.aloadN X22.here hx rfl (hb hby d6_33) rfl rfl  k) ?_
  show Go _ _ _ _ _ _ _ (T22.setTop (mkF m 34 #[.val (.ref g0), .val (.ref x0)] [(.ref g0)]))
  obtain ⟨T23, X23, e23, st23⟩ := getF X22 hx hZ hown (host := "") (Or.inl (hw _ (List.mem_of_getElem? (i := 56) rfl))) Via.refl e22 f21 (g := (mkF m 34 #[.val (.ref g0), .val (.ref x0)] [(.ref g0)])) rfl rfl (hb hby d6_34)
  refine Go.step st23 ?_
  show Go _ _ _ _ _ _ _ (T23.setTop (mkF m 37 #[.val (.ref g0), .val (.ref x0)] [(.ref y0)]))
  refine Go.step (fun _ k => XS.aloadN X23.here hx rfl (hb hby d6_37) rfl rfl  k) ?_
  show Go _ _ _ _ _ _ _ (T23.setTop (mkF m 38 #[.val (.ref g0), .val (.ref x0)] [(.ref x0), (.ref y0)]))
  have f24 : Exa Z h17 y0 "com/example/steward/steward/runtime/Agent" := (((E_7.wr W1).wr W11).wr W17)
  have f25 : Fld Z h17 y0 "com/example/steward/steward/runtime/Agent" "behind" "Lcom/example/steward/steward/runtime/Agent;" u5 := (((F_8.other W1 (Or.inl (Ne.symm ne_11))).other W11 (Or.inl (Ne.symm ne_11))).other W17 (Or.inl (Ne.symm ne_11)))
  obtain ⟨T26, h26, X26, e26, W26, st26⟩ := putF X23 hx hZ hown (host := "") (Or.inl (hw _ (List.mem_of_getElem? (i := 60) rfl))) Via.refl e23 f25 f24 (Or.inl (hw _ (List.mem_of_getElem? (i := 61) rfl))) (hw _ (List.mem_of_getElem? (i := 11) rfl)) (ty := (.object "com/example/steward/steward/runtime/Agent")) (v := (.ref x0)) (by decide) rfl rfl (g := (mkF m 38 #[.val (.ref g0), .val (.ref x0)] [(.ref x0), (.ref y0)])) rfl rfl (hb hby d6_38)
  refine Go.step st26 ?_
  have N26 := Fr.snoc X26 N17 g_14
  have z27 : n0 ≤ h26.size := Nat.le_trans z18 (Keep.of_wr W26).1
  have sqz27 : h0.size ≤ h26.size := Nat.le_trans sqz18 (Keep.of_wr W26).1
  have k28 : Keep h0 h26 [g0, x0, y0] := k19.wr W26 (Or.inl (List.mem_of_getElem? (i := 2) rfl))
  have f29 : Fld Z h26 y0 "com/example/steward/steward/runtime/Agent" "behind" "Lcom/example/steward/steward/runtime/Agent;" (.ref x0) := f25.same W26
  show Go _ _ _ _ _ _ _ (T26.setTop (mkF m 41 #[.val (.ref g0), .val (.ref x0)] []))
  refine Go.step (fun _ k => XS.aloadN X26.here hx rfl (hb hby d6_41) rfl rfl  k) ?_
  show Go _ _ _ _ _ _ _ (T26.setTop (mkF m 42 #[.val (.ref g0), .val (.ref x0)] [(.ref g0)]))
  refine Go.step (fun _ k => XS.aloadN X26.here hx rfl (hb hby d6_42) rfl rfl  k) ?_
  show Go _ _ _ _ _ _ _ (T26.setTop (mkF m 43 #[.val (.ref g0), .val (.ref x0)] [(.ref x0), (.ref g0)]))
  have f30 : Exa Z h26 g0 "com/example/steward/steward/runtime/Group" := (((f5.wr W11).wr W17).wr W26)
  have f31 : Exa Z h26 y0 "com/example/steward/steward/runtime/Agent" := (f24.wr W26)
  have ne32 : g0 ≠ y0 := ne_exa f30 f31 (by decide)
  have f33 : Fld Z h26 g0 "com/example/steward/steward/runtime/Group" "last" "Lcom/example/steward/steward/runtime/Agent;" (.ref y0) := (f21.other W26 (Or.inl ne32))
  obtain ⟨T34, h34, X34, e34, W34, st34⟩ := putF X26 hx hZ hown (host := "") (Or.inl (hw _ (List.mem_of_getElem? (i := 56) rfl))) Via.refl e26 f33 f30 (Or.inl (hw _ (List.mem_of_getElem? (i := 57) rfl))) (hw _ (List.mem_of_getElem? (i := 2) rfl)) (ty := (.object "com/example/steward/steward/runtime/Agent")) (v := (.ref x0)) (by decide) rfl rfl (g := (mkF m 43 #[.val (.ref g0), .val (.ref x0)] [(.ref x0), (.ref g0)])) rfl rfl (hb hby d6_43)
  refine Go.step st34 ?_
  have N34 := Fr.snoc X34 N26 g_12
  have z35 : n0 ≤ h34.size := Nat.le_trans z27 (Keep.of_wr W34).1
  have sqz35 : h0.size ≤ h34.size := Nat.le_trans sqz27 (Keep.of_wr W34).1
  have k36 : Keep h0 h34 [g0, x0, y0] := k28.wr W34 (Or.inl (List.mem_of_getElem? (i := 0) rfl))
  have f37 : Fld Z h34 g0 "com/example/steward/steward/runtime/Group" "last" "Lcom/example/steward/steward/runtime/Agent;" (.ref x0) := f33.same W34
  show Go _ _ _ _ _ _ _ (T34.setTop (mkF m 46 #[.val (.ref g0), .val (.ref x0)] []))
  have f38 : Exa Z h34 g0 "com/example/steward/steward/runtime/Group" := (f30.wr W34)
  have f39 : Exa Z h34 x0 "com/example/steward/steward/runtime/Agent" := (((f15.wr W17).wr W26).wr W34)
  have f40 : Exa Z h34 y0 "com/example/steward/steward/runtime/Agent" := (f31.wr W34)
  have f41 : Fld Z h34 x0 "com/example/steward/steward/runtime/Agent" "group" "Lcom/example/steward/steward/runtime/Group;" (.ref g0) := ((((f4.other W11 (Or.inr (slot_ne (Or.inl (hw _ (List.mem_of_getElem? (i := 55) rfl))) (Or.inl (hw _ (List.mem_of_getElem? (i := 59) rfl))) (by decide) (t := (.object "com/example/steward/steward/runtime/Group")) (t' := (.object "com/example/steward/steward/runtime/Agent")) (by decide) (by decide)))).other W17 (Or.inr (slot_ne (Or.inl (hw _ (List.mem_of_getElem? (i := 55) rfl))) (Or.inl (hw _ (List.mem_of_getElem? (i := 61) rfl))) (by decide) (t := (.object "com/example/steward/steward/runtime/Group")) (t' := (.object "com/example/steward/steward/runtime/Agent")) (by decide) (by decide)))).other W26 (Or.inl ne_11)).other W34 (Or.inl (Ne.symm ne7)))
  have f42 : Fld Z h34 x0 "com/example/steward/steward/runtime/Agent" "ahead" "Lcom/example/steward/steward/runtime/Agent;" (.ref y0) := (((f14.other W17 (Or.inr (slot_ne (Or.inl (hw _ (List.mem_of_getElem? (i := 59) rfl))) (Or.inl (hw _ (List.mem_of_getElem? (i := 61) rfl))) (by decide) (t := (.object "com/example/steward/steward/runtime/Agent")) (t' := (.object "com/example/steward/steward/runtime/Agent")) (by decide) (by decide)))).other W26 (Or.inl ne_11)).other W34 (Or.inl (Ne.symm ne7)))
  have f43 : Fld Z h34 x0 "com/example/steward/steward/runtime/Agent" "behind" "Lcom/example/steward/steward/runtime/Agent;" .null := ((f20.other W26 (Or.inl ne_11)).other W34 (Or.inl (Ne.symm ne7)))
  have f44 : Fld Z h34 y0 "com/example/steward/steward/runtime/Agent" "behind" "Lcom/example/steward/steward/runtime/Agent;" (.ref x0) := (f29.other W34 (Or.inl (Ne.symm ne32)))
  have f45 : Fld Z h34 y0 "com/example/steward/steward/runtime/Agent" "group" "Lcom/example/steward/steward/runtime/Group;" u6 := (((((F_9.other W1 (Or.inl (Ne.symm ne_11))).other W11 (Or.inl (Ne.symm ne_11))).other W17 (Or.inl (Ne.symm ne_11))).other W26 (Or.inr (slot_ne (Or.inl (hw _ (List.mem_of_getElem? (i := 55) rfl))) (Or.inl (hw _ (List.mem_of_getElem? (i := 61) rfl))) (by decide) (t := (.object "com/example/steward/steward/runtime/Group")) (t' := (.object "com/example/steward/steward/runtime/Agent")) (by decide) (by decide)))).other W34 (Or.inl (Ne.symm ne32)))
  have f46 : Fld Z h34 y0 "com/example/steward/steward/runtime/Agent" "ahead" "Lcom/example/steward/steward/runtime/Agent;" u7 := (((((F_10.other W1 (Or.inl (Ne.symm ne_11))).other W11 (Or.inl (Ne.symm ne_11))).other W17 (Or.inl (Ne.symm ne_11))).other W26 (Or.inr (slot_ne (Or.inl (hw _ (List.mem_of_getElem? (i := 59) rfl))) (Or.inl (hw _ (List.mem_of_getElem? (i := 61) rfl))) (by decide) (t := (.object "com/example/steward/steward/runtime/Agent")) (t' := (.object "com/example/steward/steward/runtime/Agent")) (by decide) (by decide)))).other W34 (Or.inl (Ne.symm ne32)))
  have f47 : Fld Z h34 g0 "com/example/steward/steward/runtime/Group" "first" "Lcom/example/steward/steward/runtime/Agent;" u4 := (((((F_5.other W1 (Or.inl ne7)).other W11 (Or.inl ne7)).other W17 (Or.inl ne7)).other W26 (Or.inl ne32)).other W34 (Or.inr (slot_ne (Or.inl (hw _ (List.mem_of_getElem? (i := 63) rfl))) (Or.inl (hw _ (List.mem_of_getElem? (i := 57) rfl))) (by decide) (t := (.object "com/example/steward/steward/runtime/Agent")) (t' := (.object "com/example/steward/steward/runtime/Agent")) (by decide) (by decide))))
  refine Go.retV X34 hx Bd.returns hlk (hb hby d6_46) ?_ (by decide) (by decide)
  rw [e34]
  exact ⟨(rfl), N34, k36, f38, f39, f40, f41, f42, f43, f44, f45, f46, f47, f37⟩
theorem d7_0 : decode prog_44_method_5_code 0 = .ok (.aload_n 1, 1) := by decide +kernel
theorem d7_1 : decode prog_44_method_5_code 1 = .ok (.getfield 22, 3) := by decide +kernel
theorem d7_4 : decode prog_44_method_5_code 4 = .ok (.ifnonnull 14, 3) := by decide +kernel
theorem d7_7 : decode prog_44_method_5_code 7 = .ok (.aload_n 0, 1) := by decide +kernel
theorem d7_8 : decode prog_44_method_5_code 8 = .ok (.aload_n 1, 1) := by decide +kernel
theorem d7_9 : decode prog_44_method_5_code 9 = .ok (.getfield 25, 3) := by decide +kernel
theorem d7_12 : decode prog_44_method_5_code 12 = .ok (.putfield 7, 3) := by decide +kernel
theorem d7_15 : decode prog_44_method_5_code 15 = .ok (.goto 14, 3) := by decide +kernel
theorem d7_29 : decode prog_44_method_5_code 29 = .ok (.aload_n 1, 1) := by decide +kernel
theorem d7_30 : decode prog_44_method_5_code 30 = .ok (.getfield 25, 3) := by decide +kernel
theorem d7_33 : decode prog_44_method_5_code 33 = .ok (.ifnonnull 14, 3) := by decide +kernel
theorem d7_36 : decode prog_44_method_5_code 36 = .ok (.aload_n 0, 1) := by decide +kernel
theorem d7_37 : decode prog_44_method_5_code 37 = .ok (.aload_n 1, 1) := by decide +kernel
theorem d7_38 : decode prog_44_method_5_code 38 = .ok (.getfield 22, 3) := by decide +kernel
theorem d7_41 : decode prog_44_method_5_code 41 = .ok (.putfield 19, 3) := by decide +kernel
theorem d7_44 : decode prog_44_method_5_code 44 = .ok (.goto 14, 3) := by decide +kernel
theorem d7_58 : decode prog_44_method_5_code 58 = .ok (.aload_n 1, 1) := by decide +kernel
theorem d7_59 : decode prog_44_method_5_code 59 = .ok (.aconst_null, 1) := by decide +kernel
theorem d7_60 : decode prog_44_method_5_code 60 = .ok (.putfield 13, 3) := by decide +kernel
theorem d7_63 : decode prog_44_method_5_code 63 = .ok (.aload_n 1, 1) := by decide +kernel
theorem d7_64 : decode prog_44_method_5_code 64 = .ok (.aconst_null, 1) := by decide +kernel
theorem d7_65 : decode prog_44_method_5_code 65 = .ok (.putfield 22, 3) := by decide +kernel
theorem d7_68 : decode prog_44_method_5_code 68 = .ok (.aload_n 1, 1) := by decide +kernel
theorem d7_69 : decode prog_44_method_5_code 69 = .ok (.aconst_null, 1) := by decide +kernel
theorem d7_70 : decode prog_44_method_5_code 70 = .ok (.putfield 25, 3) := by decide +kernel
theorem d7_73 : decode prog_44_method_5_code 73 = .ok (.return_, 1) := by decide +kernel
theorem ef_rem00 (m : MethodId) (g0 : Addr) (x0 : Addr) : entryFrame m #[(.ref g0), (.ref x0)] 2 = mkF m 0 #[.val (.ref g0), .val (.ref x0)] [] := by first | (simp [entryFrame, mkF, argsToLocals, Value.category]; done) | rfl
def Qrem00 (Z : State) (g0 : Addr) (x0 : Addr) (u1 : Value) (u4 : Value) (u5 : Value) (h0 : Heap) (n0 : Nat) (v : Option Value) (h : Heap) (L : List Loc) : Prop := (v = none) ∧ (Fr n0 L) ∧ (Keep h0 h [g0, x0]) ∧ (Exa Z h g0 "com/example/steward/steward/runtime/Group") ∧ (Exa Z h x0 "com/example/steward/steward/runtime/Agent") ∧ (Fld Z h x0 "com/example/steward/steward/runtime/Agent" "group" "Lcom/example/steward/steward/runtime/Group;" .null) ∧ (Fld Z h x0 "com/example/steward/steward/runtime/Agent" "ahead" "Lcom/example/steward/steward/runtime/Agent;" .null) ∧ (Fld Z h x0 "com/example/steward/steward/runtime/Agent" "behind" "Lcom/example/steward/steward/runtime/Agent;" .null) ∧ (Fld Z h g0 "com/example/steward/steward/runtime/Group" "first" "Lcom/example/steward/steward/runtime/Agent;" .null) ∧ (Fld Z h g0 "com/example/steward/steward/runtime/Group" "last" "Lcom/example/steward/steward/runtime/Agent;" .null)
set_option maxRecDepth 65536 in
set_option maxHeartbeats 40000000 in
theorem rmrem00 (l : Launch) (Z : State) (aZ : Array Value) (hw : ∀ d ∈ tables_1, d.before aZ Z = true) (ws : List Jvm.Cond) (g0 : Addr) (x0 : Addr) (u1 : Value) (u4 : Value) (u5 : Value) (h0 : Heap) (n0 : Nat) (Z0 : n0 ≤ h0.size) (E_0 : Exa Z h0 g0 "com/example/steward/steward/runtime/Group") (E_1 : Exa Z h0 x0 "com/example/steward/steward/runtime/Agent") (F_2 : Fld Z h0 x0 "com/example/steward/steward/runtime/Agent" "group" "Lcom/example/steward/steward/runtime/Group;" u1) (F_3 : Fld Z h0 g0 "com/example/steward/steward/runtime/Group" "first" "Lcom/example/steward/steward/runtime/Agent;" u4) (F_4 : Fld Z h0 g0 "com/example/steward/steward/runtime/Group" "last" "Lcom/example/steward/steward/runtime/Agent;" u5) (F_5 : Fld Z h0 x0 "com/example/steward/steward/runtime/Agent" "ahead" "Lcom/example/steward/steward/runtime/Agent;" .null) (F_6 : Fld Z h0 x0 "com/example/steward/steward/runtime/Agent" "behind" "Lcom/example/steward/steward/runtime/Agent;" .null) (g_7 : n0 ≤ g0) (g_8 : n0 ≤ x0) :
    MetFree l (⟨"com/example/steward/steward/runtime/Group", "remove", "(Lcom/example/steward/steward/runtime/Agent;)V"⟩ : MethodName) (head1 (Jvm.Cond.code (⟨"com/example/steward/steward/runtime/Group", "remove", "(Lcom/example/steward/steward/runtime/Agent;)V"⟩ : MethodName) prog_44_method_5_code 2 none :: ws) ({ frames := 0, cells := 0, slots := 0, locals := 0 } : Room)) (fun a U => a = #[(.ref g0), (.ref x0)] ∧ Z.Warmed39 U.vm ∧ U.heap = h0) (fun _ _ _ _ _ => True) (fun _ U o U' => ∃ v L, o = .returned v ∧ Qrem00 Z g0 x0 u1 u4 u5 h0 n0 v U'.heap L ∧ FrameEnd U o U' L ({ frames := 0, cells := 0, slots := 0, locals := 0 } : Room).cells ({ frames := 0, cells := 0, slots := 0, locals := 0 } : Room).slots) := by
  refine MetFree.of_bodySF (plainFor_of_name pn_5) hisR ?_
  intro p e s m args below meth c s₁ Bd hml0 hP hK
  obtain ⟨rfl, hZ, hh⟩ := hP
  have hx := Bd.exec
  have hby := Bd.bytes
  have hml : c.maxLocals = 2 := hml0
  have hown : s.vm.findClass "com/example/steward/steward/runtime/Group" = some m.cls := findClass_of_methodNamed Bd.named
  have hnm := (name_of_methodNamed Bd.named Bd.method).1
  have hlk : meth.locks = false := BodyLoose.notSynchronized Bd
  have X0 : Stand p l e ({ frames := 0, cells := 0, slots := 0, locals := 0 } : Room) s m #[(.ref g0), (.ref x0)] below meth c s₁ [] 0 0 := Stand.of_body Bd
  have e0 : s₁.heap = h0 := by rw [← hh, Bd.state]; rfl
  have N0 := Fr.nil n0
  have sq0 : h0.size ≤ h0.size := Nat.le_refl _
  have k0 : Keep h0 h0 [g0, x0] := Keep.refl _ _
  change Go p e below s ({ frames := 0, cells := 0, slots := 0, locals := 0 } : Room).cells ({ frames := 0, cells := 0, slots := 0, locals := 0 } : Room).slots (Qrem00 Z g0 x0 u1 u4 u5 h0 n0) (s₁.setTop (entryFrame m #[(.ref g0), (.ref x0)] 2))
  rw [ef_rem00 m g0 x0]
  show Go _ _ _ _ _ _ _ (s₁.setTop (mkF m 0 #[.val (.ref g0), .val (.ref x0)] []))
  refine Go.step (fun _ k => XS.aloadN X0.here hx rfl (hb hby d7_0) rfl rfl  k) ?_
  show Go _ _ _ _ _ _ _ (s₁.setTop (mkF m 1 #[.val (.ref g0), .val (.ref x0)] [(.ref x0)]))
  obtain ⟨T1, X1, e1, st1⟩ := getF X0 hx hZ hown (host := "") (Or.inl (hw _ (List.mem_of_getElem? (i := 58) rfl))) Via.refl e0 F_5 (g := (mkF m 1 #[.val (.ref g0), .val (.ref x0)] [(.ref x0)])) rfl rfl (hb hby d7_1)
  refine Go.step st1 ?_
  show Go _ _ _ _ _ _ _ (T1.setTop (mkF m 4 #[.val (.ref g0), .val (.ref x0)] [.null]))
  refine Go.step (fun _ k => XS.ifnonnullNo X1.here hx rfl (hb hby d7_4) rfl k) ?_
  show Go _ _ _ _ _ _ _ (T1.setTop (mkF m 7 #[.val (.ref g0), .val (.ref x0)] []))
  refine Go.step (fun _ k => XS.aloadN X1.here hx rfl (hb hby d7_7) rfl rfl  k) ?_
  show Go _ _ _ _ _ _ _ (T1.setTop (mkF m 8 #[.val (.ref g0), .val (.ref x0)] [(.ref g0)]))
  refine Go.step (fun _ k => XS.aloadN X1.here hx rfl (hb hby d7_8) rfl rfl  k) ?_
  show Go _ _ _ _ _ _ _ (T1.setTop (mkF m 9 #[.val (.ref g0), .val (.ref x0)] [(.ref x0), (.ref g0)]))
  obtain ⟨T2, X2, e2, st2⟩ := getF X1 hx hZ hown (host := "") (Or.inl (hw _ (List.mem_of_getElem? (i := 60) rfl))) Via.refl e1 F_6 (g := (mkF m 9 #[.val (.ref g0), .val (.ref x0)] [(.ref x0), (.ref g0)])) rfl rfl (hb hby d7_9)
  refine Go.step st2 ?_
  show Go _ _ _ _ _ _ _ (T2.setTop (mkF m 12 #[.val (.ref g0), .val (.ref x0)] [.null, (.ref g0)]))
  obtain ⟨T3, h3, X3, e3, W3, st3⟩ := putF X2 hx hZ hown (host := "") (Or.inl (hw _ (List.mem_of_getElem? (i := 62) rfl))) Via.refl e2 F_3 E_0 (Or.inl (hw _ (List.mem_of_getElem? (i := 63) rfl))) (hw _ (List.mem_of_getElem? (i := 2) rfl)) (ty := (.object "com/example/steward/steward/runtime/Agent")) (v := .null) (by decide) rfl rfl (g := (mkF m 12 #[.val (.ref g0), .val (.ref x0)] [.null, (.ref g0)])) rfl rfl (hb hby d7_12)
  refine Go.step st3 ?_
  have N3 := Fr.snoc X3 N0 g_7
  have z4 : n0 ≤ h3.size := Nat.le_trans Z0 (Keep.of_wr W3).1
  have sqz4 : h0.size ≤ h3.size := Nat.le_trans sq0 (Keep.of_wr W3).1
  have k5 : Keep h0 h3 [g0, x0] := k0.wr W3 (Or.inl (List.mem_of_getElem? (i := 0) rfl))
  have f6 : Fld Z h3 g0 "com/example/steward/steward/runtime/Group" "first" "Lcom/example/steward/steward/runtime/Agent;" .null := F_3.same W3
  show Go _ _ _ _ _ _ _ (T3.setTop (mkF m 15 #[.val (.ref g0), .val (.ref x0)] []))
  refine Go.step (fun _ k => XS.goto X3.here hx rfl (pc0 := 15) (pc' := 29) rfl (hb hby d7_15) (by decide) (by decide) k) ?_
  show Go _ _ _ _ _ _ _ (T3.setTop (mkF m 29 #[.val (.ref g0), .val (.ref x0)] []))
  refine Go.step (fun _ k => XS.aloadN X3.here hx rfl (hb hby d7_29) rfl rfl  k) ?_
  show Go _ _ _ _ _ _ _ (T3.setTop (mkF m 30 #[.val (.ref g0), .val (.ref x0)] [(.ref x0)]))
  have f7 : Exa Z h3 x0 "com/example/steward/steward/runtime/Agent" := (E_1.wr W3)
  have f8 : Exa Z h3 g0 "com/example/steward/steward/runtime/Group" := (E_0.wr W3)
  have ne9 : x0 ≠ g0 := ne_exa f7 f8 (by decide)
  have f10 : Fld Z h3 x0 "com/example/steward/steward/runtime/Agent" "behind" "Lcom/example/steward/steward/runtime/Agent;" .null := (F_6.other W3 (Or.inl ne9))
  obtain ⟨T11, X11, e11, st11⟩ := getF X3 hx hZ hown (host := "") (Or.inl (hw _ (List.mem_of_getElem? (i := 60) rfl))) Via.refl e3 f10 (g := (mkF m 30 #[.val (.ref g0), .val (.ref x0)] [(.ref x0)])) rfl rfl (hb hby d7_30)
  refine Go.step st11 ?_
  show Go _ _ _ _ _ _ _ (T11.setTop (mkF m 33 #[.val (.ref g0), .val (.ref x0)] [.null]))
  refine Go.step (fun _ k => XS.ifnonnullNo X11.here hx rfl (hb hby d7_33) rfl k) ?_
  show Go _ _ _ _ _ _ _ (T11.setTop (mkF m 36 #[.val (.ref g0), .val (.ref x0)] []))
  refine Go.step (fun _ k => XS.aloadN X11.here hx rfl (hb hby d7_36) rfl rfl  k) ?_
  show Go _ _ _ _ _ _ _ (T11.setTop (mkF m 37 #[.val (.ref g0), .val (.ref x0)] [(.ref g0)]))
  refine Go.step (fun _ k => XS.aloadN X11.here hx rfl (hb hby d7_37) rfl rfl  k) ?_
  show Go _ _ _ _ _ _ _ (T11.setTop (mkF m 38 #[.val (.ref g0), .val (.ref x0)] [(.ref x0), (.ref g0)]))
  have f12 : Fld Z h3 x0 "com/example/steward/steward/runtime/Agent" "ahead" "Lcom/example/steward/steward/runtime/Agent;" .null := (F_5.other W3 (Or.inl ne9))
  obtain ⟨T13, X13, e13, st13⟩ := getF X11 hx hZ hown (host := "") (Or.inl (hw _ (List.mem_of_getElem? (i := 58) rfl))) Via.refl e11 f12 (g := (mkF m 38 #[.val (.ref g0), .val (.ref x0)] [(.ref x0), (.ref g0)])) rfl rfl (hb hby d7_38)
  refine Go.step st13 ?_
  show Go _ _ _ _ _ _ _ (T13.setTop (mkF m 41 #[.val (.ref g0), .val (.ref x0)] [.null, (.ref g0)]))
  have f14 : Fld Z h3 g0 "com/example/steward/steward/runtime/Group" "last" "Lcom/example/steward/steward/runtime/Agent;" u5 := (F_4.other W3 (Or.inr (slot_ne (Or.inl (hw _ (List.mem_of_getElem? (i := 57) rfl))) (Or.inl (hw _ (List.mem_of_getElem? (i := 63) rfl))) (by decide) (t := (.object "com/example/steward/steward/runtime/Agent")) (t' := (.object "com/example/steward/steward/runtime/Agent")) (by decide) (by decide))))
  obtain ⟨T15, h15, X15, e15, W15, st15⟩ := putF X13 hx hZ hown (host := "") (Or.inl (hw _ (List.mem_of_getElem? (i := 56) rfl))) Via.refl e13 f14 f8 (Or.inl (hw _ (List.mem_of_getElem? (i := 57) rfl))) (hw _ (List.mem_of_getElem? (i := 2) rfl)) (ty := (.object "com/example/steward/steward/runtime/Agent")) (v := .null) (by decide) rfl rfl (g := (mkF m 41 #[.val (.ref g0), .val (.ref x0)] [.null, (.ref g0)])) rfl rfl (hb hby d7_41)
  refine Go.step st15 ?_
  have N15 := Fr.snoc X15 N3 g_7
  have z16 : n0 ≤ h15.size := Nat.le_trans z4 (Keep.of_wr W15).1
  have sqz16 : h0.size ≤ h15.size := Nat.le_trans sqz4 (Keep.of_wr W15).1
  have k17 : Keep h0 h15 [g0, x0] := k5.wr W15 (Or.inl (List.mem_of_getElem? (i := 0) rfl))
  have f18 : Fld Z h15 g0 "com/example/steward/steward/runtime/Group" "last" "Lcom/example/steward/steward/runtime/Agent;" .null := f14.same W15
  show Go _ _ _ _ _ _ _ (T15.setTop (mkF m 44 #[.val (.ref g0), .val (.ref x0)] []))
  refine Go.step (fun _ k => XS.goto X15.here hx rfl (pc0 := 44) (pc' := 58) rfl (hb hby d7_44) (by decide) (by decide) k) ?_
  show Go _ _ _ _ _ _ _ (T15.setTop (mkF m 58 #[.val (.ref g0), .val (.ref x0)] []))
  refine Go.step (fun _ k => XS.aloadN X15.here hx rfl (hb hby d7_58) rfl rfl  k) ?_
  show Go _ _ _ _ _ _ _ (T15.setTop (mkF m 59 #[.val (.ref g0), .val (.ref x0)] [(.ref x0)]))
  refine Go.step (fun _ k => XS.aconstNull X15.here hx rfl (hb hby d7_59) k) ?_
  show Go _ _ _ _ _ _ _ (T15.setTop (mkF m 60 #[.val (.ref g0), .val (.ref x0)] [.null, (.ref x0)]))
  have f19 : Exa Z h15 x0 "com/example/steward/steward/runtime/Agent" := (f7.wr W15)
  have f20 : Fld Z h15 x0 "com/example/steward/steward/runtime/Agent" "group" "Lcom/example/steward/steward/runtime/Group;" u1 := ((F_2.other W3 (Or.inl ne9)).other W15 (Or.inl ne9))
  obtain ⟨T21, h21, X21, e21, W21, st21⟩ := putF X15 hx hZ hown (host := "") (Or.inl (hw _ (List.mem_of_getElem? (i := 54) rfl))) Via.refl e15 f20 f19 (Or.inl (hw _ (List.mem_of_getElem? (i := 55) rfl))) (hw _ (List.mem_of_getElem? (i := 11) rfl)) (ty := (.object "com/example/steward/steward/runtime/Group")) (v := .null) (by decide) rfl rfl (g := (mkF m 60 #[.val (.ref g0), .val (.ref x0)] [.null, (.ref x0)])) rfl rfl (hb hby d7_60)
  refine Go.step st21 ?_
  have N21 := Fr.snoc X21 N15 g_8
  have z22 : n0 ≤ h21.size := Nat.le_trans z16 (Keep.of_wr W21).1
  have sqz22 : h0.size ≤ h21.size := Nat.le_trans sqz16 (Keep.of_wr W21).1
  have k23 : Keep h0 h21 [g0, x0] := k17.wr W21 (Or.inl (List.mem_of_getElem? (i := 1) rfl))
  have f24 : Fld Z h21 x0 "com/example/steward/steward/runtime/Agent" "group" "Lcom/example/steward/steward/runtime/Group;" .null := f20.same W21
  show Go _ _ _ _ _ _ _ (T21.setTop (mkF m 63 #[.val (.ref g0), .val (.ref x0)] []))
  refine Go.step (fun _ k => XS.aloadN X21.here hx rfl (hb hby d7_63) rfl rfl  k) ?_
  show Go _ _ _ _ _ _ _ (T21.setTop (mkF m 64 #[.val (.ref g0), .val (.ref x0)] [(.ref x0)]))
  refine Go.step (fun _ k => XS.aconstNull X21.here hx rfl (hb hby d7_64) k) ?_
  show Go _ _ _ _ _ _ _ (T21.setTop (mkF m 65 #[.val (.ref g0), .val (.ref x0)] [.null, (.ref x0)]))
  have f25 : Exa Z h21 x0 "com/example/steward/steward/runtime/Agent" := (f19.wr W21)
  have f26 : Fld Z h21 x0 "com/example/steward/steward/runtime/Agent" "ahead" "Lcom/example/steward/steward/runtime/Agent;" .null := ((f12.other W15 (Or.inl ne9)).other W21 (Or.inr (slot_ne (Or.inl (hw _ (List.mem_of_getElem? (i := 59) rfl))) (Or.inl (hw _ (List.mem_of_getElem? (i := 55) rfl))) (by decide) (t := (.object "com/example/steward/steward/runtime/Agent")) (t' := (.object "com/example/steward/steward/runtime/Group")) (by decide) (by decide))))
  obtain ⟨T27, h27, X27, e27, W27, st27⟩ := putF X21 hx hZ hown (host := "") (Or.inl (hw _ (List.mem_of_getElem? (i := 58) rfl))) Via.refl e21 f26 f25 (Or.inl (hw _ (List.mem_of_getElem? (i := 59) rfl))) (hw _ (List.mem_of_getElem? (i := 11) rfl)) (ty := (.object "com/example/steward/steward/runtime/Agent")) (v := .null) (by decide) rfl rfl (g := (mkF m 65 #[.val (.ref g0), .val (.ref x0)] [.null, (.ref x0)])) rfl rfl (hb hby d7_65)
  refine Go.step st27 ?_
  have N27 := Fr.snoc X27 N21 g_8
  have z28 : n0 ≤ h27.size := Nat.le_trans z22 (Keep.of_wr W27).1
  have sqz28 : h0.size ≤ h27.size := Nat.le_trans sqz22 (Keep.of_wr W27).1
  have k29 : Keep h0 h27 [g0, x0] := k23.wr W27 (Or.inl (List.mem_of_getElem? (i := 1) rfl))
  have f30 : Fld Z h27 x0 "com/example/steward/steward/runtime/Agent" "ahead" "Lcom/example/steward/steward/runtime/Agent;" .null := f26.same W27
  show Go _ _ _ _ _ _ _ (T27.setTop (mkF m 68 #[.val (.ref g0), .val (.ref x0)] []))
  refine Go.step (fun _ k => XS.aloadN X27.here hx rfl (hb hby d7_68) rfl rfl  k) ?_
  show Go _ _ _ _ _ _ _ (T27.setTop (mkF m 69 #[.val (.ref g0), .val (.ref x0)] [(.ref x0)]))
  refine Go.step (fun _ k => XS.aconstNull X27.here hx rfl (hb hby d7_69) k) ?_
  show Go _ _ _ _ _ _ _ (T27.setTop (mkF m 70 #[.val (.ref g0), .val (.ref x0)] [.null, (.ref x0)]))
  have f31 : Exa Z h27 x0 "com/example/steward/steward/runtime/Agent" := (f25.wr W27)
  have f32 : Fld Z h27 x0 "com/example/steward/steward/runtime/Agent" "behind" "Lcom/example/steward/steward/runtime/Agent;" .null := (((f10.other W15 (Or.inl ne9)).other W21 (Or.inr (slot_ne (Or.inl (hw _ (List.mem_of_getElem? (i := 61) rfl))) (Or.inl (hw _ (List.mem_of_getElem? (i := 55) rfl))) (by decide) (t := (.object "com/example/steward/steward/runtime/Agent")) (t' := (.object "com/example/steward/steward/runtime/Group")) (by decide) (by decide)))).other W27 (Or.inr (slot_ne (Or.inl (hw _ (List.mem_of_getElem? (i := 61) rfl))) (Or.inl (hw _ (List.mem_of_getElem? (i := 59) rfl))) (by decide) (t := (.object "com/example/steward/steward/runtime/Agent")) (t' := (.object "com/example/steward/steward/runtime/Agent")) (by decide) (by decide))))
  obtain ⟨T33, h33, X33, e33, W33, st33⟩ := putF X27 hx hZ hown (host := "") (Or.inl (hw _ (List.mem_of_getElem? (i := 60) rfl))) Via.refl e27 f32 f31 (Or.inl (hw _ (List.mem_of_getElem? (i := 61) rfl))) (hw _ (List.mem_of_getElem? (i := 11) rfl)) (ty := (.object "com/example/steward/steward/runtime/Agent")) (v := .null) (by decide) rfl rfl (g := (mkF m 70 #[.val (.ref g0), .val (.ref x0)] [.null, (.ref x0)])) rfl rfl (hb hby d7_70)
  refine Go.step st33 ?_
  have N33 := Fr.snoc X33 N27 g_8
  have z34 : n0 ≤ h33.size := Nat.le_trans z28 (Keep.of_wr W33).1
  have sqz34 : h0.size ≤ h33.size := Nat.le_trans sqz28 (Keep.of_wr W33).1
  have k35 : Keep h0 h33 [g0, x0] := k29.wr W33 (Or.inl (List.mem_of_getElem? (i := 1) rfl))
  have f36 : Fld Z h33 x0 "com/example/steward/steward/runtime/Agent" "behind" "Lcom/example/steward/steward/runtime/Agent;" .null := f32.same W33
  show Go _ _ _ _ _ _ _ (T33.setTop (mkF m 73 #[.val (.ref g0), .val (.ref x0)] []))
  have f37 : Exa Z h33 g0 "com/example/steward/steward/runtime/Group" := ((((f8.wr W15).wr W21).wr W27).wr W33)
  have f38 : Exa Z h33 x0 "com/example/steward/steward/runtime/Agent" := (f31.wr W33)
  have f39 : Fld Z h33 x0 "com/example/steward/steward/runtime/Agent" "group" "Lcom/example/steward/steward/runtime/Group;" .null := ((f24.other W27 (Or.inr (slot_ne (Or.inl (hw _ (List.mem_of_getElem? (i := 55) rfl))) (Or.inl (hw _ (List.mem_of_getElem? (i := 59) rfl))) (by decide) (t := (.object "com/example/steward/steward/runtime/Group")) (t' := (.object "com/example/steward/steward/runtime/Agent")) (by decide) (by decide)))).other W33 (Or.inr (slot_ne (Or.inl (hw _ (List.mem_of_getElem? (i := 55) rfl))) (Or.inl (hw _ (List.mem_of_getElem? (i := 61) rfl))) (by decide) (t := (.object "com/example/steward/steward/runtime/Group")) (t' := (.object "com/example/steward/steward/runtime/Agent")) (by decide) (by decide))))
  have f40 : Fld Z h33 x0 "com/example/steward/steward/runtime/Agent" "ahead" "Lcom/example/steward/steward/runtime/Agent;" .null := (f30.other W33 (Or.inr (slot_ne (Or.inl (hw _ (List.mem_of_getElem? (i := 59) rfl))) (Or.inl (hw _ (List.mem_of_getElem? (i := 61) rfl))) (by decide) (t := (.object "com/example/steward/steward/runtime/Agent")) (t' := (.object "com/example/steward/steward/runtime/Agent")) (by decide) (by decide))))
  have f41 : Fld Z h33 g0 "com/example/steward/steward/runtime/Group" "first" "Lcom/example/steward/steward/runtime/Agent;" .null := ((((f6.other W15 (Or.inr (slot_ne (Or.inl (hw _ (List.mem_of_getElem? (i := 63) rfl))) (Or.inl (hw _ (List.mem_of_getElem? (i := 57) rfl))) (by decide) (t := (.object "com/example/steward/steward/runtime/Agent")) (t' := (.object "com/example/steward/steward/runtime/Agent")) (by decide) (by decide)))).other W21 (Or.inl (Ne.symm ne9))).other W27 (Or.inl (Ne.symm ne9))).other W33 (Or.inl (Ne.symm ne9)))
  have f42 : Fld Z h33 g0 "com/example/steward/steward/runtime/Group" "last" "Lcom/example/steward/steward/runtime/Agent;" .null := (((f18.other W21 (Or.inl (Ne.symm ne9))).other W27 (Or.inl (Ne.symm ne9))).other W33 (Or.inl (Ne.symm ne9)))
  refine Go.retV X33 hx Bd.returns hlk (hb hby d7_73) ?_ (by decide) (by decide)
  rw [e33]
  exact ⟨(rfl), N33, k35, f37, f38, f39, f40, f36, f41, f42⟩
theorem d7_47 : decode prog_44_method_5_code 47 = .ok (.aload_n 1, 1) := by decide +kernel
theorem d7_48 : decode prog_44_method_5_code 48 = .ok (.getfield 25, 3) := by decide +kernel
theorem d7_51 : decode prog_44_method_5_code 51 = .ok (.aload_n 1, 1) := by decide +kernel
theorem d7_52 : decode prog_44_method_5_code 52 = .ok (.getfield 22, 3) := by decide +kernel
theorem d7_55 : decode prog_44_method_5_code 55 = .ok (.putfield 22, 3) := by decide +kernel
theorem ef_rem01 (m : MethodId) (g0 : Addr) (x0 : Addr) : entryFrame m #[(.ref g0), (.ref x0)] 2 = mkF m 0 #[.val (.ref g0), .val (.ref x0)] [] := by first | (simp [entryFrame, mkF, argsToLocals, Value.category]; done) | rfl
def Qrem01 (Z : State) (g0 : Addr) (x0 : Addr) (u1 : Value) (u4 : Value) (u5 : Value) (z0 : Addr) (c1 : Value) (c2 : Value) (c3 : Value) (h0 : Heap) (n0 : Nat) (v : Option Value) (h : Heap) (L : List Loc) : Prop := (v = none) ∧ (Fr n0 L) ∧ (Keep h0 h [g0, x0, z0]) ∧ (Exa Z h g0 "com/example/steward/steward/runtime/Group") ∧ (Exa Z h x0 "com/example/steward/steward/runtime/Agent") ∧ (Fld Z h x0 "com/example/steward/steward/runtime/Agent" "group" "Lcom/example/steward/steward/runtime/Group;" .null) ∧ (Fld Z h x0 "com/example/steward/steward/runtime/Agent" "ahead" "Lcom/example/steward/steward/runtime/Agent;" .null) ∧ (Fld Z h x0 "com/example/steward/steward/runtime/Agent" "behind" "Lcom/example/steward/steward/runtime/Agent;" .null) ∧ (Exa Z h z0 "com/example/steward/steward/runtime/Agent") ∧ (Fld Z h z0 "com/example/steward/steward/runtime/Agent" "ahead" "Lcom/example/steward/steward/runtime/Agent;" .null) ∧ (Fld Z h z0 "com/example/steward/steward/runtime/Agent" "group" "Lcom/example/steward/steward/runtime/Group;" c2) ∧ (Fld Z h z0 "com/example/steward/steward/runtime/Agent" "behind" "Lcom/example/steward/steward/runtime/Agent;" c3) ∧ (Fld Z h g0 "com/example/steward/steward/runtime/Group" "first" "Lcom/example/steward/steward/runtime/Agent;" (.ref z0)) ∧ (Fld Z h g0 "com/example/steward/steward/runtime/Group" "last" "Lcom/example/steward/steward/runtime/Agent;" u5)
set_option maxRecDepth 65536 in
set_option maxHeartbeats 40000000 in
theorem rmrem01 (l : Launch) (Z : State) (aZ : Array Value) (hw : ∀ d ∈ tables_1, d.before aZ Z = true) (ws : List Jvm.Cond) (g0 : Addr) (x0 : Addr) (u1 : Value) (u4 : Value) (u5 : Value) (z0 : Addr) (c1 : Value) (c2 : Value) (c3 : Value) (h0 : Heap) (n0 : Nat) (Z0 : n0 ≤ h0.size) (E_0 : Exa Z h0 g0 "com/example/steward/steward/runtime/Group") (E_1 : Exa Z h0 x0 "com/example/steward/steward/runtime/Agent") (F_2 : Fld Z h0 x0 "com/example/steward/steward/runtime/Agent" "group" "Lcom/example/steward/steward/runtime/Group;" u1) (F_3 : Fld Z h0 g0 "com/example/steward/steward/runtime/Group" "first" "Lcom/example/steward/steward/runtime/Agent;" u4) (F_4 : Fld Z h0 g0 "com/example/steward/steward/runtime/Group" "last" "Lcom/example/steward/steward/runtime/Agent;" u5) (F_5 : Fld Z h0 x0 "com/example/steward/steward/runtime/Agent" "ahead" "Lcom/example/steward/steward/runtime/Agent;" .null) (F_6 : Fld Z h0 x0 "com/example/steward/steward/runtime/Agent" "behind" "Lcom/example/steward/steward/runtime/Agent;" (.ref z0)) (g_7 : n0 ≤ g0) (g_8 : n0 ≤ x0) (E_9 : Exa Z h0 z0 "com/example/steward/steward/runtime/Agent") (F_10 : Fld Z h0 z0 "com/example/steward/steward/runtime/Agent" "ahead" "Lcom/example/steward/steward/runtime/Agent;" c1) (F_11 : Fld Z h0 z0 "com/example/steward/steward/runtime/Agent" "group" "Lcom/example/steward/steward/runtime/Group;" c2) (F_12 : Fld Z h0 z0 "com/example/steward/steward/runtime/Agent" "behind" "Lcom/example/steward/steward/runtime/Agent;" c3) (ne_13 : x0 ≠ z0) (g_14 : n0 ≤ z0) :
    MetFree l (⟨"com/example/steward/steward/runtime/Group", "remove", "(Lcom/example/steward/steward/runtime/Agent;)V"⟩ : MethodName) (head1 (Jvm.Cond.code (⟨"com/example/steward/steward/runtime/Group", "remove", "(Lcom/example/steward/steward/runtime/Agent;)V"⟩ : MethodName) prog_44_method_5_code 2 none :: ws) ({ frames := 0, cells := 0, slots := 0, locals := 0 } : Room)) (fun a U => a = #[(.ref g0), (.ref x0)] ∧ Z.Warmed39 U.vm ∧ U.heap = h0) (fun _ _ _ _ _ => True) (fun _ U o U' => ∃ v L, o = .returned v ∧ Qrem01 Z g0 x0 u1 u4 u5 z0 c1 c2 c3 h0 n0 v U'.heap L ∧ FrameEnd U o U' L ({ frames := 0, cells := 0, slots := 0, locals := 0 } : Room).cells ({ frames := 0, cells := 0, slots := 0, locals := 0 } : Room).slots) := by
  refine MetFree.of_bodySF (plainFor_of_name pn_5) hisR ?_
  intro p e s m args below meth c s₁ Bd hml0 hP hK
  obtain ⟨rfl, hZ, hh⟩ := hP
  have hx := Bd.exec
  have hby := Bd.bytes
  have hml : c.maxLocals = 2 := hml0
  have hown : s.vm.findClass "com/example/steward/steward/runtime/Group" = some m.cls := findClass_of_methodNamed Bd.named
  have hnm := (name_of_methodNamed Bd.named Bd.method).1
  have hlk : meth.locks = false := BodyLoose.notSynchronized Bd
  have X0 : Stand p l e ({ frames := 0, cells := 0, slots := 0, locals := 0 } : Room) s m #[(.ref g0), (.ref x0)] below meth c s₁ [] 0 0 := Stand.of_body Bd
  have e0 : s₁.heap = h0 := by rw [← hh, Bd.state]; rfl
  have N0 := Fr.nil n0
  have sq0 : h0.size ≤ h0.size := Nat.le_refl _
  have k0 : Keep h0 h0 [g0, x0, z0] := Keep.refl _ _
  change Go p e below s ({ frames := 0, cells := 0, slots := 0, locals := 0 } : Room).cells ({ frames := 0, cells := 0, slots := 0, locals := 0 } : Room).slots (Qrem01 Z g0 x0 u1 u4 u5 z0 c1 c2 c3 h0 n0) (s₁.setTop (entryFrame m #[(.ref g0), (.ref x0)] 2))
  rw [ef_rem01 m g0 x0]
  show Go _ _ _ _ _ _ _ (s₁.setTop (mkF m 0 #[.val (.ref g0), .val (.ref x0)] []))
  refine Go.step (fun _ k => XS.aloadN X0.here hx rfl (hb hby d7_0) rfl rfl  k) ?_
  show Go _ _ _ _ _ _ _ (s₁.setTop (mkF m 1 #[.val (.ref g0), .val (.ref x0)] [(.ref x0)]))
  obtain ⟨T1, X1, e1, st1⟩ := getF X0 hx hZ hown (host := "") (Or.inl (hw _ (List.mem_of_getElem? (i := 58) rfl))) Via.refl e0 F_5 (g := (mkF m 1 #[.val (.ref g0), .val (.ref x0)] [(.ref x0)])) rfl rfl (hb hby d7_1)
  refine Go.step st1 ?_
  show Go _ _ _ _ _ _ _ (T1.setTop (mkF m 4 #[.val (.ref g0), .val (.ref x0)] [.null]))
  refine Go.step (fun _ k => XS.ifnonnullNo X1.here hx rfl (hb hby d7_4) rfl k) ?_
  show Go _ _ _ _ _ _ _ (T1.setTop (mkF m 7 #[.val (.ref g0), .val (.ref x0)] []))
  refine Go.step (fun _ k => XS.aloadN X1.here hx rfl (hb hby d7_7) rfl rfl  k) ?_
  show Go _ _ _ _ _ _ _ (T1.setTop (mkF m 8 #[.val (.ref g0), .val (.ref x0)] [(.ref g0)]))
  refine Go.step (fun _ k => XS.aloadN X1.here hx rfl (hb hby d7_8) rfl rfl  k) ?_
  show Go _ _ _ _ _ _ _ (T1.setTop (mkF m 9 #[.val (.ref g0), .val (.ref x0)] [(.ref x0), (.ref g0)]))
  obtain ⟨T2, X2, e2, st2⟩ := getF X1 hx hZ hown (host := "") (Or.inl (hw _ (List.mem_of_getElem? (i := 60) rfl))) Via.refl e1 F_6 (g := (mkF m 9 #[.val (.ref g0), .val (.ref x0)] [(.ref x0), (.ref g0)])) rfl rfl (hb hby d7_9)
  refine Go.step st2 ?_
  show Go _ _ _ _ _ _ _ (T2.setTop (mkF m 12 #[.val (.ref g0), .val (.ref x0)] [(.ref z0), (.ref g0)]))
  obtain ⟨T3, h3, X3, e3, W3, st3⟩ := putF X2 hx hZ hown (host := "") (Or.inl (hw _ (List.mem_of_getElem? (i := 62) rfl))) Via.refl e2 F_3 E_0 (Or.inl (hw _ (List.mem_of_getElem? (i := 63) rfl))) (hw _ (List.mem_of_getElem? (i := 2) rfl)) (ty := (.object "com/example/steward/steward/runtime/Agent")) (v := (.ref z0)) (by decide) rfl rfl (g := (mkF m 12 #[.val (.ref g0), .val (.ref x0)] [(.ref z0), (.ref g0)])) rfl rfl (hb hby d7_12)
  refine Go.step st3 ?_
  have N3 := Fr.snoc X3 N0 g_7
  have z4 : n0 ≤ h3.size := Nat.le_trans Z0 (Keep.of_wr W3).1
  have sqz4 : h0.size ≤ h3.size := Nat.le_trans sq0 (Keep.of_wr W3).1
  have k5 : Keep h0 h3 [g0, x0, z0] := k0.wr W3 (Or.inl (List.mem_of_getElem? (i := 0) rfl))
  have f6 : Fld Z h3 g0 "com/example/steward/steward/runtime/Group" "first" "Lcom/example/steward/steward/runtime/Agent;" (.ref z0) := F_3.same W3
  show Go _ _ _ _ _ _ _ (T3.setTop (mkF m 15 #[.val (.ref g0), .val (.ref x0)] []))
  refine Go.step (fun _ k => XS.goto X3.here hx rfl (pc0 := 15) (pc' := 29) rfl (hb hby d7_15) (by decide) (by decide) k) ?_
  show Go _ _ _ _ _ _ _ (T3.setTop (mkF m 29 #[.val (.ref g0), .val (.ref x0)] []))
  refine Go.step (fun _ k => XS.aloadN X3.here hx rfl (hb hby d7_29) rfl rfl  k) ?_
  show Go _ _ _ _ _ _ _ (T3.setTop (mkF m 30 #[.val (.ref g0), .val (.ref x0)] [(.ref x0)]))
  have f7 : Exa Z h3 x0 "com/example/steward/steward/runtime/Agent" := (E_1.wr W3)
  have f8 : Exa Z h3 g0 "com/example/steward/steward/runtime/Group" := (E_0.wr W3)
  have ne9 : x0 ≠ g0 := ne_exa f7 f8 (by decide)
  have f10 : Fld Z h3 x0 "com/example/steward/steward/runtime/Agent" "behind" "Lcom/example/steward/steward/runtime/Agent;" (.ref z0) := (F_6.other W3 (Or.inl ne9))
  obtain ⟨T11, X11, e11, st11⟩ := getF X3 hx hZ hown (host := "") (Or.inl (hw _ (List.mem_of_getElem? (i := 60) rfl))) Via.refl e3 f10 (g := (mkF m 30 #[.val (.ref g0), .val (.ref x0)] [(.ref x0)])) rfl rfl (hb hby d7_30)
  refine Go.step st11 ?_
  show Go _ _ _ _ _ _ _ (T11.setTop (mkF m 33 #[.val (.ref g0), .val (.ref x0)] [(.ref z0)]))
  refine Go.step (fun _ k => XS.ifnonnullYes X11.here hx rfl (pc0 := 33) (pc' := 47) rfl (hb hby d7_33) rfl (by decide) (by decide) k) ?_
  show Go _ _ _ _ _ _ _ (T11.setTop (mkF m 47 #[.val (.ref g0), .val (.ref x0)] []))
  refine Go.step (fun _ k => XS.aloadN X11.here hx rfl (hb hby d7_47) rfl rfl  k) ?_
  show Go _ _ _ _ _ _ _ (T11.setTop (mkF m 48 #[.val (.ref g0), .val (.ref x0)] [(.ref x0)]))
  obtain ⟨T12, X12, e12, st12⟩ := getF X11 hx hZ hown (host := "") (Or.inl (hw _ (List.mem_of_getElem? (i := 60) rfl))) Via.refl e11 f10 (g := (mkF m 48 #[.val (.ref g0), .val (.ref x0)] [(.ref x0)])) rfl rfl (hb hby d7_48)
  refine Go.step st12 ?_
  show Go _ _ _ _ _ _ _ (T12.setTop (mkF m 51 #[.val (.ref g0), .val (.ref x0)] [(.ref z0)]))
  refine Go.step (fun _ k => XS.aloadN X12.here hx rfl (hb hby d7_51) rfl rfl  k) ?_
  show Go _ _ _ _ _ _ _ (T12.setTop (mkF m 52 #[.val (.ref g0), .val (.ref x0)] [(.ref x0), (.ref z0)]))
  have f13 : Fld Z h3 x0 "com/example/steward/steward/runtime/Agent" "ahead" "Lcom/example/steward/steward/runtime/Agent;" .null := (F_5.other W3 (Or.inl ne9))
  obtain ⟨T14, X14, e14, st14⟩ := getF X12 hx hZ hown (host := "") (Or.inl (hw _ (List.mem_of_getElem? (i := 58) rfl))) Via.refl e12 f13 (g := (mkF m 52 #[.val (.ref g0), .val (.ref x0)] [(.ref x0), (.ref z0)])) rfl rfl (hb hby d7_52)
  refine Go.step st14 ?_
  show Go _ _ _ _ _ _ _ (T14.setTop (mkF m 55 #[.val (.ref g0), .val (.ref x0)] [.null, (.ref z0)]))
  have f15 : Exa Z h3 z0 "com/example/steward/steward/runtime/Agent" := (E_9.wr W3)
  have ne16 : z0 ≠ g0 := ne_exa f15 f8 (by decide)
  have f17 : Fld Z h3 z0 "com/example/steward/steward/runtime/Agent" "ahead" "Lcom/example/steward/steward/runtime/Agent;" c1 := (F_10.other W3 (Or.inl ne16))
  obtain ⟨T18, h18, X18, e18, W18, st18⟩ := putF X14 hx hZ hown (host := "") (Or.inl (hw _ (List.mem_of_getElem? (i := 58) rfl))) Via.refl e14 f17 f15 (Or.inl (hw _ (List.mem_of_getElem? (i := 59) rfl))) (hw _ (List.mem_of_getElem? (i := 11) rfl)) (ty := (.object "com/example/steward/steward/runtime/Agent")) (v := .null) (by decide) rfl rfl (g := (mkF m 55 #[.val (.ref g0), .val (.ref x0)] [.null, (.ref z0)])) rfl rfl (hb hby d7_55)
  refine Go.step st18 ?_
  have N18 := Fr.snoc X18 N3 g_14
  have z19 : n0 ≤ h18.size := Nat.le_trans z4 (Keep.of_wr W18).1
  have sqz19 : h0.size ≤ h18.size := Nat.le_trans sqz4 (Keep.of_wr W18).1
  have k20 : Keep h0 h18 [g0, x0, z0] := k5.wr W18 (Or.inl (List.mem_of_getElem? (i := 2) rfl))
  have f21 : Fld Z h18 z0 "com/example/steward/steward/runtime/Agent" "ahead" "Lcom/example/steward/steward/runtime/Agent;" .null := f17.same W18
  show Go _ _ _ _ _ _ _ (T18.setTop (mkF m 58 #[.val (.ref g0), .val (.ref x0)] []))
  refine Go.step (fun _ k => XS.aloadN X18.here hx rfl (hb hby d7_58) rfl rfl  k) ?_
  show Go _ _ _ _ _ _ _ (T18.setTop (mkF m 59 #[.val (.ref g0), .val (.ref x0)] [(.ref x0)]))
  refine Go.step (fun _ k => XS.aconstNull X18.here hx rfl (hb hby d7_59) k) ?_
  show Go _ _ _ _ _ _ _ (T18.setTop (mkF m 60 #[.val (.ref g0), .val (.ref x0)] [.null, (.ref x0)]))
  have f22 : Exa Z h18 x0 "com/example/steward/steward/runtime/Agent" := (f7.wr W18)
  have f23 : Fld Z h18 x0 "com/example/steward/steward/runtime/Agent" "group" "Lcom/example/steward/steward/runtime/Group;" u1 := ((F_2.other W3 (Or.inl ne9)).other W18 (Or.inl ne_13))
  obtain ⟨T24, h24, X24, e24, W24, st24⟩ := putF X18 hx hZ hown (host := "") (Or.inl (hw _ (List.mem_of_getElem? (i := 54) rfl))) Via.refl e18 f23 f22 (Or.inl (hw _ (List.mem_of_getElem? (i := 55) rfl))) (hw _ (List.mem_of_getElem? (i := 11) rfl)) (ty := (.object "com/example/steward/steward/runtime/Group")) (v := .null) (by decide) rfl rfl (g := (mkF m 60 #[.val (.ref g0), .val (.ref x0)] [.null, (.ref x0)])) rfl rfl (hb hby d7_60)
  refine Go.step st24 ?_
  have N24 := Fr.snoc X24 N18 g_8
  have z25 : n0 ≤ h24.size := Nat.le_trans z19 (Keep.of_wr W24).1
  have sqz25 : h0.size ≤ h24.size := Nat.le_trans sqz19 (Keep.of_wr W24).1
  have k26 : Keep h0 h24 [g0, x0, z0] := k20.wr W24 (Or.inl (List.mem_of_getElem? (i := 1) rfl))
  have f27 : Fld Z h24 x0 "com/example/steward/steward/runtime/Agent" "group" "Lcom/example/steward/steward/runtime/Group;" .null := f23.same W24
  show Go _ _ _ _ _ _ _ (T24.setTop (mkF m 63 #[.val (.ref g0), .val (.ref x0)] []))
  refine Go.step (fun _ k => XS.aloadN X24.here hx rfl (hb hby d7_63) rfl rfl  k) ?_
  show Go _ _ _ _ _ _ _ (T24.setTop (mkF m 64 #[.val (.ref g0), .val (.ref x0)] [(.ref x0)]))
  refine Go.step (fun _ k => XS.aconstNull X24.here hx rfl (hb hby d7_64) k) ?_
  show Go _ _ _ _ _ _ _ (T24.setTop (mkF m 65 #[.val (.ref g0), .val (.ref x0)] [.null, (.ref x0)]))
  have f28 : Exa Z h24 x0 "com/example/steward/steward/runtime/Agent" := (f22.wr W24)
  have f29 : Fld Z h24 x0 "com/example/steward/steward/runtime/Agent" "ahead" "Lcom/example/steward/steward/runtime/Agent;" .null := ((f13.other W18 (Or.inl ne_13)).other W24 (Or.inr (slot_ne (Or.inl (hw _ (List.mem_of_getElem? (i := 59) rfl))) (Or.inl (hw _ (List.mem_of_getElem? (i := 55) rfl))) (by decide) (t := (.object "com/example/steward/steward/runtime/Agent")) (t' := (.object "com/example/steward/steward/runtime/Group")) (by decide) (by decide))))
  obtain ⟨T30, h30, X30, e30, W30, st30⟩ := putF X24 hx hZ hown (host := "") (Or.inl (hw _ (List.mem_of_getElem? (i := 58) rfl))) Via.refl e24 f29 f28 (Or.inl (hw _ (List.mem_of_getElem? (i := 59) rfl))) (hw _ (List.mem_of_getElem? (i := 11) rfl)) (ty := (.object "com/example/steward/steward/runtime/Agent")) (v := .null) (by decide) rfl rfl (g := (mkF m 65 #[.val (.ref g0), .val (.ref x0)] [.null, (.ref x0)])) rfl rfl (hb hby d7_65)
  refine Go.step st30 ?_
  have N30 := Fr.snoc X30 N24 g_8
  have z31 : n0 ≤ h30.size := Nat.le_trans z25 (Keep.of_wr W30).1
  have sqz31 : h0.size ≤ h30.size := Nat.le_trans sqz25 (Keep.of_wr W30).1
  have k32 : Keep h0 h30 [g0, x0, z0] := k26.wr W30 (Or.inl (List.mem_of_getElem? (i := 1) rfl))
  have f33 : Fld Z h30 x0 "com/example/steward/steward/runtime/Agent" "ahead" "Lcom/example/steward/steward/runtime/Agent;" .null := f29.same W30
  show Go _ _ _ _ _ _ _ (T30.setTop (mkF m 68 #[.val (.ref g0), .val (.ref x0)] []))
  refine Go.step (fun _ k => XS.aloadN X30.here hx rfl (hb hby d7_68) rfl rfl  k) ?_
  show Go _ _ _ _ _ _ _ (T30.setTop (mkF m 69 #[.val (.ref g0), .val (.ref x0)] [(.ref x0)]))
  refine Go.step (fun _ k => XS.aconstNull X30.here hx rfl (hb hby d7_69) k) ?_
  show Go _ _ _ _ _ _ _ (T30.setTop (mkF m 70 #[.val (.ref g0), .val (.ref x0)] [.null, (.ref x0)]))
  have f34 : Exa Z h30 x0 "com/example/steward/steward/runtime/Agent" := (f28.wr W30)
  have f35 : Fld Z h30 x0 "com/example/steward/steward/runtime/Agent" "behind" "Lcom/example/steward/steward/runtime/Agent;" (.ref z0) := (((f10.other W18 (Or.inl ne_13)).other W24 (Or.inr (slot_ne (Or.inl (hw _ (List.mem_of_getElem? (i := 61) rfl))) (Or.inl (hw _ (List.mem_of_getElem? (i := 55) rfl))) (by decide) (t := (.object "com/example/steward/steward/runtime/Agent")) (t' := (.object "com/example/steward/steward/runtime/Group")) (by decide) (by decide)))).other W30 (Or.inr (slot_ne (Or.inl (hw _ (List.mem_of_getElem? (i := 61) rfl))) (Or.inl (hw _ (List.mem_of_getElem? (i := 59) rfl))) (by decide) (t := (.object "com/example/steward/steward/runtime/Agent")) (t' := (.object "com/example/steward/steward/runtime/Agent")) (by decide) (by decide))))
  obtain ⟨T36, h36, X36, e36, W36, st36⟩ := putF X30 hx hZ hown (host := "") (Or.inl (hw _ (List.mem_of_getElem? (i := 60) rfl))) Via.refl e30 f35 f34 (Or.inl (hw _ (List.mem_of_getElem? (i := 61) rfl))) (hw _ (List.mem_of_getElem? (i := 11) rfl)) (ty := (.object "com/example/steward/steward/runtime/Agent")) (v := .null) (by decide) rfl rfl (g := (mkF m 70 #[.val (.ref g0), .val (.ref x0)] [.null, (.ref x0)])) rfl rfl (hb hby d7_70)
  refine Go.step st36 ?_
  have N36 := Fr.snoc X36 N30 g_8
  have z37 : n0 ≤ h36.size := Nat.le_trans z31 (Keep.of_wr W36).1
  have sqz37 : h0.size ≤ h36.size := Nat.le_trans sqz31 (Keep.of_wr W36).1
  have k38 : Keep h0 h36 [g0, x0, z0] := k32.wr W36 (Or.inl (List.mem_of_getElem? (i := 1) rfl))
  have f39 : Fld Z h36 x0 "com/example/steward/steward/runtime/Agent" "behind" "Lcom/example/steward/steward/runtime/Agent;" .null := f35.same W36
  show Go _ _ _ _ _ _ _ (T36.setTop (mkF m 73 #[.val (.ref g0), .val (.ref x0)] []))
  have f40 : Exa Z h36 g0 "com/example/steward/steward/runtime/Group" := ((((f8.wr W18).wr W24).wr W30).wr W36)
  have f41 : Exa Z h36 x0 "com/example/steward/steward/runtime/Agent" := (f34.wr W36)
  have f42 : Fld Z h36 x0 "com/example/steward/steward/runtime/Agent" "group" "Lcom/example/steward/steward/runtime/Group;" .null := ((f27.other W30 (Or.inr (slot_ne (Or.inl (hw _ (List.mem_of_getElem? (i := 55) rfl))) (Or.inl (hw _ (List.mem_of_getElem? (i := 59) rfl))) (by decide) (t := (.object "com/example/steward/steward/runtime/Group")) (t' := (.object "com/example/steward/steward/runtime/Agent")) (by decide) (by decide)))).other W36 (Or.inr (slot_ne (Or.inl (hw _ (List.mem_of_getElem? (i := 55) rfl))) (Or.inl (hw _ (List.mem_of_getElem? (i := 61) rfl))) (by decide) (t := (.object "com/example/steward/steward/runtime/Group")) (t' := (.object "com/example/steward/steward/runtime/Agent")) (by decide) (by decide))))
  have f43 : Fld Z h36 x0 "com/example/steward/steward/runtime/Agent" "ahead" "Lcom/example/steward/steward/runtime/Agent;" .null := (f33.other W36 (Or.inr (slot_ne (Or.inl (hw _ (List.mem_of_getElem? (i := 59) rfl))) (Or.inl (hw _ (List.mem_of_getElem? (i := 61) rfl))) (by decide) (t := (.object "com/example/steward/steward/runtime/Agent")) (t' := (.object "com/example/steward/steward/runtime/Agent")) (by decide) (by decide))))
  have f44 : Exa Z h36 z0 "com/example/steward/steward/runtime/Agent" := ((((f15.wr W18).wr W24).wr W30).wr W36)
  have f45 : Fld Z h36 z0 "com/example/steward/steward/runtime/Agent" "ahead" "Lcom/example/steward/steward/runtime/Agent;" .null := (((f21.other W24 (Or.inl (Ne.symm ne_13))).other W30 (Or.inl (Ne.symm ne_13))).other W36 (Or.inl (Ne.symm ne_13)))
  have f46 : Fld Z h36 z0 "com/example/steward/steward/runtime/Agent" "group" "Lcom/example/steward/steward/runtime/Group;" c2 := (((((F_11.other W3 (Or.inl ne16)).other W18 (Or.inr (slot_ne (Or.inl (hw _ (List.mem_of_getElem? (i := 55) rfl))) (Or.inl (hw _ (List.mem_of_getElem? (i := 59) rfl))) (by decide) (t := (.object "com/example/steward/steward/runtime/Group")) (t' := (.object "com/example/steward/steward/runtime/Agent")) (by decide) (by decide)))).other W24 (Or.inl (Ne.symm ne_13))).other W30 (Or.inl (Ne.symm ne_13))).other W36 (Or.inl (Ne.symm ne_13)))
  have f47 : Fld Z h36 z0 "com/example/steward/steward/runtime/Agent" "behind" "Lcom/example/steward/steward/runtime/Agent;" c3 := (((((F_12.other W3 (Or.inl ne16)).other W18 (Or.inr (slot_ne (Or.inl (hw _ (List.mem_of_getElem? (i := 61) rfl))) (Or.inl (hw _ (List.mem_of_getElem? (i := 59) rfl))) (by decide) (t := (.object "com/example/steward/steward/runtime/Agent")) (t' := (.object "com/example/steward/steward/runtime/Agent")) (by decide) (by decide)))).other W24 (Or.inl (Ne.symm ne_13))).other W30 (Or.inl (Ne.symm ne_13))).other W36 (Or.inl (Ne.symm ne_13)))
  have f48 : Fld Z h36 g0 "com/example/steward/steward/runtime/Group" "first" "Lcom/example/steward/steward/runtime/Agent;" (.ref z0) := ((((f6.other W18 (Or.inl (Ne.symm ne16))).other W24 (Or.inl (Ne.symm ne9))).other W30 (Or.inl (Ne.symm ne9))).other W36 (Or.inl (Ne.symm ne9)))
  have f49 : Fld Z h36 g0 "com/example/steward/steward/runtime/Group" "last" "Lcom/example/steward/steward/runtime/Agent;" u5 := (((((F_4.other W3 (Or.inr (slot_ne (Or.inl (hw _ (List.mem_of_getElem? (i := 57) rfl))) (Or.inl (hw _ (List.mem_of_getElem? (i := 63) rfl))) (by decide) (t := (.object "com/example/steward/steward/runtime/Agent")) (t' := (.object "com/example/steward/steward/runtime/Agent")) (by decide) (by decide)))).other W18 (Or.inl (Ne.symm ne16))).other W24 (Or.inl (Ne.symm ne9))).other W30 (Or.inl (Ne.symm ne9))).other W36 (Or.inl (Ne.symm ne9)))
  refine Go.retV X36 hx Bd.returns hlk (hb hby d7_73) ?_ (by decide) (by decide)
  rw [e36]
  exact ⟨(rfl), N36, k38, f40, f41, f42, f43, f39, f44, f45, f46, f47, f48, f49⟩
theorem d7_18 : decode prog_44_method_5_code 18 = .ok (.aload_n 1, 1) := by decide +kernel
theorem d7_19 : decode prog_44_method_5_code 19 = .ok (.getfield 22, 3) := by decide +kernel
theorem d7_22 : decode prog_44_method_5_code 22 = .ok (.aload_n 1, 1) := by decide +kernel
theorem d7_23 : decode prog_44_method_5_code 23 = .ok (.getfield 25, 3) := by decide +kernel
theorem d7_26 : decode prog_44_method_5_code 26 = .ok (.putfield 25, 3) := by decide +kernel
theorem ef_rem10 (m : MethodId) (g0 : Addr) (x0 : Addr) : entryFrame m #[(.ref g0), (.ref x0)] 2 = mkF m 0 #[.val (.ref g0), .val (.ref x0)] [] := by first | (simp [entryFrame, mkF, argsToLocals, Value.category]; done) | rfl
def Qrem10 (Z : State) (g0 : Addr) (x0 : Addr) (u1 : Value) (u4 : Value) (u5 : Value) (y0 : Addr) (a1 : Value) (a2 : Value) (a3 : Value) (h0 : Heap) (n0 : Nat) (v : Option Value) (h : Heap) (L : List Loc) : Prop := (v = none) ∧ (Fr n0 L) ∧ (Keep h0 h [g0, x0, y0]) ∧ (Exa Z h g0 "com/example/steward/steward/runtime/Group") ∧ (Exa Z h x0 "com/example/steward/steward/runtime/Agent") ∧ (Fld Z h x0 "com/example/steward/steward/runtime/Agent" "group" "Lcom/example/steward/steward/runtime/Group;" .null) ∧ (Fld Z h x0 "com/example/steward/steward/runtime/Agent" "ahead" "Lcom/example/steward/steward/runtime/Agent;" .null) ∧ (Fld Z h x0 "com/example/steward/steward/runtime/Agent" "behind" "Lcom/example/steward/steward/runtime/Agent;" .null) ∧ (Exa Z h y0 "com/example/steward/steward/runtime/Agent") ∧ (Fld Z h y0 "com/example/steward/steward/runtime/Agent" "behind" "Lcom/example/steward/steward/runtime/Agent;" .null) ∧ (Fld Z h y0 "com/example/steward/steward/runtime/Agent" "group" "Lcom/example/steward/steward/runtime/Group;" a2) ∧ (Fld Z h y0 "com/example/steward/steward/runtime/Agent" "ahead" "Lcom/example/steward/steward/runtime/Agent;" a3) ∧ (Fld Z h g0 "com/example/steward/steward/runtime/Group" "first" "Lcom/example/steward/steward/runtime/Agent;" u4) ∧ (Fld Z h g0 "com/example/steward/steward/runtime/Group" "last" "Lcom/example/steward/steward/runtime/Agent;" (.ref y0))
set_option maxRecDepth 65536 in
set_option maxHeartbeats 40000000 in
theorem rmrem10 (l : Launch) (Z : State) (aZ : Array Value) (hw : ∀ d ∈ tables_1, d.before aZ Z = true) (ws : List Jvm.Cond) (g0 : Addr) (x0 : Addr) (u1 : Value) (u4 : Value) (u5 : Value) (y0 : Addr) (a1 : Value) (a2 : Value) (a3 : Value) (h0 : Heap) (n0 : Nat) (Z0 : n0 ≤ h0.size) (E_0 : Exa Z h0 g0 "com/example/steward/steward/runtime/Group") (E_1 : Exa Z h0 x0 "com/example/steward/steward/runtime/Agent") (F_2 : Fld Z h0 x0 "com/example/steward/steward/runtime/Agent" "group" "Lcom/example/steward/steward/runtime/Group;" u1) (F_3 : Fld Z h0 g0 "com/example/steward/steward/runtime/Group" "first" "Lcom/example/steward/steward/runtime/Agent;" u4) (F_4 : Fld Z h0 g0 "com/example/steward/steward/runtime/Group" "last" "Lcom/example/steward/steward/runtime/Agent;" u5) (F_5 : Fld Z h0 x0 "com/example/steward/steward/runtime/Agent" "ahead" "Lcom/example/steward/steward/runtime/Agent;" (.ref y0)) (F_6 : Fld Z h0 x0 "com/example/steward/steward/runtime/Agent" "behind" "Lcom/example/steward/steward/runtime/Agent;" .null) (g_7 : n0 ≤ g0) (g_8 : n0 ≤ x0) (E_9 : Exa Z h0 y0 "com/example/steward/steward/runtime/Agent") (F_10 : Fld Z h0 y0 "com/example/steward/steward/runtime/Agent" "behind" "Lcom/example/steward/steward/runtime/Agent;" a1) (F_11 : Fld Z h0 y0 "com/example/steward/steward/runtime/Agent" "group" "Lcom/example/steward/steward/runtime/Group;" a2) (F_12 : Fld Z h0 y0 "com/example/steward/steward/runtime/Agent" "ahead" "Lcom/example/steward/steward/runtime/Agent;" a3) (ne_13 : x0 ≠ y0) (g_14 : n0 ≤ y0) :
    MetFree l (⟨"com/example/steward/steward/runtime/Group", "remove", "(Lcom/example/steward/steward/runtime/Agent;)V"⟩ : MethodName) (head1 (Jvm.Cond.code (⟨"com/example/steward/steward/runtime/Group", "remove", "(Lcom/example/steward/steward/runtime/Agent;)V"⟩ : MethodName) prog_44_method_5_code 2 none :: ws) ({ frames := 0, cells := 0, slots := 0, locals := 0 } : Room)) (fun a U => a = #[(.ref g0), (.ref x0)] ∧ Z.Warmed39 U.vm ∧ U.heap = h0) (fun _ _ _ _ _ => True) (fun _ U o U' => ∃ v L, o = .returned v ∧ Qrem10 Z g0 x0 u1 u4 u5 y0 a1 a2 a3 h0 n0 v U'.heap L ∧ FrameEnd U o U' L ({ frames := 0, cells := 0, slots := 0, locals := 0 } : Room).cells ({ frames := 0, cells := 0, slots := 0, locals := 0 } : Room).slots) := by
  refine MetFree.of_bodySF (plainFor_of_name pn_5) hisR ?_
  intro p e s m args below meth c s₁ Bd hml0 hP hK
  obtain ⟨rfl, hZ, hh⟩ := hP
  have hx := Bd.exec
  have hby := Bd.bytes
  have hml : c.maxLocals = 2 := hml0
  have hown : s.vm.findClass "com/example/steward/steward/runtime/Group" = some m.cls := findClass_of_methodNamed Bd.named
  have hnm := (name_of_methodNamed Bd.named Bd.method).1
  have hlk : meth.locks = false := BodyLoose.notSynchronized Bd
  have X0 : Stand p l e ({ frames := 0, cells := 0, slots := 0, locals := 0 } : Room) s m #[(.ref g0), (.ref x0)] below meth c s₁ [] 0 0 := Stand.of_body Bd
  have e0 : s₁.heap = h0 := by rw [← hh, Bd.state]; rfl
  have N0 := Fr.nil n0
  have sq0 : h0.size ≤ h0.size := Nat.le_refl _
  have k0 : Keep h0 h0 [g0, x0, y0] := Keep.refl _ _
  change Go p e below s ({ frames := 0, cells := 0, slots := 0, locals := 0 } : Room).cells ({ frames := 0, cells := 0, slots := 0, locals := 0 } : Room).slots (Qrem10 Z g0 x0 u1 u4 u5 y0 a1 a2 a3 h0 n0) (s₁.setTop (entryFrame m #[(.ref g0), (.ref x0)] 2))
  rw [ef_rem10 m g0 x0]
  show Go _ _ _ _ _ _ _ (s₁.setTop (mkF m 0 #[.val (.ref g0), .val (.ref x0)] []))
  refine Go.step (fun _ k => XS.aloadN X0.here hx rfl (hb hby d7_0) rfl rfl  k) ?_
  show Go _ _ _ _ _ _ _ (s₁.setTop (mkF m 1 #[.val (.ref g0), .val (.ref x0)] [(.ref x0)]))
  obtain ⟨T1, X1, e1, st1⟩ := getF X0 hx hZ hown (host := "") (Or.inl (hw _ (List.mem_of_getElem? (i := 58) rfl))) Via.refl e0 F_5 (g := (mkF m 1 #[.val (.ref g0), .val (.ref x0)] [(.ref x0)])) rfl rfl (hb hby d7_1)
  refine Go.step st1 ?_
  show Go _ _ _ _ _ _ _ (T1.setTop (mkF m 4 #[.val (.ref g0), .val (.ref x0)] [(.ref y0)]))
  refine Go.step (fun _ k => XS.ifnonnullYes X1.here hx rfl (pc0 := 4) (pc' := 18) rfl (hb hby d7_4) rfl (by decide) (by decide) k) ?_
  show Go _ _ _ _ _ _ _ (T1.setTop (mkF m 18 #[.val (.ref g0), .val (.ref x0)] []))
  refine Go.step (fun _ k => XS.aloadN X1.here hx rfl (hb hby d7_18) rfl rfl  k) ?_
  show Go _ _ _ _ _ _ _ (T1.setTop (mkF m 19 #[.val (.ref g0), .val (.ref x0)] [(.ref x0)]))
  obtain ⟨T2, X2, e2, st2⟩ := getF X1 hx hZ hown (host := "") (Or.inl (hw _ (List.mem_of_getElem? (i := 58) rfl))) Via.refl e1 F_5 (g := (mkF m 19 #[.val (.ref g0), .val (.ref x0)] [(.ref x0)])) rfl rfl (hb hby d7_19)
  refine Go.step st2 ?_
  show Go _ _ _ _ _ _ _ (T2.setTop (mkF m 22 #[.val (.ref g0), .val (.ref x0)] [(.ref y0)]))
  refine Go.step (fun _ k => XS.aloadN X2.here hx rfl (hb hby d7_22) rfl rfl  k) ?_
  show Go _ _ _ _ _ _ _ (T2.setTop (mkF m 23 #[.val (.ref g0), .val (.ref x0)] [(.ref x0), (.ref y0)]))
  obtain ⟨T3, X3, e3, st3⟩ := getF X2 hx hZ hown (host := "") (Or.inl (hw _ (List.mem_of_getElem? (i := 60) rfl))) Via.refl e2 F_6 (g := (mkF m 23 #[.val (.ref g0), .val (.ref x0)] [(.ref x0), (.ref y0)])) rfl rfl (hb hby d7_23)
  refine Go.step st3 ?_
  show Go _ _ _ _ _ _ _ (T3.setTop (mkF m 26 #[.val (.ref g0), .val (.ref x0)] [.null, (.ref y0)]))
  obtain ⟨T4, h4, X4, e4, W4, st4⟩ := putF X3 hx hZ hown (host := "") (Or.inl (hw _ (List.mem_of_getElem? (i := 60) rfl))) Via.refl e3 F_10 E_9 (Or.inl (hw _ (List.mem_of_getElem? (i := 61) rfl))) (hw _ (List.mem_of_getElem? (i := 11) rfl)) (ty := (.object "com/example/steward/steward/runtime/Agent")) (v := .null) (by decide) rfl rfl (g := (mkF m 26 #[.val (.ref g0), .val (.ref x0)] [.null, (.ref y0)])) rfl rfl (hb hby d7_26)
  refine Go.step st4 ?_
  have N4 := Fr.snoc X4 N0 g_14
  have z5 : n0 ≤ h4.size := Nat.le_trans Z0 (Keep.of_wr W4).1
  have sqz5 : h0.size ≤ h4.size := Nat.le_trans sq0 (Keep.of_wr W4).1
  have k6 : Keep h0 h4 [g0, x0, y0] := k0.wr W4 (Or.inl (List.mem_of_getElem? (i := 2) rfl))
  have f7 : Fld Z h4 y0 "com/example/steward/steward/runtime/Agent" "behind" "Lcom/example/steward/steward/runtime/Agent;" .null := F_10.same W4
  show Go _ _ _ _ _ _ _ (T4.setTop (mkF m 29 #[.val (.ref g0), .val (.ref x0)] []))
  refine Go.step (fun _ k => XS.aloadN X4.here hx rfl (hb hby d7_29) rfl rfl  k) ?_
  show Go _ _ _ _ _ _ _ (T4.setTop (mkF m 30 #[.val (.ref g0), .val (.ref x0)] [(.ref x0)]))
  have f8 : Fld Z h4 x0 "com/example/steward/steward/runtime/Agent" "behind" "Lcom/example/steward/steward/runtime/Agent;" .null := (F_6.other W4 (Or.inl ne_13))
  obtain ⟨T9, X9, e9, st9⟩ := getF X4 hx hZ hown (host := "") (Or.inl (hw _ (List.mem_of_getElem? (i := 60) rfl))) Via.refl e4 f8 (g := (mkF m 30 #[.val (.ref g0), .val (.ref x0)] [(.ref x0)])) rfl rfl (hb hby d7_30)
  refine Go.step st9 ?_
  show Go _ _ _ _ _ _ _ (T9.setTop (mkF m 33 #[.val (.ref g0), .val (.ref x0)] [.null]))
  refine Go.step (fun _ k => XS.ifnonnullNo X9.here hx rfl (hb hby d7_33) rfl k) ?_
  show Go _ _ _ _ _ _ _ (T9.setTop (mkF m 36 #[.val (.ref g0), .val (.ref x0)] []))
  refine Go.step (fun _ k => XS.aloadN X9.here hx rfl (hb hby d7_36) rfl rfl  k) ?_
  show Go _ _ _ _ _ _ _ (T9.setTop (mkF m 37 #[.val (.ref g0), .val (.ref x0)] [(.ref g0)]))
  refine Go.step (fun _ k => XS.aloadN X9.here hx rfl (hb hby d7_37) rfl rfl  k) ?_
  show Go _ _ _ _ _ _ _ (T9.setTop (mkF m 38 #[.val (.ref g0), .val (.ref x0)] [(.ref x0), (.ref g0)]))
  have f10 : Fld Z h4 x0 "com/example/steward/steward/runtime/Agent" "ahead" "Lcom/example/steward/steward/runtime/Agent;" (.ref y0) := (F_5.other W4 (Or.inl ne_13))
  obtain ⟨T11, X11, e11, st11⟩ := getF X9 hx hZ hown (host := "") (Or.inl (hw _ (List.mem_of_getElem? (i := 58) rfl))) Via.refl e9 f10 (g := (mkF m 38 #[.val (.ref g0), .val (.ref x0)] [(.ref x0), (.ref g0)])) rfl rfl (hb hby d7_38)
  refine Go.step st11 ?_
  show Go _ _ _ _ _ _ _ (T11.setTop (mkF m 41 #[.val (.ref g0), .val (.ref x0)] [(.ref y0), (.ref g0)]))
  have f12 : Exa Z h4 g0 "com/example/steward/steward/runtime/Group" := (E_0.wr W4)
  have f13 : Exa Z h4 y0 "com/example/steward/steward/runtime/Agent" := (E_9.wr W4)
  have ne14 : g0 ≠ y0 := ne_exa f12 f13 (by decide)
  have f15 : Fld Z h4 g0 "com/example/steward/steward/runtime/Group" "last" "Lcom/example/steward/steward/runtime/Agent;" u5 := (F_4.other W4 (Or.inl ne14))
  obtain ⟨T16, h16, X16, e16, W16, st16⟩ := putF X11 hx hZ hown (host := "") (Or.inl (hw _ (List.mem_of_getElem? (i := 56) rfl))) Via.refl e11 f15 f12 (Or.inl (hw _ (List.mem_of_getElem? (i := 57) rfl))) (hw _ (List.mem_of_getElem? (i := 2) rfl)) (ty := (.object "com/example/steward/steward/runtime/Agent")) (v := (.ref y0)) (by decide) rfl rfl (g := (mkF m 41 #[.val (.ref g0), .val (.ref x0)] [(.ref y0), (.ref g0)])) rfl rfl (hb hby d7_41)
  refine Go.step st16 ?_
  have N16 := Fr.snoc X16 N4 g_7
  have z17 : n0 ≤ h16.size := Nat.le_trans z5 (Keep.of_wr W16).1
  have sqz17 : h0.size ≤ h16.size := Nat.le_trans sqz5 (Keep.of_wr W16).1
  have k18 : Keep h0 h16 [g0, x0, y0] := k6.wr W16 (Or.inl (List.mem_of_getElem? (i := 0) rfl))
  have f19 : Fld Z h16 g0 "com/example/steward/steward/runtime/Group" "last" "Lcom/example/steward/steward/runtime/Agent;" (.ref y0) := f15.same W16
  show Go _ _ _ _ _ _ _ (T16.setTop (mkF m 44 #[.val (.ref g0), .val (.ref x0)] []))
  refine Go.step (fun _ k => XS.goto X16.here hx rfl (pc0 := 44) (pc' := 58) rfl (hb hby d7_44) (by decide) (by decide) k) ?_
  show Go _ _ _ _ _ _ _ (T16.setTop (mkF m 58 #[.val (.ref g0), .val (.ref x0)] []))
  refine Go.step (fun _ k => XS.aloadN X16.here hx rfl (hb hby d7_58) rfl rfl  k) ?_
  show Go _ _ _ _ _ _ _ (T16.setTop (mkF m 59 #[.val (.ref g0), .val (.ref x0)] [(.ref x0)]))
  refine Go.step (fun _ k => XS.aconstNull X16.here hx rfl (hb hby d7_59) k) ?_
  show Go _ _ _ _ _ _ _ (T16.setTop (mkF m 60 #[.val (.ref g0), .val (.ref x0)] [.null, (.ref x0)]))
  have f20 : Exa Z h16 x0 "com/example/steward/steward/runtime/Agent" := ((E_1.wr W4).wr W16)
  have f21 : Exa Z h16 g0 "com/example/steward/steward/runtime/Group" := (f12.wr W16)
  have ne22 : x0 ≠ g0 := ne_exa f20 f21 (by decide)
  have f23 : Fld Z h16 x0 "com/example/steward/steward/runtime/Agent" "group" "Lcom/example/steward/steward/runtime/Group;" u1 := ((F_2.other W4 (Or.inl ne_13)).other W16 (Or.inl ne22))
  obtain ⟨T24, h24, X24, e24, W24, st24⟩ := putF X16 hx hZ hown (host := "") (Or.inl (hw _ (List.mem_of_getElem? (i := 54) rfl))) Via.refl e16 f23 f20 (Or.inl (hw _ (List.mem_of_getElem? (i := 55) rfl))) (hw _ (List.mem_of_getElem? (i := 11) rfl)) (ty := (.object "com/example/steward/steward/runtime/Group")) (v := .null) (by decide) rfl rfl (g := (mkF m 60 #[.val (.ref g0), .val (.ref x0)] [.null, (.ref x0)])) rfl rfl (hb hby d7_60)
  refine Go.step st24 ?_
  have N24 := Fr.snoc X24 N16 g_8
  have z25 : n0 ≤ h24.size := Nat.le_trans z17 (Keep.of_wr W24).1
  have sqz25 : h0.size ≤ h24.size := Nat.le_trans sqz17 (Keep.of_wr W24).1
  have k26 : Keep h0 h24 [g0, x0, y0] := k18.wr W24 (Or.inl (List.mem_of_getElem? (i := 1) rfl))
  have f27 : Fld Z h24 x0 "com/example/steward/steward/runtime/Agent" "group" "Lcom/example/steward/steward/runtime/Group;" .null := f23.same W24
  show Go _ _ _ _ _ _ _ (T24.setTop (mkF m 63 #[.val (.ref g0), .val (.ref x0)] []))
  refine Go.step (fun _ k => XS.aloadN X24.here hx rfl (hb hby d7_63) rfl rfl  k) ?_
  show Go _ _ _ _ _ _ _ (T24.setTop (mkF m 64 #[.val (.ref g0), .val (.ref x0)] [(.ref x0)]))
  refine Go.step (fun _ k => XS.aconstNull X24.here hx rfl (hb hby d7_64) k) ?_
  show Go _ _ _ _ _ _ _ (T24.setTop (mkF m 65 #[.val (.ref g0), .val (.ref x0)] [.null, (.ref x0)]))
  have f28 : Exa Z h24 x0 "com/example/steward/steward/runtime/Agent" := (f20.wr W24)
  have f29 : Fld Z h24 x0 "com/example/steward/steward/runtime/Agent" "ahead" "Lcom/example/steward/steward/runtime/Agent;" (.ref y0) := ((f10.other W16 (Or.inl ne22)).other W24 (Or.inr (slot_ne (Or.inl (hw _ (List.mem_of_getElem? (i := 59) rfl))) (Or.inl (hw _ (List.mem_of_getElem? (i := 55) rfl))) (by decide) (t := (.object "com/example/steward/steward/runtime/Agent")) (t' := (.object "com/example/steward/steward/runtime/Group")) (by decide) (by decide))))
  obtain ⟨T30, h30, X30, e30, W30, st30⟩ := putF X24 hx hZ hown (host := "") (Or.inl (hw _ (List.mem_of_getElem? (i := 58) rfl))) Via.refl e24 f29 f28 (Or.inl (hw _ (List.mem_of_getElem? (i := 59) rfl))) (hw _ (List.mem_of_getElem? (i := 11) rfl)) (ty := (.object "com/example/steward/steward/runtime/Agent")) (v := .null) (by decide) rfl rfl (g := (mkF m 65 #[.val (.ref g0), .val (.ref x0)] [.null, (.ref x0)])) rfl rfl (hb hby d7_65)
  refine Go.step st30 ?_
  have N30 := Fr.snoc X30 N24 g_8
  have z31 : n0 ≤ h30.size := Nat.le_trans z25 (Keep.of_wr W30).1
  have sqz31 : h0.size ≤ h30.size := Nat.le_trans sqz25 (Keep.of_wr W30).1
  have k32 : Keep h0 h30 [g0, x0, y0] := k26.wr W30 (Or.inl (List.mem_of_getElem? (i := 1) rfl))
  have f33 : Fld Z h30 x0 "com/example/steward/steward/runtime/Agent" "ahead" "Lcom/example/steward/steward/runtime/Agent;" .null := f29.same W30
  show Go _ _ _ _ _ _ _ (T30.setTop (mkF m 68 #[.val (.ref g0), .val (.ref x0)] []))
  refine Go.step (fun _ k => XS.aloadN X30.here hx rfl (hb hby d7_68) rfl rfl  k) ?_
  show Go _ _ _ _ _ _ _ (T30.setTop (mkF m 69 #[.val (.ref g0), .val (.ref x0)] [(.ref x0)]))
  refine Go.step (fun _ k => XS.aconstNull X30.here hx rfl (hb hby d7_69) k) ?_
  show Go _ _ _ _ _ _ _ (T30.setTop (mkF m 70 #[.val (.ref g0), .val (.ref x0)] [.null, (.ref x0)]))
  have f34 : Exa Z h30 x0 "com/example/steward/steward/runtime/Agent" := (f28.wr W30)
  have f35 : Fld Z h30 x0 "com/example/steward/steward/runtime/Agent" "behind" "Lcom/example/steward/steward/runtime/Agent;" .null := (((f8.other W16 (Or.inl ne22)).other W24 (Or.inr (slot_ne (Or.inl (hw _ (List.mem_of_getElem? (i := 61) rfl))) (Or.inl (hw _ (List.mem_of_getElem? (i := 55) rfl))) (by decide) (t := (.object "com/example/steward/steward/runtime/Agent")) (t' := (.object "com/example/steward/steward/runtime/Group")) (by decide) (by decide)))).other W30 (Or.inr (slot_ne (Or.inl (hw _ (List.mem_of_getElem? (i := 61) rfl))) (Or.inl (hw _ (List.mem_of_getElem? (i := 59) rfl))) (by decide) (t := (.object "com/example/steward/steward/runtime/Agent")) (t' := (.object "com/example/steward/steward/runtime/Agent")) (by decide) (by decide))))
  obtain ⟨T36, h36, X36, e36, W36, st36⟩ := putF X30 hx hZ hown (host := "") (Or.inl (hw _ (List.mem_of_getElem? (i := 60) rfl))) Via.refl e30 f35 f34 (Or.inl (hw _ (List.mem_of_getElem? (i := 61) rfl))) (hw _ (List.mem_of_getElem? (i := 11) rfl)) (ty := (.object "com/example/steward/steward/runtime/Agent")) (v := .null) (by decide) rfl rfl (g := (mkF m 70 #[.val (.ref g0), .val (.ref x0)] [.null, (.ref x0)])) rfl rfl (hb hby d7_70)
  refine Go.step st36 ?_
  have N36 := Fr.snoc X36 N30 g_8
  have z37 : n0 ≤ h36.size := Nat.le_trans z31 (Keep.of_wr W36).1
  have sqz37 : h0.size ≤ h36.size := Nat.le_trans sqz31 (Keep.of_wr W36).1
  have k38 : Keep h0 h36 [g0, x0, y0] := k32.wr W36 (Or.inl (List.mem_of_getElem? (i := 1) rfl))
  have f39 : Fld Z h36 x0 "com/example/steward/steward/runtime/Agent" "behind" "Lcom/example/steward/steward/runtime/Agent;" .null := f35.same W36
  show Go _ _ _ _ _ _ _ (T36.setTop (mkF m 73 #[.val (.ref g0), .val (.ref x0)] []))
  have f40 : Exa Z h36 g0 "com/example/steward/steward/runtime/Group" := (((f21.wr W24).wr W30).wr W36)
  have f41 : Exa Z h36 x0 "com/example/steward/steward/runtime/Agent" := (f34.wr W36)
  have f42 : Fld Z h36 x0 "com/example/steward/steward/runtime/Agent" "group" "Lcom/example/steward/steward/runtime/Group;" .null := ((f27.other W30 (Or.inr (slot_ne (Or.inl (hw _ (List.mem_of_getElem? (i := 55) rfl))) (Or.inl (hw _ (List.mem_of_getElem? (i := 59) rfl))) (by decide) (t := (.object "com/example/steward/steward/runtime/Group")) (t' := (.object "com/example/steward/steward/runtime/Agent")) (by decide) (by decide)))).other W36 (Or.inr (slot_ne (Or.inl (hw _ (List.mem_of_getElem? (i := 55) rfl))) (Or.inl (hw _ (List.mem_of_getElem? (i := 61) rfl))) (by decide) (t := (.object "com/example/steward/steward/runtime/Group")) (t' := (.object "com/example/steward/steward/runtime/Agent")) (by decide) (by decide))))
  have f43 : Fld Z h36 x0 "com/example/steward/steward/runtime/Agent" "ahead" "Lcom/example/steward/steward/runtime/Agent;" .null := (f33.other W36 (Or.inr (slot_ne (Or.inl (hw _ (List.mem_of_getElem? (i := 59) rfl))) (Or.inl (hw _ (List.mem_of_getElem? (i := 61) rfl))) (by decide) (t := (.object "com/example/steward/steward/runtime/Agent")) (t' := (.object "com/example/steward/steward/runtime/Agent")) (by decide) (by decide))))
  have f44 : Exa Z h36 y0 "com/example/steward/steward/runtime/Agent" := ((((f13.wr W16).wr W24).wr W30).wr W36)
  have f45 : Fld Z h36 y0 "com/example/steward/steward/runtime/Agent" "behind" "Lcom/example/steward/steward/runtime/Agent;" .null := ((((f7.other W16 (Or.inl (Ne.symm ne14))).other W24 (Or.inl (Ne.symm ne_13))).other W30 (Or.inl (Ne.symm ne_13))).other W36 (Or.inl (Ne.symm ne_13)))
  have f46 : Fld Z h36 y0 "com/example/steward/steward/runtime/Agent" "group" "Lcom/example/steward/steward/runtime/Group;" a2 := (((((F_11.other W4 (Or.inr (slot_ne (Or.inl (hw _ (List.mem_of_getElem? (i := 55) rfl))) (Or.inl (hw _ (List.mem_of_getElem? (i := 61) rfl))) (by decide) (t := (.object "com/example/steward/steward/runtime/Group")) (t' := (.object "com/example/steward/steward/runtime/Agent")) (by decide) (by decide)))).other W16 (Or.inl (Ne.symm ne14))).other W24 (Or.inl (Ne.symm ne_13))).other W30 (Or.inl (Ne.symm ne_13))).other W36 (Or.inl (Ne.symm ne_13)))
  have f47 : Fld Z h36 y0 "com/example/steward/steward/runtime/Agent" "ahead" "Lcom/example/steward/steward/runtime/Agent;" a3 := (((((F_12.other W4 (Or.inr (slot_ne (Or.inl (hw _ (List.mem_of_getElem? (i := 59) rfl))) (Or.inl (hw _ (List.mem_of_getElem? (i := 61) rfl))) (by decide) (t := (.object "com/example/steward/steward/runtime/Agent")) (t' := (.object "com/example/steward/steward/runtime/Agent")) (by decide) (by decide)))).other W16 (Or.inl (Ne.symm ne14))).other W24 (Or.inl (Ne.symm ne_13))).other W30 (Or.inl (Ne.symm ne_13))).other W36 (Or.inl (Ne.symm ne_13)))
  have f48 : Fld Z h36 g0 "com/example/steward/steward/runtime/Group" "first" "Lcom/example/steward/steward/runtime/Agent;" u4 := (((((F_3.other W4 (Or.inl ne14)).other W16 (Or.inr (slot_ne (Or.inl (hw _ (List.mem_of_getElem? (i := 63) rfl))) (Or.inl (hw _ (List.mem_of_getElem? (i := 57) rfl))) (by decide) (t := (.object "com/example/steward/steward/runtime/Agent")) (t' := (.object "com/example/steward/steward/runtime/Agent")) (by decide) (by decide)))).other W24 (Or.inl (Ne.symm ne22))).other W30 (Or.inl (Ne.symm ne22))).other W36 (Or.inl (Ne.symm ne22)))
  have f49 : Fld Z h36 g0 "com/example/steward/steward/runtime/Group" "last" "Lcom/example/steward/steward/runtime/Agent;" (.ref y0) := (((f19.other W24 (Or.inl (Ne.symm ne22))).other W30 (Or.inl (Ne.symm ne22))).other W36 (Or.inl (Ne.symm ne22)))
  refine Go.retV X36 hx Bd.returns hlk (hb hby d7_73) ?_ (by decide) (by decide)
  rw [e36]
  exact ⟨(rfl), N36, k38, f40, f41, f42, f43, f39, f44, f45, f46, f47, f48, f49⟩
theorem ef_rem11 (m : MethodId) (g0 : Addr) (x0 : Addr) : entryFrame m #[(.ref g0), (.ref x0)] 2 = mkF m 0 #[.val (.ref g0), .val (.ref x0)] [] := by first | (simp [entryFrame, mkF, argsToLocals, Value.category]; done) | rfl
def Qrem11 (Z : State) (g0 : Addr) (x0 : Addr) (u1 : Value) (u4 : Value) (u5 : Value) (y0 : Addr) (a1 : Value) (a2 : Value) (a3 : Value) (z0 : Addr) (c1 : Value) (c2 : Value) (c3 : Value) (h0 : Heap) (n0 : Nat) (v : Option Value) (h : Heap) (L : List Loc) : Prop := (v = none) ∧ (Fr n0 L) ∧ (Keep h0 h [g0, x0, y0, z0]) ∧ (Exa Z h g0 "com/example/steward/steward/runtime/Group") ∧ (Exa Z h x0 "com/example/steward/steward/runtime/Agent") ∧ (Fld Z h x0 "com/example/steward/steward/runtime/Agent" "group" "Lcom/example/steward/steward/runtime/Group;" .null) ∧ (Fld Z h x0 "com/example/steward/steward/runtime/Agent" "ahead" "Lcom/example/steward/steward/runtime/Agent;" .null) ∧ (Fld Z h x0 "com/example/steward/steward/runtime/Agent" "behind" "Lcom/example/steward/steward/runtime/Agent;" .null) ∧ (Exa Z h y0 "com/example/steward/steward/runtime/Agent") ∧ (Fld Z h y0 "com/example/steward/steward/runtime/Agent" "behind" "Lcom/example/steward/steward/runtime/Agent;" (.ref z0)) ∧ (Fld Z h y0 "com/example/steward/steward/runtime/Agent" "group" "Lcom/example/steward/steward/runtime/Group;" a2) ∧ (Fld Z h y0 "com/example/steward/steward/runtime/Agent" "ahead" "Lcom/example/steward/steward/runtime/Agent;" a3) ∧ (Exa Z h z0 "com/example/steward/steward/runtime/Agent") ∧ (Fld Z h z0 "com/example/steward/steward/runtime/Agent" "ahead" "Lcom/example/steward/steward/runtime/Agent;" (.ref y0)) ∧ (Fld Z h z0 "com/example/steward/steward/runtime/Agent" "group" "Lcom/example/steward/steward/runtime/Group;" c2) ∧ (Fld Z h z0 "com/example/steward/steward/runtime/Agent" "behind" "Lcom/example/steward/steward/runtime/Agent;" c3) ∧ (Fld Z h g0 "com/example/steward/steward/runtime/Group" "first" "Lcom/example/steward/steward/runtime/Agent;" u4) ∧ (Fld Z h g0 "com/example/steward/steward/runtime/Group" "last" "Lcom/example/steward/steward/runtime/Agent;" u5)
set_option maxRecDepth 65536 in
set_option maxHeartbeats 40000000 in
theorem rmrem11 (l : Launch) (Z : State) (aZ : Array Value) (hw : ∀ d ∈ tables_1, d.before aZ Z = true) (ws : List Jvm.Cond) (g0 : Addr) (x0 : Addr) (u1 : Value) (u4 : Value) (u5 : Value) (y0 : Addr) (a1 : Value) (a2 : Value) (a3 : Value) (z0 : Addr) (c1 : Value) (c2 : Value) (c3 : Value) (h0 : Heap) (n0 : Nat) (Z0 : n0 ≤ h0.size) (E_0 : Exa Z h0 g0 "com/example/steward/steward/runtime/Group") (E_1 : Exa Z h0 x0 "com/example/steward/steward/runtime/Agent") (F_2 : Fld Z h0 x0 "com/example/steward/steward/runtime/Agent" "group" "Lcom/example/steward/steward/runtime/Group;" u1) (F_3 : Fld Z h0 g0 "com/example/steward/steward/runtime/Group" "first" "Lcom/example/steward/steward/runtime/Agent;" u4) (F_4 : Fld Z h0 g0 "com/example/steward/steward/runtime/Group" "last" "Lcom/example/steward/steward/runtime/Agent;" u5) (F_5 : Fld Z h0 x0 "com/example/steward/steward/runtime/Agent" "ahead" "Lcom/example/steward/steward/runtime/Agent;" (.ref y0)) (F_6 : Fld Z h0 x0 "com/example/steward/steward/runtime/Agent" "behind" "Lcom/example/steward/steward/runtime/Agent;" (.ref z0)) (g_7 : n0 ≤ g0) (g_8 : n0 ≤ x0) (E_9 : Exa Z h0 y0 "com/example/steward/steward/runtime/Agent") (F_10 : Fld Z h0 y0 "com/example/steward/steward/runtime/Agent" "behind" "Lcom/example/steward/steward/runtime/Agent;" a1) (F_11 : Fld Z h0 y0 "com/example/steward/steward/runtime/Agent" "group" "Lcom/example/steward/steward/runtime/Group;" a2) (F_12 : Fld Z h0 y0 "com/example/steward/steward/runtime/Agent" "ahead" "Lcom/example/steward/steward/runtime/Agent;" a3) (ne_13 : x0 ≠ y0) (g_14 : n0 ≤ y0) (E_15 : Exa Z h0 z0 "com/example/steward/steward/runtime/Agent") (F_16 : Fld Z h0 z0 "com/example/steward/steward/runtime/Agent" "ahead" "Lcom/example/steward/steward/runtime/Agent;" c1) (F_17 : Fld Z h0 z0 "com/example/steward/steward/runtime/Agent" "group" "Lcom/example/steward/steward/runtime/Group;" c2) (F_18 : Fld Z h0 z0 "com/example/steward/steward/runtime/Agent" "behind" "Lcom/example/steward/steward/runtime/Agent;" c3) (ne_19 : x0 ≠ z0) (g_20 : n0 ≤ z0) (ne_21 : y0 ≠ z0) :
    MetFree l (⟨"com/example/steward/steward/runtime/Group", "remove", "(Lcom/example/steward/steward/runtime/Agent;)V"⟩ : MethodName) (head1 (Jvm.Cond.code (⟨"com/example/steward/steward/runtime/Group", "remove", "(Lcom/example/steward/steward/runtime/Agent;)V"⟩ : MethodName) prog_44_method_5_code 2 none :: ws) ({ frames := 0, cells := 0, slots := 0, locals := 0 } : Room)) (fun a U => a = #[(.ref g0), (.ref x0)] ∧ Z.Warmed39 U.vm ∧ U.heap = h0) (fun _ _ _ _ _ => True) (fun _ U o U' => ∃ v L, o = .returned v ∧ Qrem11 Z g0 x0 u1 u4 u5 y0 a1 a2 a3 z0 c1 c2 c3 h0 n0 v U'.heap L ∧ FrameEnd U o U' L ({ frames := 0, cells := 0, slots := 0, locals := 0 } : Room).cells ({ frames := 0, cells := 0, slots := 0, locals := 0 } : Room).slots) := by
  refine MetFree.of_bodySF (plainFor_of_name pn_5) hisR ?_
  intro p e s m args below meth c s₁ Bd hml0 hP hK
  obtain ⟨rfl, hZ, hh⟩ := hP
  have hx := Bd.exec
  have hby := Bd.bytes
  have hml : c.maxLocals = 2 := hml0
  have hown : s.vm.findClass "com/example/steward/steward/runtime/Group" = some m.cls := findClass_of_methodNamed Bd.named
  have hnm := (name_of_methodNamed Bd.named Bd.method).1
  have hlk : meth.locks = false := BodyLoose.notSynchronized Bd
  have X0 : Stand p l e ({ frames := 0, cells := 0, slots := 0, locals := 0 } : Room) s m #[(.ref g0), (.ref x0)] below meth c s₁ [] 0 0 := Stand.of_body Bd
  have e0 : s₁.heap = h0 := by rw [← hh, Bd.state]; rfl
  have N0 := Fr.nil n0
  have sq0 : h0.size ≤ h0.size := Nat.le_refl _
  have k0 : Keep h0 h0 [g0, x0, y0, z0] := Keep.refl _ _
  change Go p e below s ({ frames := 0, cells := 0, slots := 0, locals := 0 } : Room).cells ({ frames := 0, cells := 0, slots := 0, locals := 0 } : Room).slots (Qrem11 Z g0 x0 u1 u4 u5 y0 a1 a2 a3 z0 c1 c2 c3 h0 n0) (s₁.setTop (entryFrame m #[(.ref g0), (.ref x0)] 2))
  rw [ef_rem11 m g0 x0]
  show Go _ _ _ _ _ _ _ (s₁.setTop (mkF m 0 #[.val (.ref g0), .val (.ref x0)] []))
  refine Go.step (fun _ k => XS.aloadN X0.here hx rfl (hb hby d7_0) rfl rfl  k) ?_
  show Go _ _ _ _ _ _ _ (s₁.setTop (mkF m 1 #[.val (.ref g0), .val (.ref x0)] [(.ref x0)]))
  obtain ⟨T1, X1, e1, st1⟩ := getF X0 hx hZ hown (host := "") (Or.inl (hw _ (List.mem_of_getElem? (i := 58) rfl))) Via.refl e0 F_5 (g := (mkF m 1 #[.val (.ref g0), .val (.ref x0)] [(.ref x0)])) rfl rfl (hb hby d7_1)
  refine Go.step st1 ?_
  show Go _ _ _ _ _ _ _ (T1.setTop (mkF m 4 #[.val (.ref g0), .val (.ref x0)] [(.ref y0)]))
  refine Go.step (fun _ k => XS.ifnonnullYes X1.here hx rfl (pc0 := 4) (pc' := 18) rfl (hb hby d7_4) rfl (by decide) (by decide) k) ?_
  show Go _ _ _ _ _ _ _ (T1.setTop (mkF m 18 #[.val (.ref g0), .val (.ref x0)] []))
  refine Go.step (fun _ k => XS.aloadN X1.here hx rfl (hb hby d7_18) rfl rfl  k) ?_
  show Go _ _ _ _ _ _ _ (T1.setTop (mkF m 19 #[.val (.ref g0), .val (.ref x0)] [(.ref x0)]))
  obtain ⟨T2, X2, e2, st2⟩ := getF X1 hx hZ hown (host := "") (Or.inl (hw _ (List.mem_of_getElem? (i := 58) rfl))) Via.refl e1 F_5 (g := (mkF m 19 #[.val (.ref g0), .val (.ref x0)] [(.ref x0)])) rfl rfl (hb hby d7_19)
  refine Go.step st2 ?_
  show Go _ _ _ _ _ _ _ (T2.setTop (mkF m 22 #[.val (.ref g0), .val (.ref x0)] [(.ref y0)]))
  refine Go.step (fun _ k => XS.aloadN X2.here hx rfl (hb hby d7_22) rfl rfl  k) ?_
  show Go _ _ _ _ _ _ _ (T2.setTop (mkF m 23 #[.val (.ref g0), .val (.ref x0)] [(.ref x0), (.ref y0)]))
  obtain ⟨T3, X3, e3, st3⟩ := getF X2 hx hZ hown (host := "") (Or.inl (hw _ (List.mem_of_getElem? (i := 60) rfl))) Via.refl e2 F_6 (g := (mkF m 23 #[.val (.ref g0), .val (.ref x0)] [(.ref x0), (.ref y0)])) rfl rfl (hb hby d7_23)
  refine Go.step st3 ?_
  show Go _ _ _ _ _ _ _ (T3.setTop (mkF m 26 #[.val (.ref g0), .val (.ref x0)] [(.ref z0), (.ref y0)]))
  obtain ⟨T4, h4, X4, e4, W4, st4⟩ := putF X3 hx hZ hown (host := "") (Or.inl (hw _ (List.mem_of_getElem? (i := 60) rfl))) Via.refl e3 F_10 E_9 (Or.inl (hw _ (List.mem_of_getElem? (i := 61) rfl))) (hw _ (List.mem_of_getElem? (i := 11) rfl)) (ty := (.object "com/example/steward/steward/runtime/Agent")) (v := (.ref z0)) (by decide) rfl rfl (g := (mkF m 26 #[.val (.ref g0), .val (.ref x0)] [(.ref z0), (.ref y0)])) rfl rfl (hb hby d7_26)
  refine Go.step st4 ?_
  have N4 := Fr.snoc X4 N0 g_14
  have z5 : n0 ≤ h4.size := Nat.le_trans Z0 (Keep.of_wr W4).1
  have sqz5 : h0.size ≤ h4.size := Nat.le_trans sq0 (Keep.of_wr W4).1
  have k6 : Keep h0 h4 [g0, x0, y0, z0] := k0.wr W4 (Or.inl (List.mem_of_getElem? (i := 2) rfl))
  have f7 : Fld Z h4 y0 "com/example/steward/steward/runtime/Agent" "behind" "Lcom/example/steward/steward/runtime/Agent;" (.ref z0) := F_10.same W4
  show Go _ _ _ _ _ _ _ (T4.setTop (mkF m 29 #[.val (.ref g0), .val (.ref x0)] []))
  refine Go.step (fun _ k => XS.aloadN X4.here hx rfl (hb hby d7_29) rfl rfl  k) ?_
  show Go _ _ _ _ _ _ _ (T4.setTop (mkF m 30 #[.val (.ref g0), .val (.ref x0)] [(.ref x0)]))
  have f8 : Fld Z h4 x0 "com/example/steward/steward/runtime/Agent" "behind" "Lcom/example/steward/steward/runtime/Agent;" (.ref z0) := (F_6.other W4 (Or.inl ne_13))
  obtain ⟨T9, X9, e9, st9⟩ := getF X4 hx hZ hown (host := "") (Or.inl (hw _ (List.mem_of_getElem? (i := 60) rfl))) Via.refl e4 f8 (g := (mkF m 30 #[.val (.ref g0), .val (.ref x0)] [(.ref x0)])) rfl rfl (hb hby d7_30)
  refine Go.step st9 ?_
  show Go _ _ _ _ _ _ _ (T9.setTop (mkF m 33 #[.val (.ref g0), .val (.ref x0)] [(.ref z0)]))
  refine Go.step (fun _ k => XS.ifnonnullYes X9.here hx rfl (pc0 := 33) (pc' := 47) rfl (hb hby d7_33) rfl (by decide) (by decide) k) ?_
  show Go _ _ _ _ _ _ _ (T9.setTop (mkF m 47 #[.val (.ref g0), .val (.ref x0)] []))
  refine Go.step (fun _ k => XS.aloadN X9.here hx rfl (hb hby d7_47) rfl rfl  k) ?_
  show Go _ _ _ _ _ _ _ (T9.setTop (mkF m 48 #[.val (.ref g0), .val (.ref x0)] [(.ref x0)]))
  obtain ⟨T10, X10, e10, st10⟩ := getF X9 hx hZ hown (host := "") (Or.inl (hw _ (List.mem_of_getElem? (i := 60) rfl))) Via.refl e9 f8 (g := (mkF m 48 #[.val (.ref g0), .val (.ref x0)] [(.ref x0)])) rfl rfl (hb hby d7_48)
  refine Go.step st10 ?_
  show Go _ _ _ _ _ _ _ (T10.setTop (mkF m 51 #[.val (.ref g0), .val (.ref x0)] [(.ref z0)]))
  refine Go.step (fun _ k => XS.aloadN X10.here hx rfl (hb hby d7_51) rfl rfl  k) ?_
  show Go _ _ _ _ _ _ _ (T10.setTop (mkF m 52 #[.val (.ref g0), .val (.ref x0)] [(.ref x0), (.ref z0)]))
  have f11 : Fld Z h4 x0 "com/example/steward/steward/runtime/Agent" "ahead" "Lcom/example/steward/steward/runtime/Agent;" (.ref y0) := (F_5.other W4 (Or.inl ne_13))
  obtain ⟨T12, X12, e12, st12⟩ := getF X10 hx hZ hown (host := "") (Or.inl (hw _ (List.mem_of_getElem? (i := 58) rfl))) Via.refl e10 f11 (g := (mkF m 52 #[.val (.ref g0), .val (.ref x0)] [(.ref x0), (.ref z0)])) rfl rfl (hb hby d7_52)
  refine Go.step st12 ?_
  show Go _ _ _ _ _ _ _ (T12.setTop (mkF m 55 #[.val (.ref g0), .val (.ref x0)] [(.ref y0), (.ref z0)]))
  have f13 : Exa Z h4 z0 "com/example/steward/steward/runtime/Agent" := (E_15.wr W4)
  have f14 : Fld Z h4 z0 "com/example/steward/steward/runtime/Agent" "ahead" "Lcom/example/steward/steward/runtime/Agent;" c1 := (F_16.other W4 (Or.inl (Ne.symm ne_21)))
  obtain ⟨T15, h15, X15, e15, W15, st15⟩ := putF X12 hx hZ hown (host := "") (Or.inl (hw _ (List.mem_of_getElem? (i := 58) rfl))) Via.refl e12 f14 f13 (Or.inl (hw _ (List.mem_of_getElem? (i := 59) rfl))) (hw _ (List.mem_of_getElem? (i := 11) rfl)) (ty := (.object "com/example/steward/steward/runtime/Agent")) (v := (.ref y0)) (by decide) rfl rfl (g := (mkF m 55 #[.val (.ref g0), .val (.ref x0)] [(.ref y0), (.ref z0)])) rfl rfl (hb hby d7_55)
  refine Go.step st15 ?_
  have N15 := Fr.snoc X15 N4 g_20
  have z16 : n0 ≤ h15.size := Nat.le_trans z5 (Keep.of_wr W15).1
  have sqz16 : h0.size ≤ h15.size := Nat.le_trans sqz5 (Keep.of_wr W15).1
  have k17 : Keep h0 h15 [g0, x0, y0, z0] := k6.wr W15 (Or.inl (List.mem_of_getElem? (i := 3) rfl))
  have f18 : Fld Z h15 z0 "com/example/steward/steward/runtime/Agent" "ahead" "Lcom/example/steward/steward/runtime/Agent;" (.ref y0) := f14.same W15
  show Go _ _ _ _ _ _ _ (T15.setTop (mkF m 58 #[.val (.ref g0), .val (.ref x0)] []))
  refine Go.step (fun _ k => XS.aloadN X15.here hx rfl (hb hby d7_58) rfl rfl  k) ?_
  show Go _ _ _ _ _ _ _ (T15.setTop (mkF m 59 #[.val (.ref g0), .val (.ref x0)] [(.ref x0)]))
  refine Go.step (fun _ k => XS.aconstNull X15.here hx rfl (hb hby d7_59) k) ?_
  show Go _ _ _ _ _ _ _ (T15.setTop (mkF m 60 #[.val (.ref g0), .val (.ref x0)] [.null, (.ref x0)]))
  have f19 : Exa Z h15 x0 "com/example/steward/steward/runtime/Agent" := ((E_1.wr W4).wr W15)
  have f20 : Fld Z h15 x0 "com/example/steward/steward/runtime/Agent" "group" "Lcom/example/steward/steward/runtime/Group;" u1 := ((F_2.other W4 (Or.inl ne_13)).other W15 (Or.inl ne_19))
  obtain ⟨T21, h21, X21, e21, W21, st21⟩ := putF X15 hx hZ hown (host := "") (Or.inl (hw _ (List.mem_of_getElem? (i := 54) rfl))) Via.refl e15 f20 f19 (Or.inl (hw _ (List.mem_of_getElem? (i := 55) rfl))) (hw _ (List.mem_of_getElem? (i := 11) rfl)) (ty := (.object "com/example/steward/steward/runtime/Group")) (v := .null) (by decide) rfl rfl (g := (mkF m 60 #[.val (.ref g0), .val (.ref x0)] [.null, (.ref x0)])) rfl rfl (hb hby d7_60)
  refine Go.step st21 ?_
  have N21 := Fr.snoc X21 N15 g_8
  have z22 : n0 ≤ h21.size := Nat.le_trans z16 (Keep.of_wr W21).1
  have sqz22 : h0.size ≤ h21.size := Nat.le_trans sqz16 (Keep.of_wr W21).1
  have k23 : Keep h0 h21 [g0, x0, y0, z0] := k17.wr W21 (Or.inl (List.mem_of_getElem? (i := 1) rfl))
  have f24 : Fld Z h21 x0 "com/example/steward/steward/runtime/Agent" "group" "Lcom/example/steward/steward/runtime/Group;" .null := f20.same W21
  show Go _ _ _ _ _ _ _ (T21.setTop (mkF m 63 #[.val (.ref g0), .val (.ref x0)] []))
  refine Go.step (fun _ k => XS.aloadN X21.here hx rfl (hb hby d7_63) rfl rfl  k) ?_
  show Go _ _ _ _ _ _ _ (T21.setTop (mkF m 64 #[.val (.ref g0), .val (.ref x0)] [(.ref x0)]))
  refine Go.step (fun _ k => XS.aconstNull X21.here hx rfl (hb hby d7_64) k) ?_
  show Go _ _ _ _ _ _ _ (T21.setTop (mkF m 65 #[.val (.ref g0), .val (.ref x0)] [.null, (.ref x0)]))
  have f25 : Exa Z h21 x0 "com/example/steward/steward/runtime/Agent" := (f19.wr W21)
  have f26 : Fld Z h21 x0 "com/example/steward/steward/runtime/Agent" "ahead" "Lcom/example/steward/steward/runtime/Agent;" (.ref y0) := ((f11.other W15 (Or.inl ne_19)).other W21 (Or.inr (slot_ne (Or.inl (hw _ (List.mem_of_getElem? (i := 59) rfl))) (Or.inl (hw _ (List.mem_of_getElem? (i := 55) rfl))) (by decide) (t := (.object "com/example/steward/steward/runtime/Agent")) (t' := (.object "com/example/steward/steward/runtime/Group")) (by decide) (by decide))))
  obtain ⟨T27, h27, X27, e27, W27, st27⟩ := putF X21 hx hZ hown (host := "") (Or.inl (hw _ (List.mem_of_getElem? (i := 58) rfl))) Via.refl e21 f26 f25 (Or.inl (hw _ (List.mem_of_getElem? (i := 59) rfl))) (hw _ (List.mem_of_getElem? (i := 11) rfl)) (ty := (.object "com/example/steward/steward/runtime/Agent")) (v := .null) (by decide) rfl rfl (g := (mkF m 65 #[.val (.ref g0), .val (.ref x0)] [.null, (.ref x0)])) rfl rfl (hb hby d7_65)
  refine Go.step st27 ?_
  have N27 := Fr.snoc X27 N21 g_8
  have z28 : n0 ≤ h27.size := Nat.le_trans z22 (Keep.of_wr W27).1
  have sqz28 : h0.size ≤ h27.size := Nat.le_trans sqz22 (Keep.of_wr W27).1
  have k29 : Keep h0 h27 [g0, x0, y0, z0] := k23.wr W27 (Or.inl (List.mem_of_getElem? (i := 1) rfl))
  have f30 : Fld Z h27 x0 "com/example/steward/steward/runtime/Agent" "ahead" "Lcom/example/steward/steward/runtime/Agent;" .null := f26.same W27
  show Go _ _ _ _ _ _ _ (T27.setTop (mkF m 68 #[.val (.ref g0), .val (.ref x0)] []))
  refine Go.step (fun _ k => XS.aloadN X27.here hx rfl (hb hby d7_68) rfl rfl  k) ?_
  show Go _ _ _ _ _ _ _ (T27.setTop (mkF m 69 #[.val (.ref g0), .val (.ref x0)] [(.ref x0)]))
  refine Go.step (fun _ k => XS.aconstNull X27.here hx rfl (hb hby d7_69) k) ?_
  show Go _ _ _ _ _ _ _ (T27.setTop (mkF m 70 #[.val (.ref g0), .val (.ref x0)] [.null, (.ref x0)]))
  have f31 : Exa Z h27 x0 "com/example/steward/steward/runtime/Agent" := (f25.wr W27)
  have f32 : Fld Z h27 x0 "com/example/steward/steward/runtime/Agent" "behind" "Lcom/example/steward/steward/runtime/Agent;" (.ref z0) := (((f8.other W15 (Or.inl ne_19)).other W21 (Or.inr (slot_ne (Or.inl (hw _ (List.mem_of_getElem? (i := 61) rfl))) (Or.inl (hw _ (List.mem_of_getElem? (i := 55) rfl))) (by decide) (t := (.object "com/example/steward/steward/runtime/Agent")) (t' := (.object "com/example/steward/steward/runtime/Group")) (by decide) (by decide)))).other W27 (Or.inr (slot_ne (Or.inl (hw _ (List.mem_of_getElem? (i := 61) rfl))) (Or.inl (hw _ (List.mem_of_getElem? (i := 59) rfl))) (by decide) (t := (.object "com/example/steward/steward/runtime/Agent")) (t' := (.object "com/example/steward/steward/runtime/Agent")) (by decide) (by decide))))
  obtain ⟨T33, h33, X33, e33, W33, st33⟩ := putF X27 hx hZ hown (host := "") (Or.inl (hw _ (List.mem_of_getElem? (i := 60) rfl))) Via.refl e27 f32 f31 (Or.inl (hw _ (List.mem_of_getElem? (i := 61) rfl))) (hw _ (List.mem_of_getElem? (i := 11) rfl)) (ty := (.object "com/example/steward/steward/runtime/Agent")) (v := .null) (by decide) rfl rfl (g := (mkF m 70 #[.val (.ref g0), .val (.ref x0)] [.null, (.ref x0)])) rfl rfl (hb hby d7_70)
  refine Go.step st33 ?_
  have N33 := Fr.snoc X33 N27 g_8
  have z34 : n0 ≤ h33.size := Nat.le_trans z28 (Keep.of_wr W33).1
  have sqz34 : h0.size ≤ h33.size := Nat.le_trans sqz28 (Keep.of_wr W33).1
  have k35 : Keep h0 h33 [g0, x0, y0, z0] := k29.wr W33 (Or.inl (List.mem_of_getElem? (i := 1) rfl))
  have f36 : Fld Z h33 x0 "com/example/steward/steward/runtime/Agent" "behind" "Lcom/example/steward/steward/runtime/Agent;" .null := f32.same W33
  show Go _ _ _ _ _ _ _ (T33.setTop (mkF m 73 #[.val (.ref g0), .val (.ref x0)] []))
  have f37 : Exa Z h33 g0 "com/example/steward/steward/runtime/Group" := (((((E_0.wr W4).wr W15).wr W21).wr W27).wr W33)
  have f38 : Exa Z h33 x0 "com/example/steward/steward/runtime/Agent" := (f31.wr W33)
  have f39 : Fld Z h33 x0 "com/example/steward/steward/runtime/Agent" "group" "Lcom/example/steward/steward/runtime/Group;" .null := ((f24.other W27 (Or.inr (slot_ne (Or.inl (hw _ (List.mem_of_getElem? (i := 55) rfl))) (Or.inl (hw _ (List.mem_of_getElem? (i := 59) rfl))) (by decide) (t := (.object "com/example/steward/steward/runtime/Group")) (t' := (.object "com/example/steward/steward/runtime/Agent")) (by decide) (by decide)))).other W33 (Or.inr (slot_ne (Or.inl (hw _ (List.mem_of_getElem? (i := 55) rfl))) (Or.inl (hw _ (List.mem_of_getElem? (i := 61) rfl))) (by decide) (t := (.object "com/example/steward/steward/runtime/Group")) (t' := (.object "com/example/steward/steward/runtime/Agent")) (by decide) (by decide))))
  have f40 : Fld Z h33 x0 "com/example/steward/steward/runtime/Agent" "ahead" "Lcom/example/steward/steward/runtime/Agent;" .null := (f30.other W33 (Or.inr (slot_ne (Or.inl (hw _ (List.mem_of_getElem? (i := 59) rfl))) (Or.inl (hw _ (List.mem_of_getElem? (i := 61) rfl))) (by decide) (t := (.object "com/example/steward/steward/runtime/Agent")) (t' := (.object "com/example/steward/steward/runtime/Agent")) (by decide) (by decide))))
  have f41 : Exa Z h33 y0 "com/example/steward/steward/runtime/Agent" := (((((E_9.wr W4).wr W15).wr W21).wr W27).wr W33)
  have f42 : Fld Z h33 y0 "com/example/steward/steward/runtime/Agent" "behind" "Lcom/example/steward/steward/runtime/Agent;" (.ref z0) := ((((f7.other W15 (Or.inl ne_21)).other W21 (Or.inl (Ne.symm ne_13))).other W27 (Or.inl (Ne.symm ne_13))).other W33 (Or.inl (Ne.symm ne_13)))
  have f43 : Fld Z h33 y0 "com/example/steward/steward/runtime/Agent" "group" "Lcom/example/steward/steward/runtime/Group;" a2 := (((((F_11.other W4 (Or.inr (slot_ne (Or.inl (hw _ (List.mem_of_getElem? (i := 55) rfl))) (Or.inl (hw _ (List.mem_of_getElem? (i := 61) rfl))) (by decide) (t := (.object "com/example/steward/steward/runtime/Group")) (t' := (.object "com/example/steward/steward/runtime/Agent")) (by decide) (by decide)))).other W15 (Or.inl ne_21)).other W21 (Or.inl (Ne.symm ne_13))).other W27 (Or.inl (Ne.symm ne_13))).other W33 (Or.inl (Ne.symm ne_13)))
  have f44 : Fld Z h33 y0 "com/example/steward/steward/runtime/Agent" "ahead" "Lcom/example/steward/steward/runtime/Agent;" a3 := (((((F_12.other W4 (Or.inr (slot_ne (Or.inl (hw _ (List.mem_of_getElem? (i := 59) rfl))) (Or.inl (hw _ (List.mem_of_getElem? (i := 61) rfl))) (by decide) (t := (.object "com/example/steward/steward/runtime/Agent")) (t' := (.object "com/example/steward/steward/runtime/Agent")) (by decide) (by decide)))).other W15 (Or.inl ne_21)).other W21 (Or.inl (Ne.symm ne_13))).other W27 (Or.inl (Ne.symm ne_13))).other W33 (Or.inl (Ne.symm ne_13)))
  have f45 : Exa Z h33 z0 "com/example/steward/steward/runtime/Agent" := ((((f13.wr W15).wr W21).wr W27).wr W33)
  have f46 : Fld Z h33 z0 "com/example/steward/steward/runtime/Agent" "ahead" "Lcom/example/steward/steward/runtime/Agent;" (.ref y0) := (((f18.other W21 (Or.inl (Ne.symm ne_19))).other W27 (Or.inl (Ne.symm ne_19))).other W33 (Or.inl (Ne.symm ne_19)))
  have f47 : Fld Z h33 z0 "com/example/steward/steward/runtime/Agent" "group" "Lcom/example/steward/steward/runtime/Group;" c2 := (((((F_17.other W4 (Or.inl (Ne.symm ne_21))).other W15 (Or.inr (slot_ne (Or.inl (hw _ (List.mem_of_getElem? (i := 55) rfl))) (Or.inl (hw _ (List.mem_of_getElem? (i := 59) rfl))) (by decide) (t := (.object "com/example/steward/steward/runtime/Group")) (t' := (.object "com/example/steward/steward/runtime/Agent")) (by decide) (by decide)))).other W21 (Or.inl (Ne.symm ne_19))).other W27 (Or.inl (Ne.symm ne_19))).other W33 (Or.inl (Ne.symm ne_19)))
  have f48 : Fld Z h33 z0 "com/example/steward/steward/runtime/Agent" "behind" "Lcom/example/steward/steward/runtime/Agent;" c3 := (((((F_18.other W4 (Or.inl (Ne.symm ne_21))).other W15 (Or.inr (slot_ne (Or.inl (hw _ (List.mem_of_getElem? (i := 61) rfl))) (Or.inl (hw _ (List.mem_of_getElem? (i := 59) rfl))) (by decide) (t := (.object "com/example/steward/steward/runtime/Agent")) (t' := (.object "com/example/steward/steward/runtime/Agent")) (by decide) (by decide)))).other W21 (Or.inl (Ne.symm ne_19))).other W27 (Or.inl (Ne.symm ne_19))).other W33 (Or.inl (Ne.symm ne_19)))
  have ne49 : g0 ≠ y0 := ne_exa f37 f41 (by decide)
  have ne50 : g0 ≠ z0 := ne_exa f37 f45 (by decide)
  have ne51 : g0 ≠ x0 := ne_exa f37 f38 (by decide)
  have f52 : Fld Z h33 g0 "com/example/steward/steward/runtime/Group" "first" "Lcom/example/steward/steward/runtime/Agent;" u4 := (((((F_3.other W4 (Or.inl ne49)).other W15 (Or.inl ne50)).other W21 (Or.inl ne51)).other W27 (Or.inl ne51)).other W33 (Or.inl ne51))
  have f53 : Fld Z h33 g0 "com/example/steward/steward/runtime/Group" "last" "Lcom/example/steward/steward/runtime/Agent;" u5 := (((((F_4.other W4 (Or.inl ne49)).other W15 (Or.inl ne50)).other W21 (Or.inl ne51)).other W27 (Or.inl ne51)).other W33 (Or.inl ne51))
  refine Go.retV X33 hx Bd.returns hlk (hb hby d7_73) ?_ (by decide) (by decide)
  rw [e33]
  exact ⟨(rfl), N33, k35, f37, f38, f39, f40, f36, f41, f42, f43, f44, f45, f46, f47, f48, f52, f53⟩
theorem d8_0 : decode prog_44_method_3_code 0 = .ok (.aload_n 0, 1) := by decide +kernel
theorem d8_1 : decode prog_44_method_3_code 1 = .ok (.getfield 7, 3) := by decide +kernel
theorem d8_4 : decode prog_44_method_3_code 4 = .ok (.areturn, 1) := by decide +kernel
theorem ef_8 (m : MethodId) (g0 : Addr) : entryFrame m #[(.ref g0)] 1 = mkF m 0 #[.val (.ref g0)] [] := by first | (simp [entryFrame, mkF, argsToLocals, Value.category]; done) | rfl
def Q8 (Z : State) (g0 : Addr) (u : Value) (h0 : Heap) (n0 : Nat) (v : Option Value) (h : Heap) (L : List Loc) : Prop := (v = some u) ∧ (Fr n0 L) ∧ (h = h0)
set_option maxRecDepth 65536 in
set_option maxHeartbeats 40000000 in
theorem rm8 (l : Launch) (Z : State) (aZ : Array Value) (hw : ∀ d ∈ tables_1, d.before aZ Z = true) (ws : List Jvm.Cond) (g0 : Addr) (u : Value) (h0 : Heap) (n0 : Nat) (Z0 : n0 ≤ h0.size) (F_0 : Fld Z h0 g0 "com/example/steward/steward/runtime/Group" "first" "Lcom/example/steward/steward/runtime/Agent;" u) (hu : u.isRef = true) :
    MetFree l (⟨"com/example/steward/steward/runtime/Group", "first", "()Lcom/example/steward/steward/runtime/Agent;"⟩ : MethodName) (head1 (Jvm.Cond.code (⟨"com/example/steward/steward/runtime/Group", "first", "()Lcom/example/steward/steward/runtime/Agent;"⟩ : MethodName) prog_44_method_3_code 1 (some (.object "com/example/steward/steward/runtime/Agent")) :: ws) ({ frames := 0, cells := 0, slots := 0, locals := 0 } : Room)) (fun a U => a = #[(.ref g0)] ∧ Z.Warmed39 U.vm ∧ U.heap = h0) (fun _ _ _ _ _ => True) (fun _ U o U' => ∃ v L, o = .returned v ∧ Q8 Z g0 u h0 n0 v U'.heap L ∧ FrameEnd U o U' L ({ frames := 0, cells := 0, slots := 0, locals := 0 } : Room).cells ({ frames := 0, cells := 0, slots := 0, locals := 0 } : Room).slots) := by
  refine MetFree.of_bodySF (plainFor_of_name pn_5) hisR ?_
  intro p e s m args below meth c s₁ Bd hml0 hP hK
  obtain ⟨rfl, hZ, hh⟩ := hP
  have hx := Bd.exec
  have hby := Bd.bytes
  have hml : c.maxLocals = 1 := hml0
  have hown : s.vm.findClass "com/example/steward/steward/runtime/Group" = some m.cls := findClass_of_methodNamed Bd.named
  have hnm := (name_of_methodNamed Bd.named Bd.method).1
  have hlk : meth.locks = false := BodyLoose.notSynchronized Bd
  have X0 : Stand p l e ({ frames := 0, cells := 0, slots := 0, locals := 0 } : Room) s m #[(.ref g0)] below meth c s₁ [] 0 0 := Stand.of_body Bd
  have e0 : s₁.heap = h0 := by rw [← hh, Bd.state]; rfl
  have N0 := Fr.nil n0
  have sq0 : h0.size ≤ h0.size := Nat.le_refl _
  change Go p e below s ({ frames := 0, cells := 0, slots := 0, locals := 0 } : Room).cells ({ frames := 0, cells := 0, slots := 0, locals := 0 } : Room).slots (Q8 Z g0 u h0 n0) (s₁.setTop (entryFrame m #[(.ref g0)] 1))
  rw [ef_8 m g0]
  show Go _ _ _ _ _ _ _ (s₁.setTop (mkF m 0 #[.val (.ref g0)] []))
  refine Go.step (fun _ k => XS.aloadN X0.here hx rfl (hb hby d8_0) rfl rfl  k) ?_
  show Go _ _ _ _ _ _ _ (s₁.setTop (mkF m 1 #[.val (.ref g0)] [(.ref g0)]))
  obtain ⟨T1, X1, e1, st1⟩ := getF X0 hx hZ hown (host := "") (Or.inl (hw _ (List.mem_of_getElem? (i := 62) rfl))) Via.refl e0 F_0 (g := (mkF m 1 #[.val (.ref g0)] [(.ref g0)])) rfl rfl (hb hby d8_1)
  refine Go.step st1 ?_
  show Go _ _ _ _ _ _ _ (T1.setTop (mkF m 4 #[.val (.ref g0)] [u]))
  refine Go.retA X1 hx Bd.returns rfl (by assumption) hlk (hb hby d8_4) ?_ (by decide) (by decide)
  rw [e1]
  exact ⟨(rfl), N0, rfl⟩
theorem pn_8 : plainName "com/example/steward/steward/runtime/GroupRemovePinLaw" = true := by first | (simp [plainName, overriddenIn]; done) | decide +kernel
theorem pd_2 : parseMethodDescriptor "(Ljava/lang/String;)V" = some ⟨[(.object "java/lang/String")], none⟩ := by decide +kernel
theorem pd_3 : parseMethodDescriptor "(Lcom/example/steward/steward/runtime/Agent;)V" = some ⟨[(.object "com/example/steward/steward/runtime/Agent")], none⟩ := by decide +kernel
theorem pd_4 : parseMethodDescriptor "()Lcom/example/steward/steward/runtime/Agent;" = some ⟨[], some (.object "com/example/steward/steward/runtime/Agent")⟩ := by decide +kernel
theorem ef_0 (m : MethodId) (qs : Int32) (qp : Int32) : entryFrame m #[(.int qs), (.int qp)] maxLocals = mkF m 0 #[.val (.int qs), .val (.int qp), .unset, .unset, .unset, .unset, .unset, .unset, .unset, .unset, .unset, .unset, .unset, .unset] [] := by first | (simp [entryFrame, mkF, argsToLocals, Value.category, maxLocals]; done) | rfl
def Q0 (Z : State) (qs : Int32) (qp : Int32) (h0 : Heap) (n0 : Nat) (v : Option Value) (h : Heap) (L : List Loc) : Prop := (v = some (.int 1)) ∧ (Fr n0 L)
set_option maxRecDepth 65536 in
set_option maxHeartbeats 40000000 in
theorem rm0 (l : Launch) (Z : State) (aZ : Array Value) (hw : ∀ d ∈ tables_1, d.before aZ Z = true) (ws : List Jvm.Cond) (qs : Int32) (qp : Int32) (h0 : Heap) (n0 : Nat) (Z0 : n0 ≤ h0.size)  :
    MetFree l x (head1 (Jvm.Cond.code x code maxLocals ret :: ws) room_1) (fun a U => a = #[(.int qs), (.int qp)] ∧ Z.Warmed39 U.vm ∧ U.heap = h0) (fun _ _ _ _ _ => True) (fun _ U o U' => ∃ v L, o = .returned v ∧ Q0 Z qs qp h0 n0 v U'.heap L ∧ ReturnedEndW U o U' L 16 74) := by
  refine MetFree.of_bodySF (plainFor_of_name pn_8) hisR ?_
  intro p e s m args below meth c s₁ Bd hml0 hP hK
  obtain ⟨rfl, hZ, hh⟩ := hP
  have hx := Bd.exec
  have hby := Bd.bytes
  have hml : c.maxLocals = 14 := hml0
  have hown : s.vm.findClass "com/example/steward/steward/runtime/GroupRemovePinLaw" = some m.cls := findClass_of_methodNamed Bd.named
  have hnm := (name_of_methodNamed Bd.named Bd.method).1
  have hlk : meth.locks = false := BodyLoose.notSynchronized Bd
  have X0 : Stand p l e room_1 (s.setVm s.vm) m #[(.int qs), (.int qp)] below meth c s₁ [] 0 0 := Stand.of_body Bd
  have e0 : s₁.heap = h0 := by rw [← hh, Bd.state]; rfl
  have N0 := Fr.nil n0
  have sq0 : h0.size ≤ h0.size := Nat.le_refl _
  have hS0 : s.Since s.vm h0.size := (State.WarmedH.refl s).since _
  have hk0 : h0.size ≤ h0.size := Nat.le_refl _
  have hSt : ∀ d ∈ Bundle.stringAtoms, d.before aZ Z = true := by
    intro d hd
    simp only [Bundle.stringAtoms, List.mem_cons, List.not_mem_nil, or_false] at hd
    rcases hd with rfl | rfl | rfl | rfl | rfl | rfl | rfl
    · exact (hw _ (List.mem_of_getElem? (i := 14) rfl))
    · exact (hw _ (List.mem_of_getElem? (i := 15) rfl))
    · exact (hw _ (List.mem_of_getElem? (i := 16) rfl))
    · exact (hw _ (List.mem_of_getElem? (i := 17) rfl))
    · exact (hw _ (List.mem_of_getElem? (i := 18) rfl))
    · exact (hw _ (List.mem_of_getElem? (i := 19) rfl))
    · exact (hw _ (List.mem_of_getElem? (i := 20) rfl))
  change GoW p e below s 16 74 (Q0 Z qs qp h0 n0) (s₁.setTop (entryFrame m #[(.int qs), (.int qp)] maxLocals))
  rw [ef_0 m qs qp]
  show GoW _ _ _ _ _ _ _ (s₁.setTop (mkF m 0 #[.val (.int qs), .val (.int qp), .unset, .unset, .unset, .unset, .unset, .unset, .unset, .unset, .unset, .unset, .unset, .unset] []))
  refine GoW.step (fun _ k => XS.iloadN X0.here hx rfl (hb hby at_0) rfl  k) ?_
  show GoW _ _ _ _ _ _ _ (s₁.setTop (mkF m 1 #[.val (.int qs), .val (.int qp), .unset, .unset, .unset, .unset, .unset, .unset, .unset, .unset, .unset, .unset, .unset, .unset] [(.int qs)]))
  refine GoW.step (fun _ k => XS.iconst X0.here hx rfl (hb hby at_1) k) ?_
  show GoW _ _ _ _ _ _ _ (s₁.setTop (mkF m 2 #[.val (.int qs), .val (.int qp), .unset, .unset, .unset, .unset, .unset, .unset, .unset, .unset, .unset, .unset, .unset, .unset] [(.int (3 : Int32)), (.int qs)]))
  refine GoW.step (fun _ k => XS.iand X0.here hx rfl (hb hby at_2) rfl k) ?_
  show GoW _ _ _ _ _ _ _ (s₁.setTop (mkF m 3 #[.val (.int qs), .val (.int qp), .unset, .unset, .unset, .unset, .unset, .unset, .unset, .unset, .unset, .unset, .unset, .unset] [(.int (qs &&& (3 : Int32)))]))
  refine GoW.step (fun _ k => XS.iconst X0.here hx rfl (hb hby at_3) k) ?_
  show GoW _ _ _ _ _ _ _ (s₁.setTop (mkF m 4 #[.val (.int qs), .val (.int qp), .unset, .unset, .unset, .unset, .unset, .unset, .unset, .unset, .unset, .unset, .unset, .unset] [(.int (3 : Int32)), (.int (qs &&& (3 : Int32)))]))
  have nz4 : (3 : Int32) ≠ 0 := (by decide)
  refine GoW.step (fun _ k => iremM X0 hx rfl (hb hby at_4) rfl nz4 k) ?_
  show GoW _ _ _ _ _ _ _ (s₁.setTop (mkF m 5 #[.val (.int qs), .val (.int qp), .unset, .unset, .unset, .unset, .unset, .unset, .unset, .unset, .unset, .unset, .unset, .unset] [(.int ((qs &&& (3 : Int32)) % (3 : Int32)))]))
  refine GoW.step (fun _ k => XS.iconst X0.here hx rfl (hb hby at_5) k) ?_
  show GoW _ _ _ _ _ _ _ (s₁.setTop (mkF m 6 #[.val (.int qs), .val (.int qp), .unset, .unset, .unset, .unset, .unset, .unset, .unset, .unset, .unset, .unset, .unset, .unset] [(.int (1 : Int32)), (.int ((qs &&& (3 : Int32)) % (3 : Int32)))]))
  refine GoW.step (fun _ k => XS.iadd X0.here hx rfl (hb hby at_6) rfl k) ?_
  show GoW _ _ _ _ _ _ _ (s₁.setTop (mkF m 7 #[.val (.int qs), .val (.int qp), .unset, .unset, .unset, .unset, .unset, .unset, .unset, .unset, .unset, .unset, .unset, .unset] [(.int (((qs &&& (3 : Int32)) % (3 : Int32)) + (1 : Int32)))]))
  obtain ⟨nn, q_nn⟩ : ∃ z : Int32, z = (((qs &&& (3 : Int32)) % (3 : Int32)) + (1 : Int32)) := ⟨_, rfl⟩
  rw [← q_nn]
  have hnn := own_nn qs
  rw [← q_nn] at hnn
  show GoW _ _ _ _ _ _ _ (s₁.setTop (mkF m 7 #[.val (.int qs), .val (.int qp), .unset, .unset, .unset, .unset, .unset, .unset, .unset, .unset, .unset, .unset, .unset, .unset] [(.int nn)]))
  refine GoW.step (fun _ k => XS.istoreN X0.here hx rfl (hb hby at_7) rfl (l' := #[.val (.int qs), .val (.int qp), .val (.int nn), .unset, .unset, .unset, .unset, .unset, .unset, .unset, .unset, .unset, .unset, .unset]) rfl k) ?_
  show GoW _ _ _ _ _ _ _ (s₁.setTop (mkF m 8 #[.val (.int qs), .val (.int qp), .val (.int nn), .unset, .unset, .unset, .unset, .unset, .unset, .unset, .unset, .unset, .unset, .unset] []))
  refine GoW.step (fun _ k => XS.iloadN X0.here hx rfl (hb hby at_8) rfl  k) ?_
  show GoW _ _ _ _ _ _ _ (s₁.setTop (mkF m 9 #[.val (.int qs), .val (.int qp), .val (.int nn), .unset, .unset, .unset, .unset, .unset, .unset, .unset, .unset, .unset, .unset, .unset] [(.int qp)]))
  refine GoW.step (X0.ldcInt hx hown (mvT hZ (hw _ (List.mem_of_getElem? (i := 0) rfl))) (g := (mkF m 9 #[.val (.int qs), .val (.int qp), .val (.int nn), .unset, .unset, .unset, .unset, .unset, .unset, .unset, .unset, .unset, .unset, .unset] [(.int qp)])) rfl (hb hby at_9)) ?_
  show GoW _ _ _ _ _ _ _ (s₁.setTop (mkF m 11 #[.val (.int qs), .val (.int qp), .val (.int nn), .unset, .unset, .unset, .unset, .unset, .unset, .unset, .unset, .unset, .unset, .unset] [(.int (2147483647 : Int32)), (.int qp)]))
  refine GoW.step (fun _ k => XS.iand X0.here hx rfl (hb hby at_11) rfl k) ?_
  show GoW _ _ _ _ _ _ _ (s₁.setTop (mkF m 12 #[.val (.int qs), .val (.int qp), .val (.int nn), .unset, .unset, .unset, .unset, .unset, .unset, .unset, .unset, .unset, .unset, .unset] [(.int (qp &&& (2147483647 : Int32)))]))
  refine GoW.step (fun _ k => XS.iloadN X0.here hx rfl (hb hby at_12) rfl  k) ?_
  show GoW _ _ _ _ _ _ _ (s₁.setTop (mkF m 13 #[.val (.int qs), .val (.int qp), .val (.int nn), .unset, .unset, .unset, .unset, .unset, .unset, .unset, .unset, .unset, .unset, .unset] [(.int nn), (.int (qp &&& (2147483647 : Int32)))]))
  have nz13 : nn ≠ 0 := (by rcases hnn with h | h | h <;> rw [h] <;> decide)
  refine GoW.step (fun _ k => iremM X0 hx rfl (hb hby at_13) rfl nz13 k) ?_
  show GoW _ _ _ _ _ _ _ (s₁.setTop (mkF m 14 #[.val (.int qs), .val (.int qp), .val (.int nn), .unset, .unset, .unset, .unset, .unset, .unset, .unset, .unset, .unset, .unset, .unset] [(.int ((qp &&& (2147483647 : Int32)) % nn))]))
  obtain ⟨pp, q_pp⟩ : ∃ z : Int32, z = ((qp &&& (2147483647 : Int32)) % nn) := ⟨_, rfl⟩
  rw [← q_pp]
  have hpp := own_pp qp nn hnn
  rw [← q_pp] at hpp
  show GoW _ _ _ _ _ _ _ (s₁.setTop (mkF m 14 #[.val (.int qs), .val (.int qp), .val (.int nn), .unset, .unset, .unset, .unset, .unset, .unset, .unset, .unset, .unset, .unset, .unset] [(.int pp)]))
  refine GoW.step (fun _ k => XS.istoreN X0.here hx rfl (hb hby at_14) rfl (l' := #[.val (.int qs), .val (.int qp), .val (.int nn), .val (.int pp), .unset, .unset, .unset, .unset, .unset, .unset, .unset, .unset, .unset, .unset]) rfl k) ?_
  show GoW _ _ _ _ _ _ _ (s₁.setTop (mkF m 15 #[.val (.int qs), .val (.int qp), .val (.int nn), .val (.int pp), .unset, .unset, .unset, .unset, .unset, .unset, .unset, .unset, .unset, .unset] []))
  obtain ⟨T1, h1, X1, e1, E1, A1, D1, -, st1⟩ := newO X0 hx hZ hown (hw _ (List.mem_of_getElem? (i := 1) rfl)) (hw _ (List.mem_of_getElem? (i := 2) rfl)) (hw _ (List.mem_of_getElem? (i := 3) rfl)) e0 (g := (mkF m 15 #[.val (.int qs), .val (.int qp), .val (.int nn), .val (.int pp), .unset, .unset, .unset, .unset, .unset, .unset, .unset, .unset, .unset, .unset] [])) rfl (hb hby at_15) (by decide) (by decide)
  obtain ⟨b1, g1⟩ : ∃ z, z = h0.size := ⟨_, rfl⟩
  rw [← g1] at A1 D1 st1
  refine GoW.step st1 ?_
  have gn1 : n0 ≤ b1 := Nat.le_trans Z0 (Nat.le_of_eq g1.symm)
  have sz1 : h0.size ≤ b1 := Nat.le_trans sq0 (Nat.le_of_eq g1.symm)
  have z2 : n0 ≤ h1.size := Nat.le_trans Z0 E1.1
  have sqz2 : h0.size ≤ h1.size := Nat.le_trans sq0 E1.1
  have hk4 := Nat.le_trans hk0 E1.1
  have f5 : Fld Z h1 b1 "com/example/steward/steward/runtime/Group" "last" "Lcom/example/steward/steward/runtime/Agent;" .null := D1 (Or.inl (hw _ (List.mem_of_getElem? (i := 57) rfl))) (ty := (.object "com/example/steward/steward/runtime/Agent")) (by decide)
  have f6 : Fld Z h1 b1 "com/example/steward/steward/runtime/Group" "first" "Lcom/example/steward/steward/runtime/Agent;" .null := D1 (Or.inl (hw _ (List.mem_of_getElem? (i := 63) rfl))) (ty := (.object "com/example/steward/steward/runtime/Agent")) (by decide)
  show GoW _ _ _ _ _ _ _ (T1.setTop (mkF m 18 #[.val (.int qs), .val (.int qp), .val (.int nn), .val (.int pp), .unset, .unset, .unset, .unset, .unset, .unset, .unset, .unset, .unset, .unset] [(.ref b1)]))
  refine GoW.step (fun _ k => XS.dup X1.here hx rfl (hb hby at_18) rfl rfl k) ?_
  show GoW _ _ _ _ _ _ _ (T1.setTop (mkF m 19 #[.val (.int qs), .val (.int qp), .val (.int nn), .val (.int pp), .unset, .unset, .unset, .unset, .unset, .unset, .unset, .unset, .unset, .unset] [(.ref b1), (.ref b1)]))
  obtain ⟨_, _, ⟨T7, L7, k7, n7⟩, -, X7, ⟨Lc7, hQ7, l7, y7, z7⟩, st7⟩ := X1.specialBack hx (y := (⟨"com/example/steward/steward/runtime/Group", "<init>", "()V"⟩ : MethodName)) rfl hown (mvT hZ (hw _ (List.mem_of_getElem? (i := 4) rfl))) (mvT hZ (hw _ (List.mem_of_getElem? (i := 5) rfl))) (mvT hZ (hw _ (List.mem_of_getElem? (i := 6) rfl))) (by decide) (backOf (W := 1) (rm1 l Z aZ hw [] b1 h1 n0 z2 ) hZ (hw _ (List.mem_of_getElem? (i := 6) rfl)) (hw _ (List.mem_of_getElem? (i := 3) rfl)) (by decide) (by decide)) (g := (mkF m 19 #[.val (.int qs), .val (.int qp), .val (.int nn), .val (.int pp), .unset, .unset, .unset, .unset, .unset, .unset, .unset, .unset, .unset, .unset] [(.ref b1), (.ref b1)])) rfl (by rw [hml]; rfl) (Steps.refl _) (a := b1) (argsL := []) (rest := [(.ref b1)]) (lenOf pd_0 rfl) rfl (by show 2 * 0 + _ ≤ _; exact Nat.le_of_eq rfl) (hb hby at_19) (fun _ _ => ⟨rfl, e1, (by decide : 1 + 0 ≤ _), (by decide : 2 + 0 ≤ _)⟩)
  dsimp only [Pt.U, Pt.locs, Pt.cells, Pt.slots] at X7 l7 y7 z7 st7 hQ7
  subst l7 y7 z7
  obtain ⟨rfl, Nq7, e7⟩ := hQ7
  have N7 := Fr.app N0 Nq7
  refine GoW.tr st7 ?_
  show GoW _ _ _ _ _ _ _ (T7.setTop (mkF m 22 #[.val (.int qs), .val (.int qp), .val (.int nn), .val (.int pp), .unset, .unset, .unset, .unset, .unset, .unset, .unset, .unset, .unset, .unset] [(.ref b1)]))
  refine GoW.step (fun _ k => XS.astore X7.here hx rfl (hb hby at_22) rfl rfl (l' := #[.val (.int qs), .val (.int qp), .val (.int nn), .val (.int pp), .val (.ref b1), .unset, .unset, .unset, .unset, .unset, .unset, .unset, .unset, .unset]) rfl k) ?_
  show GoW _ _ _ _ _ _ _ (T7.setTop (mkF m 24 #[.val (.int qs), .val (.int qp), .val (.int nn), .val (.int pp), .val (.ref b1), .unset, .unset, .unset, .unset, .unset, .unset, .unset, .unset, .unset] []))
  obtain ⟨T8, h8, X8, e8, E8, A8, D8, -, st8⟩ := newO X7 hx hZ hown (hw _ (List.mem_of_getElem? (i := 10) rfl)) (hw _ (List.mem_of_getElem? (i := 11) rfl)) (hw _ (List.mem_of_getElem? (i := 12) rfl)) e7 (g := (mkF m 24 #[.val (.int qs), .val (.int qp), .val (.int nn), .val (.int pp), .val (.ref b1), .unset, .unset, .unset, .unset, .unset, .unset, .unset, .unset, .unset] [])) rfl (hb hby at_24) (by decide) (by decide)
  obtain ⟨b8, g8⟩ : ∃ z, z = h1.size := ⟨_, rfl⟩
  rw [← g8] at A8 D8 st8
  refine GoW.step st8 ?_
  have gn8 : n0 ≤ b8 := Nat.le_trans z2 (Nat.le_of_eq g8.symm)
  have sz8 : h0.size ≤ b8 := Nat.le_trans sqz2 (Nat.le_of_eq g8.symm)
  have ne9 : b1 ≠ b8 := Nat.ne_of_lt (Nat.lt_of_lt_of_le A1.lt (Nat.le_of_eq g8.symm))
  have z10 : n0 ≤ h8.size := Nat.le_trans z2 E8.1
  have sqz10 : h0.size ≤ h8.size := Nat.le_trans sqz2 E8.1
  have hk12 := Nat.le_trans hk4 E8.1
  have f13 : Fld Z h8 b8 "com/example/steward/steward/runtime/Agent" "normal" "Ljava/util/ArrayDeque;" .null := D8 (Or.inr (hw _ (List.mem_of_getElem? (i := 44) rfl))) (ty := (.object "java/util/ArrayDeque")) (by decide)
  have f14 : Fld Z h8 b8 "com/example/steward/steward/runtime/Agent" "key" "Ljava/lang/String;" .null := D8 (Or.inr (hw _ (List.mem_of_getElem? (i := 46) rfl))) (ty := (.object "java/lang/String")) (by decide)
  have f15 : Fld Z h8 b8 "com/example/steward/steward/runtime/Agent" "group" "Lcom/example/steward/steward/runtime/Group;" .null := D8 (Or.inl (hw _ (List.mem_of_getElem? (i := 55) rfl))) (ty := (.object "com/example/steward/steward/runtime/Group")) (by decide)
  have f16 : Fld Z h8 b8 "com/example/steward/steward/runtime/Agent" "ahead" "Lcom/example/steward/steward/runtime/Agent;" .null := D8 (Or.inl (hw _ (List.mem_of_getElem? (i := 59) rfl))) (ty := (.object "com/example/steward/steward/runtime/Agent")) (by decide)
  have f17 : Fld Z h8 b8 "com/example/steward/steward/runtime/Agent" "behind" "Lcom/example/steward/steward/runtime/Agent;" .null := D8 (Or.inl (hw _ (List.mem_of_getElem? (i := 61) rfl))) (ty := (.object "com/example/steward/steward/runtime/Agent")) (by decide)
  show GoW _ _ _ _ _ _ _ (T8.setTop (mkF m 27 #[.val (.int qs), .val (.int qp), .val (.int nn), .val (.int pp), .val (.ref b1), .unset, .unset, .unset, .unset, .unset, .unset, .unset, .unset, .unset] [(.ref b8)]))
  refine GoW.step (fun _ k => XS.dup X8.here hx rfl (hb hby at_27) rfl rfl k) ?_
  show GoW _ _ _ _ _ _ _ (T8.setTop (mkF m 28 #[.val (.int qs), .val (.int qp), .val (.int nn), .val (.int pp), .val (.ref b1), .unset, .unset, .unset, .unset, .unset, .unset, .unset, .unset, .unset] [(.ref b8), (.ref b8)]))
  obtain ⟨b18, T18, h18, k18, X18, e18, E18, hS18, hk18a, hZ, hown, st18⟩ := ldcS X8 hx hZ hown (hw _ (List.mem_of_getElem? (i := 13) rfl)) hSt e8 hS0 hk12 (g := (mkF m 28 #[.val (.int qs), .val (.int qp), .val (.int nn), .val (.int pp), .val (.ref b1), .unset, .unset, .unset, .unset, .unset, .unset, .unset, .unset, .unset] [(.ref b8), (.ref b8)])) rfl (hb hby at_28) (n := 4) (by decide) (by decide) (by decide) (by decide)
  refine GoW.step st18 ?_
  have z19 : n0 ≤ h18.size := Nat.le_trans z10 E18.1
  have sqz19 : h0.size ≤ h18.size := Nat.le_trans sqz10 E18.1
  have hk21 := Nat.le_trans hk12 E18.1
  show GoW _ _ _ _ _ _ _ (T18.setTop (mkF m 30 #[.val (.int qs), .val (.int qp), .val (.int nn), .val (.int pp), .val (.ref b1), .unset, .unset, .unset, .unset, .unset, .unset, .unset, .unset, .unset] [(.ref b18), (.ref b8), (.ref b8)]))
  have f22 : Exa Z h18 b8 "com/example/steward/steward/runtime/Agent" := (A8.ext E18)
  have f23 : Fld Z h18 b8 "com/example/steward/steward/runtime/Agent" "normal" "Ljava/util/ArrayDeque;" .null := (f13.ext E18)
  have f24 : Fld Z h18 b8 "com/example/steward/steward/runtime/Agent" "key" "Ljava/lang/String;" .null := (f14.ext E18)
  have f25 : Fld Z h18 b8 "com/example/steward/steward/runtime/Agent" "group" "Lcom/example/steward/steward/runtime/Group;" .null := (f15.ext E18)
  have f26 : Fld Z h18 b8 "com/example/steward/steward/runtime/Agent" "ahead" "Lcom/example/steward/steward/runtime/Agent;" .null := (f16.ext E18)
  have f27 : Fld Z h18 b8 "com/example/steward/steward/runtime/Agent" "behind" "Lcom/example/steward/steward/runtime/Agent;" .null := (f17.ext E18)
  obtain ⟨_, _, ⟨T28, L28, k28, n28⟩, -, X28, ⟨Lc28, hQ28, l28, y28, z28⟩, st28⟩ := X18.specialBack hx (y := (⟨"com/example/steward/steward/runtime/Agent", "<init>", "(Ljava/lang/String;)V"⟩ : MethodName)) rfl hown (mvT hZ (hw _ (List.mem_of_getElem? (i := 21) rfl))) (mvT hZ (hw _ (List.mem_of_getElem? (i := 22) rfl))) (mvT hZ (hw _ (List.mem_of_getElem? (i := 23) rfl))) (by decide) (backOf (W := 1) (rm3 l Z aZ hw [] b8 b18 h18 n0 z19 f22 f23 f24 f25 f26 f27 gn8) hZ (hw _ (List.mem_of_getElem? (i := 23) rfl)) (hw _ (List.mem_of_getElem? (i := 12) rfl)) (by decide) (by decide)) (g := (mkF m 30 #[.val (.int qs), .val (.int qp), .val (.int nn), .val (.int pp), .val (.ref b1), .unset, .unset, .unset, .unset, .unset, .unset, .unset, .unset, .unset] [(.ref b18), (.ref b8), (.ref b8)])) rfl (by rw [hml]; rfl) (Steps.refl _) (a := b8) (argsL := [(.ref b18)]) (rest := [(.ref b8)]) (lenOf pd_2 rfl) rfl (by show 2 * 0 + _ ≤ _; exact Nat.le_of_eq rfl) (hb hby at_30) (fun _ _ => ⟨rfl, e18, (by decide : 4 + 2 ≤ _), (by decide : 21 + 5 ≤ _)⟩)
  dsimp only [Pt.U, Pt.locs, Pt.cells, Pt.slots] at X28 l28 y28 z28 st28 hQ28
  subst l28 y28 z28
  obtain ⟨rfl, Nq28, K28, c28_0, c28_1, c28_2, c28_3⟩ := hQ28
  have N28 := Fr.app N7 Nq28
  refine GoW.tr st28 ?_
  have z29 : n0 ≤ T28.heap.size := Nat.le_trans z19 K28.1
  have sqz29 : h0.size ≤ T28.heap.size := Nat.le_trans sqz19 K28.1
  have hk31 := Nat.le_trans hk18a K28.1
  show GoW _ _ _ _ _ _ _ (T28.setTop (mkF m 33 #[.val (.int qs), .val (.int qp), .val (.int nn), .val (.int pp), .val (.ref b1), .unset, .unset, .unset, .unset, .unset, .unset, .unset, .unset, .unset] [(.ref b8)]))
  refine GoW.step (fun _ k => XS.astore X28.here hx rfl (hb hby at_33) rfl rfl (l' := #[.val (.int qs), .val (.int qp), .val (.int nn), .val (.int pp), .val (.ref b1), .val (.ref b8), .unset, .unset, .unset, .unset, .unset, .unset, .unset, .unset]) rfl k) ?_
  show GoW _ _ _ _ _ _ _ (T28.setTop (mkF m 35 #[.val (.int qs), .val (.int qp), .val (.int nn), .val (.int pp), .val (.ref b1), .val (.ref b8), .unset, .unset, .unset, .unset, .unset, .unset, .unset, .unset] []))
  obtain ⟨T32, h32, X32, e32, E32, A32, D32, -, st32⟩ := newO X28 hx hZ hown (hw _ (List.mem_of_getElem? (i := 10) rfl)) (hw _ (List.mem_of_getElem? (i := 11) rfl)) (hw _ (List.mem_of_getElem? (i := 12) rfl)) rfl (g := (mkF m 35 #[.val (.int qs), .val (.int qp), .val (.int nn), .val (.int pp), .val (.ref b1), .val (.ref b8), .unset, .unset, .unset, .unset, .unset, .unset, .unset, .unset] [])) rfl (hb hby at_35) (by decide) (by decide)
  obtain ⟨b32, g32⟩ : ∃ z, z = T28.heap.size := ⟨_, rfl⟩
  rw [← g32] at A32 D32 st32
  refine GoW.step st32 ?_
  have gn32 : n0 ≤ b32 := Nat.le_trans z29 (Nat.le_of_eq g32.symm)
  have sz32 : h0.size ≤ b32 := Nat.le_trans sqz29 (Nat.le_of_eq g32.symm)
  have f33 : Exa Z T28.heap b1 "com/example/steward/steward/runtime/Group" := (((A1.ext E8).ext E18).keep K28)
  have ne34 : b1 ≠ b32 := Nat.ne_of_lt (Nat.lt_of_lt_of_le f33.lt (Nat.le_of_eq g32.symm))
  have ne35 : b8 ≠ b32 := Nat.ne_of_lt (Nat.lt_of_lt_of_le c28_0.lt (Nat.le_of_eq g32.symm))
  have z36 : n0 ≤ h32.size := Nat.le_trans z29 E32.1
  have sqz36 : h0.size ≤ h32.size := Nat.le_trans sqz29 E32.1
  have hk38 := Nat.le_trans hk31 E32.1
  have f39 : Fld Z h32 b32 "com/example/steward/steward/runtime/Agent" "normal" "Ljava/util/ArrayDeque;" .null := D32 (Or.inr (hw _ (List.mem_of_getElem? (i := 44) rfl))) (ty := (.object "java/util/ArrayDeque")) (by decide)
  have f40 : Fld Z h32 b32 "com/example/steward/steward/runtime/Agent" "key" "Ljava/lang/String;" .null := D32 (Or.inr (hw _ (List.mem_of_getElem? (i := 46) rfl))) (ty := (.object "java/lang/String")) (by decide)
  have f41 : Fld Z h32 b32 "com/example/steward/steward/runtime/Agent" "group" "Lcom/example/steward/steward/runtime/Group;" .null := D32 (Or.inl (hw _ (List.mem_of_getElem? (i := 55) rfl))) (ty := (.object "com/example/steward/steward/runtime/Group")) (by decide)
  have f42 : Fld Z h32 b32 "com/example/steward/steward/runtime/Agent" "ahead" "Lcom/example/steward/steward/runtime/Agent;" .null := D32 (Or.inl (hw _ (List.mem_of_getElem? (i := 59) rfl))) (ty := (.object "com/example/steward/steward/runtime/Agent")) (by decide)
  have f43 : Fld Z h32 b32 "com/example/steward/steward/runtime/Agent" "behind" "Lcom/example/steward/steward/runtime/Agent;" .null := D32 (Or.inl (hw _ (List.mem_of_getElem? (i := 61) rfl))) (ty := (.object "com/example/steward/steward/runtime/Agent")) (by decide)
  show GoW _ _ _ _ _ _ _ (T32.setTop (mkF m 38 #[.val (.int qs), .val (.int qp), .val (.int nn), .val (.int pp), .val (.ref b1), .val (.ref b8), .unset, .unset, .unset, .unset, .unset, .unset, .unset, .unset] [(.ref b32)]))
  refine GoW.step (fun _ k => XS.dup X32.here hx rfl (hb hby at_38) rfl rfl k) ?_
  show GoW _ _ _ _ _ _ _ (T32.setTop (mkF m 39 #[.val (.int qs), .val (.int qp), .val (.int nn), .val (.int pp), .val (.ref b1), .val (.ref b8), .unset, .unset, .unset, .unset, .unset, .unset, .unset, .unset] [(.ref b32), (.ref b32)]))
  obtain ⟨b44, T44, h44, k44, X44, e44, E44, hS44, hk44a, hZ, hown, st44⟩ := ldcS X32 hx hZ hown (hw _ (List.mem_of_getElem? (i := 47) rfl)) hSt e32 hS18 hk38 (g := (mkF m 39 #[.val (.int qs), .val (.int qp), .val (.int nn), .val (.int pp), .val (.ref b1), .val (.ref b8), .unset, .unset, .unset, .unset, .unset, .unset, .unset, .unset] [(.ref b32), (.ref b32)])) rfl (hb hby at_39) (n := 4) (by decide) (by decide) (by decide) (by decide)
  refine GoW.step st44 ?_
  have z45 : n0 ≤ h44.size := Nat.le_trans z36 E44.1
  have sqz45 : h0.size ≤ h44.size := Nat.le_trans sqz36 E44.1
  have hk47 := Nat.le_trans hk38 E44.1
  show GoW _ _ _ _ _ _ _ (T44.setTop (mkF m 41 #[.val (.int qs), .val (.int qp), .val (.int nn), .val (.int pp), .val (.ref b1), .val (.ref b8), .unset, .unset, .unset, .unset, .unset, .unset, .unset, .unset] [(.ref b44), (.ref b32), (.ref b32)]))
  have f48 : Exa Z h44 b32 "com/example/steward/steward/runtime/Agent" := (A32.ext E44)
  have f49 : Fld Z h44 b32 "com/example/steward/steward/runtime/Agent" "normal" "Ljava/util/ArrayDeque;" .null := (f39.ext E44)
  have f50 : Fld Z h44 b32 "com/example/steward/steward/runtime/Agent" "key" "Ljava/lang/String;" .null := (f40.ext E44)
  have f51 : Fld Z h44 b32 "com/example/steward/steward/runtime/Agent" "group" "Lcom/example/steward/steward/runtime/Group;" .null := (f41.ext E44)
  have f52 : Fld Z h44 b32 "com/example/steward/steward/runtime/Agent" "ahead" "Lcom/example/steward/steward/runtime/Agent;" .null := (f42.ext E44)
  have f53 : Fld Z h44 b32 "com/example/steward/steward/runtime/Agent" "behind" "Lcom/example/steward/steward/runtime/Agent;" .null := (f43.ext E44)
  obtain ⟨_, _, ⟨T54, L54, k54, n54⟩, -, X54, ⟨Lc54, hQ54, l54, y54, z54⟩, st54⟩ := X44.specialBack hx (y := (⟨"com/example/steward/steward/runtime/Agent", "<init>", "(Ljava/lang/String;)V"⟩ : MethodName)) rfl hown (mvT hZ (hw _ (List.mem_of_getElem? (i := 21) rfl))) (mvT hZ (hw _ (List.mem_of_getElem? (i := 22) rfl))) (mvT hZ (hw _ (List.mem_of_getElem? (i := 23) rfl))) (by decide) (backOf (W := 1) (rm3 l Z aZ hw [] b32 b44 h44 n0 z45 f48 f49 f50 f51 f52 f53 gn32) hZ (hw _ (List.mem_of_getElem? (i := 23) rfl)) (hw _ (List.mem_of_getElem? (i := 12) rfl)) (by decide) (by decide)) (g := (mkF m 41 #[.val (.int qs), .val (.int qp), .val (.int nn), .val (.int pp), .val (.ref b1), .val (.ref b8), .unset, .unset, .unset, .unset, .unset, .unset, .unset, .unset] [(.ref b44), (.ref b32), (.ref b32)])) rfl (by rw [hml]; rfl) (Steps.refl _) (a := b32) (argsL := [(.ref b44)]) (rest := [(.ref b32)]) (lenOf pd_2 rfl) rfl (by show 2 * 0 + _ ≤ _; exact Nat.le_of_eq rfl) (hb hby at_41) (fun _ _ => ⟨rfl, e44, (by decide : 9 + 2 ≤ _), (by decide : 45 + 5 ≤ _)⟩)
  dsimp only [Pt.U, Pt.locs, Pt.cells, Pt.slots] at X54 l54 y54 z54 st54 hQ54
  subst l54 y54 z54
  obtain ⟨rfl, Nq54, K54, c54_0, c54_1, c54_2, c54_3⟩ := hQ54
  have N54 := Fr.app N28 Nq54
  refine GoW.tr st54 ?_
  have z55 : n0 ≤ T54.heap.size := Nat.le_trans z45 K54.1
  have sqz55 : h0.size ≤ T54.heap.size := Nat.le_trans sqz45 K54.1
  have hk57 := Nat.le_trans hk44a K54.1
  show GoW _ _ _ _ _ _ _ (T54.setTop (mkF m 44 #[.val (.int qs), .val (.int qp), .val (.int nn), .val (.int pp), .val (.ref b1), .val (.ref b8), .unset, .unset, .unset, .unset, .unset, .unset, .unset, .unset] [(.ref b32)]))
  refine GoW.step (fun _ k => XS.astore X54.here hx rfl (hb hby at_44) rfl rfl (l' := #[.val (.int qs), .val (.int qp), .val (.int nn), .val (.int pp), .val (.ref b1), .val (.ref b8), .val (.ref b32), .unset, .unset, .unset, .unset, .unset, .unset, .unset]) rfl k) ?_
  show GoW _ _ _ _ _ _ _ (T54.setTop (mkF m 46 #[.val (.int qs), .val (.int qp), .val (.int nn), .val (.int pp), .val (.ref b1), .val (.ref b8), .val (.ref b32), .unset, .unset, .unset, .unset, .unset, .unset, .unset] []))
  obtain ⟨T58, h58, X58, e58, E58, A58, D58, -, st58⟩ := newO X54 hx hZ hown (hw _ (List.mem_of_getElem? (i := 10) rfl)) (hw _ (List.mem_of_getElem? (i := 11) rfl)) (hw _ (List.mem_of_getElem? (i := 12) rfl)) rfl (g := (mkF m 46 #[.val (.int qs), .val (.int qp), .val (.int nn), .val (.int pp), .val (.ref b1), .val (.ref b8), .val (.ref b32), .unset, .unset, .unset, .unset, .unset, .unset, .unset] [])) rfl (hb hby at_46) (by decide) (by decide)
  obtain ⟨b58, g58⟩ : ∃ z, z = T54.heap.size := ⟨_, rfl⟩
  rw [← g58] at A58 D58 st58
  refine GoW.step st58 ?_
  have gn58 : n0 ≤ b58 := Nat.le_trans z55 (Nat.le_of_eq g58.symm)
  have sz58 : h0.size ≤ b58 := Nat.le_trans sqz55 (Nat.le_of_eq g58.symm)
  have f59 : Exa Z T54.heap b1 "com/example/steward/steward/runtime/Group" := (((f33.ext E32).ext E44).keep K54)
  have ne60 : b1 ≠ b58 := Nat.ne_of_lt (Nat.lt_of_lt_of_le f59.lt (Nat.le_of_eq g58.symm))
  have f61 : Exa Z T54.heap b8 "com/example/steward/steward/runtime/Agent" := (((c28_0.ext E32).ext E44).keep K54)
  have ne62 : b8 ≠ b58 := Nat.ne_of_lt (Nat.lt_of_lt_of_le f61.lt (Nat.le_of_eq g58.symm))
  have ne63 : b32 ≠ b58 := Nat.ne_of_lt (Nat.lt_of_lt_of_le c54_0.lt (Nat.le_of_eq g58.symm))
  have z64 : n0 ≤ h58.size := Nat.le_trans z55 E58.1
  have sqz64 : h0.size ≤ h58.size := Nat.le_trans sqz55 E58.1
  have hk66 := Nat.le_trans hk57 E58.1
  have f67 : Fld Z h58 b58 "com/example/steward/steward/runtime/Agent" "normal" "Ljava/util/ArrayDeque;" .null := D58 (Or.inr (hw _ (List.mem_of_getElem? (i := 44) rfl))) (ty := (.object "java/util/ArrayDeque")) (by decide)
  have f68 : Fld Z h58 b58 "com/example/steward/steward/runtime/Agent" "key" "Ljava/lang/String;" .null := D58 (Or.inr (hw _ (List.mem_of_getElem? (i := 46) rfl))) (ty := (.object "java/lang/String")) (by decide)
  have f69 : Fld Z h58 b58 "com/example/steward/steward/runtime/Agent" "group" "Lcom/example/steward/steward/runtime/Group;" .null := D58 (Or.inl (hw _ (List.mem_of_getElem? (i := 55) rfl))) (ty := (.object "com/example/steward/steward/runtime/Group")) (by decide)
  have f70 : Fld Z h58 b58 "com/example/steward/steward/runtime/Agent" "ahead" "Lcom/example/steward/steward/runtime/Agent;" .null := D58 (Or.inl (hw _ (List.mem_of_getElem? (i := 59) rfl))) (ty := (.object "com/example/steward/steward/runtime/Agent")) (by decide)
  have f71 : Fld Z h58 b58 "com/example/steward/steward/runtime/Agent" "behind" "Lcom/example/steward/steward/runtime/Agent;" .null := D58 (Or.inl (hw _ (List.mem_of_getElem? (i := 61) rfl))) (ty := (.object "com/example/steward/steward/runtime/Agent")) (by decide)
  show GoW _ _ _ _ _ _ _ (T58.setTop (mkF m 49 #[.val (.int qs), .val (.int qp), .val (.int nn), .val (.int pp), .val (.ref b1), .val (.ref b8), .val (.ref b32), .unset, .unset, .unset, .unset, .unset, .unset, .unset] [(.ref b58)]))
  refine GoW.step (fun _ k => XS.dup X58.here hx rfl (hb hby at_49) rfl rfl k) ?_
  show GoW _ _ _ _ _ _ _ (T58.setTop (mkF m 50 #[.val (.int qs), .val (.int qp), .val (.int nn), .val (.int pp), .val (.ref b1), .val (.ref b8), .val (.ref b32), .unset, .unset, .unset, .unset, .unset, .unset, .unset] [(.ref b58), (.ref b58)]))
  obtain ⟨b72, T72, h72, k72, X72, e72, E72, hS72, hk72a, hZ, hown, st72⟩ := ldcS X58 hx hZ hown (hw _ (List.mem_of_getElem? (i := 48) rfl)) hSt e58 hS44 hk66 (g := (mkF m 50 #[.val (.int qs), .val (.int qp), .val (.int nn), .val (.int pp), .val (.ref b1), .val (.ref b8), .val (.ref b32), .unset, .unset, .unset, .unset, .unset, .unset, .unset] [(.ref b58), (.ref b58)])) rfl (hb hby at_50) (n := 4) (by decide) (by decide) (by decide) (by decide)
  refine GoW.step st72 ?_
  have z73 : n0 ≤ h72.size := Nat.le_trans z64 E72.1
  have sqz73 : h0.size ≤ h72.size := Nat.le_trans sqz64 E72.1
  have hk75 := Nat.le_trans hk66 E72.1
  show GoW _ _ _ _ _ _ _ (T72.setTop (mkF m 52 #[.val (.int qs), .val (.int qp), .val (.int nn), .val (.int pp), .val (.ref b1), .val (.ref b8), .val (.ref b32), .unset, .unset, .unset, .unset, .unset, .unset, .unset] [(.ref b72), (.ref b58), (.ref b58)]))
  have f76 : Exa Z h72 b58 "com/example/steward/steward/runtime/Agent" := (A58.ext E72)
  have f77 : Fld Z h72 b58 "com/example/steward/steward/runtime/Agent" "normal" "Ljava/util/ArrayDeque;" .null := (f67.ext E72)
  have f78 : Fld Z h72 b58 "com/example/steward/steward/runtime/Agent" "key" "Ljava/lang/String;" .null := (f68.ext E72)
  have f79 : Fld Z h72 b58 "com/example/steward/steward/runtime/Agent" "group" "Lcom/example/steward/steward/runtime/Group;" .null := (f69.ext E72)
  have f80 : Fld Z h72 b58 "com/example/steward/steward/runtime/Agent" "ahead" "Lcom/example/steward/steward/runtime/Agent;" .null := (f70.ext E72)
  have f81 : Fld Z h72 b58 "com/example/steward/steward/runtime/Agent" "behind" "Lcom/example/steward/steward/runtime/Agent;" .null := (f71.ext E72)
  obtain ⟨_, _, ⟨T82, L82, k82, n82⟩, -, X82, ⟨Lc82, hQ82, l82, y82, z82⟩, st82⟩ := X72.specialBack hx (y := (⟨"com/example/steward/steward/runtime/Agent", "<init>", "(Ljava/lang/String;)V"⟩ : MethodName)) rfl hown (mvT hZ (hw _ (List.mem_of_getElem? (i := 21) rfl))) (mvT hZ (hw _ (List.mem_of_getElem? (i := 22) rfl))) (mvT hZ (hw _ (List.mem_of_getElem? (i := 23) rfl))) (by decide) (backOf (W := 1) (rm3 l Z aZ hw [] b58 b72 h72 n0 z73 f76 f77 f78 f79 f80 f81 gn58) hZ (hw _ (List.mem_of_getElem? (i := 23) rfl)) (hw _ (List.mem_of_getElem? (i := 12) rfl)) (by decide) (by decide)) (g := (mkF m 52 #[.val (.int qs), .val (.int qp), .val (.int nn), .val (.int pp), .val (.ref b1), .val (.ref b8), .val (.ref b32), .unset, .unset, .unset, .unset, .unset, .unset, .unset] [(.ref b72), (.ref b58), (.ref b58)])) rfl (by rw [hml]; rfl) (Steps.refl _) (a := b58) (argsL := [(.ref b72)]) (rest := [(.ref b58)]) (lenOf pd_2 rfl) rfl (by show 2 * 0 + _ ≤ _; exact Nat.le_of_eq rfl) (hb hby at_52) (fun _ _ => ⟨rfl, e72, (by decide : 14 + 2 ≤ _), (by decide : 69 + 5 ≤ _)⟩)
  dsimp only [Pt.U, Pt.locs, Pt.cells, Pt.slots] at X82 l82 y82 z82 st82 hQ82
  subst l82 y82 z82
  obtain ⟨rfl, Nq82, K82, c82_0, c82_1, c82_2, c82_3⟩ := hQ82
  have N82 := Fr.app N54 Nq82
  refine GoW.tr st82 ?_
  have z83 : n0 ≤ T82.heap.size := Nat.le_trans z73 K82.1
  have sqz83 : h0.size ≤ T82.heap.size := Nat.le_trans sqz73 K82.1
  have hk85 := Nat.le_trans hk72a K82.1
  show GoW _ _ _ _ _ _ _ (T82.setTop (mkF m 55 #[.val (.int qs), .val (.int qp), .val (.int nn), .val (.int pp), .val (.ref b1), .val (.ref b8), .val (.ref b32), .unset, .unset, .unset, .unset, .unset, .unset, .unset] [(.ref b58)]))
  refine GoW.step (fun _ k => XS.astore X82.here hx rfl (hb hby at_55) rfl rfl (l' := #[.val (.int qs), .val (.int qp), .val (.int nn), .val (.int pp), .val (.ref b1), .val (.ref b8), .val (.ref b32), .val (.ref b58), .unset, .unset, .unset, .unset, .unset, .unset]) rfl k) ?_
  rcases hpp with ⟨h1, h2⟩ | ⟨h1, h2⟩ | ⟨h1, h2⟩ | ⟨h1, h2⟩ | ⟨h1, h2⟩ | ⟨h1, h2⟩
  · skip
    subst h1 h2
    show GoW _ _ _ _ _ _ _ (T82.setTop (mkF m 57 #[.val (.int qs), .val (.int qp), .val (.int (1 : Int32)), .val (.int (0 : Int32)), .val (.ref b1), .val (.ref b8), .val (.ref b32), .val (.ref b58), .unset, .unset, .unset, .unset, .unset, .unset] []))
    refine GoW.step (fun _ k => XS.aload X82.here hx rfl (hb hby at_57) rfl rfl  k) ?_
    show GoW _ _ _ _ _ _ _ (T82.setTop (mkF m 59 #[.val (.int qs), .val (.int qp), .val (.int (1 : Int32)), .val (.int (0 : Int32)), .val (.ref b1), .val (.ref b8), .val (.ref b32), .val (.ref b58), .unset, .unset, .unset, .unset, .unset, .unset] [(.ref b1)]))
    refine GoW.step (fun _ k => XS.aload X82.here hx rfl (hb hby at_59) rfl rfl  k) ?_
    show GoW _ _ _ _ _ _ _ (T82.setTop (mkF m 61 #[.val (.int qs), .val (.int qp), .val (.int (1 : Int32)), .val (.int (0 : Int32)), .val (.ref b1), .val (.ref b8), .val (.ref b32), .val (.ref b58), .unset, .unset, .unset, .unset, .unset, .unset] [(.ref b8), (.ref b1)]))
    have f86 : Exa Z T82.heap b1 "com/example/steward/steward/runtime/Group" := (((f59.ext E58).ext E72).keep K82)
    have f87 : Exa Z T82.heap b8 "com/example/steward/steward/runtime/Agent" := (((f61.ext E58).ext E72).keep K82)
    have f88 : Fld Z T82.heap b8 "com/example/steward/steward/runtime/Agent" "group" "Lcom/example/steward/steward/runtime/Group;" .null := ((((((c28_1.ext E32).ext E44).keep K54 (ninS ne35 nin0)).ext E58).ext E72).keep K82 (ninS ne62 nin0))
    have f89 : Fld Z T82.heap b8 "com/example/steward/steward/runtime/Agent" "ahead" "Lcom/example/steward/steward/runtime/Agent;" .null := ((((((c28_2.ext E32).ext E44).keep K54 (ninS ne35 nin0)).ext E58).ext E72).keep K82 (ninS ne62 nin0))
    have f90 : Fld Z T82.heap b8 "com/example/steward/steward/runtime/Agent" "behind" "Lcom/example/steward/steward/runtime/Agent;" .null := ((((((c28_3.ext E32).ext E44).keep K54 (ninS ne35 nin0)).ext E58).ext E72).keep K82 (ninS ne62 nin0))
    have f91 : Fld Z T82.heap b1 "com/example/steward/steward/runtime/Group" "first" "Lcom/example/steward/steward/runtime/Agent;" .null := (((((((((f6.ext E8).ext E18).keep K28 (ninS ne9 nin0)).ext E32).ext E44).keep K54 (ninS ne34 nin0)).ext E58).ext E72).keep K82 (ninS ne60 nin0))
    have f92 : Fld Z T82.heap b1 "com/example/steward/steward/runtime/Group" "last" "Lcom/example/steward/steward/runtime/Agent;" .null := (((((((((f5.ext E8).ext E18).keep K28 (ninS ne9 nin0)).ext E32).ext E44).keep K54 (ninS ne34 nin0)).ext E58).ext E72).keep K82 (ninS ne60 nin0))
    obtain ⟨cq93, kq93, q93a, q93b, q93c⟩ := isOf hZ rfl f86
    obtain ⟨_, _, ⟨T93, L93, k93, n93⟩, -, X93, ⟨Lc93, hQ93, l93, y93, z93⟩, st93⟩ := X82.virtualBack hx (y := (⟨"com/example/steward/steward/runtime/Group", "add", "(Lcom/example/steward/steward/runtime/Agent;)V"⟩ : MethodName)) (z := (⟨"com/example/steward/steward/runtime/Group", "add", "(Lcom/example/steward/steward/runtime/Agent;)V"⟩ : MethodName)) hown (mvT hZ (hw _ (List.mem_of_getElem? (i := 49) rfl))) (mvT hZ (hw _ (List.mem_of_getElem? (i := 50) rfl))) (notFace_of_selects (args := #[]) (mvT hZ (hw _ (List.mem_of_getElem? (i := 52) rfl)))) (mvT hZ (hw _ (List.mem_of_getElem? (i := 52) rfl))) (mvT hZ (hw _ (List.mem_of_getElem? (i := 51) rfl))) (by decide) (backOf (W := 0) (rmadd0 l Z aZ hw [] b1 b8 Value.null Value.null Value.null Value.null T82.heap n0 z83 f86 f87 f88 f89 f90 f91 f92 gn1 gn8) hZ (hw _ (List.mem_of_getElem? (i := 53) rfl)) (hw _ (List.mem_of_getElem? (i := 3) rfl)) (by decide) (by decide)) q93a q93c (g := (mkF m 61 #[.val (.int qs), .val (.int qp), .val (.int (1 : Int32)), .val (.int (0 : Int32)), .val (.ref b1), .val (.ref b8), .val (.ref b32), .val (.ref b58), .unset, .unset, .unset, .unset, .unset, .unset] [(.ref b8), (.ref b1)])) rfl (by rw [hml]; rfl) (Steps.refl _) (argsL := [(.ref b8)]) (rest := []) (lenOf pd_3 rfl) rfl (by show 2 * 0 + _ ≤ _; exact Nat.le_of_eq rfl) (hb hby at_61) (fun _ _ => ⟨rfl, rfl, (by decide : 16 + 0 ≤ _), (by decide : 74 + 0 ≤ _)⟩)
    dsimp only [Pt.U, Pt.locs, Pt.cells, Pt.slots] at X93 l93 y93 z93 st93 hQ93
    subst l93 y93 z93
    obtain ⟨rfl, Nq93, K93, c93_0, c93_1, c93_2, c93_3, c93_4, c93_5, c93_6⟩ := hQ93
    have N93 := Fr.app N82 Nq93
    refine GoW.tr st93 ?_
    have z94 : n0 ≤ T93.heap.size := Nat.le_trans z83 K93.1
    have sqz94 : h0.size ≤ T93.heap.size := Nat.le_trans sqz83 K93.1
    have hk96 := Nat.le_trans hk85 K93.1
    show GoW _ _ _ _ _ _ _ (T93.setTop (mkF m 64 #[.val (.int qs), .val (.int qp), .val (.int (1 : Int32)), .val (.int (0 : Int32)), .val (.ref b1), .val (.ref b8), .val (.ref b32), .val (.ref b58), .unset, .unset, .unset, .unset, .unset, .unset] []))
    refine GoW.step (fun _ k => XS.iloadN X93.here hx rfl (hb hby at_64) rfl  k) ?_
    show GoW _ _ _ _ _ _ _ (T93.setTop (mkF m 65 #[.val (.int qs), .val (.int qp), .val (.int (1 : Int32)), .val (.int (0 : Int32)), .val (.ref b1), .val (.ref b8), .val (.ref b32), .val (.ref b58), .unset, .unset, .unset, .unset, .unset, .unset] [(.int (1 : Int32))]))
    refine GoW.step (fun _ k => XS.iconst X93.here hx rfl (hb hby at_65) k) ?_
    show GoW _ _ _ _ _ _ _ (T93.setTop (mkF m 66 #[.val (.int qs), .val (.int qp), .val (.int (1 : Int32)), .val (.int (0 : Int32)), .val (.ref b1), .val (.ref b8), .val (.ref b32), .val (.ref b58), .unset, .unset, .unset, .unset, .unset, .unset] [(.int (2 : Int32)), (.int (1 : Int32))]))
    have hc66 : (1 : Int32) < (2 : Int32) := by decide
    refine GoW.step (fun _ k => XS.icmpYes X93.here hx rfl (pc0 := 66) (pc' := 76) rfl (hb hby at_66) rfl (tlt hc66).1 (by decide) (by decide) k) ?_
    show GoW _ _ _ _ _ _ _ (T93.setTop (mkF m 76 #[.val (.int qs), .val (.int qp), .val (.int (1 : Int32)), .val (.int (0 : Int32)), .val (.ref b1), .val (.ref b8), .val (.ref b32), .val (.ref b58), .unset, .unset, .unset, .unset, .unset, .unset] []))
    refine GoW.step (fun _ k => XS.iloadN X93.here hx rfl (hb hby at_76) rfl  k) ?_
    show GoW _ _ _ _ _ _ _ (T93.setTop (mkF m 77 #[.val (.int qs), .val (.int qp), .val (.int (1 : Int32)), .val (.int (0 : Int32)), .val (.ref b1), .val (.ref b8), .val (.ref b32), .val (.ref b58), .unset, .unset, .unset, .unset, .unset, .unset] [(.int (1 : Int32))]))
    refine GoW.step (fun _ k => XS.iconst X93.here hx rfl (hb hby at_77) k) ?_
    show GoW _ _ _ _ _ _ _ (T93.setTop (mkF m 78 #[.val (.int qs), .val (.int qp), .val (.int (1 : Int32)), .val (.int (0 : Int32)), .val (.ref b1), .val (.ref b8), .val (.ref b32), .val (.ref b58), .unset, .unset, .unset, .unset, .unset, .unset] [(.int (3 : Int32)), (.int (1 : Int32))]))
    have hc78 : (1 : Int32) < (3 : Int32) := by decide
    refine GoW.step (fun _ k => XS.icmpYes X93.here hx rfl (pc0 := 78) (pc' := 88) rfl (hb hby at_78) rfl (tlt hc78).1 (by decide) (by decide) k) ?_
    show GoW _ _ _ _ _ _ _ (T93.setTop (mkF m 88 #[.val (.int qs), .val (.int qp), .val (.int (1 : Int32)), .val (.int (0 : Int32)), .val (.ref b1), .val (.ref b8), .val (.ref b32), .val (.ref b58), .unset, .unset, .unset, .unset, .unset, .unset] []))
    refine GoW.step (fun _ k => XS.iloadN X93.here hx rfl (hb hby at_88) rfl  k) ?_
    show GoW _ _ _ _ _ _ _ (T93.setTop (mkF m 89 #[.val (.int qs), .val (.int qp), .val (.int (1 : Int32)), .val (.int (0 : Int32)), .val (.ref b1), .val (.ref b8), .val (.ref b32), .val (.ref b58), .unset, .unset, .unset, .unset, .unset, .unset] [(.int (0 : Int32))]))
    have hc89 : (0 : Int32) = (0 : Int32) := by decide
    refine GoW.step (fun _ k => XS.ifNo X93.here hx rfl (hb hby at_89) rfl ((if0 _ _).trans (teq hc89).2) k) ?_
    show GoW _ _ _ _ _ _ _ (T93.setTop (mkF m 92 #[.val (.int qs), .val (.int qp), .val (.int (1 : Int32)), .val (.int (0 : Int32)), .val (.ref b1), .val (.ref b8), .val (.ref b32), .val (.ref b58), .unset, .unset, .unset, .unset, .unset, .unset] []))
    refine GoW.step (fun _ k => XS.aload X93.here hx rfl (hb hby at_92) rfl rfl  k) ?_
    show GoW _ _ _ _ _ _ _ (T93.setTop (mkF m 94 #[.val (.int qs), .val (.int qp), .val (.int (1 : Int32)), .val (.int (0 : Int32)), .val (.ref b1), .val (.ref b8), .val (.ref b32), .val (.ref b58), .unset, .unset, .unset, .unset, .unset, .unset] [(.ref b8)]))
    refine GoW.step (fun _ k => XS.goto X93.here hx rfl (pc0 := 94) (pc' := 109) rfl (hb hby at_94) (by decide) (by decide) k) ?_
    show GoW _ _ _ _ _ _ _ (T93.setTop (mkF m 109 #[.val (.int qs), .val (.int qp), .val (.int (1 : Int32)), .val (.int (0 : Int32)), .val (.ref b1), .val (.ref b8), .val (.ref b32), .val (.ref b58), .unset, .unset, .unset, .unset, .unset, .unset] [(.ref b8)]))
    refine GoW.step (fun _ k => XS.astore X93.here hx rfl (hb hby at_109) rfl rfl (l' := #[.val (.int qs), .val (.int qp), .val (.int (1 : Int32)), .val (.int (0 : Int32)), .val (.ref b1), .val (.ref b8), .val (.ref b32), .val (.ref b58), .val (.ref b8), .unset, .unset, .unset, .unset, .unset]) rfl k) ?_
    show GoW _ _ _ _ _ _ _ (T93.setTop (mkF m 111 #[.val (.int qs), .val (.int qp), .val (.int (1 : Int32)), .val (.int (0 : Int32)), .val (.ref b1), .val (.ref b8), .val (.ref b32), .val (.ref b58), .val (.ref b8), .unset, .unset, .unset, .unset, .unset] []))
    refine GoW.step (fun _ k => XS.iloadN X93.here hx rfl (hb hby at_111) rfl  k) ?_
    show GoW _ _ _ _ _ _ _ (T93.setTop (mkF m 112 #[.val (.int qs), .val (.int qp), .val (.int (1 : Int32)), .val (.int (0 : Int32)), .val (.ref b1), .val (.ref b8), .val (.ref b32), .val (.ref b58), .val (.ref b8), .unset, .unset, .unset, .unset, .unset] [(.int (1 : Int32))]))
    refine GoW.step (fun _ k => XS.iconst X93.here hx rfl (hb hby at_112) k) ?_
    show GoW _ _ _ _ _ _ _ (T93.setTop (mkF m 113 #[.val (.int qs), .val (.int qp), .val (.int (1 : Int32)), .val (.int (0 : Int32)), .val (.ref b1), .val (.ref b8), .val (.ref b32), .val (.ref b58), .val (.ref b8), .unset, .unset, .unset, .unset, .unset] [(.int (1 : Int32)), (.int (1 : Int32))]))
    refine GoW.step (fun _ k => XS.isub X93.here hx rfl (hb hby at_113) rfl k) ?_
    show GoW _ _ _ _ _ _ _ (T93.setTop (mkF m 114 #[.val (.int qs), .val (.int qp), .val (.int (1 : Int32)), .val (.int (0 : Int32)), .val (.ref b1), .val (.ref b8), .val (.ref b32), .val (.ref b58), .val (.ref b8), .unset, .unset, .unset, .unset, .unset] [(.int (0 : Int32))]))
    refine GoW.step (fun _ k => XS.istore X93.here hx rfl (hb hby at_114) rfl (l' := #[.val (.int qs), .val (.int qp), .val (.int (1 : Int32)), .val (.int (0 : Int32)), .val (.ref b1), .val (.ref b8), .val (.ref b32), .val (.ref b58), .val (.ref b8), .val (.int (0 : Int32)), .unset, .unset, .unset, .unset]) rfl k) ?_
    show GoW _ _ _ _ _ _ _ (T93.setTop (mkF m 116 #[.val (.int qs), .val (.int qp), .val (.int (1 : Int32)), .val (.int (0 : Int32)), .val (.ref b1), .val (.ref b8), .val (.ref b32), .val (.ref b58), .val (.ref b8), .val (.int (0 : Int32)), .unset, .unset, .unset, .unset] []))
    refine GoW.step (fun _ k => XS.iload X93.here hx rfl (hb hby at_116) rfl  k) ?_
    show GoW _ _ _ _ _ _ _ (T93.setTop (mkF m 118 #[.val (.int qs), .val (.int qp), .val (.int (1 : Int32)), .val (.int (0 : Int32)), .val (.ref b1), .val (.ref b8), .val (.ref b32), .val (.ref b58), .val (.ref b8), .val (.int (0 : Int32)), .unset, .unset, .unset, .unset] [(.int (0 : Int32))]))
    refine GoW.step (fun _ k => XS.iconst X93.here hx rfl (hb hby at_118) k) ?_
    show GoW _ _ _ _ _ _ _ (T93.setTop (mkF m 119 #[.val (.int qs), .val (.int qp), .val (.int (1 : Int32)), .val (.int (0 : Int32)), .val (.ref b1), .val (.ref b8), .val (.ref b32), .val (.ref b58), .val (.ref b8), .val (.int (0 : Int32)), .unset, .unset, .unset, .unset] [(.int (1 : Int32)), (.int (0 : Int32))]))
    have hc119 : (0 : Int32) < (1 : Int32) := by decide
    refine GoW.step (fun _ k => XS.icmpYes X93.here hx rfl (pc0 := 119) (pc' := 136) rfl (hb hby at_119) rfl (tlt hc119).1 (by decide) (by decide) k) ?_
    show GoW _ _ _ _ _ _ _ (T93.setTop (mkF m 136 #[.val (.int qs), .val (.int qp), .val (.int (1 : Int32)), .val (.int (0 : Int32)), .val (.ref b1), .val (.ref b8), .val (.ref b32), .val (.ref b58), .val (.ref b8), .val (.int (0 : Int32)), .unset, .unset, .unset, .unset] []))
    refine GoW.step (fun _ k => XS.aconstNull X93.here hx rfl (hb hby at_136) k) ?_
    show GoW _ _ _ _ _ _ _ (T93.setTop (mkF m 137 #[.val (.int qs), .val (.int qp), .val (.int (1 : Int32)), .val (.int (0 : Int32)), .val (.ref b1), .val (.ref b8), .val (.ref b32), .val (.ref b58), .val (.ref b8), .val (.int (0 : Int32)), .unset, .unset, .unset, .unset] [.null]))
    refine GoW.step (fun _ k => XS.astore X93.here hx rfl (hb hby at_137) rfl rfl (l' := #[.val (.int qs), .val (.int qp), .val (.int (1 : Int32)), .val (.int (0 : Int32)), .val (.ref b1), .val (.ref b8), .val (.ref b32), .val (.ref b58), .val (.ref b8), .val (.int (0 : Int32)), .val .null, .unset, .unset, .unset]) rfl k) ?_
    show GoW _ _ _ _ _ _ _ (T93.setTop (mkF m 139 #[.val (.int qs), .val (.int qp), .val (.int (1 : Int32)), .val (.int (0 : Int32)), .val (.ref b1), .val (.ref b8), .val (.ref b32), .val (.ref b58), .val (.ref b8), .val (.int (0 : Int32)), .val .null, .unset, .unset, .unset] []))
    refine GoW.step (fun _ k => XS.iload X93.here hx rfl (hb hby at_139) rfl  k) ?_
    show GoW _ _ _ _ _ _ _ (T93.setTop (mkF m 141 #[.val (.int qs), .val (.int qp), .val (.int (1 : Int32)), .val (.int (0 : Int32)), .val (.ref b1), .val (.ref b8), .val (.ref b32), .val (.ref b58), .val (.ref b8), .val (.int (0 : Int32)), .val .null, .unset, .unset, .unset] [(.int (0 : Int32))]))
    refine GoW.step (fun _ k => XS.iconst X93.here hx rfl (hb hby at_141) k) ?_
    show GoW _ _ _ _ _ _ _ (T93.setTop (mkF m 142 #[.val (.int qs), .val (.int qp), .val (.int (1 : Int32)), .val (.int (0 : Int32)), .val (.ref b1), .val (.ref b8), .val (.ref b32), .val (.ref b58), .val (.ref b8), .val (.int (0 : Int32)), .val .null, .unset, .unset, .unset] [(.int (2 : Int32)), (.int (0 : Int32))]))
    have hc142 : (0 : Int32) < (2 : Int32) := by decide
    refine GoW.step (fun _ k => XS.icmpYes X93.here hx rfl (pc0 := 142) (pc' := 160) rfl (hb hby at_142) rfl (tlt hc142).1 (by decide) (by decide) k) ?_
    show GoW _ _ _ _ _ _ _ (T93.setTop (mkF m 160 #[.val (.int qs), .val (.int qp), .val (.int (1 : Int32)), .val (.int (0 : Int32)), .val (.ref b1), .val (.ref b8), .val (.ref b32), .val (.ref b58), .val (.ref b8), .val (.int (0 : Int32)), .val .null, .unset, .unset, .unset] []))
    refine GoW.step (fun _ k => XS.aconstNull X93.here hx rfl (hb hby at_160) k) ?_
    show GoW _ _ _ _ _ _ _ (T93.setTop (mkF m 161 #[.val (.int qs), .val (.int qp), .val (.int (1 : Int32)), .val (.int (0 : Int32)), .val (.ref b1), .val (.ref b8), .val (.ref b32), .val (.ref b58), .val (.ref b8), .val (.int (0 : Int32)), .val .null, .unset, .unset, .unset] [.null]))
    refine GoW.step (fun _ k => XS.astore X93.here hx rfl (hb hby at_161) rfl rfl (l' := #[.val (.int qs), .val (.int qp), .val (.int (1 : Int32)), .val (.int (0 : Int32)), .val (.ref b1), .val (.ref b8), .val (.ref b32), .val (.ref b58), .val (.ref b8), .val (.int (0 : Int32)), .val .null, .val .null, .unset, .unset]) rfl k) ?_
    show GoW _ _ _ _ _ _ _ (T93.setTop (mkF m 163 #[.val (.int qs), .val (.int qp), .val (.int (1 : Int32)), .val (.int (0 : Int32)), .val (.ref b1), .val (.ref b8), .val (.ref b32), .val (.ref b58), .val (.ref b8), .val (.int (0 : Int32)), .val .null, .val .null, .unset, .unset] []))
    refine GoW.step (fun _ k => XS.iload X93.here hx rfl (hb hby at_163) rfl  k) ?_
    show GoW _ _ _ _ _ _ _ (T93.setTop (mkF m 165 #[.val (.int qs), .val (.int qp), .val (.int (1 : Int32)), .val (.int (0 : Int32)), .val (.ref b1), .val (.ref b8), .val (.ref b32), .val (.ref b58), .val (.ref b8), .val (.int (0 : Int32)), .val .null, .val .null, .unset, .unset] [(.int (0 : Int32))]))
    have hc165 : (0 : Int32) = (0 : Int32) := hc89
    refine GoW.step (fun _ k => XS.ifNo X93.here hx rfl (hb hby at_165) rfl ((if0 _ _).trans (teq hc165).2) k) ?_
    show GoW _ _ _ _ _ _ _ (T93.setTop (mkF m 168 #[.val (.int qs), .val (.int qp), .val (.int (1 : Int32)), .val (.int (0 : Int32)), .val (.ref b1), .val (.ref b8), .val (.ref b32), .val (.ref b58), .val (.ref b8), .val (.int (0 : Int32)), .val .null, .val .null, .unset, .unset] []))
    refine GoW.step (fun _ k => XS.aconstNull X93.here hx rfl (hb hby at_168) k) ?_
    show GoW _ _ _ _ _ _ _ (T93.setTop (mkF m 169 #[.val (.int qs), .val (.int qp), .val (.int (1 : Int32)), .val (.int (0 : Int32)), .val (.ref b1), .val (.ref b8), .val (.ref b32), .val (.ref b58), .val (.ref b8), .val (.int (0 : Int32)), .val .null, .val .null, .unset, .unset] [.null]))
    refine GoW.step (fun _ k => XS.goto X93.here hx rfl (pc0 := 169) (pc' := 185) rfl (hb hby at_169) (by decide) (by decide) k) ?_
    show GoW _ _ _ _ _ _ _ (T93.setTop (mkF m 185 #[.val (.int qs), .val (.int qp), .val (.int (1 : Int32)), .val (.int (0 : Int32)), .val (.ref b1), .val (.ref b8), .val (.ref b32), .val (.ref b58), .val (.ref b8), .val (.int (0 : Int32)), .val .null, .val .null, .unset, .unset] [.null]))
    refine GoW.step (fun _ k => XS.astore X93.here hx rfl (hb hby at_185) rfl rfl (l' := #[.val (.int qs), .val (.int qp), .val (.int (1 : Int32)), .val (.int (0 : Int32)), .val (.ref b1), .val (.ref b8), .val (.ref b32), .val (.ref b58), .val (.ref b8), .val (.int (0 : Int32)), .val .null, .val .null, .val .null, .unset]) rfl k) ?_
    show GoW _ _ _ _ _ _ _ (T93.setTop (mkF m 187 #[.val (.int qs), .val (.int qp), .val (.int (1 : Int32)), .val (.int (0 : Int32)), .val (.ref b1), .val (.ref b8), .val (.ref b32), .val (.ref b58), .val (.ref b8), .val (.int (0 : Int32)), .val .null, .val .null, .val .null, .unset] []))
    refine GoW.step (fun _ k => XS.aload X93.here hx rfl (hb hby at_187) rfl rfl  k) ?_
    show GoW _ _ _ _ _ _ _ (T93.setTop (mkF m 189 #[.val (.int qs), .val (.int qp), .val (.int (1 : Int32)), .val (.int (0 : Int32)), .val (.ref b1), .val (.ref b8), .val (.ref b32), .val (.ref b58), .val (.ref b8), .val (.int (0 : Int32)), .val .null, .val .null, .val .null, .unset] [(.ref b1)]))
    refine GoW.step (fun _ k => XS.aload X93.here hx rfl (hb hby at_189) rfl rfl  k) ?_
    show GoW _ _ _ _ _ _ _ (T93.setTop (mkF m 191 #[.val (.int qs), .val (.int qp), .val (.int (1 : Int32)), .val (.int (0 : Int32)), .val (.ref b1), .val (.ref b8), .val (.ref b32), .val (.ref b58), .val (.ref b8), .val (.int (0 : Int32)), .val .null, .val .null, .val .null, .unset] [(.ref b8), (.ref b1)]))
    obtain ⟨cq97, kq97, q97a, q97b, q97c⟩ := isOf hZ rfl c93_0
    obtain ⟨_, _, ⟨T97, L97, k97, n97⟩, -, X97, ⟨Lc97, hQ97, l97, y97, z97⟩, st97⟩ := X93.virtualBack hx (y := (⟨"com/example/steward/steward/runtime/Group", "remove", "(Lcom/example/steward/steward/runtime/Agent;)V"⟩ : MethodName)) (z := (⟨"com/example/steward/steward/runtime/Group", "remove", "(Lcom/example/steward/steward/runtime/Agent;)V"⟩ : MethodName)) hown (mvT hZ (hw _ (List.mem_of_getElem? (i := 64) rfl))) (mvT hZ (hw _ (List.mem_of_getElem? (i := 65) rfl))) (notFace_of_selects (args := #[]) (mvT hZ (hw _ (List.mem_of_getElem? (i := 67) rfl)))) (mvT hZ (hw _ (List.mem_of_getElem? (i := 67) rfl))) (mvT hZ (hw _ (List.mem_of_getElem? (i := 66) rfl))) (by decide) (backOf (W := 0) (rmrem00 l Z aZ hw [] b1 b8 (Value.ref b1) (Value.ref b8) (Value.ref b8) T93.heap n0 z94 c93_0 c93_1 c93_2 c93_5 c93_6 c93_3 c93_4 gn1 gn8) hZ (hw _ (List.mem_of_getElem? (i := 68) rfl)) (hw _ (List.mem_of_getElem? (i := 3) rfl)) (by decide) (by decide)) q97a q97c (g := (mkF m 191 #[.val (.int qs), .val (.int qp), .val (.int (1 : Int32)), .val (.int (0 : Int32)), .val (.ref b1), .val (.ref b8), .val (.ref b32), .val (.ref b58), .val (.ref b8), .val (.int (0 : Int32)), .val .null, .val .null, .val .null, .unset] [(.ref b8), (.ref b1)])) rfl (by rw [hml]; rfl) (Steps.refl _) (argsL := [(.ref b8)]) (rest := []) (lenOf pd_3 rfl) rfl (by show 2 * 0 + _ ≤ _; exact Nat.le_of_eq rfl) (hb hby at_191) (fun _ _ => ⟨rfl, rfl, (by decide : 16 + 0 ≤ _), (by decide : 74 + 0 ≤ _)⟩)
    dsimp only [Pt.U, Pt.locs, Pt.cells, Pt.slots] at X97 l97 y97 z97 st97 hQ97
    subst l97 y97 z97
    obtain ⟨rfl, Nq97, K97, c97_0, c97_1, c97_2, c97_3, c97_4, c97_5, c97_6⟩ := hQ97
    have N97 := Fr.app N93 Nq97
    refine GoW.tr st97 ?_
    have z98 : n0 ≤ T97.heap.size := Nat.le_trans z94 K97.1
    have sqz98 : h0.size ≤ T97.heap.size := Nat.le_trans sqz94 K97.1
    have hk100 := Nat.le_trans hk96 K97.1
    show GoW _ _ _ _ _ _ _ (T97.setTop (mkF m 194 #[.val (.int qs), .val (.int qp), .val (.int (1 : Int32)), .val (.int (0 : Int32)), .val (.ref b1), .val (.ref b8), .val (.ref b32), .val (.ref b58), .val (.ref b8), .val (.int (0 : Int32)), .val .null, .val .null, .val .null, .unset] []))
    refine GoW.step (fun _ k => XS.aload X97.here hx rfl (hb hby at_194) rfl rfl  k) ?_
    show GoW _ _ _ _ _ _ _ (T97.setTop (mkF m 196 #[.val (.int qs), .val (.int qp), .val (.int (1 : Int32)), .val (.int (0 : Int32)), .val (.ref b1), .val (.ref b8), .val (.ref b32), .val (.ref b58), .val (.ref b8), .val (.int (0 : Int32)), .val .null, .val .null, .val .null, .unset] [(.ref b8)]))
    obtain ⟨T101, X101, e101, st101⟩ := getF X97 hx hZ hown (host := "") (Or.inl (hw _ (List.mem_of_getElem? (i := 69) rfl))) Via.refl rfl c97_2 (g := (mkF m 196 #[.val (.int qs), .val (.int qp), .val (.int (1 : Int32)), .val (.int (0 : Int32)), .val (.ref b1), .val (.ref b8), .val (.ref b32), .val (.ref b58), .val (.ref b8), .val (.int (0 : Int32)), .val .null, .val .null, .val .null, .unset] [(.ref b8)])) rfl rfl (hb hby at_196)
    refine GoW.step st101 ?_
    show GoW _ _ _ _ _ _ _ (T101.setTop (mkF m 199 #[.val (.int qs), .val (.int qp), .val (.int (1 : Int32)), .val (.int (0 : Int32)), .val (.ref b1), .val (.ref b8), .val (.ref b32), .val (.ref b58), .val (.ref b8), .val (.int (0 : Int32)), .val .null, .val .null, .val .null, .unset] [.null]))
    refine GoW.step (fun _ k => XS.ifnonnullNo X101.here hx rfl (hb hby at_199) rfl k) ?_
    show GoW _ _ _ _ _ _ _ (T101.setTop (mkF m 202 #[.val (.int qs), .val (.int qp), .val (.int (1 : Int32)), .val (.int (0 : Int32)), .val (.ref b1), .val (.ref b8), .val (.ref b32), .val (.ref b58), .val (.ref b8), .val (.int (0 : Int32)), .val .null, .val .null, .val .null, .unset] []))
    refine GoW.step (fun _ k => XS.aload X101.here hx rfl (hb hby at_202) rfl rfl  k) ?_
    show GoW _ _ _ _ _ _ _ (T101.setTop (mkF m 204 #[.val (.int qs), .val (.int qp), .val (.int (1 : Int32)), .val (.int (0 : Int32)), .val (.ref b1), .val (.ref b8), .val (.ref b32), .val (.ref b58), .val (.ref b8), .val (.int (0 : Int32)), .val .null, .val .null, .val .null, .unset] [(.ref b8)]))
    obtain ⟨T102, X102, e102, st102⟩ := getF X101 hx hZ hown (host := "") (Or.inl (hw _ (List.mem_of_getElem? (i := 70) rfl))) Via.refl e101 c97_3 (g := (mkF m 204 #[.val (.int qs), .val (.int qp), .val (.int (1 : Int32)), .val (.int (0 : Int32)), .val (.ref b1), .val (.ref b8), .val (.ref b32), .val (.ref b58), .val (.ref b8), .val (.int (0 : Int32)), .val .null, .val .null, .val .null, .unset] [(.ref b8)])) rfl rfl (hb hby at_204)
    refine GoW.step st102 ?_
    show GoW _ _ _ _ _ _ _ (T102.setTop (mkF m 207 #[.val (.int qs), .val (.int qp), .val (.int (1 : Int32)), .val (.int (0 : Int32)), .val (.ref b1), .val (.ref b8), .val (.ref b32), .val (.ref b58), .val (.ref b8), .val (.int (0 : Int32)), .val .null, .val .null, .val .null, .unset] [.null]))
    refine GoW.step (fun _ k => XS.ifnonnullNo X102.here hx rfl (hb hby at_207) rfl k) ?_
    show GoW _ _ _ _ _ _ _ (T102.setTop (mkF m 210 #[.val (.int qs), .val (.int qp), .val (.int (1 : Int32)), .val (.int (0 : Int32)), .val (.ref b1), .val (.ref b8), .val (.ref b32), .val (.ref b58), .val (.ref b8), .val (.int (0 : Int32)), .val .null, .val .null, .val .null, .unset] []))
    refine GoW.step (fun _ k => XS.aload X102.here hx rfl (hb hby at_210) rfl rfl  k) ?_
    show GoW _ _ _ _ _ _ _ (T102.setTop (mkF m 212 #[.val (.int qs), .val (.int qp), .val (.int (1 : Int32)), .val (.int (0 : Int32)), .val (.ref b1), .val (.ref b8), .val (.ref b32), .val (.ref b58), .val (.ref b8), .val (.int (0 : Int32)), .val .null, .val .null, .val .null, .unset] [(.ref b8)]))
    obtain ⟨T103, X103, e103, st103⟩ := getF X102 hx hZ hown (host := "") (Or.inl (hw _ (List.mem_of_getElem? (i := 71) rfl))) Via.refl e102 c97_4 (g := (mkF m 212 #[.val (.int qs), .val (.int qp), .val (.int (1 : Int32)), .val (.int (0 : Int32)), .val (.ref b1), .val (.ref b8), .val (.ref b32), .val (.ref b58), .val (.ref b8), .val (.int (0 : Int32)), .val .null, .val .null, .val .null, .unset] [(.ref b8)])) rfl rfl (hb hby at_212)
    refine GoW.step st103 ?_
    show GoW _ _ _ _ _ _ _ (T103.setTop (mkF m 215 #[.val (.int qs), .val (.int qp), .val (.int (1 : Int32)), .val (.int (0 : Int32)), .val (.ref b1), .val (.ref b8), .val (.ref b32), .val (.ref b58), .val (.ref b8), .val (.int (0 : Int32)), .val .null, .val .null, .val .null, .unset] [.null]))
    refine GoW.step (fun _ k => XS.ifnonnullNo X103.here hx rfl (hb hby at_215) rfl k) ?_
    show GoW _ _ _ _ _ _ _ (T103.setTop (mkF m 218 #[.val (.int qs), .val (.int qp), .val (.int (1 : Int32)), .val (.int (0 : Int32)), .val (.ref b1), .val (.ref b8), .val (.ref b32), .val (.ref b58), .val (.ref b8), .val (.int (0 : Int32)), .val .null, .val .null, .val .null, .unset] []))
    refine GoW.step (fun _ k => XS.iconst X103.here hx rfl (hb hby at_218) k) ?_
    show GoW _ _ _ _ _ _ _ (T103.setTop (mkF m 219 #[.val (.int qs), .val (.int qp), .val (.int (1 : Int32)), .val (.int (0 : Int32)), .val (.ref b1), .val (.ref b8), .val (.ref b32), .val (.ref b58), .val (.ref b8), .val (.int (0 : Int32)), .val .null, .val .null, .val .null, .unset] [(.int (1 : Int32))]))
    refine GoW.step (fun _ k => XS.goto X103.here hx rfl (pc0 := 219) (pc' := 223) rfl (hb hby at_219) (by decide) (by decide) k) ?_
    show GoW _ _ _ _ _ _ _ (T103.setTop (mkF m 223 #[.val (.int qs), .val (.int qp), .val (.int (1 : Int32)), .val (.int (0 : Int32)), .val (.ref b1), .val (.ref b8), .val (.ref b32), .val (.ref b58), .val (.ref b8), .val (.int (0 : Int32)), .val .null, .val .null, .val .null, .unset] [(.int (1 : Int32))]))
    refine GoW.step (fun _ k => XS.istore X103.here hx rfl (hb hby at_223) rfl (l' := #[.val (.int qs), .val (.int qp), .val (.int (1 : Int32)), .val (.int (0 : Int32)), .val (.ref b1), .val (.ref b8), .val (.ref b32), .val (.ref b58), .val (.ref b8), .val (.int (0 : Int32)), .val .null, .val .null, .val .null, .val (.int (1 : Int32))]) rfl k) ?_
    show GoW _ _ _ _ _ _ _ (T103.setTop (mkF m 225 #[.val (.int qs), .val (.int qp), .val (.int (1 : Int32)), .val (.int (0 : Int32)), .val (.ref b1), .val (.ref b8), .val (.ref b32), .val (.ref b58), .val (.ref b8), .val (.int (0 : Int32)), .val .null, .val .null, .val .null, .val (.int (1 : Int32))] []))
    refine GoW.step (fun _ k => XS.iload X103.here hx rfl (hb hby at_225) rfl  k) ?_
    show GoW _ _ _ _ _ _ _ (T103.setTop (mkF m 227 #[.val (.int qs), .val (.int qp), .val (.int (1 : Int32)), .val (.int (0 : Int32)), .val (.ref b1), .val (.ref b8), .val (.ref b32), .val (.ref b58), .val (.ref b8), .val (.int (0 : Int32)), .val .null, .val .null, .val .null, .val (.int (1 : Int32))] [(.int (1 : Int32))]))
    have hc227 : ¬ ((1 : Int32) = (0 : Int32)) := by decide
    refine GoW.step (fun _ k => XS.ifNo X103.here hx rfl (hb hby at_227) rfl ((if0 _ _).trans (feq hc227).1) k) ?_
    show GoW _ _ _ _ _ _ _ (T103.setTop (mkF m 230 #[.val (.int qs), .val (.int qp), .val (.int (1 : Int32)), .val (.int (0 : Int32)), .val (.ref b1), .val (.ref b8), .val (.ref b32), .val (.ref b58), .val (.ref b8), .val (.int (0 : Int32)), .val .null, .val .null, .val .null, .val (.int (1 : Int32))] []))
    refine GoW.step (fun _ k => XS.aload X103.here hx rfl (hb hby at_230) rfl rfl  k) ?_
    show GoW _ _ _ _ _ _ _ (T103.setTop (mkF m 232 #[.val (.int qs), .val (.int qp), .val (.int (1 : Int32)), .val (.int (0 : Int32)), .val (.ref b1), .val (.ref b8), .val (.ref b32), .val (.ref b58), .val (.ref b8), .val (.int (0 : Int32)), .val .null, .val .null, .val .null, .val (.int (1 : Int32))] [(.ref b1)]))
    have pq104 : Value.null.isRef = true := rfl
    obtain ⟨cq105, kq105, q105a, q105b, q105c⟩ := isOf hZ e103 c97_0
    obtain ⟨_, _, ⟨T105, L105, k105, n105⟩, -, X105, ⟨Lc105, hQ105, l105, y105, z105⟩, st105⟩ := X103.virtualBack hx (y := (⟨"com/example/steward/steward/runtime/Group", "first", "()Lcom/example/steward/steward/runtime/Agent;"⟩ : MethodName)) (z := (⟨"com/example/steward/steward/runtime/Group", "first", "()Lcom/example/steward/steward/runtime/Agent;"⟩ : MethodName)) hown (mvT hZ (hw _ (List.mem_of_getElem? (i := 72) rfl))) (mvT hZ (hw _ (List.mem_of_getElem? (i := 73) rfl))) (notFace_of_selects (args := #[]) (mvT hZ (hw _ (List.mem_of_getElem? (i := 75) rfl)))) (mvT hZ (hw _ (List.mem_of_getElem? (i := 75) rfl))) (mvT hZ (hw _ (List.mem_of_getElem? (i := 74) rfl))) (by decide) (backOf (W := 0) (rm8 l Z aZ hw [] b1 Value.null T97.heap n0 z98 c97_5 pq104) hZ (hw _ (List.mem_of_getElem? (i := 76) rfl)) (hw _ (List.mem_of_getElem? (i := 3) rfl)) (by decide) (by decide)) q105a q105c (g := (mkF m 232 #[.val (.int qs), .val (.int qp), .val (.int (1 : Int32)), .val (.int (0 : Int32)), .val (.ref b1), .val (.ref b8), .val (.ref b32), .val (.ref b58), .val (.ref b8), .val (.int (0 : Int32)), .val .null, .val .null, .val .null, .val (.int (1 : Int32))] [(.ref b1)])) rfl (by rw [hml]; rfl) (Steps.refl _) (argsL := []) (rest := []) (lenOf pd_4 rfl) rfl (by show 2 * 0 + _ ≤ _; exact Nat.le_of_eq rfl) (hb hby at_232) (fun _ _ => ⟨rfl, e103, (by decide : 16 + 0 ≤ _), (by decide : 74 + 0 ≤ _)⟩)
    dsimp only [Pt.U, Pt.locs, Pt.cells, Pt.slots] at X105 l105 y105 z105 st105 hQ105
    subst l105 y105 z105
    obtain ⟨rfl, Nq105, e105⟩ := hQ105
    have N105 := Fr.app N97 Nq105
    refine GoW.tr st105 ?_
    show GoW _ _ _ _ _ _ _ (T105.setTop (mkF m 235 #[.val (.int qs), .val (.int qp), .val (.int (1 : Int32)), .val (.int (0 : Int32)), .val (.ref b1), .val (.ref b8), .val (.ref b32), .val (.ref b58), .val (.ref b8), .val (.int (0 : Int32)), .val .null, .val .null, .val .null, .val (.int (1 : Int32))] [.null]))
    refine GoW.step (fun _ k => XS.aload X105.here hx rfl (hb hby at_235) rfl rfl  k) ?_
    show GoW _ _ _ _ _ _ _ (T105.setTop (mkF m 237 #[.val (.int qs), .val (.int qp), .val (.int (1 : Int32)), .val (.int (0 : Int32)), .val (.ref b1), .val (.ref b8), .val (.ref b32), .val (.ref b58), .val (.ref b8), .val (.int (0 : Int32)), .val .null, .val .null, .val .null, .val (.int (1 : Int32))] [.null, .null]))
    refine GoW.step (fun _ k => Jvm.RoadKit.acmp (g := (mkF m 237 #[.val (.int qs), .val (.int qp), .val (.int (1 : Int32)), .val (.int (0 : Int32)), .val (.ref b1), .val (.ref b8), .val (.ref b32), .val (.ref b58), .val (.ref b8), .val (.int (0 : Int32)), .val .null, .val .null, .val .null, .val (.int (1 : Int32))] [.null, .null])) X105 hx rfl rfl rfl (pc0 := 237) (pc' := 240) (same := true) rfl (hb hby at_237) rfl (decide_eq_true rfl) (by decide) (by decide) k) ?_
    show GoW _ _ _ _ _ _ _ (T105.setTop (mkF m 240 #[.val (.int qs), .val (.int qp), .val (.int (1 : Int32)), .val (.int (0 : Int32)), .val (.ref b1), .val (.ref b8), .val (.ref b32), .val (.ref b58), .val (.ref b8), .val (.int (0 : Int32)), .val .null, .val .null, .val .null, .val (.int (1 : Int32))] []))
    refine GoW.step (fun _ k => XS.iconst X105.here hx rfl (hb hby at_240) k) ?_
    show GoW _ _ _ _ _ _ _ (T105.setTop (mkF m 241 #[.val (.int qs), .val (.int qp), .val (.int (1 : Int32)), .val (.int (0 : Int32)), .val (.ref b1), .val (.ref b8), .val (.ref b32), .val (.ref b58), .val (.ref b8), .val (.int (0 : Int32)), .val .null, .val .null, .val .null, .val (.int (1 : Int32))] [(.int (1 : Int32))]))
    refine GoW.step (fun _ k => XS.goto X105.here hx rfl (pc0 := 241) (pc' := 245) rfl (hb hby at_241) (by decide) (by decide) k) ?_
    show GoW _ _ _ _ _ _ _ (T105.setTop (mkF m 245 #[.val (.int qs), .val (.int qp), .val (.int (1 : Int32)), .val (.int (0 : Int32)), .val (.ref b1), .val (.ref b8), .val (.ref b32), .val (.ref b58), .val (.ref b8), .val (.int (0 : Int32)), .val .null, .val .null, .val .null, .val (.int (1 : Int32))] [(.int (1 : Int32))]))
    refine GoW.step (fun _ k => XS.istore X105.here hx rfl (hb hby at_245) rfl (l' := #[.val (.int qs), .val (.int qp), .val (.int (1 : Int32)), .val (.int (0 : Int32)), .val (.ref b1), .val (.ref b8), .val (.ref b32), .val (.ref b58), .val (.ref b8), .val (.int (0 : Int32)), .val .null, .val .null, .val .null, .val (.int (1 : Int32))]) rfl k) ?_
    show GoW _ _ _ _ _ _ _ (T105.setTop (mkF m 247 #[.val (.int qs), .val (.int qp), .val (.int (1 : Int32)), .val (.int (0 : Int32)), .val (.ref b1), .val (.ref b8), .val (.ref b32), .val (.ref b58), .val (.ref b8), .val (.int (0 : Int32)), .val .null, .val .null, .val .null, .val (.int (1 : Int32))] []))
    refine GoW.step (fun _ k => XS.aload X105.here hx rfl (hb hby at_247) rfl rfl  k) ?_
    show GoW _ _ _ _ _ _ _ (T105.setTop (mkF m 249 #[.val (.int qs), .val (.int qp), .val (.int (1 : Int32)), .val (.int (0 : Int32)), .val (.ref b1), .val (.ref b8), .val (.ref b32), .val (.ref b58), .val (.ref b8), .val (.int (0 : Int32)), .val .null, .val .null, .val .null, .val (.int (1 : Int32))] [.null]))
    refine GoW.step (fun _ k => XS.ifnullYes X105.here hx rfl (pc0 := 249) (pc' := 292) rfl (hb hby at_249) rfl (by decide) (by decide) k) ?_
    show GoW _ _ _ _ _ _ _ (T105.setTop (mkF m 292 #[.val (.int qs), .val (.int qp), .val (.int (1 : Int32)), .val (.int (0 : Int32)), .val (.ref b1), .val (.ref b8), .val (.ref b32), .val (.ref b58), .val (.ref b8), .val (.int (0 : Int32)), .val .null, .val .null, .val .null, .val (.int (1 : Int32))] []))
    refine GoW.step (fun _ k => XS.aload X105.here hx rfl (hb hby at_292) rfl rfl  k) ?_
    show GoW _ _ _ _ _ _ _ (T105.setTop (mkF m 294 #[.val (.int qs), .val (.int qp), .val (.int (1 : Int32)), .val (.int (0 : Int32)), .val (.ref b1), .val (.ref b8), .val (.ref b32), .val (.ref b58), .val (.ref b8), .val (.int (0 : Int32)), .val .null, .val .null, .val .null, .val (.int (1 : Int32))] [.null]))
    refine GoW.step (fun _ k => XS.ifnullYes X105.here hx rfl (pc0 := 294) (pc' := 337) rfl (hb hby at_294) rfl (by decide) (by decide) k) ?_
    show GoW _ _ _ _ _ _ _ (T105.setTop (mkF m 337 #[.val (.int qs), .val (.int qp), .val (.int (1 : Int32)), .val (.int (0 : Int32)), .val (.ref b1), .val (.ref b8), .val (.ref b32), .val (.ref b58), .val (.ref b8), .val (.int (0 : Int32)), .val .null, .val .null, .val .null, .val (.int (1 : Int32))] []))
    refine GoW.step (fun _ k => XS.iloadN X105.here hx rfl (hb hby at_337) rfl  k) ?_
    show GoW _ _ _ _ _ _ _ (T105.setTop (mkF m 338 #[.val (.int qs), .val (.int qp), .val (.int (1 : Int32)), .val (.int (0 : Int32)), .val (.ref b1), .val (.ref b8), .val (.ref b32), .val (.ref b58), .val (.ref b8), .val (.int (0 : Int32)), .val .null, .val .null, .val .null, .val (.int (1 : Int32))] [(.int (1 : Int32))]))
    refine GoW.step (fun _ k => XS.iconst X105.here hx rfl (hb hby at_338) k) ?_
    show GoW _ _ _ _ _ _ _ (T105.setTop (mkF m 339 #[.val (.int qs), .val (.int qp), .val (.int (1 : Int32)), .val (.int (0 : Int32)), .val (.ref b1), .val (.ref b8), .val (.ref b32), .val (.ref b58), .val (.ref b8), .val (.int (0 : Int32)), .val .null, .val .null, .val .null, .val (.int (1 : Int32))] [(.int (3 : Int32)), (.int (1 : Int32))]))
    have hc339 : (1 : Int32) < (3 : Int32) := hc78
    refine GoW.step (fun _ k => XS.icmpNo X105.here hx rfl (hb hby at_339) rfl (tlt hc339).2.1 k) ?_
    show GoW _ _ _ _ _ _ _ (T105.setTop (mkF m 342 #[.val (.int qs), .val (.int qp), .val (.int (1 : Int32)), .val (.int (0 : Int32)), .val (.ref b1), .val (.ref b8), .val (.ref b32), .val (.ref b58), .val (.ref b8), .val (.int (0 : Int32)), .val .null, .val .null, .val .null, .val (.int (1 : Int32))] []))
    refine GoW.step (fun _ k => XS.iload X105.here hx rfl (hb hby at_342) rfl  k) ?_
    show GoW _ _ _ _ _ _ _ (T105.setTop (mkF m 344 #[.val (.int qs), .val (.int qp), .val (.int (1 : Int32)), .val (.int (0 : Int32)), .val (.ref b1), .val (.ref b8), .val (.ref b32), .val (.ref b58), .val (.ref b8), .val (.int (0 : Int32)), .val .null, .val .null, .val .null, .val (.int (1 : Int32))] [(.int (1 : Int32))]))
    have hc344 : ¬ ((1 : Int32) = (0 : Int32)) := hc227
    refine GoW.step (fun _ k => XS.ifNo X105.here hx rfl (hb hby at_344) rfl ((if0 _ _).trans (feq hc344).1) k) ?_
    show GoW _ _ _ _ _ _ _ (T105.setTop (mkF m 347 #[.val (.int qs), .val (.int qp), .val (.int (1 : Int32)), .val (.int (0 : Int32)), .val (.ref b1), .val (.ref b8), .val (.ref b32), .val (.ref b58), .val (.ref b8), .val (.int (0 : Int32)), .val .null, .val .null, .val .null, .val (.int (1 : Int32))] []))
    refine GoW.step (fun _ k => XS.aload X105.here hx rfl (hb hby at_347) rfl rfl  k) ?_
    show GoW _ _ _ _ _ _ _ (T105.setTop (mkF m 349 #[.val (.int qs), .val (.int qp), .val (.int (1 : Int32)), .val (.int (0 : Int32)), .val (.ref b1), .val (.ref b8), .val (.ref b32), .val (.ref b58), .val (.ref b8), .val (.int (0 : Int32)), .val .null, .val .null, .val .null, .val (.int (1 : Int32))] [(.ref b58)]))
    have f106 : Fld Z T97.heap b58 "com/example/steward/steward/runtime/Agent" "group" "Lcom/example/steward/steward/runtime/Group;" .null := ((c82_1.keep K93 (ninS (Ne.symm ne60) (ninS (Ne.symm ne62) nin0))).keep K97 (ninS (Ne.symm ne60) (ninS (Ne.symm ne62) nin0)))
    obtain ⟨T107, X107, e107, st107⟩ := getF X105 hx hZ hown (host := "") (Or.inl (hw _ (List.mem_of_getElem? (i := 69) rfl))) Via.refl e105 f106 (g := (mkF m 349 #[.val (.int qs), .val (.int qp), .val (.int (1 : Int32)), .val (.int (0 : Int32)), .val (.ref b1), .val (.ref b8), .val (.ref b32), .val (.ref b58), .val (.ref b8), .val (.int (0 : Int32)), .val .null, .val .null, .val .null, .val (.int (1 : Int32))] [(.ref b58)])) rfl rfl (hb hby at_349)
    refine GoW.step st107 ?_
    show GoW _ _ _ _ _ _ _ (T107.setTop (mkF m 352 #[.val (.int qs), .val (.int qp), .val (.int (1 : Int32)), .val (.int (0 : Int32)), .val (.ref b1), .val (.ref b8), .val (.ref b32), .val (.ref b58), .val (.ref b8), .val (.int (0 : Int32)), .val .null, .val .null, .val .null, .val (.int (1 : Int32))] [.null]))
    refine GoW.step (fun _ k => XS.ifnonnullNo X107.here hx rfl (hb hby at_352) rfl k) ?_
    show GoW _ _ _ _ _ _ _ (T107.setTop (mkF m 355 #[.val (.int qs), .val (.int qp), .val (.int (1 : Int32)), .val (.int (0 : Int32)), .val (.ref b1), .val (.ref b8), .val (.ref b32), .val (.ref b58), .val (.ref b8), .val (.int (0 : Int32)), .val .null, .val .null, .val .null, .val (.int (1 : Int32))] []))
    refine GoW.step (fun _ k => XS.aload X107.here hx rfl (hb hby at_355) rfl rfl  k) ?_
    show GoW _ _ _ _ _ _ _ (T107.setTop (mkF m 357 #[.val (.int qs), .val (.int qp), .val (.int (1 : Int32)), .val (.int (0 : Int32)), .val (.ref b1), .val (.ref b8), .val (.ref b32), .val (.ref b58), .val (.ref b8), .val (.int (0 : Int32)), .val .null, .val .null, .val .null, .val (.int (1 : Int32))] [(.ref b58)]))
    have f108 : Fld Z T97.heap b58 "com/example/steward/steward/runtime/Agent" "ahead" "Lcom/example/steward/steward/runtime/Agent;" .null := ((c82_2.keep K93 (ninS (Ne.symm ne60) (ninS (Ne.symm ne62) nin0))).keep K97 (ninS (Ne.symm ne60) (ninS (Ne.symm ne62) nin0)))
    obtain ⟨T109, X109, e109, st109⟩ := getF X107 hx hZ hown (host := "") (Or.inl (hw _ (List.mem_of_getElem? (i := 70) rfl))) Via.refl e107 f108 (g := (mkF m 357 #[.val (.int qs), .val (.int qp), .val (.int (1 : Int32)), .val (.int (0 : Int32)), .val (.ref b1), .val (.ref b8), .val (.ref b32), .val (.ref b58), .val (.ref b8), .val (.int (0 : Int32)), .val .null, .val .null, .val .null, .val (.int (1 : Int32))] [(.ref b58)])) rfl rfl (hb hby at_357)
    refine GoW.step st109 ?_
    show GoW _ _ _ _ _ _ _ (T109.setTop (mkF m 360 #[.val (.int qs), .val (.int qp), .val (.int (1 : Int32)), .val (.int (0 : Int32)), .val (.ref b1), .val (.ref b8), .val (.ref b32), .val (.ref b58), .val (.ref b8), .val (.int (0 : Int32)), .val .null, .val .null, .val .null, .val (.int (1 : Int32))] [.null]))
    refine GoW.step (fun _ k => XS.ifnonnullNo X109.here hx rfl (hb hby at_360) rfl k) ?_
    show GoW _ _ _ _ _ _ _ (T109.setTop (mkF m 363 #[.val (.int qs), .val (.int qp), .val (.int (1 : Int32)), .val (.int (0 : Int32)), .val (.ref b1), .val (.ref b8), .val (.ref b32), .val (.ref b58), .val (.ref b8), .val (.int (0 : Int32)), .val .null, .val .null, .val .null, .val (.int (1 : Int32))] []))
    refine GoW.step (fun _ k => XS.aload X109.here hx rfl (hb hby at_363) rfl rfl  k) ?_
    show GoW _ _ _ _ _ _ _ (T109.setTop (mkF m 365 #[.val (.int qs), .val (.int qp), .val (.int (1 : Int32)), .val (.int (0 : Int32)), .val (.ref b1), .val (.ref b8), .val (.ref b32), .val (.ref b58), .val (.ref b8), .val (.int (0 : Int32)), .val .null, .val .null, .val .null, .val (.int (1 : Int32))] [(.ref b58)]))
    have f110 : Fld Z T97.heap b58 "com/example/steward/steward/runtime/Agent" "behind" "Lcom/example/steward/steward/runtime/Agent;" .null := ((c82_3.keep K93 (ninS (Ne.symm ne60) (ninS (Ne.symm ne62) nin0))).keep K97 (ninS (Ne.symm ne60) (ninS (Ne.symm ne62) nin0)))
    obtain ⟨T111, X111, e111, st111⟩ := getF X109 hx hZ hown (host := "") (Or.inl (hw _ (List.mem_of_getElem? (i := 71) rfl))) Via.refl e109 f110 (g := (mkF m 365 #[.val (.int qs), .val (.int qp), .val (.int (1 : Int32)), .val (.int (0 : Int32)), .val (.ref b1), .val (.ref b8), .val (.ref b32), .val (.ref b58), .val (.ref b8), .val (.int (0 : Int32)), .val .null, .val .null, .val .null, .val (.int (1 : Int32))] [(.ref b58)])) rfl rfl (hb hby at_365)
    refine GoW.step st111 ?_
    show GoW _ _ _ _ _ _ _ (T111.setTop (mkF m 368 #[.val (.int qs), .val (.int qp), .val (.int (1 : Int32)), .val (.int (0 : Int32)), .val (.ref b1), .val (.ref b8), .val (.ref b32), .val (.ref b58), .val (.ref b8), .val (.int (0 : Int32)), .val .null, .val .null, .val .null, .val (.int (1 : Int32))] [.null]))
    refine GoW.step (fun _ k => XS.ifnonnullNo X111.here hx rfl (hb hby at_368) rfl k) ?_
    show GoW _ _ _ _ _ _ _ (T111.setTop (mkF m 371 #[.val (.int qs), .val (.int qp), .val (.int (1 : Int32)), .val (.int (0 : Int32)), .val (.ref b1), .val (.ref b8), .val (.ref b32), .val (.ref b58), .val (.ref b8), .val (.int (0 : Int32)), .val .null, .val .null, .val .null, .val (.int (1 : Int32))] []))
    refine GoW.step (fun _ k => XS.iconst X111.here hx rfl (hb hby at_371) k) ?_
    show GoW _ _ _ _ _ _ _ (T111.setTop (mkF m 372 #[.val (.int qs), .val (.int qp), .val (.int (1 : Int32)), .val (.int (0 : Int32)), .val (.ref b1), .val (.ref b8), .val (.ref b32), .val (.ref b58), .val (.ref b8), .val (.int (0 : Int32)), .val .null, .val .null, .val .null, .val (.int (1 : Int32))] [(.int (1 : Int32))]))
    refine GoW.step (fun _ k => XS.goto X111.here hx rfl (pc0 := 372) (pc' := 376) rfl (hb hby at_372) (by decide) (by decide) k) ?_
    show GoW _ _ _ _ _ _ _ (T111.setTop (mkF m 376 #[.val (.int qs), .val (.int qp), .val (.int (1 : Int32)), .val (.int (0 : Int32)), .val (.ref b1), .val (.ref b8), .val (.ref b32), .val (.ref b58), .val (.ref b8), .val (.int (0 : Int32)), .val .null, .val .null, .val .null, .val (.int (1 : Int32))] [(.int (1 : Int32))]))
    refine GoW.step (fun _ k => XS.istore X111.here hx rfl (hb hby at_376) rfl (l' := #[.val (.int qs), .val (.int qp), .val (.int (1 : Int32)), .val (.int (0 : Int32)), .val (.ref b1), .val (.ref b8), .val (.ref b32), .val (.ref b58), .val (.ref b8), .val (.int (0 : Int32)), .val .null, .val .null, .val .null, .val (.int (1 : Int32))]) rfl k) ?_
    show GoW _ _ _ _ _ _ _ (T111.setTop (mkF m 378 #[.val (.int qs), .val (.int qp), .val (.int (1 : Int32)), .val (.int (0 : Int32)), .val (.ref b1), .val (.ref b8), .val (.ref b32), .val (.ref b58), .val (.ref b8), .val (.int (0 : Int32)), .val .null, .val .null, .val .null, .val (.int (1 : Int32))] []))
    refine GoW.step (fun _ k => XS.aload X111.here hx rfl (hb hby at_378) rfl rfl  k) ?_
    show GoW _ _ _ _ _ _ _ (T111.setTop (mkF m 380 #[.val (.int qs), .val (.int qp), .val (.int (1 : Int32)), .val (.int (0 : Int32)), .val (.ref b1), .val (.ref b8), .val (.ref b32), .val (.ref b58), .val (.ref b8), .val (.int (0 : Int32)), .val .null, .val .null, .val .null, .val (.int (1 : Int32))] [(.ref b1)]))
    refine GoW.step (fun _ k => XS.aload X111.here hx rfl (hb hby at_380) rfl rfl  k) ?_
    show GoW _ _ _ _ _ _ _ (T111.setTop (mkF m 382 #[.val (.int qs), .val (.int qp), .val (.int (1 : Int32)), .val (.int (0 : Int32)), .val (.ref b1), .val (.ref b8), .val (.ref b32), .val (.ref b58), .val (.ref b8), .val (.int (0 : Int32)), .val .null, .val .null, .val .null, .val (.int (1 : Int32))] [(.ref b8), (.ref b1)]))
    obtain ⟨cq112, kq112, q112a, q112b, q112c⟩ := isOf hZ e111 c97_0
    obtain ⟨_, _, ⟨T112, L112, k112, n112⟩, -, X112, ⟨Lc112, hQ112, l112, y112, z112⟩, st112⟩ := X111.virtualBack hx (y := (⟨"com/example/steward/steward/runtime/Group", "add", "(Lcom/example/steward/steward/runtime/Agent;)V"⟩ : MethodName)) (z := (⟨"com/example/steward/steward/runtime/Group", "add", "(Lcom/example/steward/steward/runtime/Agent;)V"⟩ : MethodName)) hown (mvT hZ (hw _ (List.mem_of_getElem? (i := 49) rfl))) (mvT hZ (hw _ (List.mem_of_getElem? (i := 50) rfl))) (notFace_of_selects (args := #[]) (mvT hZ (hw _ (List.mem_of_getElem? (i := 52) rfl)))) (mvT hZ (hw _ (List.mem_of_getElem? (i := 52) rfl))) (mvT hZ (hw _ (List.mem_of_getElem? (i := 51) rfl))) (by decide) (backOf (W := 0) (rmadd0 l Z aZ hw [] b1 b8 Value.null Value.null Value.null Value.null T97.heap n0 z98 c97_0 c97_1 c97_2 c97_3 c97_4 c97_5 c97_6 gn1 gn8) hZ (hw _ (List.mem_of_getElem? (i := 53) rfl)) (hw _ (List.mem_of_getElem? (i := 3) rfl)) (by decide) (by decide)) q112a q112c (g := (mkF m 382 #[.val (.int qs), .val (.int qp), .val (.int (1 : Int32)), .val (.int (0 : Int32)), .val (.ref b1), .val (.ref b8), .val (.ref b32), .val (.ref b58), .val (.ref b8), .val (.int (0 : Int32)), .val .null, .val .null, .val .null, .val (.int (1 : Int32))] [(.ref b8), (.ref b1)])) rfl (by rw [hml]; rfl) (Steps.refl _) (argsL := [(.ref b8)]) (rest := []) (lenOf pd_3 rfl) rfl (by show 2 * 0 + _ ≤ _; exact Nat.le_of_eq rfl) (hb hby at_382) (fun _ _ => ⟨rfl, e111, (by decide : 16 + 0 ≤ _), (by decide : 74 + 0 ≤ _)⟩)
    dsimp only [Pt.U, Pt.locs, Pt.cells, Pt.slots] at X112 l112 y112 z112 st112 hQ112
    subst l112 y112 z112
    obtain ⟨rfl, Nq112, K112, c112_0, c112_1, c112_2, c112_3, c112_4, c112_5, c112_6⟩ := hQ112
    have N112 := Fr.app N105 Nq112
    refine GoW.tr st112 ?_
    have z113 : n0 ≤ T112.heap.size := Nat.le_trans z98 K112.1
    have sqz113 : h0.size ≤ T112.heap.size := Nat.le_trans sqz98 K112.1
    have hk115 := Nat.le_trans hk100 K112.1
    show GoW _ _ _ _ _ _ _ (T112.setTop (mkF m 385 #[.val (.int qs), .val (.int qp), .val (.int (1 : Int32)), .val (.int (0 : Int32)), .val (.ref b1), .val (.ref b8), .val (.ref b32), .val (.ref b58), .val (.ref b8), .val (.int (0 : Int32)), .val .null, .val .null, .val .null, .val (.int (1 : Int32))] []))
    refine GoW.step (fun _ k => XS.iload X112.here hx rfl (hb hby at_385) rfl  k) ?_
    show GoW _ _ _ _ _ _ _ (T112.setTop (mkF m 387 #[.val (.int qs), .val (.int qp), .val (.int (1 : Int32)), .val (.int (0 : Int32)), .val (.ref b1), .val (.ref b8), .val (.ref b32), .val (.ref b58), .val (.ref b8), .val (.int (0 : Int32)), .val .null, .val .null, .val .null, .val (.int (1 : Int32))] [(.int (1 : Int32))]))
    have hc387 : ¬ ((1 : Int32) = (0 : Int32)) := hc344
    refine GoW.step (fun _ k => XS.ifNo X112.here hx rfl (hb hby at_387) rfl ((if0 _ _).trans (feq hc387).1) k) ?_
    show GoW _ _ _ _ _ _ _ (T112.setTop (mkF m 390 #[.val (.int qs), .val (.int qp), .val (.int (1 : Int32)), .val (.int (0 : Int32)), .val (.ref b1), .val (.ref b8), .val (.ref b32), .val (.ref b58), .val (.ref b8), .val (.int (0 : Int32)), .val .null, .val .null, .val .null, .val (.int (1 : Int32))] []))
    refine GoW.step (fun _ k => XS.aload X112.here hx rfl (hb hby at_390) rfl rfl  k) ?_
    show GoW _ _ _ _ _ _ _ (T112.setTop (mkF m 392 #[.val (.int qs), .val (.int qp), .val (.int (1 : Int32)), .val (.int (0 : Int32)), .val (.ref b1), .val (.ref b8), .val (.ref b32), .val (.ref b58), .val (.ref b8), .val (.int (0 : Int32)), .val .null, .val .null, .val .null, .val (.int (1 : Int32))] [(.ref b8)]))
    obtain ⟨T116, X116, e116, st116⟩ := getF X112 hx hZ hown (host := "") (Or.inl (hw _ (List.mem_of_getElem? (i := 70) rfl))) Via.refl rfl c112_3 (g := (mkF m 392 #[.val (.int qs), .val (.int qp), .val (.int (1 : Int32)), .val (.int (0 : Int32)), .val (.ref b1), .val (.ref b8), .val (.ref b32), .val (.ref b58), .val (.ref b8), .val (.int (0 : Int32)), .val .null, .val .null, .val .null, .val (.int (1 : Int32))] [(.ref b8)])) rfl rfl (hb hby at_392)
    refine GoW.step st116 ?_
    show GoW _ _ _ _ _ _ _ (T116.setTop (mkF m 395 #[.val (.int qs), .val (.int qp), .val (.int (1 : Int32)), .val (.int (0 : Int32)), .val (.ref b1), .val (.ref b8), .val (.ref b32), .val (.ref b58), .val (.ref b8), .val (.int (0 : Int32)), .val .null, .val .null, .val .null, .val (.int (1 : Int32))] [.null]))
    refine GoW.step (fun _ k => XS.aload X116.here hx rfl (hb hby at_395) rfl rfl  k) ?_
    show GoW _ _ _ _ _ _ _ (T116.setTop (mkF m 397 #[.val (.int qs), .val (.int qp), .val (.int (1 : Int32)), .val (.int (0 : Int32)), .val (.ref b1), .val (.ref b8), .val (.ref b32), .val (.ref b58), .val (.ref b8), .val (.int (0 : Int32)), .val .null, .val .null, .val .null, .val (.int (1 : Int32))] [.null, .null]))
    refine GoW.step (fun _ k => Jvm.RoadKit.acmp (g := (mkF m 397 #[.val (.int qs), .val (.int qp), .val (.int (1 : Int32)), .val (.int (0 : Int32)), .val (.ref b1), .val (.ref b8), .val (.ref b32), .val (.ref b58), .val (.ref b8), .val (.int (0 : Int32)), .val .null, .val .null, .val .null, .val (.int (1 : Int32))] [.null, .null])) X116 hx rfl rfl rfl (pc0 := 397) (pc' := 400) (same := true) rfl (hb hby at_397) rfl (decide_eq_true rfl) (by decide) (by decide) k) ?_
    show GoW _ _ _ _ _ _ _ (T116.setTop (mkF m 400 #[.val (.int qs), .val (.int qp), .val (.int (1 : Int32)), .val (.int (0 : Int32)), .val (.ref b1), .val (.ref b8), .val (.ref b32), .val (.ref b58), .val (.ref b8), .val (.int (0 : Int32)), .val .null, .val .null, .val .null, .val (.int (1 : Int32))] []))
    refine GoW.step (fun _ k => XS.aload X116.here hx rfl (hb hby at_400) rfl rfl  k) ?_
    show GoW _ _ _ _ _ _ _ (T116.setTop (mkF m 402 #[.val (.int qs), .val (.int qp), .val (.int (1 : Int32)), .val (.int (0 : Int32)), .val (.ref b1), .val (.ref b8), .val (.ref b32), .val (.ref b58), .val (.ref b8), .val (.int (0 : Int32)), .val .null, .val .null, .val .null, .val (.int (1 : Int32))] [(.ref b8)]))
    obtain ⟨T117, X117, e117, st117⟩ := getF X116 hx hZ hown (host := "") (Or.inl (hw _ (List.mem_of_getElem? (i := 71) rfl))) Via.refl e116 c112_4 (g := (mkF m 402 #[.val (.int qs), .val (.int qp), .val (.int (1 : Int32)), .val (.int (0 : Int32)), .val (.ref b1), .val (.ref b8), .val (.ref b32), .val (.ref b58), .val (.ref b8), .val (.int (0 : Int32)), .val .null, .val .null, .val .null, .val (.int (1 : Int32))] [(.ref b8)])) rfl rfl (hb hby at_402)
    refine GoW.step st117 ?_
    show GoW _ _ _ _ _ _ _ (T117.setTop (mkF m 405 #[.val (.int qs), .val (.int qp), .val (.int (1 : Int32)), .val (.int (0 : Int32)), .val (.ref b1), .val (.ref b8), .val (.ref b32), .val (.ref b58), .val (.ref b8), .val (.int (0 : Int32)), .val .null, .val .null, .val .null, .val (.int (1 : Int32))] [.null]))
    refine GoW.step (fun _ k => XS.ifnonnullNo X117.here hx rfl (hb hby at_405) rfl k) ?_
    show GoW _ _ _ _ _ _ _ (T117.setTop (mkF m 408 #[.val (.int qs), .val (.int qp), .val (.int (1 : Int32)), .val (.int (0 : Int32)), .val (.ref b1), .val (.ref b8), .val (.ref b32), .val (.ref b58), .val (.ref b8), .val (.int (0 : Int32)), .val .null, .val .null, .val .null, .val (.int (1 : Int32))] []))
    refine GoW.step (fun _ k => XS.iconst X117.here hx rfl (hb hby at_408) k) ?_
    show GoW _ _ _ _ _ _ _ (T117.setTop (mkF m 409 #[.val (.int qs), .val (.int qp), .val (.int (1 : Int32)), .val (.int (0 : Int32)), .val (.ref b1), .val (.ref b8), .val (.ref b32), .val (.ref b58), .val (.ref b8), .val (.int (0 : Int32)), .val .null, .val .null, .val .null, .val (.int (1 : Int32))] [(.int (1 : Int32))]))
    refine GoW.step (fun _ k => XS.goto X117.here hx rfl (pc0 := 409) (pc' := 413) rfl (hb hby at_409) (by decide) (by decide) k) ?_
    show GoW _ _ _ _ _ _ _ (T117.setTop (mkF m 413 #[.val (.int qs), .val (.int qp), .val (.int (1 : Int32)), .val (.int (0 : Int32)), .val (.ref b1), .val (.ref b8), .val (.ref b32), .val (.ref b58), .val (.ref b8), .val (.int (0 : Int32)), .val .null, .val .null, .val .null, .val (.int (1 : Int32))] [(.int (1 : Int32))]))
    refine GoW.step (fun _ k => XS.istore X117.here hx rfl (hb hby at_413) rfl (l' := #[.val (.int qs), .val (.int qp), .val (.int (1 : Int32)), .val (.int (0 : Int32)), .val (.ref b1), .val (.ref b8), .val (.ref b32), .val (.ref b58), .val (.ref b8), .val (.int (0 : Int32)), .val .null, .val .null, .val .null, .val (.int (1 : Int32))]) rfl k) ?_
    show GoW _ _ _ _ _ _ _ (T117.setTop (mkF m 415 #[.val (.int qs), .val (.int qp), .val (.int (1 : Int32)), .val (.int (0 : Int32)), .val (.ref b1), .val (.ref b8), .val (.ref b32), .val (.ref b58), .val (.ref b8), .val (.int (0 : Int32)), .val .null, .val .null, .val .null, .val (.int (1 : Int32))] []))
    refine GoW.step (fun _ k => XS.aload X117.here hx rfl (hb hby at_415) rfl rfl  k) ?_
    show GoW _ _ _ _ _ _ _ (T117.setTop (mkF m 417 #[.val (.int qs), .val (.int qp), .val (.int (1 : Int32)), .val (.int (0 : Int32)), .val (.ref b1), .val (.ref b8), .val (.ref b32), .val (.ref b58), .val (.ref b8), .val (.int (0 : Int32)), .val .null, .val .null, .val .null, .val (.int (1 : Int32))] [.null]))
    refine GoW.step (fun _ k => XS.ifnullYes X117.here hx rfl (pc0 := 417) (pc' := 442) rfl (hb hby at_417) rfl (by decide) (by decide) k) ?_
    show GoW _ _ _ _ _ _ _ (T117.setTop (mkF m 442 #[.val (.int qs), .val (.int qp), .val (.int (1 : Int32)), .val (.int (0 : Int32)), .val (.ref b1), .val (.ref b8), .val (.ref b32), .val (.ref b58), .val (.ref b8), .val (.int (0 : Int32)), .val .null, .val .null, .val .null, .val (.int (1 : Int32))] []))
    refine GoW.step (fun _ k => XS.iload X117.here hx rfl (hb hby at_442) rfl  k) ?_
    show GoW _ _ _ _ _ _ _ (T117.setTop (mkF m 444 #[.val (.int qs), .val (.int qp), .val (.int (1 : Int32)), .val (.int (0 : Int32)), .val (.ref b1), .val (.ref b8), .val (.ref b32), .val (.ref b58), .val (.ref b8), .val (.int (0 : Int32)), .val .null, .val .null, .val .null, .val (.int (1 : Int32))] [(.int (1 : Int32))]))
    refine GoW.retN X117 hS72 (by rw [e117]; exact hk115) hx (t := .boolean) Bd.returns (by simp) hlk (hb hby at_444) ?_ (by decide) (by decide)
    rw [e117]
    exact ⟨(by first | rfl | (simp_all [own_nb1, own_nb0]; done)), N112⟩
  · skip
    subst h1 h2
    show GoW _ _ _ _ _ _ _ (T82.setTop (mkF m 57 #[.val (.int qs), .val (.int qp), .val (.int (2 : Int32)), .val (.int (0 : Int32)), .val (.ref b1), .val (.ref b8), .val (.ref b32), .val (.ref b58), .unset, .unset, .unset, .unset, .unset, .unset] []))
    refine GoW.step (fun _ k => XS.aload X82.here hx rfl (hb hby at_57) rfl rfl  k) ?_
    show GoW _ _ _ _ _ _ _ (T82.setTop (mkF m 59 #[.val (.int qs), .val (.int qp), .val (.int (2 : Int32)), .val (.int (0 : Int32)), .val (.ref b1), .val (.ref b8), .val (.ref b32), .val (.ref b58), .unset, .unset, .unset, .unset, .unset, .unset] [(.ref b1)]))
    refine GoW.step (fun _ k => XS.aload X82.here hx rfl (hb hby at_59) rfl rfl  k) ?_
    show GoW _ _ _ _ _ _ _ (T82.setTop (mkF m 61 #[.val (.int qs), .val (.int qp), .val (.int (2 : Int32)), .val (.int (0 : Int32)), .val (.ref b1), .val (.ref b8), .val (.ref b32), .val (.ref b58), .unset, .unset, .unset, .unset, .unset, .unset] [(.ref b8), (.ref b1)]))
    have f118 : Exa Z T82.heap b1 "com/example/steward/steward/runtime/Group" := (((f59.ext E58).ext E72).keep K82)
    have f119 : Exa Z T82.heap b8 "com/example/steward/steward/runtime/Agent" := (((f61.ext E58).ext E72).keep K82)
    have f120 : Fld Z T82.heap b8 "com/example/steward/steward/runtime/Agent" "group" "Lcom/example/steward/steward/runtime/Group;" .null := ((((((c28_1.ext E32).ext E44).keep K54 (ninS ne35 nin0)).ext E58).ext E72).keep K82 (ninS ne62 nin0))
    have f121 : Fld Z T82.heap b8 "com/example/steward/steward/runtime/Agent" "ahead" "Lcom/example/steward/steward/runtime/Agent;" .null := ((((((c28_2.ext E32).ext E44).keep K54 (ninS ne35 nin0)).ext E58).ext E72).keep K82 (ninS ne62 nin0))
    have f122 : Fld Z T82.heap b8 "com/example/steward/steward/runtime/Agent" "behind" "Lcom/example/steward/steward/runtime/Agent;" .null := ((((((c28_3.ext E32).ext E44).keep K54 (ninS ne35 nin0)).ext E58).ext E72).keep K82 (ninS ne62 nin0))
    have f123 : Fld Z T82.heap b1 "com/example/steward/steward/runtime/Group" "first" "Lcom/example/steward/steward/runtime/Agent;" .null := (((((((((f6.ext E8).ext E18).keep K28 (ninS ne9 nin0)).ext E32).ext E44).keep K54 (ninS ne34 nin0)).ext E58).ext E72).keep K82 (ninS ne60 nin0))
    have f124 : Fld Z T82.heap b1 "com/example/steward/steward/runtime/Group" "last" "Lcom/example/steward/steward/runtime/Agent;" .null := (((((((((f5.ext E8).ext E18).keep K28 (ninS ne9 nin0)).ext E32).ext E44).keep K54 (ninS ne34 nin0)).ext E58).ext E72).keep K82 (ninS ne60 nin0))
    obtain ⟨cq125, kq125, q125a, q125b, q125c⟩ := isOf hZ rfl f118
    obtain ⟨_, _, ⟨T125, L125, k125, n125⟩, -, X125, ⟨Lc125, hQ125, l125, y125, z125⟩, st125⟩ := X82.virtualBack hx (y := (⟨"com/example/steward/steward/runtime/Group", "add", "(Lcom/example/steward/steward/runtime/Agent;)V"⟩ : MethodName)) (z := (⟨"com/example/steward/steward/runtime/Group", "add", "(Lcom/example/steward/steward/runtime/Agent;)V"⟩ : MethodName)) hown (mvT hZ (hw _ (List.mem_of_getElem? (i := 49) rfl))) (mvT hZ (hw _ (List.mem_of_getElem? (i := 50) rfl))) (notFace_of_selects (args := #[]) (mvT hZ (hw _ (List.mem_of_getElem? (i := 52) rfl)))) (mvT hZ (hw _ (List.mem_of_getElem? (i := 52) rfl))) (mvT hZ (hw _ (List.mem_of_getElem? (i := 51) rfl))) (by decide) (backOf (W := 0) (rmadd0 l Z aZ hw [] b1 b8 Value.null Value.null Value.null Value.null T82.heap n0 z83 f118 f119 f120 f121 f122 f123 f124 gn1 gn8) hZ (hw _ (List.mem_of_getElem? (i := 53) rfl)) (hw _ (List.mem_of_getElem? (i := 3) rfl)) (by decide) (by decide)) q125a q125c (g := (mkF m 61 #[.val (.int qs), .val (.int qp), .val (.int (2 : Int32)), .val (.int (0 : Int32)), .val (.ref b1), .val (.ref b8), .val (.ref b32), .val (.ref b58), .unset, .unset, .unset, .unset, .unset, .unset] [(.ref b8), (.ref b1)])) rfl (by rw [hml]; rfl) (Steps.refl _) (argsL := [(.ref b8)]) (rest := []) (lenOf pd_3 rfl) rfl (by show 2 * 0 + _ ≤ _; exact Nat.le_of_eq rfl) (hb hby at_61) (fun _ _ => ⟨rfl, rfl, (by decide : 16 + 0 ≤ _), (by decide : 74 + 0 ≤ _)⟩)
    dsimp only [Pt.U, Pt.locs, Pt.cells, Pt.slots] at X125 l125 y125 z125 st125 hQ125
    subst l125 y125 z125
    obtain ⟨rfl, Nq125, K125, c125_0, c125_1, c125_2, c125_3, c125_4, c125_5, c125_6⟩ := hQ125
    have N125 := Fr.app N82 Nq125
    refine GoW.tr st125 ?_
    have z126 : n0 ≤ T125.heap.size := Nat.le_trans z83 K125.1
    have sqz126 : h0.size ≤ T125.heap.size := Nat.le_trans sqz83 K125.1
    have hk128 := Nat.le_trans hk85 K125.1
    show GoW _ _ _ _ _ _ _ (T125.setTop (mkF m 64 #[.val (.int qs), .val (.int qp), .val (.int (2 : Int32)), .val (.int (0 : Int32)), .val (.ref b1), .val (.ref b8), .val (.ref b32), .val (.ref b58), .unset, .unset, .unset, .unset, .unset, .unset] []))
    refine GoW.step (fun _ k => XS.iloadN X125.here hx rfl (hb hby at_64) rfl  k) ?_
    show GoW _ _ _ _ _ _ _ (T125.setTop (mkF m 65 #[.val (.int qs), .val (.int qp), .val (.int (2 : Int32)), .val (.int (0 : Int32)), .val (.ref b1), .val (.ref b8), .val (.ref b32), .val (.ref b58), .unset, .unset, .unset, .unset, .unset, .unset] [(.int (2 : Int32))]))
    refine GoW.step (fun _ k => XS.iconst X125.here hx rfl (hb hby at_65) k) ?_
    show GoW _ _ _ _ _ _ _ (T125.setTop (mkF m 66 #[.val (.int qs), .val (.int qp), .val (.int (2 : Int32)), .val (.int (0 : Int32)), .val (.ref b1), .val (.ref b8), .val (.ref b32), .val (.ref b58), .unset, .unset, .unset, .unset, .unset, .unset] [(.int (2 : Int32)), (.int (2 : Int32))]))
    have hc66 : ¬ ((2 : Int32) < (2 : Int32)) := by decide
    refine GoW.step (fun _ k => XS.icmpNo X125.here hx rfl (hb hby at_66) rfl (flt hc66).1 k) ?_
    show GoW _ _ _ _ _ _ _ (T125.setTop (mkF m 69 #[.val (.int qs), .val (.int qp), .val (.int (2 : Int32)), .val (.int (0 : Int32)), .val (.ref b1), .val (.ref b8), .val (.ref b32), .val (.ref b58), .unset, .unset, .unset, .unset, .unset, .unset] []))
    refine GoW.step (fun _ k => XS.aload X125.here hx rfl (hb hby at_69) rfl rfl  k) ?_
    show GoW _ _ _ _ _ _ _ (T125.setTop (mkF m 71 #[.val (.int qs), .val (.int qp), .val (.int (2 : Int32)), .val (.int (0 : Int32)), .val (.ref b1), .val (.ref b8), .val (.ref b32), .val (.ref b58), .unset, .unset, .unset, .unset, .unset, .unset] [(.ref b1)]))
    refine GoW.step (fun _ k => XS.aload X125.here hx rfl (hb hby at_71) rfl rfl  k) ?_
    show GoW _ _ _ _ _ _ _ (T125.setTop (mkF m 73 #[.val (.int qs), .val (.int qp), .val (.int (2 : Int32)), .val (.int (0 : Int32)), .val (.ref b1), .val (.ref b8), .val (.ref b32), .val (.ref b58), .unset, .unset, .unset, .unset, .unset, .unset] [(.ref b32), (.ref b1)]))
    have f129 : Exa Z T125.heap b32 "com/example/steward/steward/runtime/Agent" := ((((c54_0.ext E58).ext E72).keep K82).keep K125)
    have f130 : Fld Z T125.heap b32 "com/example/steward/steward/runtime/Agent" "group" "Lcom/example/steward/steward/runtime/Group;" .null := ((((c54_1.ext E58).ext E72).keep K82 (ninS ne63 nin0)).keep K125 (ninS (Ne.symm ne34) (ninS (Ne.symm ne35) nin0)))
    have f131 : Fld Z T125.heap b32 "com/example/steward/steward/runtime/Agent" "ahead" "Lcom/example/steward/steward/runtime/Agent;" .null := ((((c54_2.ext E58).ext E72).keep K82 (ninS ne63 nin0)).keep K125 (ninS (Ne.symm ne34) (ninS (Ne.symm ne35) nin0)))
    have f132 : Fld Z T125.heap b32 "com/example/steward/steward/runtime/Agent" "behind" "Lcom/example/steward/steward/runtime/Agent;" .null := ((((c54_3.ext E58).ext E72).keep K82 (ninS ne63 nin0)).keep K125 (ninS (Ne.symm ne34) (ninS (Ne.symm ne35) nin0)))
    obtain ⟨cq133, kq133, q133a, q133b, q133c⟩ := isOf hZ rfl c125_0
    obtain ⟨_, _, ⟨T133, L133, k133, n133⟩, -, X133, ⟨Lc133, hQ133, l133, y133, z133⟩, st133⟩ := X125.virtualBack hx (y := (⟨"com/example/steward/steward/runtime/Group", "add", "(Lcom/example/steward/steward/runtime/Agent;)V"⟩ : MethodName)) (z := (⟨"com/example/steward/steward/runtime/Group", "add", "(Lcom/example/steward/steward/runtime/Agent;)V"⟩ : MethodName)) hown (mvT hZ (hw _ (List.mem_of_getElem? (i := 49) rfl))) (mvT hZ (hw _ (List.mem_of_getElem? (i := 50) rfl))) (notFace_of_selects (args := #[]) (mvT hZ (hw _ (List.mem_of_getElem? (i := 52) rfl)))) (mvT hZ (hw _ (List.mem_of_getElem? (i := 52) rfl))) (mvT hZ (hw _ (List.mem_of_getElem? (i := 51) rfl))) (by decide) (backOf (W := 0) (rmadd1 l Z aZ hw [] b1 b32 Value.null Value.null Value.null (Value.ref b8) b8 Value.null (Value.ref b1) Value.null T125.heap n0 z126 c125_0 f129 f130 f131 f132 c125_5 c125_6 c125_1 c125_4 c125_2 c125_3 (Ne.symm ne35) gn1 gn32 gn8) hZ (hw _ (List.mem_of_getElem? (i := 53) rfl)) (hw _ (List.mem_of_getElem? (i := 3) rfl)) (by decide) (by decide)) q133a q133c (g := (mkF m 73 #[.val (.int qs), .val (.int qp), .val (.int (2 : Int32)), .val (.int (0 : Int32)), .val (.ref b1), .val (.ref b8), .val (.ref b32), .val (.ref b58), .unset, .unset, .unset, .unset, .unset, .unset] [(.ref b32), (.ref b1)])) rfl (by rw [hml]; rfl) (Steps.refl _) (argsL := [(.ref b32)]) (rest := []) (lenOf pd_3 rfl) rfl (by show 2 * 0 + _ ≤ _; exact Nat.le_of_eq rfl) (hb hby at_73) (fun _ _ => ⟨rfl, rfl, (by decide : 16 + 0 ≤ _), (by decide : 74 + 0 ≤ _)⟩)
    dsimp only [Pt.U, Pt.locs, Pt.cells, Pt.slots] at X133 l133 y133 z133 st133 hQ133
    subst l133 y133 z133
    obtain ⟨rfl, Nq133, K133, c133_0, c133_1, c133_2, c133_3, c133_4, c133_5, c133_6, c133_7, c133_8, c133_9, c133_10⟩ := hQ133
    have N133 := Fr.app N125 Nq133
    refine GoW.tr st133 ?_
    have z134 : n0 ≤ T133.heap.size := Nat.le_trans z126 K133.1
    have sqz134 : h0.size ≤ T133.heap.size := Nat.le_trans sqz126 K133.1
    have hk136 := Nat.le_trans hk128 K133.1
    show GoW _ _ _ _ _ _ _ (T133.setTop (mkF m 76 #[.val (.int qs), .val (.int qp), .val (.int (2 : Int32)), .val (.int (0 : Int32)), .val (.ref b1), .val (.ref b8), .val (.ref b32), .val (.ref b58), .unset, .unset, .unset, .unset, .unset, .unset] []))
    refine GoW.step (fun _ k => XS.iloadN X133.here hx rfl (hb hby at_76) rfl  k) ?_
    show GoW _ _ _ _ _ _ _ (T133.setTop (mkF m 77 #[.val (.int qs), .val (.int qp), .val (.int (2 : Int32)), .val (.int (0 : Int32)), .val (.ref b1), .val (.ref b8), .val (.ref b32), .val (.ref b58), .unset, .unset, .unset, .unset, .unset, .unset] [(.int (2 : Int32))]))
    refine GoW.step (fun _ k => XS.iconst X133.here hx rfl (hb hby at_77) k) ?_
    show GoW _ _ _ _ _ _ _ (T133.setTop (mkF m 78 #[.val (.int qs), .val (.int qp), .val (.int (2 : Int32)), .val (.int (0 : Int32)), .val (.ref b1), .val (.ref b8), .val (.ref b32), .val (.ref b58), .unset, .unset, .unset, .unset, .unset, .unset] [(.int (3 : Int32)), (.int (2 : Int32))]))
    have hc78 : (2 : Int32) < (3 : Int32) := by decide
    refine GoW.step (fun _ k => XS.icmpYes X133.here hx rfl (pc0 := 78) (pc' := 88) rfl (hb hby at_78) rfl (tlt hc78).1 (by decide) (by decide) k) ?_
    show GoW _ _ _ _ _ _ _ (T133.setTop (mkF m 88 #[.val (.int qs), .val (.int qp), .val (.int (2 : Int32)), .val (.int (0 : Int32)), .val (.ref b1), .val (.ref b8), .val (.ref b32), .val (.ref b58), .unset, .unset, .unset, .unset, .unset, .unset] []))
    refine GoW.step (fun _ k => XS.iloadN X133.here hx rfl (hb hby at_88) rfl  k) ?_
    show GoW _ _ _ _ _ _ _ (T133.setTop (mkF m 89 #[.val (.int qs), .val (.int qp), .val (.int (2 : Int32)), .val (.int (0 : Int32)), .val (.ref b1), .val (.ref b8), .val (.ref b32), .val (.ref b58), .unset, .unset, .unset, .unset, .unset, .unset] [(.int (0 : Int32))]))
    have hc89 : (0 : Int32) = (0 : Int32) := by decide
    refine GoW.step (fun _ k => XS.ifNo X133.here hx rfl (hb hby at_89) rfl ((if0 _ _).trans (teq hc89).2) k) ?_
    show GoW _ _ _ _ _ _ _ (T133.setTop (mkF m 92 #[.val (.int qs), .val (.int qp), .val (.int (2 : Int32)), .val (.int (0 : Int32)), .val (.ref b1), .val (.ref b8), .val (.ref b32), .val (.ref b58), .unset, .unset, .unset, .unset, .unset, .unset] []))
    refine GoW.step (fun _ k => XS.aload X133.here hx rfl (hb hby at_92) rfl rfl  k) ?_
    show GoW _ _ _ _ _ _ _ (T133.setTop (mkF m 94 #[.val (.int qs), .val (.int qp), .val (.int (2 : Int32)), .val (.int (0 : Int32)), .val (.ref b1), .val (.ref b8), .val (.ref b32), .val (.ref b58), .unset, .unset, .unset, .unset, .unset, .unset] [(.ref b8)]))
    refine GoW.step (fun _ k => XS.goto X133.here hx rfl (pc0 := 94) (pc' := 109) rfl (hb hby at_94) (by decide) (by decide) k) ?_
    show GoW _ _ _ _ _ _ _ (T133.setTop (mkF m 109 #[.val (.int qs), .val (.int qp), .val (.int (2 : Int32)), .val (.int (0 : Int32)), .val (.ref b1), .val (.ref b8), .val (.ref b32), .val (.ref b58), .unset, .unset, .unset, .unset, .unset, .unset] [(.ref b8)]))
    refine GoW.step (fun _ k => XS.astore X133.here hx rfl (hb hby at_109) rfl rfl (l' := #[.val (.int qs), .val (.int qp), .val (.int (2 : Int32)), .val (.int (0 : Int32)), .val (.ref b1), .val (.ref b8), .val (.ref b32), .val (.ref b58), .val (.ref b8), .unset, .unset, .unset, .unset, .unset]) rfl k) ?_
    show GoW _ _ _ _ _ _ _ (T133.setTop (mkF m 111 #[.val (.int qs), .val (.int qp), .val (.int (2 : Int32)), .val (.int (0 : Int32)), .val (.ref b1), .val (.ref b8), .val (.ref b32), .val (.ref b58), .val (.ref b8), .unset, .unset, .unset, .unset, .unset] []))
    refine GoW.step (fun _ k => XS.iloadN X133.here hx rfl (hb hby at_111) rfl  k) ?_
    show GoW _ _ _ _ _ _ _ (T133.setTop (mkF m 112 #[.val (.int qs), .val (.int qp), .val (.int (2 : Int32)), .val (.int (0 : Int32)), .val (.ref b1), .val (.ref b8), .val (.ref b32), .val (.ref b58), .val (.ref b8), .unset, .unset, .unset, .unset, .unset] [(.int (2 : Int32))]))
    refine GoW.step (fun _ k => XS.iconst X133.here hx rfl (hb hby at_112) k) ?_
    show GoW _ _ _ _ _ _ _ (T133.setTop (mkF m 113 #[.val (.int qs), .val (.int qp), .val (.int (2 : Int32)), .val (.int (0 : Int32)), .val (.ref b1), .val (.ref b8), .val (.ref b32), .val (.ref b58), .val (.ref b8), .unset, .unset, .unset, .unset, .unset] [(.int (1 : Int32)), (.int (2 : Int32))]))
    refine GoW.step (fun _ k => XS.isub X133.here hx rfl (hb hby at_113) rfl k) ?_
    show GoW _ _ _ _ _ _ _ (T133.setTop (mkF m 114 #[.val (.int qs), .val (.int qp), .val (.int (2 : Int32)), .val (.int (0 : Int32)), .val (.ref b1), .val (.ref b8), .val (.ref b32), .val (.ref b58), .val (.ref b8), .unset, .unset, .unset, .unset, .unset] [(.int (1 : Int32))]))
    refine GoW.step (fun _ k => XS.istore X133.here hx rfl (hb hby at_114) rfl (l' := #[.val (.int qs), .val (.int qp), .val (.int (2 : Int32)), .val (.int (0 : Int32)), .val (.ref b1), .val (.ref b8), .val (.ref b32), .val (.ref b58), .val (.ref b8), .val (.int (1 : Int32)), .unset, .unset, .unset, .unset]) rfl k) ?_
    show GoW _ _ _ _ _ _ _ (T133.setTop (mkF m 116 #[.val (.int qs), .val (.int qp), .val (.int (2 : Int32)), .val (.int (0 : Int32)), .val (.ref b1), .val (.ref b8), .val (.ref b32), .val (.ref b58), .val (.ref b8), .val (.int (1 : Int32)), .unset, .unset, .unset, .unset] []))
    refine GoW.step (fun _ k => XS.iload X133.here hx rfl (hb hby at_116) rfl  k) ?_
    show GoW _ _ _ _ _ _ _ (T133.setTop (mkF m 118 #[.val (.int qs), .val (.int qp), .val (.int (2 : Int32)), .val (.int (0 : Int32)), .val (.ref b1), .val (.ref b8), .val (.ref b32), .val (.ref b58), .val (.ref b8), .val (.int (1 : Int32)), .unset, .unset, .unset, .unset] [(.int (1 : Int32))]))
    refine GoW.step (fun _ k => XS.iconst X133.here hx rfl (hb hby at_118) k) ?_
    show GoW _ _ _ _ _ _ _ (T133.setTop (mkF m 119 #[.val (.int qs), .val (.int qp), .val (.int (2 : Int32)), .val (.int (0 : Int32)), .val (.ref b1), .val (.ref b8), .val (.ref b32), .val (.ref b58), .val (.ref b8), .val (.int (1 : Int32)), .unset, .unset, .unset, .unset] [(.int (1 : Int32)), (.int (1 : Int32))]))
    have hc119 : ¬ ((1 : Int32) < (1 : Int32)) := by decide
    refine GoW.step (fun _ k => XS.icmpNo X133.here hx rfl (hb hby at_119) rfl (flt hc119).1 k) ?_
    show GoW _ _ _ _ _ _ _ (T133.setTop (mkF m 122 #[.val (.int qs), .val (.int qp), .val (.int (2 : Int32)), .val (.int (0 : Int32)), .val (.ref b1), .val (.ref b8), .val (.ref b32), .val (.ref b58), .val (.ref b8), .val (.int (1 : Int32)), .unset, .unset, .unset, .unset] []))
    refine GoW.step (fun _ k => XS.iloadN X133.here hx rfl (hb hby at_122) rfl  k) ?_
    show GoW _ _ _ _ _ _ _ (T133.setTop (mkF m 123 #[.val (.int qs), .val (.int qp), .val (.int (2 : Int32)), .val (.int (0 : Int32)), .val (.ref b1), .val (.ref b8), .val (.ref b32), .val (.ref b58), .val (.ref b8), .val (.int (1 : Int32)), .unset, .unset, .unset, .unset] [(.int (0 : Int32))]))
    have hc123 : (0 : Int32) = (0 : Int32) := hc89
    refine GoW.step (fun _ k => XS.ifNo X133.here hx rfl (hb hby at_123) rfl ((if0 _ _).trans (teq hc123).2) k) ?_
    show GoW _ _ _ _ _ _ _ (T133.setTop (mkF m 126 #[.val (.int qs), .val (.int qp), .val (.int (2 : Int32)), .val (.int (0 : Int32)), .val (.ref b1), .val (.ref b8), .val (.ref b32), .val (.ref b58), .val (.ref b8), .val (.int (1 : Int32)), .unset, .unset, .unset, .unset] []))
    refine GoW.step (fun _ k => XS.aload X133.here hx rfl (hb hby at_126) rfl rfl  k) ?_
    show GoW _ _ _ _ _ _ _ (T133.setTop (mkF m 128 #[.val (.int qs), .val (.int qp), .val (.int (2 : Int32)), .val (.int (0 : Int32)), .val (.ref b1), .val (.ref b8), .val (.ref b32), .val (.ref b58), .val (.ref b8), .val (.int (1 : Int32)), .unset, .unset, .unset, .unset] [(.ref b32)]))
    refine GoW.step (fun _ k => XS.goto X133.here hx rfl (pc0 := 128) (pc' := 137) rfl (hb hby at_128) (by decide) (by decide) k) ?_
    show GoW _ _ _ _ _ _ _ (T133.setTop (mkF m 137 #[.val (.int qs), .val (.int qp), .val (.int (2 : Int32)), .val (.int (0 : Int32)), .val (.ref b1), .val (.ref b8), .val (.ref b32), .val (.ref b58), .val (.ref b8), .val (.int (1 : Int32)), .unset, .unset, .unset, .unset] [(.ref b32)]))
    refine GoW.step (fun _ k => XS.astore X133.here hx rfl (hb hby at_137) rfl rfl (l' := #[.val (.int qs), .val (.int qp), .val (.int (2 : Int32)), .val (.int (0 : Int32)), .val (.ref b1), .val (.ref b8), .val (.ref b32), .val (.ref b58), .val (.ref b8), .val (.int (1 : Int32)), .val (.ref b32), .unset, .unset, .unset]) rfl k) ?_
    show GoW _ _ _ _ _ _ _ (T133.setTop (mkF m 139 #[.val (.int qs), .val (.int qp), .val (.int (2 : Int32)), .val (.int (0 : Int32)), .val (.ref b1), .val (.ref b8), .val (.ref b32), .val (.ref b58), .val (.ref b8), .val (.int (1 : Int32)), .val (.ref b32), .unset, .unset, .unset] []))
    refine GoW.step (fun _ k => XS.iload X133.here hx rfl (hb hby at_139) rfl  k) ?_
    show GoW _ _ _ _ _ _ _ (T133.setTop (mkF m 141 #[.val (.int qs), .val (.int qp), .val (.int (2 : Int32)), .val (.int (0 : Int32)), .val (.ref b1), .val (.ref b8), .val (.ref b32), .val (.ref b58), .val (.ref b8), .val (.int (1 : Int32)), .val (.ref b32), .unset, .unset, .unset] [(.int (1 : Int32))]))
    refine GoW.step (fun _ k => XS.iconst X133.here hx rfl (hb hby at_141) k) ?_
    show GoW _ _ _ _ _ _ _ (T133.setTop (mkF m 142 #[.val (.int qs), .val (.int qp), .val (.int (2 : Int32)), .val (.int (0 : Int32)), .val (.ref b1), .val (.ref b8), .val (.ref b32), .val (.ref b58), .val (.ref b8), .val (.int (1 : Int32)), .val (.ref b32), .unset, .unset, .unset] [(.int (2 : Int32)), (.int (1 : Int32))]))
    have hc142 : (1 : Int32) < (2 : Int32) := by decide
    refine GoW.step (fun _ k => XS.icmpYes X133.here hx rfl (pc0 := 142) (pc' := 160) rfl (hb hby at_142) rfl (tlt hc142).1 (by decide) (by decide) k) ?_
    show GoW _ _ _ _ _ _ _ (T133.setTop (mkF m 160 #[.val (.int qs), .val (.int qp), .val (.int (2 : Int32)), .val (.int (0 : Int32)), .val (.ref b1), .val (.ref b8), .val (.ref b32), .val (.ref b58), .val (.ref b8), .val (.int (1 : Int32)), .val (.ref b32), .unset, .unset, .unset] []))
    refine GoW.step (fun _ k => XS.aconstNull X133.here hx rfl (hb hby at_160) k) ?_
    show GoW _ _ _ _ _ _ _ (T133.setTop (mkF m 161 #[.val (.int qs), .val (.int qp), .val (.int (2 : Int32)), .val (.int (0 : Int32)), .val (.ref b1), .val (.ref b8), .val (.ref b32), .val (.ref b58), .val (.ref b8), .val (.int (1 : Int32)), .val (.ref b32), .unset, .unset, .unset] [.null]))
    refine GoW.step (fun _ k => XS.astore X133.here hx rfl (hb hby at_161) rfl rfl (l' := #[.val (.int qs), .val (.int qp), .val (.int (2 : Int32)), .val (.int (0 : Int32)), .val (.ref b1), .val (.ref b8), .val (.ref b32), .val (.ref b58), .val (.ref b8), .val (.int (1 : Int32)), .val (.ref b32), .val .null, .unset, .unset]) rfl k) ?_
    show GoW _ _ _ _ _ _ _ (T133.setTop (mkF m 163 #[.val (.int qs), .val (.int qp), .val (.int (2 : Int32)), .val (.int (0 : Int32)), .val (.ref b1), .val (.ref b8), .val (.ref b32), .val (.ref b58), .val (.ref b8), .val (.int (1 : Int32)), .val (.ref b32), .val .null, .unset, .unset] []))
    refine GoW.step (fun _ k => XS.iload X133.here hx rfl (hb hby at_163) rfl  k) ?_
    show GoW _ _ _ _ _ _ _ (T133.setTop (mkF m 165 #[.val (.int qs), .val (.int qp), .val (.int (2 : Int32)), .val (.int (0 : Int32)), .val (.ref b1), .val (.ref b8), .val (.ref b32), .val (.ref b58), .val (.ref b8), .val (.int (1 : Int32)), .val (.ref b32), .val .null, .unset, .unset] [(.int (1 : Int32))]))
    have hc165 : ¬ ((1 : Int32) = (0 : Int32)) := by decide
    refine GoW.step (fun _ k => XS.ifYes X133.here hx rfl (pc0 := 165) (pc' := 172) rfl (hb hby at_165) rfl ((if0 _ _).trans (feq hc165).2) (by decide) (by decide) k) ?_
    show GoW _ _ _ _ _ _ _ (T133.setTop (mkF m 172 #[.val (.int qs), .val (.int qp), .val (.int (2 : Int32)), .val (.int (0 : Int32)), .val (.ref b1), .val (.ref b8), .val (.ref b32), .val (.ref b58), .val (.ref b8), .val (.int (1 : Int32)), .val (.ref b32), .val .null, .unset, .unset] []))
    refine GoW.step (fun _ k => XS.iload X133.here hx rfl (hb hby at_172) rfl  k) ?_
    show GoW _ _ _ _ _ _ _ (T133.setTop (mkF m 174 #[.val (.int qs), .val (.int qp), .val (.int (2 : Int32)), .val (.int (0 : Int32)), .val (.ref b1), .val (.ref b8), .val (.ref b32), .val (.ref b58), .val (.ref b8), .val (.int (1 : Int32)), .val (.ref b32), .val .null, .unset, .unset] [(.int (1 : Int32))]))
    refine GoW.step (fun _ k => XS.iconst X133.here hx rfl (hb hby at_174) k) ?_
    show GoW _ _ _ _ _ _ _ (T133.setTop (mkF m 175 #[.val (.int qs), .val (.int qp), .val (.int (2 : Int32)), .val (.int (0 : Int32)), .val (.ref b1), .val (.ref b8), .val (.ref b32), .val (.ref b58), .val (.ref b8), .val (.int (1 : Int32)), .val (.ref b32), .val .null, .unset, .unset] [(.int (1 : Int32)), (.int (1 : Int32))]))
    have hc175 : (1 : Int32) = (1 : Int32) := by decide
    refine GoW.step (fun _ k => XS.icmpNo X133.here hx rfl (hb hby at_175) rfl (teq hc175).2 k) ?_
    show GoW _ _ _ _ _ _ _ (T133.setTop (mkF m 178 #[.val (.int qs), .val (.int qp), .val (.int (2 : Int32)), .val (.int (0 : Int32)), .val (.ref b1), .val (.ref b8), .val (.ref b32), .val (.ref b58), .val (.ref b8), .val (.int (1 : Int32)), .val (.ref b32), .val .null, .unset, .unset] []))
    refine GoW.step (fun _ k => XS.aload X133.here hx rfl (hb hby at_178) rfl rfl  k) ?_
    show GoW _ _ _ _ _ _ _ (T133.setTop (mkF m 180 #[.val (.int qs), .val (.int qp), .val (.int (2 : Int32)), .val (.int (0 : Int32)), .val (.ref b1), .val (.ref b8), .val (.ref b32), .val (.ref b58), .val (.ref b8), .val (.int (1 : Int32)), .val (.ref b32), .val .null, .unset, .unset] [(.ref b32)]))
    refine GoW.step (fun _ k => XS.goto X133.here hx rfl (pc0 := 180) (pc' := 185) rfl (hb hby at_180) (by decide) (by decide) k) ?_
    show GoW _ _ _ _ _ _ _ (T133.setTop (mkF m 185 #[.val (.int qs), .val (.int qp), .val (.int (2 : Int32)), .val (.int (0 : Int32)), .val (.ref b1), .val (.ref b8), .val (.ref b32), .val (.ref b58), .val (.ref b8), .val (.int (1 : Int32)), .val (.ref b32), .val .null, .unset, .unset] [(.ref b32)]))
    refine GoW.step (fun _ k => XS.astore X133.here hx rfl (hb hby at_185) rfl rfl (l' := #[.val (.int qs), .val (.int qp), .val (.int (2 : Int32)), .val (.int (0 : Int32)), .val (.ref b1), .val (.ref b8), .val (.ref b32), .val (.ref b58), .val (.ref b8), .val (.int (1 : Int32)), .val (.ref b32), .val .null, .val (.ref b32), .unset]) rfl k) ?_
    show GoW _ _ _ _ _ _ _ (T133.setTop (mkF m 187 #[.val (.int qs), .val (.int qp), .val (.int (2 : Int32)), .val (.int (0 : Int32)), .val (.ref b1), .val (.ref b8), .val (.ref b32), .val (.ref b58), .val (.ref b8), .val (.int (1 : Int32)), .val (.ref b32), .val .null, .val (.ref b32), .unset] []))
    refine GoW.step (fun _ k => XS.aload X133.here hx rfl (hb hby at_187) rfl rfl  k) ?_
    show GoW _ _ _ _ _ _ _ (T133.setTop (mkF m 189 #[.val (.int qs), .val (.int qp), .val (.int (2 : Int32)), .val (.int (0 : Int32)), .val (.ref b1), .val (.ref b8), .val (.ref b32), .val (.ref b58), .val (.ref b8), .val (.int (1 : Int32)), .val (.ref b32), .val .null, .val (.ref b32), .unset] [(.ref b1)]))
    refine GoW.step (fun _ k => XS.aload X133.here hx rfl (hb hby at_189) rfl rfl  k) ?_
    show GoW _ _ _ _ _ _ _ (T133.setTop (mkF m 191 #[.val (.int qs), .val (.int qp), .val (.int (2 : Int32)), .val (.int (0 : Int32)), .val (.ref b1), .val (.ref b8), .val (.ref b32), .val (.ref b58), .val (.ref b8), .val (.int (1 : Int32)), .val (.ref b32), .val .null, .val (.ref b32), .unset] [(.ref b8), (.ref b1)]))
    obtain ⟨cq137, kq137, q137a, q137b, q137c⟩ := isOf hZ rfl c133_0
    obtain ⟨_, _, ⟨T137, L137, k137, n137⟩, -, X137, ⟨Lc137, hQ137, l137, y137, z137⟩, st137⟩ := X133.virtualBack hx (y := (⟨"com/example/steward/steward/runtime/Group", "remove", "(Lcom/example/steward/steward/runtime/Agent;)V"⟩ : MethodName)) (z := (⟨"com/example/steward/steward/runtime/Group", "remove", "(Lcom/example/steward/steward/runtime/Agent;)V"⟩ : MethodName)) hown (mvT hZ (hw _ (List.mem_of_getElem? (i := 64) rfl))) (mvT hZ (hw _ (List.mem_of_getElem? (i := 65) rfl))) (notFace_of_selects (args := #[]) (mvT hZ (hw _ (List.mem_of_getElem? (i := 67) rfl)))) (mvT hZ (hw _ (List.mem_of_getElem? (i := 67) rfl))) (mvT hZ (hw _ (List.mem_of_getElem? (i := 66) rfl))) (by decide) (backOf (W := 0) (rmrem01 l Z aZ hw [] b1 b8 (Value.ref b1) (Value.ref b8) (Value.ref b32) b32 (Value.ref b8) (Value.ref b1) Value.null T133.heap n0 z134 c133_0 c133_2 c133_7 c133_9 c133_10 c133_8 c133_6 gn1 gn8 c133_1 c133_4 c133_3 c133_5 ne35 gn32) hZ (hw _ (List.mem_of_getElem? (i := 68) rfl)) (hw _ (List.mem_of_getElem? (i := 3) rfl)) (by decide) (by decide)) q137a q137c (g := (mkF m 191 #[.val (.int qs), .val (.int qp), .val (.int (2 : Int32)), .val (.int (0 : Int32)), .val (.ref b1), .val (.ref b8), .val (.ref b32), .val (.ref b58), .val (.ref b8), .val (.int (1 : Int32)), .val (.ref b32), .val .null, .val (.ref b32), .unset] [(.ref b8), (.ref b1)])) rfl (by rw [hml]; rfl) (Steps.refl _) (argsL := [(.ref b8)]) (rest := []) (lenOf pd_3 rfl) rfl (by show 2 * 0 + _ ≤ _; exact Nat.le_of_eq rfl) (hb hby at_191) (fun _ _ => ⟨rfl, rfl, (by decide : 16 + 0 ≤ _), (by decide : 74 + 0 ≤ _)⟩)
    dsimp only [Pt.U, Pt.locs, Pt.cells, Pt.slots] at X137 l137 y137 z137 st137 hQ137
    subst l137 y137 z137
    obtain ⟨rfl, Nq137, K137, c137_0, c137_1, c137_2, c137_3, c137_4, c137_5, c137_6, c137_7, c137_8, c137_9, c137_10⟩ := hQ137
    have N137 := Fr.app N133 Nq137
    refine GoW.tr st137 ?_
    have z138 : n0 ≤ T137.heap.size := Nat.le_trans z134 K137.1
    have sqz138 : h0.size ≤ T137.heap.size := Nat.le_trans sqz134 K137.1
    have hk140 := Nat.le_trans hk136 K137.1
    show GoW _ _ _ _ _ _ _ (T137.setTop (mkF m 194 #[.val (.int qs), .val (.int qp), .val (.int (2 : Int32)), .val (.int (0 : Int32)), .val (.ref b1), .val (.ref b8), .val (.ref b32), .val (.ref b58), .val (.ref b8), .val (.int (1 : Int32)), .val (.ref b32), .val .null, .val (.ref b32), .unset] []))
    refine GoW.step (fun _ k => XS.aload X137.here hx rfl (hb hby at_194) rfl rfl  k) ?_
    show GoW _ _ _ _ _ _ _ (T137.setTop (mkF m 196 #[.val (.int qs), .val (.int qp), .val (.int (2 : Int32)), .val (.int (0 : Int32)), .val (.ref b1), .val (.ref b8), .val (.ref b32), .val (.ref b58), .val (.ref b8), .val (.int (1 : Int32)), .val (.ref b32), .val .null, .val (.ref b32), .unset] [(.ref b8)]))
    obtain ⟨T141, X141, e141, st141⟩ := getF X137 hx hZ hown (host := "") (Or.inl (hw _ (List.mem_of_getElem? (i := 69) rfl))) Via.refl rfl c137_2 (g := (mkF m 196 #[.val (.int qs), .val (.int qp), .val (.int (2 : Int32)), .val (.int (0 : Int32)), .val (.ref b1), .val (.ref b8), .val (.ref b32), .val (.ref b58), .val (.ref b8), .val (.int (1 : Int32)), .val (.ref b32), .val .null, .val (.ref b32), .unset] [(.ref b8)])) rfl rfl (hb hby at_196)
    refine GoW.step st141 ?_
    show GoW _ _ _ _ _ _ _ (T141.setTop (mkF m 199 #[.val (.int qs), .val (.int qp), .val (.int (2 : Int32)), .val (.int (0 : Int32)), .val (.ref b1), .val (.ref b8), .val (.ref b32), .val (.ref b58), .val (.ref b8), .val (.int (1 : Int32)), .val (.ref b32), .val .null, .val (.ref b32), .unset] [.null]))
    refine GoW.step (fun _ k => XS.ifnonnullNo X141.here hx rfl (hb hby at_199) rfl k) ?_
    show GoW _ _ _ _ _ _ _ (T141.setTop (mkF m 202 #[.val (.int qs), .val (.int qp), .val (.int (2 : Int32)), .val (.int (0 : Int32)), .val (.ref b1), .val (.ref b8), .val (.ref b32), .val (.ref b58), .val (.ref b8), .val (.int (1 : Int32)), .val (.ref b32), .val .null, .val (.ref b32), .unset] []))
    refine GoW.step (fun _ k => XS.aload X141.here hx rfl (hb hby at_202) rfl rfl  k) ?_
    show GoW _ _ _ _ _ _ _ (T141.setTop (mkF m 204 #[.val (.int qs), .val (.int qp), .val (.int (2 : Int32)), .val (.int (0 : Int32)), .val (.ref b1), .val (.ref b8), .val (.ref b32), .val (.ref b58), .val (.ref b8), .val (.int (1 : Int32)), .val (.ref b32), .val .null, .val (.ref b32), .unset] [(.ref b8)]))
    obtain ⟨T142, X142, e142, st142⟩ := getF X141 hx hZ hown (host := "") (Or.inl (hw _ (List.mem_of_getElem? (i := 70) rfl))) Via.refl e141 c137_3 (g := (mkF m 204 #[.val (.int qs), .val (.int qp), .val (.int (2 : Int32)), .val (.int (0 : Int32)), .val (.ref b1), .val (.ref b8), .val (.ref b32), .val (.ref b58), .val (.ref b8), .val (.int (1 : Int32)), .val (.ref b32), .val .null, .val (.ref b32), .unset] [(.ref b8)])) rfl rfl (hb hby at_204)
    refine GoW.step st142 ?_
    show GoW _ _ _ _ _ _ _ (T142.setTop (mkF m 207 #[.val (.int qs), .val (.int qp), .val (.int (2 : Int32)), .val (.int (0 : Int32)), .val (.ref b1), .val (.ref b8), .val (.ref b32), .val (.ref b58), .val (.ref b8), .val (.int (1 : Int32)), .val (.ref b32), .val .null, .val (.ref b32), .unset] [.null]))
    refine GoW.step (fun _ k => XS.ifnonnullNo X142.here hx rfl (hb hby at_207) rfl k) ?_
    show GoW _ _ _ _ _ _ _ (T142.setTop (mkF m 210 #[.val (.int qs), .val (.int qp), .val (.int (2 : Int32)), .val (.int (0 : Int32)), .val (.ref b1), .val (.ref b8), .val (.ref b32), .val (.ref b58), .val (.ref b8), .val (.int (1 : Int32)), .val (.ref b32), .val .null, .val (.ref b32), .unset] []))
    refine GoW.step (fun _ k => XS.aload X142.here hx rfl (hb hby at_210) rfl rfl  k) ?_
    show GoW _ _ _ _ _ _ _ (T142.setTop (mkF m 212 #[.val (.int qs), .val (.int qp), .val (.int (2 : Int32)), .val (.int (0 : Int32)), .val (.ref b1), .val (.ref b8), .val (.ref b32), .val (.ref b58), .val (.ref b8), .val (.int (1 : Int32)), .val (.ref b32), .val .null, .val (.ref b32), .unset] [(.ref b8)]))
    obtain ⟨T143, X143, e143, st143⟩ := getF X142 hx hZ hown (host := "") (Or.inl (hw _ (List.mem_of_getElem? (i := 71) rfl))) Via.refl e142 c137_4 (g := (mkF m 212 #[.val (.int qs), .val (.int qp), .val (.int (2 : Int32)), .val (.int (0 : Int32)), .val (.ref b1), .val (.ref b8), .val (.ref b32), .val (.ref b58), .val (.ref b8), .val (.int (1 : Int32)), .val (.ref b32), .val .null, .val (.ref b32), .unset] [(.ref b8)])) rfl rfl (hb hby at_212)
    refine GoW.step st143 ?_
    show GoW _ _ _ _ _ _ _ (T143.setTop (mkF m 215 #[.val (.int qs), .val (.int qp), .val (.int (2 : Int32)), .val (.int (0 : Int32)), .val (.ref b1), .val (.ref b8), .val (.ref b32), .val (.ref b58), .val (.ref b8), .val (.int (1 : Int32)), .val (.ref b32), .val .null, .val (.ref b32), .unset] [.null]))
    refine GoW.step (fun _ k => XS.ifnonnullNo X143.here hx rfl (hb hby at_215) rfl k) ?_
    show GoW _ _ _ _ _ _ _ (T143.setTop (mkF m 218 #[.val (.int qs), .val (.int qp), .val (.int (2 : Int32)), .val (.int (0 : Int32)), .val (.ref b1), .val (.ref b8), .val (.ref b32), .val (.ref b58), .val (.ref b8), .val (.int (1 : Int32)), .val (.ref b32), .val .null, .val (.ref b32), .unset] []))
    refine GoW.step (fun _ k => XS.iconst X143.here hx rfl (hb hby at_218) k) ?_
    show GoW _ _ _ _ _ _ _ (T143.setTop (mkF m 219 #[.val (.int qs), .val (.int qp), .val (.int (2 : Int32)), .val (.int (0 : Int32)), .val (.ref b1), .val (.ref b8), .val (.ref b32), .val (.ref b58), .val (.ref b8), .val (.int (1 : Int32)), .val (.ref b32), .val .null, .val (.ref b32), .unset] [(.int (1 : Int32))]))
    refine GoW.step (fun _ k => XS.goto X143.here hx rfl (pc0 := 219) (pc' := 223) rfl (hb hby at_219) (by decide) (by decide) k) ?_
    show GoW _ _ _ _ _ _ _ (T143.setTop (mkF m 223 #[.val (.int qs), .val (.int qp), .val (.int (2 : Int32)), .val (.int (0 : Int32)), .val (.ref b1), .val (.ref b8), .val (.ref b32), .val (.ref b58), .val (.ref b8), .val (.int (1 : Int32)), .val (.ref b32), .val .null, .val (.ref b32), .unset] [(.int (1 : Int32))]))
    refine GoW.step (fun _ k => XS.istore X143.here hx rfl (hb hby at_223) rfl (l' := #[.val (.int qs), .val (.int qp), .val (.int (2 : Int32)), .val (.int (0 : Int32)), .val (.ref b1), .val (.ref b8), .val (.ref b32), .val (.ref b58), .val (.ref b8), .val (.int (1 : Int32)), .val (.ref b32), .val .null, .val (.ref b32), .val (.int (1 : Int32))]) rfl k) ?_
    show GoW _ _ _ _ _ _ _ (T143.setTop (mkF m 225 #[.val (.int qs), .val (.int qp), .val (.int (2 : Int32)), .val (.int (0 : Int32)), .val (.ref b1), .val (.ref b8), .val (.ref b32), .val (.ref b58), .val (.ref b8), .val (.int (1 : Int32)), .val (.ref b32), .val .null, .val (.ref b32), .val (.int (1 : Int32))] []))
    refine GoW.step (fun _ k => XS.iload X143.here hx rfl (hb hby at_225) rfl  k) ?_
    show GoW _ _ _ _ _ _ _ (T143.setTop (mkF m 227 #[.val (.int qs), .val (.int qp), .val (.int (2 : Int32)), .val (.int (0 : Int32)), .val (.ref b1), .val (.ref b8), .val (.ref b32), .val (.ref b58), .val (.ref b8), .val (.int (1 : Int32)), .val (.ref b32), .val .null, .val (.ref b32), .val (.int (1 : Int32))] [(.int (1 : Int32))]))
    have hc227 : ¬ ((1 : Int32) = (0 : Int32)) := hc165
    refine GoW.step (fun _ k => XS.ifNo X143.here hx rfl (hb hby at_227) rfl ((if0 _ _).trans (feq hc227).1) k) ?_
    show GoW _ _ _ _ _ _ _ (T143.setTop (mkF m 230 #[.val (.int qs), .val (.int qp), .val (.int (2 : Int32)), .val (.int (0 : Int32)), .val (.ref b1), .val (.ref b8), .val (.ref b32), .val (.ref b58), .val (.ref b8), .val (.int (1 : Int32)), .val (.ref b32), .val .null, .val (.ref b32), .val (.int (1 : Int32))] []))
    refine GoW.step (fun _ k => XS.aload X143.here hx rfl (hb hby at_230) rfl rfl  k) ?_
    show GoW _ _ _ _ _ _ _ (T143.setTop (mkF m 232 #[.val (.int qs), .val (.int qp), .val (.int (2 : Int32)), .val (.int (0 : Int32)), .val (.ref b1), .val (.ref b8), .val (.ref b32), .val (.ref b58), .val (.ref b8), .val (.int (1 : Int32)), .val (.ref b32), .val .null, .val (.ref b32), .val (.int (1 : Int32))] [(.ref b1)]))
    have pq144 : (Value.ref b32).isRef = true := rfl
    obtain ⟨cq145, kq145, q145a, q145b, q145c⟩ := isOf hZ e143 c137_0
    obtain ⟨_, _, ⟨T145, L145, k145, n145⟩, -, X145, ⟨Lc145, hQ145, l145, y145, z145⟩, st145⟩ := X143.virtualBack hx (y := (⟨"com/example/steward/steward/runtime/Group", "first", "()Lcom/example/steward/steward/runtime/Agent;"⟩ : MethodName)) (z := (⟨"com/example/steward/steward/runtime/Group", "first", "()Lcom/example/steward/steward/runtime/Agent;"⟩ : MethodName)) hown (mvT hZ (hw _ (List.mem_of_getElem? (i := 72) rfl))) (mvT hZ (hw _ (List.mem_of_getElem? (i := 73) rfl))) (notFace_of_selects (args := #[]) (mvT hZ (hw _ (List.mem_of_getElem? (i := 75) rfl)))) (mvT hZ (hw _ (List.mem_of_getElem? (i := 75) rfl))) (mvT hZ (hw _ (List.mem_of_getElem? (i := 74) rfl))) (by decide) (backOf (W := 0) (rm8 l Z aZ hw [] b1 (Value.ref b32) T137.heap n0 z138 c137_9 pq144) hZ (hw _ (List.mem_of_getElem? (i := 76) rfl)) (hw _ (List.mem_of_getElem? (i := 3) rfl)) (by decide) (by decide)) q145a q145c (g := (mkF m 232 #[.val (.int qs), .val (.int qp), .val (.int (2 : Int32)), .val (.int (0 : Int32)), .val (.ref b1), .val (.ref b8), .val (.ref b32), .val (.ref b58), .val (.ref b8), .val (.int (1 : Int32)), .val (.ref b32), .val .null, .val (.ref b32), .val (.int (1 : Int32))] [(.ref b1)])) rfl (by rw [hml]; rfl) (Steps.refl _) (argsL := []) (rest := []) (lenOf pd_4 rfl) rfl (by show 2 * 0 + _ ≤ _; exact Nat.le_of_eq rfl) (hb hby at_232) (fun _ _ => ⟨rfl, e143, (by decide : 16 + 0 ≤ _), (by decide : 74 + 0 ≤ _)⟩)
    dsimp only [Pt.U, Pt.locs, Pt.cells, Pt.slots] at X145 l145 y145 z145 st145 hQ145
    subst l145 y145 z145
    obtain ⟨rfl, Nq145, e145⟩ := hQ145
    have N145 := Fr.app N137 Nq145
    refine GoW.tr st145 ?_
    show GoW _ _ _ _ _ _ _ (T145.setTop (mkF m 235 #[.val (.int qs), .val (.int qp), .val (.int (2 : Int32)), .val (.int (0 : Int32)), .val (.ref b1), .val (.ref b8), .val (.ref b32), .val (.ref b58), .val (.ref b8), .val (.int (1 : Int32)), .val (.ref b32), .val .null, .val (.ref b32), .val (.int (1 : Int32))] [(.ref b32)]))
    refine GoW.step (fun _ k => XS.aload X145.here hx rfl (hb hby at_235) rfl rfl  k) ?_
    show GoW _ _ _ _ _ _ _ (T145.setTop (mkF m 237 #[.val (.int qs), .val (.int qp), .val (.int (2 : Int32)), .val (.int (0 : Int32)), .val (.ref b1), .val (.ref b8), .val (.ref b32), .val (.ref b58), .val (.ref b8), .val (.int (1 : Int32)), .val (.ref b32), .val .null, .val (.ref b32), .val (.int (1 : Int32))] [(.ref b32), (.ref b32)]))
    refine GoW.step (fun _ k => Jvm.RoadKit.acmp (g := (mkF m 237 #[.val (.int qs), .val (.int qp), .val (.int (2 : Int32)), .val (.int (0 : Int32)), .val (.ref b1), .val (.ref b8), .val (.ref b32), .val (.ref b58), .val (.ref b8), .val (.int (1 : Int32)), .val (.ref b32), .val .null, .val (.ref b32), .val (.int (1 : Int32))] [(.ref b32), (.ref b32)])) X145 hx rfl rfl rfl (pc0 := 237) (pc' := 240) (same := true) rfl (hb hby at_237) rfl (decide_eq_true rfl) (by decide) (by decide) k) ?_
    show GoW _ _ _ _ _ _ _ (T145.setTop (mkF m 240 #[.val (.int qs), .val (.int qp), .val (.int (2 : Int32)), .val (.int (0 : Int32)), .val (.ref b1), .val (.ref b8), .val (.ref b32), .val (.ref b58), .val (.ref b8), .val (.int (1 : Int32)), .val (.ref b32), .val .null, .val (.ref b32), .val (.int (1 : Int32))] []))
    refine GoW.step (fun _ k => XS.iconst X145.here hx rfl (hb hby at_240) k) ?_
    show GoW _ _ _ _ _ _ _ (T145.setTop (mkF m 241 #[.val (.int qs), .val (.int qp), .val (.int (2 : Int32)), .val (.int (0 : Int32)), .val (.ref b1), .val (.ref b8), .val (.ref b32), .val (.ref b58), .val (.ref b8), .val (.int (1 : Int32)), .val (.ref b32), .val .null, .val (.ref b32), .val (.int (1 : Int32))] [(.int (1 : Int32))]))
    refine GoW.step (fun _ k => XS.goto X145.here hx rfl (pc0 := 241) (pc' := 245) rfl (hb hby at_241) (by decide) (by decide) k) ?_
    show GoW _ _ _ _ _ _ _ (T145.setTop (mkF m 245 #[.val (.int qs), .val (.int qp), .val (.int (2 : Int32)), .val (.int (0 : Int32)), .val (.ref b1), .val (.ref b8), .val (.ref b32), .val (.ref b58), .val (.ref b8), .val (.int (1 : Int32)), .val (.ref b32), .val .null, .val (.ref b32), .val (.int (1 : Int32))] [(.int (1 : Int32))]))
    refine GoW.step (fun _ k => XS.istore X145.here hx rfl (hb hby at_245) rfl (l' := #[.val (.int qs), .val (.int qp), .val (.int (2 : Int32)), .val (.int (0 : Int32)), .val (.ref b1), .val (.ref b8), .val (.ref b32), .val (.ref b58), .val (.ref b8), .val (.int (1 : Int32)), .val (.ref b32), .val .null, .val (.ref b32), .val (.int (1 : Int32))]) rfl k) ?_
    show GoW _ _ _ _ _ _ _ (T145.setTop (mkF m 247 #[.val (.int qs), .val (.int qp), .val (.int (2 : Int32)), .val (.int (0 : Int32)), .val (.ref b1), .val (.ref b8), .val (.ref b32), .val (.ref b58), .val (.ref b8), .val (.int (1 : Int32)), .val (.ref b32), .val .null, .val (.ref b32), .val (.int (1 : Int32))] []))
    refine GoW.step (fun _ k => XS.aload X145.here hx rfl (hb hby at_247) rfl rfl  k) ?_
    show GoW _ _ _ _ _ _ _ (T145.setTop (mkF m 249 #[.val (.int qs), .val (.int qp), .val (.int (2 : Int32)), .val (.int (0 : Int32)), .val (.ref b1), .val (.ref b8), .val (.ref b32), .val (.ref b58), .val (.ref b8), .val (.int (1 : Int32)), .val (.ref b32), .val .null, .val (.ref b32), .val (.int (1 : Int32))] [(.ref b32)]))
    refine GoW.step (fun _ k => XS.ifnullNo X145.here hx rfl (hb hby at_249) rfl k) ?_
    show GoW _ _ _ _ _ _ _ (T145.setTop (mkF m 252 #[.val (.int qs), .val (.int qp), .val (.int (2 : Int32)), .val (.int (0 : Int32)), .val (.ref b1), .val (.ref b8), .val (.ref b32), .val (.ref b58), .val (.ref b8), .val (.int (1 : Int32)), .val (.ref b32), .val .null, .val (.ref b32), .val (.int (1 : Int32))] []))
    refine GoW.step (fun _ k => XS.iload X145.here hx rfl (hb hby at_252) rfl  k) ?_
    show GoW _ _ _ _ _ _ _ (T145.setTop (mkF m 254 #[.val (.int qs), .val (.int qp), .val (.int (2 : Int32)), .val (.int (0 : Int32)), .val (.ref b1), .val (.ref b8), .val (.ref b32), .val (.ref b58), .val (.ref b8), .val (.int (1 : Int32)), .val (.ref b32), .val .null, .val (.ref b32), .val (.int (1 : Int32))] [(.int (1 : Int32))]))
    have hc254 : ¬ ((1 : Int32) = (0 : Int32)) := hc227
    refine GoW.step (fun _ k => XS.ifNo X145.here hx rfl (hb hby at_254) rfl ((if0 _ _).trans (feq hc254).1) k) ?_
    show GoW _ _ _ _ _ _ _ (T145.setTop (mkF m 257 #[.val (.int qs), .val (.int qp), .val (.int (2 : Int32)), .val (.int (0 : Int32)), .val (.ref b1), .val (.ref b8), .val (.ref b32), .val (.ref b58), .val (.ref b8), .val (.int (1 : Int32)), .val (.ref b32), .val .null, .val (.ref b32), .val (.int (1 : Int32))] []))
    refine GoW.step (fun _ k => XS.aload X145.here hx rfl (hb hby at_257) rfl rfl  k) ?_
    show GoW _ _ _ _ _ _ _ (T145.setTop (mkF m 259 #[.val (.int qs), .val (.int qp), .val (.int (2 : Int32)), .val (.int (0 : Int32)), .val (.ref b1), .val (.ref b8), .val (.ref b32), .val (.ref b58), .val (.ref b8), .val (.int (1 : Int32)), .val (.ref b32), .val .null, .val (.ref b32), .val (.int (1 : Int32))] [(.ref b32)]))
    obtain ⟨T146, X146, e146, st146⟩ := getF X145 hx hZ hown (host := "") (Or.inl (hw _ (List.mem_of_getElem? (i := 70) rfl))) Via.refl e145 c137_6 (g := (mkF m 259 #[.val (.int qs), .val (.int qp), .val (.int (2 : Int32)), .val (.int (0 : Int32)), .val (.ref b1), .val (.ref b8), .val (.ref b32), .val (.ref b58), .val (.ref b8), .val (.int (1 : Int32)), .val (.ref b32), .val .null, .val (.ref b32), .val (.int (1 : Int32))] [(.ref b32)])) rfl rfl (hb hby at_259)
    refine GoW.step st146 ?_
    show GoW _ _ _ _ _ _ _ (T146.setTop (mkF m 262 #[.val (.int qs), .val (.int qp), .val (.int (2 : Int32)), .val (.int (0 : Int32)), .val (.ref b1), .val (.ref b8), .val (.ref b32), .val (.ref b58), .val (.ref b8), .val (.int (1 : Int32)), .val (.ref b32), .val .null, .val (.ref b32), .val (.int (1 : Int32))] [.null]))
    refine GoW.step (fun _ k => XS.ifnonnullNo X146.here hx rfl (hb hby at_262) rfl k) ?_
    show GoW _ _ _ _ _ _ _ (T146.setTop (mkF m 265 #[.val (.int qs), .val (.int qp), .val (.int (2 : Int32)), .val (.int (0 : Int32)), .val (.ref b1), .val (.ref b8), .val (.ref b32), .val (.ref b58), .val (.ref b8), .val (.int (1 : Int32)), .val (.ref b32), .val .null, .val (.ref b32), .val (.int (1 : Int32))] []))
    refine GoW.step (fun _ k => XS.aload X146.here hx rfl (hb hby at_265) rfl rfl  k) ?_
    show GoW _ _ _ _ _ _ _ (T146.setTop (mkF m 267 #[.val (.int qs), .val (.int qp), .val (.int (2 : Int32)), .val (.int (0 : Int32)), .val (.ref b1), .val (.ref b8), .val (.ref b32), .val (.ref b58), .val (.ref b8), .val (.int (1 : Int32)), .val (.ref b32), .val .null, .val (.ref b32), .val (.int (1 : Int32))] [(.ref b32)]))
    obtain ⟨T147, X147, e147, st147⟩ := getF X146 hx hZ hown (host := "") (Or.inl (hw _ (List.mem_of_getElem? (i := 71) rfl))) Via.refl e146 c137_8 (g := (mkF m 267 #[.val (.int qs), .val (.int qp), .val (.int (2 : Int32)), .val (.int (0 : Int32)), .val (.ref b1), .val (.ref b8), .val (.ref b32), .val (.ref b58), .val (.ref b8), .val (.int (1 : Int32)), .val (.ref b32), .val .null, .val (.ref b32), .val (.int (1 : Int32))] [(.ref b32)])) rfl rfl (hb hby at_267)
    refine GoW.step st147 ?_
    show GoW _ _ _ _ _ _ _ (T147.setTop (mkF m 270 #[.val (.int qs), .val (.int qp), .val (.int (2 : Int32)), .val (.int (0 : Int32)), .val (.ref b1), .val (.ref b8), .val (.ref b32), .val (.ref b58), .val (.ref b8), .val (.int (1 : Int32)), .val (.ref b32), .val .null, .val (.ref b32), .val (.int (1 : Int32))] [.null]))
    refine GoW.step (fun _ k => XS.aload X147.here hx rfl (hb hby at_270) rfl rfl  k) ?_
    show GoW _ _ _ _ _ _ _ (T147.setTop (mkF m 272 #[.val (.int qs), .val (.int qp), .val (.int (2 : Int32)), .val (.int (0 : Int32)), .val (.ref b1), .val (.ref b8), .val (.ref b32), .val (.ref b58), .val (.ref b8), .val (.int (1 : Int32)), .val (.ref b32), .val .null, .val (.ref b32), .val (.int (1 : Int32))] [.null, .null]))
    refine GoW.step (fun _ k => Jvm.RoadKit.acmp (g := (mkF m 272 #[.val (.int qs), .val (.int qp), .val (.int (2 : Int32)), .val (.int (0 : Int32)), .val (.ref b1), .val (.ref b8), .val (.ref b32), .val (.ref b58), .val (.ref b8), .val (.int (1 : Int32)), .val (.ref b32), .val .null, .val (.ref b32), .val (.int (1 : Int32))] [.null, .null])) X147 hx rfl rfl rfl (pc0 := 272) (pc' := 275) (same := true) rfl (hb hby at_272) rfl (decide_eq_true rfl) (by decide) (by decide) k) ?_
    show GoW _ _ _ _ _ _ _ (T147.setTop (mkF m 275 #[.val (.int qs), .val (.int qp), .val (.int (2 : Int32)), .val (.int (0 : Int32)), .val (.ref b1), .val (.ref b8), .val (.ref b32), .val (.ref b58), .val (.ref b8), .val (.int (1 : Int32)), .val (.ref b32), .val .null, .val (.ref b32), .val (.int (1 : Int32))] []))
    refine GoW.step (fun _ k => XS.aload X147.here hx rfl (hb hby at_275) rfl rfl  k) ?_
    show GoW _ _ _ _ _ _ _ (T147.setTop (mkF m 277 #[.val (.int qs), .val (.int qp), .val (.int (2 : Int32)), .val (.int (0 : Int32)), .val (.ref b1), .val (.ref b8), .val (.ref b32), .val (.ref b58), .val (.ref b8), .val (.int (1 : Int32)), .val (.ref b32), .val .null, .val (.ref b32), .val (.int (1 : Int32))] [(.ref b32)]))
    obtain ⟨T148, X148, e148, st148⟩ := getF X147 hx hZ hown (host := "") (Or.inl (hw _ (List.mem_of_getElem? (i := 69) rfl))) Via.refl e147 c137_7 (g := (mkF m 277 #[.val (.int qs), .val (.int qp), .val (.int (2 : Int32)), .val (.int (0 : Int32)), .val (.ref b1), .val (.ref b8), .val (.ref b32), .val (.ref b58), .val (.ref b8), .val (.int (1 : Int32)), .val (.ref b32), .val .null, .val (.ref b32), .val (.int (1 : Int32))] [(.ref b32)])) rfl rfl (hb hby at_277)
    refine GoW.step st148 ?_
    show GoW _ _ _ _ _ _ _ (T148.setTop (mkF m 280 #[.val (.int qs), .val (.int qp), .val (.int (2 : Int32)), .val (.int (0 : Int32)), .val (.ref b1), .val (.ref b8), .val (.ref b32), .val (.ref b58), .val (.ref b8), .val (.int (1 : Int32)), .val (.ref b32), .val .null, .val (.ref b32), .val (.int (1 : Int32))] [(.ref b1)]))
    refine GoW.step (fun _ k => XS.aload X148.here hx rfl (hb hby at_280) rfl rfl  k) ?_
    show GoW _ _ _ _ _ _ _ (T148.setTop (mkF m 282 #[.val (.int qs), .val (.int qp), .val (.int (2 : Int32)), .val (.int (0 : Int32)), .val (.ref b1), .val (.ref b8), .val (.ref b32), .val (.ref b58), .val (.ref b8), .val (.int (1 : Int32)), .val (.ref b32), .val .null, .val (.ref b32), .val (.int (1 : Int32))] [(.ref b1), (.ref b1)]))
    refine GoW.step (fun _ k => Jvm.RoadKit.acmp (g := (mkF m 282 #[.val (.int qs), .val (.int qp), .val (.int (2 : Int32)), .val (.int (0 : Int32)), .val (.ref b1), .val (.ref b8), .val (.ref b32), .val (.ref b58), .val (.ref b8), .val (.int (1 : Int32)), .val (.ref b32), .val .null, .val (.ref b32), .val (.int (1 : Int32))] [(.ref b1), (.ref b1)])) X148 hx rfl rfl rfl (pc0 := 282) (pc' := 285) (same := true) rfl (hb hby at_282) rfl (decide_eq_true rfl) (by decide) (by decide) k) ?_
    show GoW _ _ _ _ _ _ _ (T148.setTop (mkF m 285 #[.val (.int qs), .val (.int qp), .val (.int (2 : Int32)), .val (.int (0 : Int32)), .val (.ref b1), .val (.ref b8), .val (.ref b32), .val (.ref b58), .val (.ref b8), .val (.int (1 : Int32)), .val (.ref b32), .val .null, .val (.ref b32), .val (.int (1 : Int32))] []))
    refine GoW.step (fun _ k => XS.iconst X148.here hx rfl (hb hby at_285) k) ?_
    show GoW _ _ _ _ _ _ _ (T148.setTop (mkF m 286 #[.val (.int qs), .val (.int qp), .val (.int (2 : Int32)), .val (.int (0 : Int32)), .val (.ref b1), .val (.ref b8), .val (.ref b32), .val (.ref b58), .val (.ref b8), .val (.int (1 : Int32)), .val (.ref b32), .val .null, .val (.ref b32), .val (.int (1 : Int32))] [(.int (1 : Int32))]))
    refine GoW.step (fun _ k => XS.goto X148.here hx rfl (pc0 := 286) (pc' := 290) rfl (hb hby at_286) (by decide) (by decide) k) ?_
    show GoW _ _ _ _ _ _ _ (T148.setTop (mkF m 290 #[.val (.int qs), .val (.int qp), .val (.int (2 : Int32)), .val (.int (0 : Int32)), .val (.ref b1), .val (.ref b8), .val (.ref b32), .val (.ref b58), .val (.ref b8), .val (.int (1 : Int32)), .val (.ref b32), .val .null, .val (.ref b32), .val (.int (1 : Int32))] [(.int (1 : Int32))]))
    refine GoW.step (fun _ k => XS.istore X148.here hx rfl (hb hby at_290) rfl (l' := #[.val (.int qs), .val (.int qp), .val (.int (2 : Int32)), .val (.int (0 : Int32)), .val (.ref b1), .val (.ref b8), .val (.ref b32), .val (.ref b58), .val (.ref b8), .val (.int (1 : Int32)), .val (.ref b32), .val .null, .val (.ref b32), .val (.int (1 : Int32))]) rfl k) ?_
    show GoW _ _ _ _ _ _ _ (T148.setTop (mkF m 292 #[.val (.int qs), .val (.int qp), .val (.int (2 : Int32)), .val (.int (0 : Int32)), .val (.ref b1), .val (.ref b8), .val (.ref b32), .val (.ref b58), .val (.ref b8), .val (.int (1 : Int32)), .val (.ref b32), .val .null, .val (.ref b32), .val (.int (1 : Int32))] []))
    refine GoW.step (fun _ k => XS.aload X148.here hx rfl (hb hby at_292) rfl rfl  k) ?_
    show GoW _ _ _ _ _ _ _ (T148.setTop (mkF m 294 #[.val (.int qs), .val (.int qp), .val (.int (2 : Int32)), .val (.int (0 : Int32)), .val (.ref b1), .val (.ref b8), .val (.ref b32), .val (.ref b58), .val (.ref b8), .val (.int (1 : Int32)), .val (.ref b32), .val .null, .val (.ref b32), .val (.int (1 : Int32))] [.null]))
    refine GoW.step (fun _ k => XS.ifnullYes X148.here hx rfl (pc0 := 294) (pc' := 337) rfl (hb hby at_294) rfl (by decide) (by decide) k) ?_
    show GoW _ _ _ _ _ _ _ (T148.setTop (mkF m 337 #[.val (.int qs), .val (.int qp), .val (.int (2 : Int32)), .val (.int (0 : Int32)), .val (.ref b1), .val (.ref b8), .val (.ref b32), .val (.ref b58), .val (.ref b8), .val (.int (1 : Int32)), .val (.ref b32), .val .null, .val (.ref b32), .val (.int (1 : Int32))] []))
    refine GoW.step (fun _ k => XS.iloadN X148.here hx rfl (hb hby at_337) rfl  k) ?_
    show GoW _ _ _ _ _ _ _ (T148.setTop (mkF m 338 #[.val (.int qs), .val (.int qp), .val (.int (2 : Int32)), .val (.int (0 : Int32)), .val (.ref b1), .val (.ref b8), .val (.ref b32), .val (.ref b58), .val (.ref b8), .val (.int (1 : Int32)), .val (.ref b32), .val .null, .val (.ref b32), .val (.int (1 : Int32))] [(.int (2 : Int32))]))
    refine GoW.step (fun _ k => XS.iconst X148.here hx rfl (hb hby at_338) k) ?_
    show GoW _ _ _ _ _ _ _ (T148.setTop (mkF m 339 #[.val (.int qs), .val (.int qp), .val (.int (2 : Int32)), .val (.int (0 : Int32)), .val (.ref b1), .val (.ref b8), .val (.ref b32), .val (.ref b58), .val (.ref b8), .val (.int (1 : Int32)), .val (.ref b32), .val .null, .val (.ref b32), .val (.int (1 : Int32))] [(.int (3 : Int32)), (.int (2 : Int32))]))
    have hc339 : (2 : Int32) < (3 : Int32) := hc78
    refine GoW.step (fun _ k => XS.icmpNo X148.here hx rfl (hb hby at_339) rfl (tlt hc339).2.1 k) ?_
    show GoW _ _ _ _ _ _ _ (T148.setTop (mkF m 342 #[.val (.int qs), .val (.int qp), .val (.int (2 : Int32)), .val (.int (0 : Int32)), .val (.ref b1), .val (.ref b8), .val (.ref b32), .val (.ref b58), .val (.ref b8), .val (.int (1 : Int32)), .val (.ref b32), .val .null, .val (.ref b32), .val (.int (1 : Int32))] []))
    refine GoW.step (fun _ k => XS.iload X148.here hx rfl (hb hby at_342) rfl  k) ?_
    show GoW _ _ _ _ _ _ _ (T148.setTop (mkF m 344 #[.val (.int qs), .val (.int qp), .val (.int (2 : Int32)), .val (.int (0 : Int32)), .val (.ref b1), .val (.ref b8), .val (.ref b32), .val (.ref b58), .val (.ref b8), .val (.int (1 : Int32)), .val (.ref b32), .val .null, .val (.ref b32), .val (.int (1 : Int32))] [(.int (1 : Int32))]))
    have hc344 : ¬ ((1 : Int32) = (0 : Int32)) := hc254
    refine GoW.step (fun _ k => XS.ifNo X148.here hx rfl (hb hby at_344) rfl ((if0 _ _).trans (feq hc344).1) k) ?_
    show GoW _ _ _ _ _ _ _ (T148.setTop (mkF m 347 #[.val (.int qs), .val (.int qp), .val (.int (2 : Int32)), .val (.int (0 : Int32)), .val (.ref b1), .val (.ref b8), .val (.ref b32), .val (.ref b58), .val (.ref b8), .val (.int (1 : Int32)), .val (.ref b32), .val .null, .val (.ref b32), .val (.int (1 : Int32))] []))
    refine GoW.step (fun _ k => XS.aload X148.here hx rfl (hb hby at_347) rfl rfl  k) ?_
    show GoW _ _ _ _ _ _ _ (T148.setTop (mkF m 349 #[.val (.int qs), .val (.int qp), .val (.int (2 : Int32)), .val (.int (0 : Int32)), .val (.ref b1), .val (.ref b8), .val (.ref b32), .val (.ref b58), .val (.ref b8), .val (.int (1 : Int32)), .val (.ref b32), .val .null, .val (.ref b32), .val (.int (1 : Int32))] [(.ref b58)]))
    have f149 : Fld Z T137.heap b58 "com/example/steward/steward/runtime/Agent" "group" "Lcom/example/steward/steward/runtime/Group;" .null := (((c82_1.keep K125 (ninS (Ne.symm ne60) (ninS (Ne.symm ne62) nin0))).keep K133 (ninS (Ne.symm ne60) (ninS (Ne.symm ne63) (ninS (Ne.symm ne62) nin0)))).keep K137 (ninS (Ne.symm ne60) (ninS (Ne.symm ne62) (ninS (Ne.symm ne63) nin0))))
    obtain ⟨T150, X150, e150, st150⟩ := getF X148 hx hZ hown (host := "") (Or.inl (hw _ (List.mem_of_getElem? (i := 69) rfl))) Via.refl e148 f149 (g := (mkF m 349 #[.val (.int qs), .val (.int qp), .val (.int (2 : Int32)), .val (.int (0 : Int32)), .val (.ref b1), .val (.ref b8), .val (.ref b32), .val (.ref b58), .val (.ref b8), .val (.int (1 : Int32)), .val (.ref b32), .val .null, .val (.ref b32), .val (.int (1 : Int32))] [(.ref b58)])) rfl rfl (hb hby at_349)
    refine GoW.step st150 ?_
    show GoW _ _ _ _ _ _ _ (T150.setTop (mkF m 352 #[.val (.int qs), .val (.int qp), .val (.int (2 : Int32)), .val (.int (0 : Int32)), .val (.ref b1), .val (.ref b8), .val (.ref b32), .val (.ref b58), .val (.ref b8), .val (.int (1 : Int32)), .val (.ref b32), .val .null, .val (.ref b32), .val (.int (1 : Int32))] [.null]))
    refine GoW.step (fun _ k => XS.ifnonnullNo X150.here hx rfl (hb hby at_352) rfl k) ?_
    show GoW _ _ _ _ _ _ _ (T150.setTop (mkF m 355 #[.val (.int qs), .val (.int qp), .val (.int (2 : Int32)), .val (.int (0 : Int32)), .val (.ref b1), .val (.ref b8), .val (.ref b32), .val (.ref b58), .val (.ref b8), .val (.int (1 : Int32)), .val (.ref b32), .val .null, .val (.ref b32), .val (.int (1 : Int32))] []))
    refine GoW.step (fun _ k => XS.aload X150.here hx rfl (hb hby at_355) rfl rfl  k) ?_
    show GoW _ _ _ _ _ _ _ (T150.setTop (mkF m 357 #[.val (.int qs), .val (.int qp), .val (.int (2 : Int32)), .val (.int (0 : Int32)), .val (.ref b1), .val (.ref b8), .val (.ref b32), .val (.ref b58), .val (.ref b8), .val (.int (1 : Int32)), .val (.ref b32), .val .null, .val (.ref b32), .val (.int (1 : Int32))] [(.ref b58)]))
    have f151 : Fld Z T137.heap b58 "com/example/steward/steward/runtime/Agent" "ahead" "Lcom/example/steward/steward/runtime/Agent;" .null := (((c82_2.keep K125 (ninS (Ne.symm ne60) (ninS (Ne.symm ne62) nin0))).keep K133 (ninS (Ne.symm ne60) (ninS (Ne.symm ne63) (ninS (Ne.symm ne62) nin0)))).keep K137 (ninS (Ne.symm ne60) (ninS (Ne.symm ne62) (ninS (Ne.symm ne63) nin0))))
    obtain ⟨T152, X152, e152, st152⟩ := getF X150 hx hZ hown (host := "") (Or.inl (hw _ (List.mem_of_getElem? (i := 70) rfl))) Via.refl e150 f151 (g := (mkF m 357 #[.val (.int qs), .val (.int qp), .val (.int (2 : Int32)), .val (.int (0 : Int32)), .val (.ref b1), .val (.ref b8), .val (.ref b32), .val (.ref b58), .val (.ref b8), .val (.int (1 : Int32)), .val (.ref b32), .val .null, .val (.ref b32), .val (.int (1 : Int32))] [(.ref b58)])) rfl rfl (hb hby at_357)
    refine GoW.step st152 ?_
    show GoW _ _ _ _ _ _ _ (T152.setTop (mkF m 360 #[.val (.int qs), .val (.int qp), .val (.int (2 : Int32)), .val (.int (0 : Int32)), .val (.ref b1), .val (.ref b8), .val (.ref b32), .val (.ref b58), .val (.ref b8), .val (.int (1 : Int32)), .val (.ref b32), .val .null, .val (.ref b32), .val (.int (1 : Int32))] [.null]))
    refine GoW.step (fun _ k => XS.ifnonnullNo X152.here hx rfl (hb hby at_360) rfl k) ?_
    show GoW _ _ _ _ _ _ _ (T152.setTop (mkF m 363 #[.val (.int qs), .val (.int qp), .val (.int (2 : Int32)), .val (.int (0 : Int32)), .val (.ref b1), .val (.ref b8), .val (.ref b32), .val (.ref b58), .val (.ref b8), .val (.int (1 : Int32)), .val (.ref b32), .val .null, .val (.ref b32), .val (.int (1 : Int32))] []))
    refine GoW.step (fun _ k => XS.aload X152.here hx rfl (hb hby at_363) rfl rfl  k) ?_
    show GoW _ _ _ _ _ _ _ (T152.setTop (mkF m 365 #[.val (.int qs), .val (.int qp), .val (.int (2 : Int32)), .val (.int (0 : Int32)), .val (.ref b1), .val (.ref b8), .val (.ref b32), .val (.ref b58), .val (.ref b8), .val (.int (1 : Int32)), .val (.ref b32), .val .null, .val (.ref b32), .val (.int (1 : Int32))] [(.ref b58)]))
    have f153 : Fld Z T137.heap b58 "com/example/steward/steward/runtime/Agent" "behind" "Lcom/example/steward/steward/runtime/Agent;" .null := (((c82_3.keep K125 (ninS (Ne.symm ne60) (ninS (Ne.symm ne62) nin0))).keep K133 (ninS (Ne.symm ne60) (ninS (Ne.symm ne63) (ninS (Ne.symm ne62) nin0)))).keep K137 (ninS (Ne.symm ne60) (ninS (Ne.symm ne62) (ninS (Ne.symm ne63) nin0))))
    obtain ⟨T154, X154, e154, st154⟩ := getF X152 hx hZ hown (host := "") (Or.inl (hw _ (List.mem_of_getElem? (i := 71) rfl))) Via.refl e152 f153 (g := (mkF m 365 #[.val (.int qs), .val (.int qp), .val (.int (2 : Int32)), .val (.int (0 : Int32)), .val (.ref b1), .val (.ref b8), .val (.ref b32), .val (.ref b58), .val (.ref b8), .val (.int (1 : Int32)), .val (.ref b32), .val .null, .val (.ref b32), .val (.int (1 : Int32))] [(.ref b58)])) rfl rfl (hb hby at_365)
    refine GoW.step st154 ?_
    show GoW _ _ _ _ _ _ _ (T154.setTop (mkF m 368 #[.val (.int qs), .val (.int qp), .val (.int (2 : Int32)), .val (.int (0 : Int32)), .val (.ref b1), .val (.ref b8), .val (.ref b32), .val (.ref b58), .val (.ref b8), .val (.int (1 : Int32)), .val (.ref b32), .val .null, .val (.ref b32), .val (.int (1 : Int32))] [.null]))
    refine GoW.step (fun _ k => XS.ifnonnullNo X154.here hx rfl (hb hby at_368) rfl k) ?_
    show GoW _ _ _ _ _ _ _ (T154.setTop (mkF m 371 #[.val (.int qs), .val (.int qp), .val (.int (2 : Int32)), .val (.int (0 : Int32)), .val (.ref b1), .val (.ref b8), .val (.ref b32), .val (.ref b58), .val (.ref b8), .val (.int (1 : Int32)), .val (.ref b32), .val .null, .val (.ref b32), .val (.int (1 : Int32))] []))
    refine GoW.step (fun _ k => XS.iconst X154.here hx rfl (hb hby at_371) k) ?_
    show GoW _ _ _ _ _ _ _ (T154.setTop (mkF m 372 #[.val (.int qs), .val (.int qp), .val (.int (2 : Int32)), .val (.int (0 : Int32)), .val (.ref b1), .val (.ref b8), .val (.ref b32), .val (.ref b58), .val (.ref b8), .val (.int (1 : Int32)), .val (.ref b32), .val .null, .val (.ref b32), .val (.int (1 : Int32))] [(.int (1 : Int32))]))
    refine GoW.step (fun _ k => XS.goto X154.here hx rfl (pc0 := 372) (pc' := 376) rfl (hb hby at_372) (by decide) (by decide) k) ?_
    show GoW _ _ _ _ _ _ _ (T154.setTop (mkF m 376 #[.val (.int qs), .val (.int qp), .val (.int (2 : Int32)), .val (.int (0 : Int32)), .val (.ref b1), .val (.ref b8), .val (.ref b32), .val (.ref b58), .val (.ref b8), .val (.int (1 : Int32)), .val (.ref b32), .val .null, .val (.ref b32), .val (.int (1 : Int32))] [(.int (1 : Int32))]))
    refine GoW.step (fun _ k => XS.istore X154.here hx rfl (hb hby at_376) rfl (l' := #[.val (.int qs), .val (.int qp), .val (.int (2 : Int32)), .val (.int (0 : Int32)), .val (.ref b1), .val (.ref b8), .val (.ref b32), .val (.ref b58), .val (.ref b8), .val (.int (1 : Int32)), .val (.ref b32), .val .null, .val (.ref b32), .val (.int (1 : Int32))]) rfl k) ?_
    show GoW _ _ _ _ _ _ _ (T154.setTop (mkF m 378 #[.val (.int qs), .val (.int qp), .val (.int (2 : Int32)), .val (.int (0 : Int32)), .val (.ref b1), .val (.ref b8), .val (.ref b32), .val (.ref b58), .val (.ref b8), .val (.int (1 : Int32)), .val (.ref b32), .val .null, .val (.ref b32), .val (.int (1 : Int32))] []))
    refine GoW.step (fun _ k => XS.aload X154.here hx rfl (hb hby at_378) rfl rfl  k) ?_
    show GoW _ _ _ _ _ _ _ (T154.setTop (mkF m 380 #[.val (.int qs), .val (.int qp), .val (.int (2 : Int32)), .val (.int (0 : Int32)), .val (.ref b1), .val (.ref b8), .val (.ref b32), .val (.ref b58), .val (.ref b8), .val (.int (1 : Int32)), .val (.ref b32), .val .null, .val (.ref b32), .val (.int (1 : Int32))] [(.ref b1)]))
    refine GoW.step (fun _ k => XS.aload X154.here hx rfl (hb hby at_380) rfl rfl  k) ?_
    show GoW _ _ _ _ _ _ _ (T154.setTop (mkF m 382 #[.val (.int qs), .val (.int qp), .val (.int (2 : Int32)), .val (.int (0 : Int32)), .val (.ref b1), .val (.ref b8), .val (.ref b32), .val (.ref b58), .val (.ref b8), .val (.int (1 : Int32)), .val (.ref b32), .val .null, .val (.ref b32), .val (.int (1 : Int32))] [(.ref b8), (.ref b1)]))
    obtain ⟨cq155, kq155, q155a, q155b, q155c⟩ := isOf hZ e154 c137_0
    obtain ⟨_, _, ⟨T155, L155, k155, n155⟩, -, X155, ⟨Lc155, hQ155, l155, y155, z155⟩, st155⟩ := X154.virtualBack hx (y := (⟨"com/example/steward/steward/runtime/Group", "add", "(Lcom/example/steward/steward/runtime/Agent;)V"⟩ : MethodName)) (z := (⟨"com/example/steward/steward/runtime/Group", "add", "(Lcom/example/steward/steward/runtime/Agent;)V"⟩ : MethodName)) hown (mvT hZ (hw _ (List.mem_of_getElem? (i := 49) rfl))) (mvT hZ (hw _ (List.mem_of_getElem? (i := 50) rfl))) (notFace_of_selects (args := #[]) (mvT hZ (hw _ (List.mem_of_getElem? (i := 52) rfl)))) (mvT hZ (hw _ (List.mem_of_getElem? (i := 52) rfl))) (mvT hZ (hw _ (List.mem_of_getElem? (i := 51) rfl))) (by decide) (backOf (W := 0) (rmadd1 l Z aZ hw [] b1 b8 Value.null Value.null Value.null (Value.ref b32) b32 Value.null (Value.ref b1) Value.null T137.heap n0 z138 c137_0 c137_1 c137_2 c137_3 c137_4 c137_9 c137_10 c137_5 c137_8 c137_7 c137_6 ne35 gn1 gn8 gn32) hZ (hw _ (List.mem_of_getElem? (i := 53) rfl)) (hw _ (List.mem_of_getElem? (i := 3) rfl)) (by decide) (by decide)) q155a q155c (g := (mkF m 382 #[.val (.int qs), .val (.int qp), .val (.int (2 : Int32)), .val (.int (0 : Int32)), .val (.ref b1), .val (.ref b8), .val (.ref b32), .val (.ref b58), .val (.ref b8), .val (.int (1 : Int32)), .val (.ref b32), .val .null, .val (.ref b32), .val (.int (1 : Int32))] [(.ref b8), (.ref b1)])) rfl (by rw [hml]; rfl) (Steps.refl _) (argsL := [(.ref b8)]) (rest := []) (lenOf pd_3 rfl) rfl (by show 2 * 0 + _ ≤ _; exact Nat.le_of_eq rfl) (hb hby at_382) (fun _ _ => ⟨rfl, e154, (by decide : 16 + 0 ≤ _), (by decide : 74 + 0 ≤ _)⟩)
    dsimp only [Pt.U, Pt.locs, Pt.cells, Pt.slots] at X155 l155 y155 z155 st155 hQ155
    subst l155 y155 z155
    obtain ⟨rfl, Nq155, K155, c155_0, c155_1, c155_2, c155_3, c155_4, c155_5, c155_6, c155_7, c155_8, c155_9, c155_10⟩ := hQ155
    have N155 := Fr.app N145 Nq155
    refine GoW.tr st155 ?_
    have z156 : n0 ≤ T155.heap.size := Nat.le_trans z138 K155.1
    have sqz156 : h0.size ≤ T155.heap.size := Nat.le_trans sqz138 K155.1
    have hk158 := Nat.le_trans hk140 K155.1
    show GoW _ _ _ _ _ _ _ (T155.setTop (mkF m 385 #[.val (.int qs), .val (.int qp), .val (.int (2 : Int32)), .val (.int (0 : Int32)), .val (.ref b1), .val (.ref b8), .val (.ref b32), .val (.ref b58), .val (.ref b8), .val (.int (1 : Int32)), .val (.ref b32), .val .null, .val (.ref b32), .val (.int (1 : Int32))] []))
    refine GoW.step (fun _ k => XS.iload X155.here hx rfl (hb hby at_385) rfl  k) ?_
    show GoW _ _ _ _ _ _ _ (T155.setTop (mkF m 387 #[.val (.int qs), .val (.int qp), .val (.int (2 : Int32)), .val (.int (0 : Int32)), .val (.ref b1), .val (.ref b8), .val (.ref b32), .val (.ref b58), .val (.ref b8), .val (.int (1 : Int32)), .val (.ref b32), .val .null, .val (.ref b32), .val (.int (1 : Int32))] [(.int (1 : Int32))]))
    have hc387 : ¬ ((1 : Int32) = (0 : Int32)) := hc344
    refine GoW.step (fun _ k => XS.ifNo X155.here hx rfl (hb hby at_387) rfl ((if0 _ _).trans (feq hc387).1) k) ?_
    show GoW _ _ _ _ _ _ _ (T155.setTop (mkF m 390 #[.val (.int qs), .val (.int qp), .val (.int (2 : Int32)), .val (.int (0 : Int32)), .val (.ref b1), .val (.ref b8), .val (.ref b32), .val (.ref b58), .val (.ref b8), .val (.int (1 : Int32)), .val (.ref b32), .val .null, .val (.ref b32), .val (.int (1 : Int32))] []))
    refine GoW.step (fun _ k => XS.aload X155.here hx rfl (hb hby at_390) rfl rfl  k) ?_
    show GoW _ _ _ _ _ _ _ (T155.setTop (mkF m 392 #[.val (.int qs), .val (.int qp), .val (.int (2 : Int32)), .val (.int (0 : Int32)), .val (.ref b1), .val (.ref b8), .val (.ref b32), .val (.ref b58), .val (.ref b8), .val (.int (1 : Int32)), .val (.ref b32), .val .null, .val (.ref b32), .val (.int (1 : Int32))] [(.ref b8)]))
    obtain ⟨T159, X159, e159, st159⟩ := getF X155 hx hZ hown (host := "") (Or.inl (hw _ (List.mem_of_getElem? (i := 70) rfl))) Via.refl rfl c155_4 (g := (mkF m 392 #[.val (.int qs), .val (.int qp), .val (.int (2 : Int32)), .val (.int (0 : Int32)), .val (.ref b1), .val (.ref b8), .val (.ref b32), .val (.ref b58), .val (.ref b8), .val (.int (1 : Int32)), .val (.ref b32), .val .null, .val (.ref b32), .val (.int (1 : Int32))] [(.ref b8)])) rfl rfl (hb hby at_392)
    refine GoW.step st159 ?_
    show GoW _ _ _ _ _ _ _ (T159.setTop (mkF m 395 #[.val (.int qs), .val (.int qp), .val (.int (2 : Int32)), .val (.int (0 : Int32)), .val (.ref b1), .val (.ref b8), .val (.ref b32), .val (.ref b58), .val (.ref b8), .val (.int (1 : Int32)), .val (.ref b32), .val .null, .val (.ref b32), .val (.int (1 : Int32))] [(.ref b32)]))
    refine GoW.step (fun _ k => XS.aload X159.here hx rfl (hb hby at_395) rfl rfl  k) ?_
    show GoW _ _ _ _ _ _ _ (T159.setTop (mkF m 397 #[.val (.int qs), .val (.int qp), .val (.int (2 : Int32)), .val (.int (0 : Int32)), .val (.ref b1), .val (.ref b8), .val (.ref b32), .val (.ref b58), .val (.ref b8), .val (.int (1 : Int32)), .val (.ref b32), .val .null, .val (.ref b32), .val (.int (1 : Int32))] [(.ref b32), (.ref b32)]))
    refine GoW.step (fun _ k => Jvm.RoadKit.acmp (g := (mkF m 397 #[.val (.int qs), .val (.int qp), .val (.int (2 : Int32)), .val (.int (0 : Int32)), .val (.ref b1), .val (.ref b8), .val (.ref b32), .val (.ref b58), .val (.ref b8), .val (.int (1 : Int32)), .val (.ref b32), .val .null, .val (.ref b32), .val (.int (1 : Int32))] [(.ref b32), (.ref b32)])) X159 hx rfl rfl rfl (pc0 := 397) (pc' := 400) (same := true) rfl (hb hby at_397) rfl (decide_eq_true rfl) (by decide) (by decide) k) ?_
    show GoW _ _ _ _ _ _ _ (T159.setTop (mkF m 400 #[.val (.int qs), .val (.int qp), .val (.int (2 : Int32)), .val (.int (0 : Int32)), .val (.ref b1), .val (.ref b8), .val (.ref b32), .val (.ref b58), .val (.ref b8), .val (.int (1 : Int32)), .val (.ref b32), .val .null, .val (.ref b32), .val (.int (1 : Int32))] []))
    refine GoW.step (fun _ k => XS.aload X159.here hx rfl (hb hby at_400) rfl rfl  k) ?_
    show GoW _ _ _ _ _ _ _ (T159.setTop (mkF m 402 #[.val (.int qs), .val (.int qp), .val (.int (2 : Int32)), .val (.int (0 : Int32)), .val (.ref b1), .val (.ref b8), .val (.ref b32), .val (.ref b58), .val (.ref b8), .val (.int (1 : Int32)), .val (.ref b32), .val .null, .val (.ref b32), .val (.int (1 : Int32))] [(.ref b8)]))
    obtain ⟨T160, X160, e160, st160⟩ := getF X159 hx hZ hown (host := "") (Or.inl (hw _ (List.mem_of_getElem? (i := 71) rfl))) Via.refl e159 c155_5 (g := (mkF m 402 #[.val (.int qs), .val (.int qp), .val (.int (2 : Int32)), .val (.int (0 : Int32)), .val (.ref b1), .val (.ref b8), .val (.ref b32), .val (.ref b58), .val (.ref b8), .val (.int (1 : Int32)), .val (.ref b32), .val .null, .val (.ref b32), .val (.int (1 : Int32))] [(.ref b8)])) rfl rfl (hb hby at_402)
    refine GoW.step st160 ?_
    show GoW _ _ _ _ _ _ _ (T160.setTop (mkF m 405 #[.val (.int qs), .val (.int qp), .val (.int (2 : Int32)), .val (.int (0 : Int32)), .val (.ref b1), .val (.ref b8), .val (.ref b32), .val (.ref b58), .val (.ref b8), .val (.int (1 : Int32)), .val (.ref b32), .val .null, .val (.ref b32), .val (.int (1 : Int32))] [.null]))
    refine GoW.step (fun _ k => XS.ifnonnullNo X160.here hx rfl (hb hby at_405) rfl k) ?_
    show GoW _ _ _ _ _ _ _ (T160.setTop (mkF m 408 #[.val (.int qs), .val (.int qp), .val (.int (2 : Int32)), .val (.int (0 : Int32)), .val (.ref b1), .val (.ref b8), .val (.ref b32), .val (.ref b58), .val (.ref b8), .val (.int (1 : Int32)), .val (.ref b32), .val .null, .val (.ref b32), .val (.int (1 : Int32))] []))
    refine GoW.step (fun _ k => XS.iconst X160.here hx rfl (hb hby at_408) k) ?_
    show GoW _ _ _ _ _ _ _ (T160.setTop (mkF m 409 #[.val (.int qs), .val (.int qp), .val (.int (2 : Int32)), .val (.int (0 : Int32)), .val (.ref b1), .val (.ref b8), .val (.ref b32), .val (.ref b58), .val (.ref b8), .val (.int (1 : Int32)), .val (.ref b32), .val .null, .val (.ref b32), .val (.int (1 : Int32))] [(.int (1 : Int32))]))
    refine GoW.step (fun _ k => XS.goto X160.here hx rfl (pc0 := 409) (pc' := 413) rfl (hb hby at_409) (by decide) (by decide) k) ?_
    show GoW _ _ _ _ _ _ _ (T160.setTop (mkF m 413 #[.val (.int qs), .val (.int qp), .val (.int (2 : Int32)), .val (.int (0 : Int32)), .val (.ref b1), .val (.ref b8), .val (.ref b32), .val (.ref b58), .val (.ref b8), .val (.int (1 : Int32)), .val (.ref b32), .val .null, .val (.ref b32), .val (.int (1 : Int32))] [(.int (1 : Int32))]))
    refine GoW.step (fun _ k => XS.istore X160.here hx rfl (hb hby at_413) rfl (l' := #[.val (.int qs), .val (.int qp), .val (.int (2 : Int32)), .val (.int (0 : Int32)), .val (.ref b1), .val (.ref b8), .val (.ref b32), .val (.ref b58), .val (.ref b8), .val (.int (1 : Int32)), .val (.ref b32), .val .null, .val (.ref b32), .val (.int (1 : Int32))]) rfl k) ?_
    show GoW _ _ _ _ _ _ _ (T160.setTop (mkF m 415 #[.val (.int qs), .val (.int qp), .val (.int (2 : Int32)), .val (.int (0 : Int32)), .val (.ref b1), .val (.ref b8), .val (.ref b32), .val (.ref b58), .val (.ref b8), .val (.int (1 : Int32)), .val (.ref b32), .val .null, .val (.ref b32), .val (.int (1 : Int32))] []))
    refine GoW.step (fun _ k => XS.aload X160.here hx rfl (hb hby at_415) rfl rfl  k) ?_
    show GoW _ _ _ _ _ _ _ (T160.setTop (mkF m 417 #[.val (.int qs), .val (.int qp), .val (.int (2 : Int32)), .val (.int (0 : Int32)), .val (.ref b1), .val (.ref b8), .val (.ref b32), .val (.ref b58), .val (.ref b8), .val (.int (1 : Int32)), .val (.ref b32), .val .null, .val (.ref b32), .val (.int (1 : Int32))] [(.ref b32)]))
    refine GoW.step (fun _ k => XS.ifnullNo X160.here hx rfl (hb hby at_417) rfl k) ?_
    show GoW _ _ _ _ _ _ _ (T160.setTop (mkF m 420 #[.val (.int qs), .val (.int qp), .val (.int (2 : Int32)), .val (.int (0 : Int32)), .val (.ref b1), .val (.ref b8), .val (.ref b32), .val (.ref b58), .val (.ref b8), .val (.int (1 : Int32)), .val (.ref b32), .val .null, .val (.ref b32), .val (.int (1 : Int32))] []))
    refine GoW.step (fun _ k => XS.iload X160.here hx rfl (hb hby at_420) rfl  k) ?_
    show GoW _ _ _ _ _ _ _ (T160.setTop (mkF m 422 #[.val (.int qs), .val (.int qp), .val (.int (2 : Int32)), .val (.int (0 : Int32)), .val (.ref b1), .val (.ref b8), .val (.ref b32), .val (.ref b58), .val (.ref b8), .val (.int (1 : Int32)), .val (.ref b32), .val .null, .val (.ref b32), .val (.int (1 : Int32))] [(.int (1 : Int32))]))
    have hc422 : ¬ ((1 : Int32) = (0 : Int32)) := hc387
    refine GoW.step (fun _ k => XS.ifNo X160.here hx rfl (hb hby at_422) rfl ((if0 _ _).trans (feq hc422).1) k) ?_
    show GoW _ _ _ _ _ _ _ (T160.setTop (mkF m 425 #[.val (.int qs), .val (.int qp), .val (.int (2 : Int32)), .val (.int (0 : Int32)), .val (.ref b1), .val (.ref b8), .val (.ref b32), .val (.ref b58), .val (.ref b8), .val (.int (1 : Int32)), .val (.ref b32), .val .null, .val (.ref b32), .val (.int (1 : Int32))] []))
    refine GoW.step (fun _ k => XS.aload X160.here hx rfl (hb hby at_425) rfl rfl  k) ?_
    show GoW _ _ _ _ _ _ _ (T160.setTop (mkF m 427 #[.val (.int qs), .val (.int qp), .val (.int (2 : Int32)), .val (.int (0 : Int32)), .val (.ref b1), .val (.ref b8), .val (.ref b32), .val (.ref b58), .val (.ref b8), .val (.int (1 : Int32)), .val (.ref b32), .val .null, .val (.ref b32), .val (.int (1 : Int32))] [(.ref b32)]))
    obtain ⟨T161, X161, e161, st161⟩ := getF X160 hx hZ hown (host := "") (Or.inl (hw _ (List.mem_of_getElem? (i := 71) rfl))) Via.refl e160 c155_6 (g := (mkF m 427 #[.val (.int qs), .val (.int qp), .val (.int (2 : Int32)), .val (.int (0 : Int32)), .val (.ref b1), .val (.ref b8), .val (.ref b32), .val (.ref b58), .val (.ref b8), .val (.int (1 : Int32)), .val (.ref b32), .val .null, .val (.ref b32), .val (.int (1 : Int32))] [(.ref b32)])) rfl rfl (hb hby at_427)
    refine GoW.step st161 ?_
    show GoW _ _ _ _ _ _ _ (T161.setTop (mkF m 430 #[.val (.int qs), .val (.int qp), .val (.int (2 : Int32)), .val (.int (0 : Int32)), .val (.ref b1), .val (.ref b8), .val (.ref b32), .val (.ref b58), .val (.ref b8), .val (.int (1 : Int32)), .val (.ref b32), .val .null, .val (.ref b32), .val (.int (1 : Int32))] [(.ref b8)]))
    refine GoW.step (fun _ k => XS.aload X161.here hx rfl (hb hby at_430) rfl rfl  k) ?_
    show GoW _ _ _ _ _ _ _ (T161.setTop (mkF m 432 #[.val (.int qs), .val (.int qp), .val (.int (2 : Int32)), .val (.int (0 : Int32)), .val (.ref b1), .val (.ref b8), .val (.ref b32), .val (.ref b58), .val (.ref b8), .val (.int (1 : Int32)), .val (.ref b32), .val .null, .val (.ref b32), .val (.int (1 : Int32))] [(.ref b8), (.ref b8)]))
    refine GoW.step (fun _ k => Jvm.RoadKit.acmp (g := (mkF m 432 #[.val (.int qs), .val (.int qp), .val (.int (2 : Int32)), .val (.int (0 : Int32)), .val (.ref b1), .val (.ref b8), .val (.ref b32), .val (.ref b58), .val (.ref b8), .val (.int (1 : Int32)), .val (.ref b32), .val .null, .val (.ref b32), .val (.int (1 : Int32))] [(.ref b8), (.ref b8)])) X161 hx rfl rfl rfl (pc0 := 432) (pc' := 435) (same := true) rfl (hb hby at_432) rfl (decide_eq_true rfl) (by decide) (by decide) k) ?_
    show GoW _ _ _ _ _ _ _ (T161.setTop (mkF m 435 #[.val (.int qs), .val (.int qp), .val (.int (2 : Int32)), .val (.int (0 : Int32)), .val (.ref b1), .val (.ref b8), .val (.ref b32), .val (.ref b58), .val (.ref b8), .val (.int (1 : Int32)), .val (.ref b32), .val .null, .val (.ref b32), .val (.int (1 : Int32))] []))
    refine GoW.step (fun _ k => XS.iconst X161.here hx rfl (hb hby at_435) k) ?_
    show GoW _ _ _ _ _ _ _ (T161.setTop (mkF m 436 #[.val (.int qs), .val (.int qp), .val (.int (2 : Int32)), .val (.int (0 : Int32)), .val (.ref b1), .val (.ref b8), .val (.ref b32), .val (.ref b58), .val (.ref b8), .val (.int (1 : Int32)), .val (.ref b32), .val .null, .val (.ref b32), .val (.int (1 : Int32))] [(.int (1 : Int32))]))
    refine GoW.step (fun _ k => XS.goto X161.here hx rfl (pc0 := 436) (pc' := 440) rfl (hb hby at_436) (by decide) (by decide) k) ?_
    show GoW _ _ _ _ _ _ _ (T161.setTop (mkF m 440 #[.val (.int qs), .val (.int qp), .val (.int (2 : Int32)), .val (.int (0 : Int32)), .val (.ref b1), .val (.ref b8), .val (.ref b32), .val (.ref b58), .val (.ref b8), .val (.int (1 : Int32)), .val (.ref b32), .val .null, .val (.ref b32), .val (.int (1 : Int32))] [(.int (1 : Int32))]))
    refine GoW.step (fun _ k => XS.istore X161.here hx rfl (hb hby at_440) rfl (l' := #[.val (.int qs), .val (.int qp), .val (.int (2 : Int32)), .val (.int (0 : Int32)), .val (.ref b1), .val (.ref b8), .val (.ref b32), .val (.ref b58), .val (.ref b8), .val (.int (1 : Int32)), .val (.ref b32), .val .null, .val (.ref b32), .val (.int (1 : Int32))]) rfl k) ?_
    show GoW _ _ _ _ _ _ _ (T161.setTop (mkF m 442 #[.val (.int qs), .val (.int qp), .val (.int (2 : Int32)), .val (.int (0 : Int32)), .val (.ref b1), .val (.ref b8), .val (.ref b32), .val (.ref b58), .val (.ref b8), .val (.int (1 : Int32)), .val (.ref b32), .val .null, .val (.ref b32), .val (.int (1 : Int32))] []))
    refine GoW.step (fun _ k => XS.iload X161.here hx rfl (hb hby at_442) rfl  k) ?_
    show GoW _ _ _ _ _ _ _ (T161.setTop (mkF m 444 #[.val (.int qs), .val (.int qp), .val (.int (2 : Int32)), .val (.int (0 : Int32)), .val (.ref b1), .val (.ref b8), .val (.ref b32), .val (.ref b58), .val (.ref b8), .val (.int (1 : Int32)), .val (.ref b32), .val .null, .val (.ref b32), .val (.int (1 : Int32))] [(.int (1 : Int32))]))
    refine GoW.retN X161 hS72 (by rw [e161]; exact hk158) hx (t := .boolean) Bd.returns (by simp) hlk (hb hby at_444) ?_ (by decide) (by decide)
    rw [e161]
    exact ⟨(by first | rfl | (simp_all [own_nb1, own_nb0]; done)), N155⟩
  · skip
    subst h1 h2
    show GoW _ _ _ _ _ _ _ (T82.setTop (mkF m 57 #[.val (.int qs), .val (.int qp), .val (.int (2 : Int32)), .val (.int (1 : Int32)), .val (.ref b1), .val (.ref b8), .val (.ref b32), .val (.ref b58), .unset, .unset, .unset, .unset, .unset, .unset] []))
    refine GoW.step (fun _ k => XS.aload X82.here hx rfl (hb hby at_57) rfl rfl  k) ?_
    show GoW _ _ _ _ _ _ _ (T82.setTop (mkF m 59 #[.val (.int qs), .val (.int qp), .val (.int (2 : Int32)), .val (.int (1 : Int32)), .val (.ref b1), .val (.ref b8), .val (.ref b32), .val (.ref b58), .unset, .unset, .unset, .unset, .unset, .unset] [(.ref b1)]))
    refine GoW.step (fun _ k => XS.aload X82.here hx rfl (hb hby at_59) rfl rfl  k) ?_
    show GoW _ _ _ _ _ _ _ (T82.setTop (mkF m 61 #[.val (.int qs), .val (.int qp), .val (.int (2 : Int32)), .val (.int (1 : Int32)), .val (.ref b1), .val (.ref b8), .val (.ref b32), .val (.ref b58), .unset, .unset, .unset, .unset, .unset, .unset] [(.ref b8), (.ref b1)]))
    have f162 : Exa Z T82.heap b1 "com/example/steward/steward/runtime/Group" := (((f59.ext E58).ext E72).keep K82)
    have f163 : Exa Z T82.heap b8 "com/example/steward/steward/runtime/Agent" := (((f61.ext E58).ext E72).keep K82)
    have f164 : Fld Z T82.heap b8 "com/example/steward/steward/runtime/Agent" "group" "Lcom/example/steward/steward/runtime/Group;" .null := ((((((c28_1.ext E32).ext E44).keep K54 (ninS ne35 nin0)).ext E58).ext E72).keep K82 (ninS ne62 nin0))
    have f165 : Fld Z T82.heap b8 "com/example/steward/steward/runtime/Agent" "ahead" "Lcom/example/steward/steward/runtime/Agent;" .null := ((((((c28_2.ext E32).ext E44).keep K54 (ninS ne35 nin0)).ext E58).ext E72).keep K82 (ninS ne62 nin0))
    have f166 : Fld Z T82.heap b8 "com/example/steward/steward/runtime/Agent" "behind" "Lcom/example/steward/steward/runtime/Agent;" .null := ((((((c28_3.ext E32).ext E44).keep K54 (ninS ne35 nin0)).ext E58).ext E72).keep K82 (ninS ne62 nin0))
    have f167 : Fld Z T82.heap b1 "com/example/steward/steward/runtime/Group" "first" "Lcom/example/steward/steward/runtime/Agent;" .null := (((((((((f6.ext E8).ext E18).keep K28 (ninS ne9 nin0)).ext E32).ext E44).keep K54 (ninS ne34 nin0)).ext E58).ext E72).keep K82 (ninS ne60 nin0))
    have f168 : Fld Z T82.heap b1 "com/example/steward/steward/runtime/Group" "last" "Lcom/example/steward/steward/runtime/Agent;" .null := (((((((((f5.ext E8).ext E18).keep K28 (ninS ne9 nin0)).ext E32).ext E44).keep K54 (ninS ne34 nin0)).ext E58).ext E72).keep K82 (ninS ne60 nin0))
    obtain ⟨cq169, kq169, q169a, q169b, q169c⟩ := isOf hZ rfl f162
    obtain ⟨_, _, ⟨T169, L169, k169, n169⟩, -, X169, ⟨Lc169, hQ169, l169, y169, z169⟩, st169⟩ := X82.virtualBack hx (y := (⟨"com/example/steward/steward/runtime/Group", "add", "(Lcom/example/steward/steward/runtime/Agent;)V"⟩ : MethodName)) (z := (⟨"com/example/steward/steward/runtime/Group", "add", "(Lcom/example/steward/steward/runtime/Agent;)V"⟩ : MethodName)) hown (mvT hZ (hw _ (List.mem_of_getElem? (i := 49) rfl))) (mvT hZ (hw _ (List.mem_of_getElem? (i := 50) rfl))) (notFace_of_selects (args := #[]) (mvT hZ (hw _ (List.mem_of_getElem? (i := 52) rfl)))) (mvT hZ (hw _ (List.mem_of_getElem? (i := 52) rfl))) (mvT hZ (hw _ (List.mem_of_getElem? (i := 51) rfl))) (by decide) (backOf (W := 0) (rmadd0 l Z aZ hw [] b1 b8 Value.null Value.null Value.null Value.null T82.heap n0 z83 f162 f163 f164 f165 f166 f167 f168 gn1 gn8) hZ (hw _ (List.mem_of_getElem? (i := 53) rfl)) (hw _ (List.mem_of_getElem? (i := 3) rfl)) (by decide) (by decide)) q169a q169c (g := (mkF m 61 #[.val (.int qs), .val (.int qp), .val (.int (2 : Int32)), .val (.int (1 : Int32)), .val (.ref b1), .val (.ref b8), .val (.ref b32), .val (.ref b58), .unset, .unset, .unset, .unset, .unset, .unset] [(.ref b8), (.ref b1)])) rfl (by rw [hml]; rfl) (Steps.refl _) (argsL := [(.ref b8)]) (rest := []) (lenOf pd_3 rfl) rfl (by show 2 * 0 + _ ≤ _; exact Nat.le_of_eq rfl) (hb hby at_61) (fun _ _ => ⟨rfl, rfl, (by decide : 16 + 0 ≤ _), (by decide : 74 + 0 ≤ _)⟩)
    dsimp only [Pt.U, Pt.locs, Pt.cells, Pt.slots] at X169 l169 y169 z169 st169 hQ169
    subst l169 y169 z169
    obtain ⟨rfl, Nq169, K169, c169_0, c169_1, c169_2, c169_3, c169_4, c169_5, c169_6⟩ := hQ169
    have N169 := Fr.app N82 Nq169
    refine GoW.tr st169 ?_
    have z170 : n0 ≤ T169.heap.size := Nat.le_trans z83 K169.1
    have sqz170 : h0.size ≤ T169.heap.size := Nat.le_trans sqz83 K169.1
    have hk172 := Nat.le_trans hk85 K169.1
    show GoW _ _ _ _ _ _ _ (T169.setTop (mkF m 64 #[.val (.int qs), .val (.int qp), .val (.int (2 : Int32)), .val (.int (1 : Int32)), .val (.ref b1), .val (.ref b8), .val (.ref b32), .val (.ref b58), .unset, .unset, .unset, .unset, .unset, .unset] []))
    refine GoW.step (fun _ k => XS.iloadN X169.here hx rfl (hb hby at_64) rfl  k) ?_
    show GoW _ _ _ _ _ _ _ (T169.setTop (mkF m 65 #[.val (.int qs), .val (.int qp), .val (.int (2 : Int32)), .val (.int (1 : Int32)), .val (.ref b1), .val (.ref b8), .val (.ref b32), .val (.ref b58), .unset, .unset, .unset, .unset, .unset, .unset] [(.int (2 : Int32))]))
    refine GoW.step (fun _ k => XS.iconst X169.here hx rfl (hb hby at_65) k) ?_
    show GoW _ _ _ _ _ _ _ (T169.setTop (mkF m 66 #[.val (.int qs), .val (.int qp), .val (.int (2 : Int32)), .val (.int (1 : Int32)), .val (.ref b1), .val (.ref b8), .val (.ref b32), .val (.ref b58), .unset, .unset, .unset, .unset, .unset, .unset] [(.int (2 : Int32)), (.int (2 : Int32))]))
    have hc66 : ¬ ((2 : Int32) < (2 : Int32)) := by decide
    refine GoW.step (fun _ k => XS.icmpNo X169.here hx rfl (hb hby at_66) rfl (flt hc66).1 k) ?_
    show GoW _ _ _ _ _ _ _ (T169.setTop (mkF m 69 #[.val (.int qs), .val (.int qp), .val (.int (2 : Int32)), .val (.int (1 : Int32)), .val (.ref b1), .val (.ref b8), .val (.ref b32), .val (.ref b58), .unset, .unset, .unset, .unset, .unset, .unset] []))
    refine GoW.step (fun _ k => XS.aload X169.here hx rfl (hb hby at_69) rfl rfl  k) ?_
    show GoW _ _ _ _ _ _ _ (T169.setTop (mkF m 71 #[.val (.int qs), .val (.int qp), .val (.int (2 : Int32)), .val (.int (1 : Int32)), .val (.ref b1), .val (.ref b8), .val (.ref b32), .val (.ref b58), .unset, .unset, .unset, .unset, .unset, .unset] [(.ref b1)]))
    refine GoW.step (fun _ k => XS.aload X169.here hx rfl (hb hby at_71) rfl rfl  k) ?_
    show GoW _ _ _ _ _ _ _ (T169.setTop (mkF m 73 #[.val (.int qs), .val (.int qp), .val (.int (2 : Int32)), .val (.int (1 : Int32)), .val (.ref b1), .val (.ref b8), .val (.ref b32), .val (.ref b58), .unset, .unset, .unset, .unset, .unset, .unset] [(.ref b32), (.ref b1)]))
    have f173 : Exa Z T169.heap b32 "com/example/steward/steward/runtime/Agent" := ((((c54_0.ext E58).ext E72).keep K82).keep K169)
    have f174 : Fld Z T169.heap b32 "com/example/steward/steward/runtime/Agent" "group" "Lcom/example/steward/steward/runtime/Group;" .null := ((((c54_1.ext E58).ext E72).keep K82 (ninS ne63 nin0)).keep K169 (ninS (Ne.symm ne34) (ninS (Ne.symm ne35) nin0)))
    have f175 : Fld Z T169.heap b32 "com/example/steward/steward/runtime/Agent" "ahead" "Lcom/example/steward/steward/runtime/Agent;" .null := ((((c54_2.ext E58).ext E72).keep K82 (ninS ne63 nin0)).keep K169 (ninS (Ne.symm ne34) (ninS (Ne.symm ne35) nin0)))
    have f176 : Fld Z T169.heap b32 "com/example/steward/steward/runtime/Agent" "behind" "Lcom/example/steward/steward/runtime/Agent;" .null := ((((c54_3.ext E58).ext E72).keep K82 (ninS ne63 nin0)).keep K169 (ninS (Ne.symm ne34) (ninS (Ne.symm ne35) nin0)))
    obtain ⟨cq177, kq177, q177a, q177b, q177c⟩ := isOf hZ rfl c169_0
    obtain ⟨_, _, ⟨T177, L177, k177, n177⟩, -, X177, ⟨Lc177, hQ177, l177, y177, z177⟩, st177⟩ := X169.virtualBack hx (y := (⟨"com/example/steward/steward/runtime/Group", "add", "(Lcom/example/steward/steward/runtime/Agent;)V"⟩ : MethodName)) (z := (⟨"com/example/steward/steward/runtime/Group", "add", "(Lcom/example/steward/steward/runtime/Agent;)V"⟩ : MethodName)) hown (mvT hZ (hw _ (List.mem_of_getElem? (i := 49) rfl))) (mvT hZ (hw _ (List.mem_of_getElem? (i := 50) rfl))) (notFace_of_selects (args := #[]) (mvT hZ (hw _ (List.mem_of_getElem? (i := 52) rfl)))) (mvT hZ (hw _ (List.mem_of_getElem? (i := 52) rfl))) (mvT hZ (hw _ (List.mem_of_getElem? (i := 51) rfl))) (by decide) (backOf (W := 0) (rmadd1 l Z aZ hw [] b1 b32 Value.null Value.null Value.null (Value.ref b8) b8 Value.null (Value.ref b1) Value.null T169.heap n0 z170 c169_0 f173 f174 f175 f176 c169_5 c169_6 c169_1 c169_4 c169_2 c169_3 (Ne.symm ne35) gn1 gn32 gn8) hZ (hw _ (List.mem_of_getElem? (i := 53) rfl)) (hw _ (List.mem_of_getElem? (i := 3) rfl)) (by decide) (by decide)) q177a q177c (g := (mkF m 73 #[.val (.int qs), .val (.int qp), .val (.int (2 : Int32)), .val (.int (1 : Int32)), .val (.ref b1), .val (.ref b8), .val (.ref b32), .val (.ref b58), .unset, .unset, .unset, .unset, .unset, .unset] [(.ref b32), (.ref b1)])) rfl (by rw [hml]; rfl) (Steps.refl _) (argsL := [(.ref b32)]) (rest := []) (lenOf pd_3 rfl) rfl (by show 2 * 0 + _ ≤ _; exact Nat.le_of_eq rfl) (hb hby at_73) (fun _ _ => ⟨rfl, rfl, (by decide : 16 + 0 ≤ _), (by decide : 74 + 0 ≤ _)⟩)
    dsimp only [Pt.U, Pt.locs, Pt.cells, Pt.slots] at X177 l177 y177 z177 st177 hQ177
    subst l177 y177 z177
    obtain ⟨rfl, Nq177, K177, c177_0, c177_1, c177_2, c177_3, c177_4, c177_5, c177_6, c177_7, c177_8, c177_9, c177_10⟩ := hQ177
    have N177 := Fr.app N169 Nq177
    refine GoW.tr st177 ?_
    have z178 : n0 ≤ T177.heap.size := Nat.le_trans z170 K177.1
    have sqz178 : h0.size ≤ T177.heap.size := Nat.le_trans sqz170 K177.1
    have hk180 := Nat.le_trans hk172 K177.1
    show GoW _ _ _ _ _ _ _ (T177.setTop (mkF m 76 #[.val (.int qs), .val (.int qp), .val (.int (2 : Int32)), .val (.int (1 : Int32)), .val (.ref b1), .val (.ref b8), .val (.ref b32), .val (.ref b58), .unset, .unset, .unset, .unset, .unset, .unset] []))
    refine GoW.step (fun _ k => XS.iloadN X177.here hx rfl (hb hby at_76) rfl  k) ?_
    show GoW _ _ _ _ _ _ _ (T177.setTop (mkF m 77 #[.val (.int qs), .val (.int qp), .val (.int (2 : Int32)), .val (.int (1 : Int32)), .val (.ref b1), .val (.ref b8), .val (.ref b32), .val (.ref b58), .unset, .unset, .unset, .unset, .unset, .unset] [(.int (2 : Int32))]))
    refine GoW.step (fun _ k => XS.iconst X177.here hx rfl (hb hby at_77) k) ?_
    show GoW _ _ _ _ _ _ _ (T177.setTop (mkF m 78 #[.val (.int qs), .val (.int qp), .val (.int (2 : Int32)), .val (.int (1 : Int32)), .val (.ref b1), .val (.ref b8), .val (.ref b32), .val (.ref b58), .unset, .unset, .unset, .unset, .unset, .unset] [(.int (3 : Int32)), (.int (2 : Int32))]))
    have hc78 : (2 : Int32) < (3 : Int32) := by decide
    refine GoW.step (fun _ k => XS.icmpYes X177.here hx rfl (pc0 := 78) (pc' := 88) rfl (hb hby at_78) rfl (tlt hc78).1 (by decide) (by decide) k) ?_
    show GoW _ _ _ _ _ _ _ (T177.setTop (mkF m 88 #[.val (.int qs), .val (.int qp), .val (.int (2 : Int32)), .val (.int (1 : Int32)), .val (.ref b1), .val (.ref b8), .val (.ref b32), .val (.ref b58), .unset, .unset, .unset, .unset, .unset, .unset] []))
    refine GoW.step (fun _ k => XS.iloadN X177.here hx rfl (hb hby at_88) rfl  k) ?_
    show GoW _ _ _ _ _ _ _ (T177.setTop (mkF m 89 #[.val (.int qs), .val (.int qp), .val (.int (2 : Int32)), .val (.int (1 : Int32)), .val (.ref b1), .val (.ref b8), .val (.ref b32), .val (.ref b58), .unset, .unset, .unset, .unset, .unset, .unset] [(.int (1 : Int32))]))
    have hc89 : ¬ ((1 : Int32) = (0 : Int32)) := by decide
    refine GoW.step (fun _ k => XS.ifYes X177.here hx rfl (pc0 := 89) (pc' := 97) rfl (hb hby at_89) rfl ((if0 _ _).trans (feq hc89).2) (by decide) (by decide) k) ?_
    show GoW _ _ _ _ _ _ _ (T177.setTop (mkF m 97 #[.val (.int qs), .val (.int qp), .val (.int (2 : Int32)), .val (.int (1 : Int32)), .val (.ref b1), .val (.ref b8), .val (.ref b32), .val (.ref b58), .unset, .unset, .unset, .unset, .unset, .unset] []))
    refine GoW.step (fun _ k => XS.iloadN X177.here hx rfl (hb hby at_97) rfl  k) ?_
    show GoW _ _ _ _ _ _ _ (T177.setTop (mkF m 98 #[.val (.int qs), .val (.int qp), .val (.int (2 : Int32)), .val (.int (1 : Int32)), .val (.ref b1), .val (.ref b8), .val (.ref b32), .val (.ref b58), .unset, .unset, .unset, .unset, .unset, .unset] [(.int (1 : Int32))]))
    refine GoW.step (fun _ k => XS.iconst X177.here hx rfl (hb hby at_98) k) ?_
    show GoW _ _ _ _ _ _ _ (T177.setTop (mkF m 99 #[.val (.int qs), .val (.int qp), .val (.int (2 : Int32)), .val (.int (1 : Int32)), .val (.ref b1), .val (.ref b8), .val (.ref b32), .val (.ref b58), .unset, .unset, .unset, .unset, .unset, .unset] [(.int (1 : Int32)), (.int (1 : Int32))]))
    have hc99 : (1 : Int32) = (1 : Int32) := by decide
    refine GoW.step (fun _ k => XS.icmpNo X177.here hx rfl (hb hby at_99) rfl (teq hc99).2 k) ?_
    show GoW _ _ _ _ _ _ _ (T177.setTop (mkF m 102 #[.val (.int qs), .val (.int qp), .val (.int (2 : Int32)), .val (.int (1 : Int32)), .val (.ref b1), .val (.ref b8), .val (.ref b32), .val (.ref b58), .unset, .unset, .unset, .unset, .unset, .unset] []))
    refine GoW.step (fun _ k => XS.aload X177.here hx rfl (hb hby at_102) rfl rfl  k) ?_
    show GoW _ _ _ _ _ _ _ (T177.setTop (mkF m 104 #[.val (.int qs), .val (.int qp), .val (.int (2 : Int32)), .val (.int (1 : Int32)), .val (.ref b1), .val (.ref b8), .val (.ref b32), .val (.ref b58), .unset, .unset, .unset, .unset, .unset, .unset] [(.ref b32)]))
    refine GoW.step (fun _ k => XS.goto X177.here hx rfl (pc0 := 104) (pc' := 109) rfl (hb hby at_104) (by decide) (by decide) k) ?_
    show GoW _ _ _ _ _ _ _ (T177.setTop (mkF m 109 #[.val (.int qs), .val (.int qp), .val (.int (2 : Int32)), .val (.int (1 : Int32)), .val (.ref b1), .val (.ref b8), .val (.ref b32), .val (.ref b58), .unset, .unset, .unset, .unset, .unset, .unset] [(.ref b32)]))
    refine GoW.step (fun _ k => XS.astore X177.here hx rfl (hb hby at_109) rfl rfl (l' := #[.val (.int qs), .val (.int qp), .val (.int (2 : Int32)), .val (.int (1 : Int32)), .val (.ref b1), .val (.ref b8), .val (.ref b32), .val (.ref b58), .val (.ref b32), .unset, .unset, .unset, .unset, .unset]) rfl k) ?_
    show GoW _ _ _ _ _ _ _ (T177.setTop (mkF m 111 #[.val (.int qs), .val (.int qp), .val (.int (2 : Int32)), .val (.int (1 : Int32)), .val (.ref b1), .val (.ref b8), .val (.ref b32), .val (.ref b58), .val (.ref b32), .unset, .unset, .unset, .unset, .unset] []))
    refine GoW.step (fun _ k => XS.iloadN X177.here hx rfl (hb hby at_111) rfl  k) ?_
    show GoW _ _ _ _ _ _ _ (T177.setTop (mkF m 112 #[.val (.int qs), .val (.int qp), .val (.int (2 : Int32)), .val (.int (1 : Int32)), .val (.ref b1), .val (.ref b8), .val (.ref b32), .val (.ref b58), .val (.ref b32), .unset, .unset, .unset, .unset, .unset] [(.int (2 : Int32))]))
    refine GoW.step (fun _ k => XS.iconst X177.here hx rfl (hb hby at_112) k) ?_
    show GoW _ _ _ _ _ _ _ (T177.setTop (mkF m 113 #[.val (.int qs), .val (.int qp), .val (.int (2 : Int32)), .val (.int (1 : Int32)), .val (.ref b1), .val (.ref b8), .val (.ref b32), .val (.ref b58), .val (.ref b32), .unset, .unset, .unset, .unset, .unset] [(.int (1 : Int32)), (.int (2 : Int32))]))
    refine GoW.step (fun _ k => XS.isub X177.here hx rfl (hb hby at_113) rfl k) ?_
    show GoW _ _ _ _ _ _ _ (T177.setTop (mkF m 114 #[.val (.int qs), .val (.int qp), .val (.int (2 : Int32)), .val (.int (1 : Int32)), .val (.ref b1), .val (.ref b8), .val (.ref b32), .val (.ref b58), .val (.ref b32), .unset, .unset, .unset, .unset, .unset] [(.int (1 : Int32))]))
    refine GoW.step (fun _ k => XS.istore X177.here hx rfl (hb hby at_114) rfl (l' := #[.val (.int qs), .val (.int qp), .val (.int (2 : Int32)), .val (.int (1 : Int32)), .val (.ref b1), .val (.ref b8), .val (.ref b32), .val (.ref b58), .val (.ref b32), .val (.int (1 : Int32)), .unset, .unset, .unset, .unset]) rfl k) ?_
    show GoW _ _ _ _ _ _ _ (T177.setTop (mkF m 116 #[.val (.int qs), .val (.int qp), .val (.int (2 : Int32)), .val (.int (1 : Int32)), .val (.ref b1), .val (.ref b8), .val (.ref b32), .val (.ref b58), .val (.ref b32), .val (.int (1 : Int32)), .unset, .unset, .unset, .unset] []))
    refine GoW.step (fun _ k => XS.iload X177.here hx rfl (hb hby at_116) rfl  k) ?_
    show GoW _ _ _ _ _ _ _ (T177.setTop (mkF m 118 #[.val (.int qs), .val (.int qp), .val (.int (2 : Int32)), .val (.int (1 : Int32)), .val (.ref b1), .val (.ref b8), .val (.ref b32), .val (.ref b58), .val (.ref b32), .val (.int (1 : Int32)), .unset, .unset, .unset, .unset] [(.int (1 : Int32))]))
    refine GoW.step (fun _ k => XS.iconst X177.here hx rfl (hb hby at_118) k) ?_
    show GoW _ _ _ _ _ _ _ (T177.setTop (mkF m 119 #[.val (.int qs), .val (.int qp), .val (.int (2 : Int32)), .val (.int (1 : Int32)), .val (.ref b1), .val (.ref b8), .val (.ref b32), .val (.ref b58), .val (.ref b32), .val (.int (1 : Int32)), .unset, .unset, .unset, .unset] [(.int (1 : Int32)), (.int (1 : Int32))]))
    have hc119 : ¬ ((1 : Int32) < (1 : Int32)) := by decide
    refine GoW.step (fun _ k => XS.icmpNo X177.here hx rfl (hb hby at_119) rfl (flt hc119).1 k) ?_
    show GoW _ _ _ _ _ _ _ (T177.setTop (mkF m 122 #[.val (.int qs), .val (.int qp), .val (.int (2 : Int32)), .val (.int (1 : Int32)), .val (.ref b1), .val (.ref b8), .val (.ref b32), .val (.ref b58), .val (.ref b32), .val (.int (1 : Int32)), .unset, .unset, .unset, .unset] []))
    refine GoW.step (fun _ k => XS.iloadN X177.here hx rfl (hb hby at_122) rfl  k) ?_
    show GoW _ _ _ _ _ _ _ (T177.setTop (mkF m 123 #[.val (.int qs), .val (.int qp), .val (.int (2 : Int32)), .val (.int (1 : Int32)), .val (.ref b1), .val (.ref b8), .val (.ref b32), .val (.ref b58), .val (.ref b32), .val (.int (1 : Int32)), .unset, .unset, .unset, .unset] [(.int (1 : Int32))]))
    have hc123 : ¬ ((1 : Int32) = (0 : Int32)) := hc89
    refine GoW.step (fun _ k => XS.ifYes X177.here hx rfl (pc0 := 123) (pc' := 131) rfl (hb hby at_123) rfl ((if0 _ _).trans (feq hc123).2) (by decide) (by decide) k) ?_
    show GoW _ _ _ _ _ _ _ (T177.setTop (mkF m 131 #[.val (.int qs), .val (.int qp), .val (.int (2 : Int32)), .val (.int (1 : Int32)), .val (.ref b1), .val (.ref b8), .val (.ref b32), .val (.ref b58), .val (.ref b32), .val (.int (1 : Int32)), .unset, .unset, .unset, .unset] []))
    refine GoW.step (fun _ k => XS.aload X177.here hx rfl (hb hby at_131) rfl rfl  k) ?_
    show GoW _ _ _ _ _ _ _ (T177.setTop (mkF m 133 #[.val (.int qs), .val (.int qp), .val (.int (2 : Int32)), .val (.int (1 : Int32)), .val (.ref b1), .val (.ref b8), .val (.ref b32), .val (.ref b58), .val (.ref b32), .val (.int (1 : Int32)), .unset, .unset, .unset, .unset] [(.ref b8)]))
    refine GoW.step (fun _ k => XS.goto X177.here hx rfl (pc0 := 133) (pc' := 137) rfl (hb hby at_133) (by decide) (by decide) k) ?_
    show GoW _ _ _ _ _ _ _ (T177.setTop (mkF m 137 #[.val (.int qs), .val (.int qp), .val (.int (2 : Int32)), .val (.int (1 : Int32)), .val (.ref b1), .val (.ref b8), .val (.ref b32), .val (.ref b58), .val (.ref b32), .val (.int (1 : Int32)), .unset, .unset, .unset, .unset] [(.ref b8)]))
    refine GoW.step (fun _ k => XS.astore X177.here hx rfl (hb hby at_137) rfl rfl (l' := #[.val (.int qs), .val (.int qp), .val (.int (2 : Int32)), .val (.int (1 : Int32)), .val (.ref b1), .val (.ref b8), .val (.ref b32), .val (.ref b58), .val (.ref b32), .val (.int (1 : Int32)), .val (.ref b8), .unset, .unset, .unset]) rfl k) ?_
    show GoW _ _ _ _ _ _ _ (T177.setTop (mkF m 139 #[.val (.int qs), .val (.int qp), .val (.int (2 : Int32)), .val (.int (1 : Int32)), .val (.ref b1), .val (.ref b8), .val (.ref b32), .val (.ref b58), .val (.ref b32), .val (.int (1 : Int32)), .val (.ref b8), .unset, .unset, .unset] []))
    refine GoW.step (fun _ k => XS.iload X177.here hx rfl (hb hby at_139) rfl  k) ?_
    show GoW _ _ _ _ _ _ _ (T177.setTop (mkF m 141 #[.val (.int qs), .val (.int qp), .val (.int (2 : Int32)), .val (.int (1 : Int32)), .val (.ref b1), .val (.ref b8), .val (.ref b32), .val (.ref b58), .val (.ref b32), .val (.int (1 : Int32)), .val (.ref b8), .unset, .unset, .unset] [(.int (1 : Int32))]))
    refine GoW.step (fun _ k => XS.iconst X177.here hx rfl (hb hby at_141) k) ?_
    show GoW _ _ _ _ _ _ _ (T177.setTop (mkF m 142 #[.val (.int qs), .val (.int qp), .val (.int (2 : Int32)), .val (.int (1 : Int32)), .val (.ref b1), .val (.ref b8), .val (.ref b32), .val (.ref b58), .val (.ref b32), .val (.int (1 : Int32)), .val (.ref b8), .unset, .unset, .unset] [(.int (2 : Int32)), (.int (1 : Int32))]))
    have hc142 : (1 : Int32) < (2 : Int32) := by decide
    refine GoW.step (fun _ k => XS.icmpYes X177.here hx rfl (pc0 := 142) (pc' := 160) rfl (hb hby at_142) rfl (tlt hc142).1 (by decide) (by decide) k) ?_
    show GoW _ _ _ _ _ _ _ (T177.setTop (mkF m 160 #[.val (.int qs), .val (.int qp), .val (.int (2 : Int32)), .val (.int (1 : Int32)), .val (.ref b1), .val (.ref b8), .val (.ref b32), .val (.ref b58), .val (.ref b32), .val (.int (1 : Int32)), .val (.ref b8), .unset, .unset, .unset] []))
    refine GoW.step (fun _ k => XS.aconstNull X177.here hx rfl (hb hby at_160) k) ?_
    show GoW _ _ _ _ _ _ _ (T177.setTop (mkF m 161 #[.val (.int qs), .val (.int qp), .val (.int (2 : Int32)), .val (.int (1 : Int32)), .val (.ref b1), .val (.ref b8), .val (.ref b32), .val (.ref b58), .val (.ref b32), .val (.int (1 : Int32)), .val (.ref b8), .unset, .unset, .unset] [.null]))
    refine GoW.step (fun _ k => XS.astore X177.here hx rfl (hb hby at_161) rfl rfl (l' := #[.val (.int qs), .val (.int qp), .val (.int (2 : Int32)), .val (.int (1 : Int32)), .val (.ref b1), .val (.ref b8), .val (.ref b32), .val (.ref b58), .val (.ref b32), .val (.int (1 : Int32)), .val (.ref b8), .val .null, .unset, .unset]) rfl k) ?_
    show GoW _ _ _ _ _ _ _ (T177.setTop (mkF m 163 #[.val (.int qs), .val (.int qp), .val (.int (2 : Int32)), .val (.int (1 : Int32)), .val (.ref b1), .val (.ref b8), .val (.ref b32), .val (.ref b58), .val (.ref b32), .val (.int (1 : Int32)), .val (.ref b8), .val .null, .unset, .unset] []))
    refine GoW.step (fun _ k => XS.iload X177.here hx rfl (hb hby at_163) rfl  k) ?_
    show GoW _ _ _ _ _ _ _ (T177.setTop (mkF m 165 #[.val (.int qs), .val (.int qp), .val (.int (2 : Int32)), .val (.int (1 : Int32)), .val (.ref b1), .val (.ref b8), .val (.ref b32), .val (.ref b58), .val (.ref b32), .val (.int (1 : Int32)), .val (.ref b8), .val .null, .unset, .unset] [(.int (1 : Int32))]))
    have hc165 : ¬ ((1 : Int32) = (0 : Int32)) := hc123
    refine GoW.step (fun _ k => XS.ifYes X177.here hx rfl (pc0 := 165) (pc' := 172) rfl (hb hby at_165) rfl ((if0 _ _).trans (feq hc165).2) (by decide) (by decide) k) ?_
    show GoW _ _ _ _ _ _ _ (T177.setTop (mkF m 172 #[.val (.int qs), .val (.int qp), .val (.int (2 : Int32)), .val (.int (1 : Int32)), .val (.ref b1), .val (.ref b8), .val (.ref b32), .val (.ref b58), .val (.ref b32), .val (.int (1 : Int32)), .val (.ref b8), .val .null, .unset, .unset] []))
    refine GoW.step (fun _ k => XS.iload X177.here hx rfl (hb hby at_172) rfl  k) ?_
    show GoW _ _ _ _ _ _ _ (T177.setTop (mkF m 174 #[.val (.int qs), .val (.int qp), .val (.int (2 : Int32)), .val (.int (1 : Int32)), .val (.ref b1), .val (.ref b8), .val (.ref b32), .val (.ref b58), .val (.ref b32), .val (.int (1 : Int32)), .val (.ref b8), .val .null, .unset, .unset] [(.int (1 : Int32))]))
    refine GoW.step (fun _ k => XS.iconst X177.here hx rfl (hb hby at_174) k) ?_
    show GoW _ _ _ _ _ _ _ (T177.setTop (mkF m 175 #[.val (.int qs), .val (.int qp), .val (.int (2 : Int32)), .val (.int (1 : Int32)), .val (.ref b1), .val (.ref b8), .val (.ref b32), .val (.ref b58), .val (.ref b32), .val (.int (1 : Int32)), .val (.ref b8), .val .null, .unset, .unset] [(.int (1 : Int32)), (.int (1 : Int32))]))
    have hc175 : (1 : Int32) = (1 : Int32) := hc99
    refine GoW.step (fun _ k => XS.icmpNo X177.here hx rfl (hb hby at_175) rfl (teq hc175).2 k) ?_
    show GoW _ _ _ _ _ _ _ (T177.setTop (mkF m 178 #[.val (.int qs), .val (.int qp), .val (.int (2 : Int32)), .val (.int (1 : Int32)), .val (.ref b1), .val (.ref b8), .val (.ref b32), .val (.ref b58), .val (.ref b32), .val (.int (1 : Int32)), .val (.ref b8), .val .null, .unset, .unset] []))
    refine GoW.step (fun _ k => XS.aload X177.here hx rfl (hb hby at_178) rfl rfl  k) ?_
    show GoW _ _ _ _ _ _ _ (T177.setTop (mkF m 180 #[.val (.int qs), .val (.int qp), .val (.int (2 : Int32)), .val (.int (1 : Int32)), .val (.ref b1), .val (.ref b8), .val (.ref b32), .val (.ref b58), .val (.ref b32), .val (.int (1 : Int32)), .val (.ref b8), .val .null, .unset, .unset] [(.ref b8)]))
    refine GoW.step (fun _ k => XS.goto X177.here hx rfl (pc0 := 180) (pc' := 185) rfl (hb hby at_180) (by decide) (by decide) k) ?_
    show GoW _ _ _ _ _ _ _ (T177.setTop (mkF m 185 #[.val (.int qs), .val (.int qp), .val (.int (2 : Int32)), .val (.int (1 : Int32)), .val (.ref b1), .val (.ref b8), .val (.ref b32), .val (.ref b58), .val (.ref b32), .val (.int (1 : Int32)), .val (.ref b8), .val .null, .unset, .unset] [(.ref b8)]))
    refine GoW.step (fun _ k => XS.astore X177.here hx rfl (hb hby at_185) rfl rfl (l' := #[.val (.int qs), .val (.int qp), .val (.int (2 : Int32)), .val (.int (1 : Int32)), .val (.ref b1), .val (.ref b8), .val (.ref b32), .val (.ref b58), .val (.ref b32), .val (.int (1 : Int32)), .val (.ref b8), .val .null, .val (.ref b8), .unset]) rfl k) ?_
    show GoW _ _ _ _ _ _ _ (T177.setTop (mkF m 187 #[.val (.int qs), .val (.int qp), .val (.int (2 : Int32)), .val (.int (1 : Int32)), .val (.ref b1), .val (.ref b8), .val (.ref b32), .val (.ref b58), .val (.ref b32), .val (.int (1 : Int32)), .val (.ref b8), .val .null, .val (.ref b8), .unset] []))
    refine GoW.step (fun _ k => XS.aload X177.here hx rfl (hb hby at_187) rfl rfl  k) ?_
    show GoW _ _ _ _ _ _ _ (T177.setTop (mkF m 189 #[.val (.int qs), .val (.int qp), .val (.int (2 : Int32)), .val (.int (1 : Int32)), .val (.ref b1), .val (.ref b8), .val (.ref b32), .val (.ref b58), .val (.ref b32), .val (.int (1 : Int32)), .val (.ref b8), .val .null, .val (.ref b8), .unset] [(.ref b1)]))
    refine GoW.step (fun _ k => XS.aload X177.here hx rfl (hb hby at_189) rfl rfl  k) ?_
    show GoW _ _ _ _ _ _ _ (T177.setTop (mkF m 191 #[.val (.int qs), .val (.int qp), .val (.int (2 : Int32)), .val (.int (1 : Int32)), .val (.ref b1), .val (.ref b8), .val (.ref b32), .val (.ref b58), .val (.ref b32), .val (.int (1 : Int32)), .val (.ref b8), .val .null, .val (.ref b8), .unset] [(.ref b32), (.ref b1)]))
    obtain ⟨cq181, kq181, q181a, q181b, q181c⟩ := isOf hZ rfl c177_0
    obtain ⟨_, _, ⟨T181, L181, k181, n181⟩, -, X181, ⟨Lc181, hQ181, l181, y181, z181⟩, st181⟩ := X177.virtualBack hx (y := (⟨"com/example/steward/steward/runtime/Group", "remove", "(Lcom/example/steward/steward/runtime/Agent;)V"⟩ : MethodName)) (z := (⟨"com/example/steward/steward/runtime/Group", "remove", "(Lcom/example/steward/steward/runtime/Agent;)V"⟩ : MethodName)) hown (mvT hZ (hw _ (List.mem_of_getElem? (i := 64) rfl))) (mvT hZ (hw _ (List.mem_of_getElem? (i := 65) rfl))) (notFace_of_selects (args := #[]) (mvT hZ (hw _ (List.mem_of_getElem? (i := 67) rfl)))) (mvT hZ (hw _ (List.mem_of_getElem? (i := 67) rfl))) (mvT hZ (hw _ (List.mem_of_getElem? (i := 66) rfl))) (by decide) (backOf (W := 0) (rmrem10 l Z aZ hw [] b1 b32 (Value.ref b1) (Value.ref b8) (Value.ref b32) b8 (Value.ref b32) (Value.ref b1) Value.null T177.heap n0 z178 c177_0 c177_1 c177_3 c177_9 c177_10 c177_4 c177_5 gn1 gn32 c177_2 c177_6 c177_7 c177_8 (Ne.symm ne35) gn8) hZ (hw _ (List.mem_of_getElem? (i := 68) rfl)) (hw _ (List.mem_of_getElem? (i := 3) rfl)) (by decide) (by decide)) q181a q181c (g := (mkF m 191 #[.val (.int qs), .val (.int qp), .val (.int (2 : Int32)), .val (.int (1 : Int32)), .val (.ref b1), .val (.ref b8), .val (.ref b32), .val (.ref b58), .val (.ref b32), .val (.int (1 : Int32)), .val (.ref b8), .val .null, .val (.ref b8), .unset] [(.ref b32), (.ref b1)])) rfl (by rw [hml]; rfl) (Steps.refl _) (argsL := [(.ref b32)]) (rest := []) (lenOf pd_3 rfl) rfl (by show 2 * 0 + _ ≤ _; exact Nat.le_of_eq rfl) (hb hby at_191) (fun _ _ => ⟨rfl, rfl, (by decide : 16 + 0 ≤ _), (by decide : 74 + 0 ≤ _)⟩)
    dsimp only [Pt.U, Pt.locs, Pt.cells, Pt.slots] at X181 l181 y181 z181 st181 hQ181
    subst l181 y181 z181
    obtain ⟨rfl, Nq181, K181, c181_0, c181_1, c181_2, c181_3, c181_4, c181_5, c181_6, c181_7, c181_8, c181_9, c181_10⟩ := hQ181
    have N181 := Fr.app N177 Nq181
    refine GoW.tr st181 ?_
    have z182 : n0 ≤ T181.heap.size := Nat.le_trans z178 K181.1
    have sqz182 : h0.size ≤ T181.heap.size := Nat.le_trans sqz178 K181.1
    have hk184 := Nat.le_trans hk180 K181.1
    show GoW _ _ _ _ _ _ _ (T181.setTop (mkF m 194 #[.val (.int qs), .val (.int qp), .val (.int (2 : Int32)), .val (.int (1 : Int32)), .val (.ref b1), .val (.ref b8), .val (.ref b32), .val (.ref b58), .val (.ref b32), .val (.int (1 : Int32)), .val (.ref b8), .val .null, .val (.ref b8), .unset] []))
    refine GoW.step (fun _ k => XS.aload X181.here hx rfl (hb hby at_194) rfl rfl  k) ?_
    show GoW _ _ _ _ _ _ _ (T181.setTop (mkF m 196 #[.val (.int qs), .val (.int qp), .val (.int (2 : Int32)), .val (.int (1 : Int32)), .val (.ref b1), .val (.ref b8), .val (.ref b32), .val (.ref b58), .val (.ref b32), .val (.int (1 : Int32)), .val (.ref b8), .val .null, .val (.ref b8), .unset] [(.ref b32)]))
    obtain ⟨T185, X185, e185, st185⟩ := getF X181 hx hZ hown (host := "") (Or.inl (hw _ (List.mem_of_getElem? (i := 69) rfl))) Via.refl rfl c181_2 (g := (mkF m 196 #[.val (.int qs), .val (.int qp), .val (.int (2 : Int32)), .val (.int (1 : Int32)), .val (.ref b1), .val (.ref b8), .val (.ref b32), .val (.ref b58), .val (.ref b32), .val (.int (1 : Int32)), .val (.ref b8), .val .null, .val (.ref b8), .unset] [(.ref b32)])) rfl rfl (hb hby at_196)
    refine GoW.step st185 ?_
    show GoW _ _ _ _ _ _ _ (T185.setTop (mkF m 199 #[.val (.int qs), .val (.int qp), .val (.int (2 : Int32)), .val (.int (1 : Int32)), .val (.ref b1), .val (.ref b8), .val (.ref b32), .val (.ref b58), .val (.ref b32), .val (.int (1 : Int32)), .val (.ref b8), .val .null, .val (.ref b8), .unset] [.null]))
    refine GoW.step (fun _ k => XS.ifnonnullNo X185.here hx rfl (hb hby at_199) rfl k) ?_
    show GoW _ _ _ _ _ _ _ (T185.setTop (mkF m 202 #[.val (.int qs), .val (.int qp), .val (.int (2 : Int32)), .val (.int (1 : Int32)), .val (.ref b1), .val (.ref b8), .val (.ref b32), .val (.ref b58), .val (.ref b32), .val (.int (1 : Int32)), .val (.ref b8), .val .null, .val (.ref b8), .unset] []))
    refine GoW.step (fun _ k => XS.aload X185.here hx rfl (hb hby at_202) rfl rfl  k) ?_
    show GoW _ _ _ _ _ _ _ (T185.setTop (mkF m 204 #[.val (.int qs), .val (.int qp), .val (.int (2 : Int32)), .val (.int (1 : Int32)), .val (.ref b1), .val (.ref b8), .val (.ref b32), .val (.ref b58), .val (.ref b32), .val (.int (1 : Int32)), .val (.ref b8), .val .null, .val (.ref b8), .unset] [(.ref b32)]))
    obtain ⟨T186, X186, e186, st186⟩ := getF X185 hx hZ hown (host := "") (Or.inl (hw _ (List.mem_of_getElem? (i := 70) rfl))) Via.refl e185 c181_3 (g := (mkF m 204 #[.val (.int qs), .val (.int qp), .val (.int (2 : Int32)), .val (.int (1 : Int32)), .val (.ref b1), .val (.ref b8), .val (.ref b32), .val (.ref b58), .val (.ref b32), .val (.int (1 : Int32)), .val (.ref b8), .val .null, .val (.ref b8), .unset] [(.ref b32)])) rfl rfl (hb hby at_204)
    refine GoW.step st186 ?_
    show GoW _ _ _ _ _ _ _ (T186.setTop (mkF m 207 #[.val (.int qs), .val (.int qp), .val (.int (2 : Int32)), .val (.int (1 : Int32)), .val (.ref b1), .val (.ref b8), .val (.ref b32), .val (.ref b58), .val (.ref b32), .val (.int (1 : Int32)), .val (.ref b8), .val .null, .val (.ref b8), .unset] [.null]))
    refine GoW.step (fun _ k => XS.ifnonnullNo X186.here hx rfl (hb hby at_207) rfl k) ?_
    show GoW _ _ _ _ _ _ _ (T186.setTop (mkF m 210 #[.val (.int qs), .val (.int qp), .val (.int (2 : Int32)), .val (.int (1 : Int32)), .val (.ref b1), .val (.ref b8), .val (.ref b32), .val (.ref b58), .val (.ref b32), .val (.int (1 : Int32)), .val (.ref b8), .val .null, .val (.ref b8), .unset] []))
    refine GoW.step (fun _ k => XS.aload X186.here hx rfl (hb hby at_210) rfl rfl  k) ?_
    show GoW _ _ _ _ _ _ _ (T186.setTop (mkF m 212 #[.val (.int qs), .val (.int qp), .val (.int (2 : Int32)), .val (.int (1 : Int32)), .val (.ref b1), .val (.ref b8), .val (.ref b32), .val (.ref b58), .val (.ref b32), .val (.int (1 : Int32)), .val (.ref b8), .val .null, .val (.ref b8), .unset] [(.ref b32)]))
    obtain ⟨T187, X187, e187, st187⟩ := getF X186 hx hZ hown (host := "") (Or.inl (hw _ (List.mem_of_getElem? (i := 71) rfl))) Via.refl e186 c181_4 (g := (mkF m 212 #[.val (.int qs), .val (.int qp), .val (.int (2 : Int32)), .val (.int (1 : Int32)), .val (.ref b1), .val (.ref b8), .val (.ref b32), .val (.ref b58), .val (.ref b32), .val (.int (1 : Int32)), .val (.ref b8), .val .null, .val (.ref b8), .unset] [(.ref b32)])) rfl rfl (hb hby at_212)
    refine GoW.step st187 ?_
    show GoW _ _ _ _ _ _ _ (T187.setTop (mkF m 215 #[.val (.int qs), .val (.int qp), .val (.int (2 : Int32)), .val (.int (1 : Int32)), .val (.ref b1), .val (.ref b8), .val (.ref b32), .val (.ref b58), .val (.ref b32), .val (.int (1 : Int32)), .val (.ref b8), .val .null, .val (.ref b8), .unset] [.null]))
    refine GoW.step (fun _ k => XS.ifnonnullNo X187.here hx rfl (hb hby at_215) rfl k) ?_
    show GoW _ _ _ _ _ _ _ (T187.setTop (mkF m 218 #[.val (.int qs), .val (.int qp), .val (.int (2 : Int32)), .val (.int (1 : Int32)), .val (.ref b1), .val (.ref b8), .val (.ref b32), .val (.ref b58), .val (.ref b32), .val (.int (1 : Int32)), .val (.ref b8), .val .null, .val (.ref b8), .unset] []))
    refine GoW.step (fun _ k => XS.iconst X187.here hx rfl (hb hby at_218) k) ?_
    show GoW _ _ _ _ _ _ _ (T187.setTop (mkF m 219 #[.val (.int qs), .val (.int qp), .val (.int (2 : Int32)), .val (.int (1 : Int32)), .val (.ref b1), .val (.ref b8), .val (.ref b32), .val (.ref b58), .val (.ref b32), .val (.int (1 : Int32)), .val (.ref b8), .val .null, .val (.ref b8), .unset] [(.int (1 : Int32))]))
    refine GoW.step (fun _ k => XS.goto X187.here hx rfl (pc0 := 219) (pc' := 223) rfl (hb hby at_219) (by decide) (by decide) k) ?_
    show GoW _ _ _ _ _ _ _ (T187.setTop (mkF m 223 #[.val (.int qs), .val (.int qp), .val (.int (2 : Int32)), .val (.int (1 : Int32)), .val (.ref b1), .val (.ref b8), .val (.ref b32), .val (.ref b58), .val (.ref b32), .val (.int (1 : Int32)), .val (.ref b8), .val .null, .val (.ref b8), .unset] [(.int (1 : Int32))]))
    refine GoW.step (fun _ k => XS.istore X187.here hx rfl (hb hby at_223) rfl (l' := #[.val (.int qs), .val (.int qp), .val (.int (2 : Int32)), .val (.int (1 : Int32)), .val (.ref b1), .val (.ref b8), .val (.ref b32), .val (.ref b58), .val (.ref b32), .val (.int (1 : Int32)), .val (.ref b8), .val .null, .val (.ref b8), .val (.int (1 : Int32))]) rfl k) ?_
    show GoW _ _ _ _ _ _ _ (T187.setTop (mkF m 225 #[.val (.int qs), .val (.int qp), .val (.int (2 : Int32)), .val (.int (1 : Int32)), .val (.ref b1), .val (.ref b8), .val (.ref b32), .val (.ref b58), .val (.ref b32), .val (.int (1 : Int32)), .val (.ref b8), .val .null, .val (.ref b8), .val (.int (1 : Int32))] []))
    refine GoW.step (fun _ k => XS.iload X187.here hx rfl (hb hby at_225) rfl  k) ?_
    show GoW _ _ _ _ _ _ _ (T187.setTop (mkF m 227 #[.val (.int qs), .val (.int qp), .val (.int (2 : Int32)), .val (.int (1 : Int32)), .val (.ref b1), .val (.ref b8), .val (.ref b32), .val (.ref b58), .val (.ref b32), .val (.int (1 : Int32)), .val (.ref b8), .val .null, .val (.ref b8), .val (.int (1 : Int32))] [(.int (1 : Int32))]))
    have hc227 : ¬ ((1 : Int32) = (0 : Int32)) := hc165
    refine GoW.step (fun _ k => XS.ifNo X187.here hx rfl (hb hby at_227) rfl ((if0 _ _).trans (feq hc227).1) k) ?_
    show GoW _ _ _ _ _ _ _ (T187.setTop (mkF m 230 #[.val (.int qs), .val (.int qp), .val (.int (2 : Int32)), .val (.int (1 : Int32)), .val (.ref b1), .val (.ref b8), .val (.ref b32), .val (.ref b58), .val (.ref b32), .val (.int (1 : Int32)), .val (.ref b8), .val .null, .val (.ref b8), .val (.int (1 : Int32))] []))
    refine GoW.step (fun _ k => XS.aload X187.here hx rfl (hb hby at_230) rfl rfl  k) ?_
    show GoW _ _ _ _ _ _ _ (T187.setTop (mkF m 232 #[.val (.int qs), .val (.int qp), .val (.int (2 : Int32)), .val (.int (1 : Int32)), .val (.ref b1), .val (.ref b8), .val (.ref b32), .val (.ref b58), .val (.ref b32), .val (.int (1 : Int32)), .val (.ref b8), .val .null, .val (.ref b8), .val (.int (1 : Int32))] [(.ref b1)]))
    have pq188 : (Value.ref b8).isRef = true := rfl
    obtain ⟨cq189, kq189, q189a, q189b, q189c⟩ := isOf hZ e187 c181_0
    obtain ⟨_, _, ⟨T189, L189, k189, n189⟩, -, X189, ⟨Lc189, hQ189, l189, y189, z189⟩, st189⟩ := X187.virtualBack hx (y := (⟨"com/example/steward/steward/runtime/Group", "first", "()Lcom/example/steward/steward/runtime/Agent;"⟩ : MethodName)) (z := (⟨"com/example/steward/steward/runtime/Group", "first", "()Lcom/example/steward/steward/runtime/Agent;"⟩ : MethodName)) hown (mvT hZ (hw _ (List.mem_of_getElem? (i := 72) rfl))) (mvT hZ (hw _ (List.mem_of_getElem? (i := 73) rfl))) (notFace_of_selects (args := #[]) (mvT hZ (hw _ (List.mem_of_getElem? (i := 75) rfl)))) (mvT hZ (hw _ (List.mem_of_getElem? (i := 75) rfl))) (mvT hZ (hw _ (List.mem_of_getElem? (i := 74) rfl))) (by decide) (backOf (W := 0) (rm8 l Z aZ hw [] b1 (Value.ref b8) T181.heap n0 z182 c181_9 pq188) hZ (hw _ (List.mem_of_getElem? (i := 76) rfl)) (hw _ (List.mem_of_getElem? (i := 3) rfl)) (by decide) (by decide)) q189a q189c (g := (mkF m 232 #[.val (.int qs), .val (.int qp), .val (.int (2 : Int32)), .val (.int (1 : Int32)), .val (.ref b1), .val (.ref b8), .val (.ref b32), .val (.ref b58), .val (.ref b32), .val (.int (1 : Int32)), .val (.ref b8), .val .null, .val (.ref b8), .val (.int (1 : Int32))] [(.ref b1)])) rfl (by rw [hml]; rfl) (Steps.refl _) (argsL := []) (rest := []) (lenOf pd_4 rfl) rfl (by show 2 * 0 + _ ≤ _; exact Nat.le_of_eq rfl) (hb hby at_232) (fun _ _ => ⟨rfl, e187, (by decide : 16 + 0 ≤ _), (by decide : 74 + 0 ≤ _)⟩)
    dsimp only [Pt.U, Pt.locs, Pt.cells, Pt.slots] at X189 l189 y189 z189 st189 hQ189
    subst l189 y189 z189
    obtain ⟨rfl, Nq189, e189⟩ := hQ189
    have N189 := Fr.app N181 Nq189
    refine GoW.tr st189 ?_
    show GoW _ _ _ _ _ _ _ (T189.setTop (mkF m 235 #[.val (.int qs), .val (.int qp), .val (.int (2 : Int32)), .val (.int (1 : Int32)), .val (.ref b1), .val (.ref b8), .val (.ref b32), .val (.ref b58), .val (.ref b32), .val (.int (1 : Int32)), .val (.ref b8), .val .null, .val (.ref b8), .val (.int (1 : Int32))] [(.ref b8)]))
    refine GoW.step (fun _ k => XS.aload X189.here hx rfl (hb hby at_235) rfl rfl  k) ?_
    show GoW _ _ _ _ _ _ _ (T189.setTop (mkF m 237 #[.val (.int qs), .val (.int qp), .val (.int (2 : Int32)), .val (.int (1 : Int32)), .val (.ref b1), .val (.ref b8), .val (.ref b32), .val (.ref b58), .val (.ref b32), .val (.int (1 : Int32)), .val (.ref b8), .val .null, .val (.ref b8), .val (.int (1 : Int32))] [(.ref b8), (.ref b8)]))
    refine GoW.step (fun _ k => Jvm.RoadKit.acmp (g := (mkF m 237 #[.val (.int qs), .val (.int qp), .val (.int (2 : Int32)), .val (.int (1 : Int32)), .val (.ref b1), .val (.ref b8), .val (.ref b32), .val (.ref b58), .val (.ref b32), .val (.int (1 : Int32)), .val (.ref b8), .val .null, .val (.ref b8), .val (.int (1 : Int32))] [(.ref b8), (.ref b8)])) X189 hx rfl rfl rfl (pc0 := 237) (pc' := 240) (same := true) rfl (hb hby at_237) rfl (decide_eq_true rfl) (by decide) (by decide) k) ?_
    show GoW _ _ _ _ _ _ _ (T189.setTop (mkF m 240 #[.val (.int qs), .val (.int qp), .val (.int (2 : Int32)), .val (.int (1 : Int32)), .val (.ref b1), .val (.ref b8), .val (.ref b32), .val (.ref b58), .val (.ref b32), .val (.int (1 : Int32)), .val (.ref b8), .val .null, .val (.ref b8), .val (.int (1 : Int32))] []))
    refine GoW.step (fun _ k => XS.iconst X189.here hx rfl (hb hby at_240) k) ?_
    show GoW _ _ _ _ _ _ _ (T189.setTop (mkF m 241 #[.val (.int qs), .val (.int qp), .val (.int (2 : Int32)), .val (.int (1 : Int32)), .val (.ref b1), .val (.ref b8), .val (.ref b32), .val (.ref b58), .val (.ref b32), .val (.int (1 : Int32)), .val (.ref b8), .val .null, .val (.ref b8), .val (.int (1 : Int32))] [(.int (1 : Int32))]))
    refine GoW.step (fun _ k => XS.goto X189.here hx rfl (pc0 := 241) (pc' := 245) rfl (hb hby at_241) (by decide) (by decide) k) ?_
    show GoW _ _ _ _ _ _ _ (T189.setTop (mkF m 245 #[.val (.int qs), .val (.int qp), .val (.int (2 : Int32)), .val (.int (1 : Int32)), .val (.ref b1), .val (.ref b8), .val (.ref b32), .val (.ref b58), .val (.ref b32), .val (.int (1 : Int32)), .val (.ref b8), .val .null, .val (.ref b8), .val (.int (1 : Int32))] [(.int (1 : Int32))]))
    refine GoW.step (fun _ k => XS.istore X189.here hx rfl (hb hby at_245) rfl (l' := #[.val (.int qs), .val (.int qp), .val (.int (2 : Int32)), .val (.int (1 : Int32)), .val (.ref b1), .val (.ref b8), .val (.ref b32), .val (.ref b58), .val (.ref b32), .val (.int (1 : Int32)), .val (.ref b8), .val .null, .val (.ref b8), .val (.int (1 : Int32))]) rfl k) ?_
    show GoW _ _ _ _ _ _ _ (T189.setTop (mkF m 247 #[.val (.int qs), .val (.int qp), .val (.int (2 : Int32)), .val (.int (1 : Int32)), .val (.ref b1), .val (.ref b8), .val (.ref b32), .val (.ref b58), .val (.ref b32), .val (.int (1 : Int32)), .val (.ref b8), .val .null, .val (.ref b8), .val (.int (1 : Int32))] []))
    refine GoW.step (fun _ k => XS.aload X189.here hx rfl (hb hby at_247) rfl rfl  k) ?_
    show GoW _ _ _ _ _ _ _ (T189.setTop (mkF m 249 #[.val (.int qs), .val (.int qp), .val (.int (2 : Int32)), .val (.int (1 : Int32)), .val (.ref b1), .val (.ref b8), .val (.ref b32), .val (.ref b58), .val (.ref b32), .val (.int (1 : Int32)), .val (.ref b8), .val .null, .val (.ref b8), .val (.int (1 : Int32))] [(.ref b8)]))
    refine GoW.step (fun _ k => XS.ifnullNo X189.here hx rfl (hb hby at_249) rfl k) ?_
    show GoW _ _ _ _ _ _ _ (T189.setTop (mkF m 252 #[.val (.int qs), .val (.int qp), .val (.int (2 : Int32)), .val (.int (1 : Int32)), .val (.ref b1), .val (.ref b8), .val (.ref b32), .val (.ref b58), .val (.ref b32), .val (.int (1 : Int32)), .val (.ref b8), .val .null, .val (.ref b8), .val (.int (1 : Int32))] []))
    refine GoW.step (fun _ k => XS.iload X189.here hx rfl (hb hby at_252) rfl  k) ?_
    show GoW _ _ _ _ _ _ _ (T189.setTop (mkF m 254 #[.val (.int qs), .val (.int qp), .val (.int (2 : Int32)), .val (.int (1 : Int32)), .val (.ref b1), .val (.ref b8), .val (.ref b32), .val (.ref b58), .val (.ref b32), .val (.int (1 : Int32)), .val (.ref b8), .val .null, .val (.ref b8), .val (.int (1 : Int32))] [(.int (1 : Int32))]))
    have hc254 : ¬ ((1 : Int32) = (0 : Int32)) := hc227
    refine GoW.step (fun _ k => XS.ifNo X189.here hx rfl (hb hby at_254) rfl ((if0 _ _).trans (feq hc254).1) k) ?_
    show GoW _ _ _ _ _ _ _ (T189.setTop (mkF m 257 #[.val (.int qs), .val (.int qp), .val (.int (2 : Int32)), .val (.int (1 : Int32)), .val (.ref b1), .val (.ref b8), .val (.ref b32), .val (.ref b58), .val (.ref b32), .val (.int (1 : Int32)), .val (.ref b8), .val .null, .val (.ref b8), .val (.int (1 : Int32))] []))
    refine GoW.step (fun _ k => XS.aload X189.here hx rfl (hb hby at_257) rfl rfl  k) ?_
    show GoW _ _ _ _ _ _ _ (T189.setTop (mkF m 259 #[.val (.int qs), .val (.int qp), .val (.int (2 : Int32)), .val (.int (1 : Int32)), .val (.ref b1), .val (.ref b8), .val (.ref b32), .val (.ref b58), .val (.ref b32), .val (.int (1 : Int32)), .val (.ref b8), .val .null, .val (.ref b8), .val (.int (1 : Int32))] [(.ref b8)]))
    obtain ⟨T190, X190, e190, st190⟩ := getF X189 hx hZ hown (host := "") (Or.inl (hw _ (List.mem_of_getElem? (i := 70) rfl))) Via.refl e189 c181_8 (g := (mkF m 259 #[.val (.int qs), .val (.int qp), .val (.int (2 : Int32)), .val (.int (1 : Int32)), .val (.ref b1), .val (.ref b8), .val (.ref b32), .val (.ref b58), .val (.ref b32), .val (.int (1 : Int32)), .val (.ref b8), .val .null, .val (.ref b8), .val (.int (1 : Int32))] [(.ref b8)])) rfl rfl (hb hby at_259)
    refine GoW.step st190 ?_
    show GoW _ _ _ _ _ _ _ (T190.setTop (mkF m 262 #[.val (.int qs), .val (.int qp), .val (.int (2 : Int32)), .val (.int (1 : Int32)), .val (.ref b1), .val (.ref b8), .val (.ref b32), .val (.ref b58), .val (.ref b32), .val (.int (1 : Int32)), .val (.ref b8), .val .null, .val (.ref b8), .val (.int (1 : Int32))] [.null]))
    refine GoW.step (fun _ k => XS.ifnonnullNo X190.here hx rfl (hb hby at_262) rfl k) ?_
    show GoW _ _ _ _ _ _ _ (T190.setTop (mkF m 265 #[.val (.int qs), .val (.int qp), .val (.int (2 : Int32)), .val (.int (1 : Int32)), .val (.ref b1), .val (.ref b8), .val (.ref b32), .val (.ref b58), .val (.ref b32), .val (.int (1 : Int32)), .val (.ref b8), .val .null, .val (.ref b8), .val (.int (1 : Int32))] []))
    refine GoW.step (fun _ k => XS.aload X190.here hx rfl (hb hby at_265) rfl rfl  k) ?_
    show GoW _ _ _ _ _ _ _ (T190.setTop (mkF m 267 #[.val (.int qs), .val (.int qp), .val (.int (2 : Int32)), .val (.int (1 : Int32)), .val (.ref b1), .val (.ref b8), .val (.ref b32), .val (.ref b58), .val (.ref b32), .val (.int (1 : Int32)), .val (.ref b8), .val .null, .val (.ref b8), .val (.int (1 : Int32))] [(.ref b8)]))
    obtain ⟨T191, X191, e191, st191⟩ := getF X190 hx hZ hown (host := "") (Or.inl (hw _ (List.mem_of_getElem? (i := 71) rfl))) Via.refl e190 c181_6 (g := (mkF m 267 #[.val (.int qs), .val (.int qp), .val (.int (2 : Int32)), .val (.int (1 : Int32)), .val (.ref b1), .val (.ref b8), .val (.ref b32), .val (.ref b58), .val (.ref b32), .val (.int (1 : Int32)), .val (.ref b8), .val .null, .val (.ref b8), .val (.int (1 : Int32))] [(.ref b8)])) rfl rfl (hb hby at_267)
    refine GoW.step st191 ?_
    show GoW _ _ _ _ _ _ _ (T191.setTop (mkF m 270 #[.val (.int qs), .val (.int qp), .val (.int (2 : Int32)), .val (.int (1 : Int32)), .val (.ref b1), .val (.ref b8), .val (.ref b32), .val (.ref b58), .val (.ref b32), .val (.int (1 : Int32)), .val (.ref b8), .val .null, .val (.ref b8), .val (.int (1 : Int32))] [.null]))
    refine GoW.step (fun _ k => XS.aload X191.here hx rfl (hb hby at_270) rfl rfl  k) ?_
    show GoW _ _ _ _ _ _ _ (T191.setTop (mkF m 272 #[.val (.int qs), .val (.int qp), .val (.int (2 : Int32)), .val (.int (1 : Int32)), .val (.ref b1), .val (.ref b8), .val (.ref b32), .val (.ref b58), .val (.ref b32), .val (.int (1 : Int32)), .val (.ref b8), .val .null, .val (.ref b8), .val (.int (1 : Int32))] [.null, .null]))
    refine GoW.step (fun _ k => Jvm.RoadKit.acmp (g := (mkF m 272 #[.val (.int qs), .val (.int qp), .val (.int (2 : Int32)), .val (.int (1 : Int32)), .val (.ref b1), .val (.ref b8), .val (.ref b32), .val (.ref b58), .val (.ref b32), .val (.int (1 : Int32)), .val (.ref b8), .val .null, .val (.ref b8), .val (.int (1 : Int32))] [.null, .null])) X191 hx rfl rfl rfl (pc0 := 272) (pc' := 275) (same := true) rfl (hb hby at_272) rfl (decide_eq_true rfl) (by decide) (by decide) k) ?_
    show GoW _ _ _ _ _ _ _ (T191.setTop (mkF m 275 #[.val (.int qs), .val (.int qp), .val (.int (2 : Int32)), .val (.int (1 : Int32)), .val (.ref b1), .val (.ref b8), .val (.ref b32), .val (.ref b58), .val (.ref b32), .val (.int (1 : Int32)), .val (.ref b8), .val .null, .val (.ref b8), .val (.int (1 : Int32))] []))
    refine GoW.step (fun _ k => XS.aload X191.here hx rfl (hb hby at_275) rfl rfl  k) ?_
    show GoW _ _ _ _ _ _ _ (T191.setTop (mkF m 277 #[.val (.int qs), .val (.int qp), .val (.int (2 : Int32)), .val (.int (1 : Int32)), .val (.ref b1), .val (.ref b8), .val (.ref b32), .val (.ref b58), .val (.ref b32), .val (.int (1 : Int32)), .val (.ref b8), .val .null, .val (.ref b8), .val (.int (1 : Int32))] [(.ref b8)]))
    obtain ⟨T192, X192, e192, st192⟩ := getF X191 hx hZ hown (host := "") (Or.inl (hw _ (List.mem_of_getElem? (i := 69) rfl))) Via.refl e191 c181_7 (g := (mkF m 277 #[.val (.int qs), .val (.int qp), .val (.int (2 : Int32)), .val (.int (1 : Int32)), .val (.ref b1), .val (.ref b8), .val (.ref b32), .val (.ref b58), .val (.ref b32), .val (.int (1 : Int32)), .val (.ref b8), .val .null, .val (.ref b8), .val (.int (1 : Int32))] [(.ref b8)])) rfl rfl (hb hby at_277)
    refine GoW.step st192 ?_
    show GoW _ _ _ _ _ _ _ (T192.setTop (mkF m 280 #[.val (.int qs), .val (.int qp), .val (.int (2 : Int32)), .val (.int (1 : Int32)), .val (.ref b1), .val (.ref b8), .val (.ref b32), .val (.ref b58), .val (.ref b32), .val (.int (1 : Int32)), .val (.ref b8), .val .null, .val (.ref b8), .val (.int (1 : Int32))] [(.ref b1)]))
    refine GoW.step (fun _ k => XS.aload X192.here hx rfl (hb hby at_280) rfl rfl  k) ?_
    show GoW _ _ _ _ _ _ _ (T192.setTop (mkF m 282 #[.val (.int qs), .val (.int qp), .val (.int (2 : Int32)), .val (.int (1 : Int32)), .val (.ref b1), .val (.ref b8), .val (.ref b32), .val (.ref b58), .val (.ref b32), .val (.int (1 : Int32)), .val (.ref b8), .val .null, .val (.ref b8), .val (.int (1 : Int32))] [(.ref b1), (.ref b1)]))
    refine GoW.step (fun _ k => Jvm.RoadKit.acmp (g := (mkF m 282 #[.val (.int qs), .val (.int qp), .val (.int (2 : Int32)), .val (.int (1 : Int32)), .val (.ref b1), .val (.ref b8), .val (.ref b32), .val (.ref b58), .val (.ref b32), .val (.int (1 : Int32)), .val (.ref b8), .val .null, .val (.ref b8), .val (.int (1 : Int32))] [(.ref b1), (.ref b1)])) X192 hx rfl rfl rfl (pc0 := 282) (pc' := 285) (same := true) rfl (hb hby at_282) rfl (decide_eq_true rfl) (by decide) (by decide) k) ?_
    show GoW _ _ _ _ _ _ _ (T192.setTop (mkF m 285 #[.val (.int qs), .val (.int qp), .val (.int (2 : Int32)), .val (.int (1 : Int32)), .val (.ref b1), .val (.ref b8), .val (.ref b32), .val (.ref b58), .val (.ref b32), .val (.int (1 : Int32)), .val (.ref b8), .val .null, .val (.ref b8), .val (.int (1 : Int32))] []))
    refine GoW.step (fun _ k => XS.iconst X192.here hx rfl (hb hby at_285) k) ?_
    show GoW _ _ _ _ _ _ _ (T192.setTop (mkF m 286 #[.val (.int qs), .val (.int qp), .val (.int (2 : Int32)), .val (.int (1 : Int32)), .val (.ref b1), .val (.ref b8), .val (.ref b32), .val (.ref b58), .val (.ref b32), .val (.int (1 : Int32)), .val (.ref b8), .val .null, .val (.ref b8), .val (.int (1 : Int32))] [(.int (1 : Int32))]))
    refine GoW.step (fun _ k => XS.goto X192.here hx rfl (pc0 := 286) (pc' := 290) rfl (hb hby at_286) (by decide) (by decide) k) ?_
    show GoW _ _ _ _ _ _ _ (T192.setTop (mkF m 290 #[.val (.int qs), .val (.int qp), .val (.int (2 : Int32)), .val (.int (1 : Int32)), .val (.ref b1), .val (.ref b8), .val (.ref b32), .val (.ref b58), .val (.ref b32), .val (.int (1 : Int32)), .val (.ref b8), .val .null, .val (.ref b8), .val (.int (1 : Int32))] [(.int (1 : Int32))]))
    refine GoW.step (fun _ k => XS.istore X192.here hx rfl (hb hby at_290) rfl (l' := #[.val (.int qs), .val (.int qp), .val (.int (2 : Int32)), .val (.int (1 : Int32)), .val (.ref b1), .val (.ref b8), .val (.ref b32), .val (.ref b58), .val (.ref b32), .val (.int (1 : Int32)), .val (.ref b8), .val .null, .val (.ref b8), .val (.int (1 : Int32))]) rfl k) ?_
    show GoW _ _ _ _ _ _ _ (T192.setTop (mkF m 292 #[.val (.int qs), .val (.int qp), .val (.int (2 : Int32)), .val (.int (1 : Int32)), .val (.ref b1), .val (.ref b8), .val (.ref b32), .val (.ref b58), .val (.ref b32), .val (.int (1 : Int32)), .val (.ref b8), .val .null, .val (.ref b8), .val (.int (1 : Int32))] []))
    refine GoW.step (fun _ k => XS.aload X192.here hx rfl (hb hby at_292) rfl rfl  k) ?_
    show GoW _ _ _ _ _ _ _ (T192.setTop (mkF m 294 #[.val (.int qs), .val (.int qp), .val (.int (2 : Int32)), .val (.int (1 : Int32)), .val (.ref b1), .val (.ref b8), .val (.ref b32), .val (.ref b58), .val (.ref b32), .val (.int (1 : Int32)), .val (.ref b8), .val .null, .val (.ref b8), .val (.int (1 : Int32))] [.null]))
    refine GoW.step (fun _ k => XS.ifnullYes X192.here hx rfl (pc0 := 294) (pc' := 337) rfl (hb hby at_294) rfl (by decide) (by decide) k) ?_
    show GoW _ _ _ _ _ _ _ (T192.setTop (mkF m 337 #[.val (.int qs), .val (.int qp), .val (.int (2 : Int32)), .val (.int (1 : Int32)), .val (.ref b1), .val (.ref b8), .val (.ref b32), .val (.ref b58), .val (.ref b32), .val (.int (1 : Int32)), .val (.ref b8), .val .null, .val (.ref b8), .val (.int (1 : Int32))] []))
    refine GoW.step (fun _ k => XS.iloadN X192.here hx rfl (hb hby at_337) rfl  k) ?_
    show GoW _ _ _ _ _ _ _ (T192.setTop (mkF m 338 #[.val (.int qs), .val (.int qp), .val (.int (2 : Int32)), .val (.int (1 : Int32)), .val (.ref b1), .val (.ref b8), .val (.ref b32), .val (.ref b58), .val (.ref b32), .val (.int (1 : Int32)), .val (.ref b8), .val .null, .val (.ref b8), .val (.int (1 : Int32))] [(.int (2 : Int32))]))
    refine GoW.step (fun _ k => XS.iconst X192.here hx rfl (hb hby at_338) k) ?_
    show GoW _ _ _ _ _ _ _ (T192.setTop (mkF m 339 #[.val (.int qs), .val (.int qp), .val (.int (2 : Int32)), .val (.int (1 : Int32)), .val (.ref b1), .val (.ref b8), .val (.ref b32), .val (.ref b58), .val (.ref b32), .val (.int (1 : Int32)), .val (.ref b8), .val .null, .val (.ref b8), .val (.int (1 : Int32))] [(.int (3 : Int32)), (.int (2 : Int32))]))
    have hc339 : (2 : Int32) < (3 : Int32) := hc78
    refine GoW.step (fun _ k => XS.icmpNo X192.here hx rfl (hb hby at_339) rfl (tlt hc339).2.1 k) ?_
    show GoW _ _ _ _ _ _ _ (T192.setTop (mkF m 342 #[.val (.int qs), .val (.int qp), .val (.int (2 : Int32)), .val (.int (1 : Int32)), .val (.ref b1), .val (.ref b8), .val (.ref b32), .val (.ref b58), .val (.ref b32), .val (.int (1 : Int32)), .val (.ref b8), .val .null, .val (.ref b8), .val (.int (1 : Int32))] []))
    refine GoW.step (fun _ k => XS.iload X192.here hx rfl (hb hby at_342) rfl  k) ?_
    show GoW _ _ _ _ _ _ _ (T192.setTop (mkF m 344 #[.val (.int qs), .val (.int qp), .val (.int (2 : Int32)), .val (.int (1 : Int32)), .val (.ref b1), .val (.ref b8), .val (.ref b32), .val (.ref b58), .val (.ref b32), .val (.int (1 : Int32)), .val (.ref b8), .val .null, .val (.ref b8), .val (.int (1 : Int32))] [(.int (1 : Int32))]))
    have hc344 : ¬ ((1 : Int32) = (0 : Int32)) := hc254
    refine GoW.step (fun _ k => XS.ifNo X192.here hx rfl (hb hby at_344) rfl ((if0 _ _).trans (feq hc344).1) k) ?_
    show GoW _ _ _ _ _ _ _ (T192.setTop (mkF m 347 #[.val (.int qs), .val (.int qp), .val (.int (2 : Int32)), .val (.int (1 : Int32)), .val (.ref b1), .val (.ref b8), .val (.ref b32), .val (.ref b58), .val (.ref b32), .val (.int (1 : Int32)), .val (.ref b8), .val .null, .val (.ref b8), .val (.int (1 : Int32))] []))
    refine GoW.step (fun _ k => XS.aload X192.here hx rfl (hb hby at_347) rfl rfl  k) ?_
    show GoW _ _ _ _ _ _ _ (T192.setTop (mkF m 349 #[.val (.int qs), .val (.int qp), .val (.int (2 : Int32)), .val (.int (1 : Int32)), .val (.ref b1), .val (.ref b8), .val (.ref b32), .val (.ref b58), .val (.ref b32), .val (.int (1 : Int32)), .val (.ref b8), .val .null, .val (.ref b8), .val (.int (1 : Int32))] [(.ref b58)]))
    have f193 : Fld Z T181.heap b58 "com/example/steward/steward/runtime/Agent" "group" "Lcom/example/steward/steward/runtime/Group;" .null := (((c82_1.keep K169 (ninS (Ne.symm ne60) (ninS (Ne.symm ne62) nin0))).keep K177 (ninS (Ne.symm ne60) (ninS (Ne.symm ne63) (ninS (Ne.symm ne62) nin0)))).keep K181 (ninS (Ne.symm ne60) (ninS (Ne.symm ne63) (ninS (Ne.symm ne62) nin0))))
    obtain ⟨T194, X194, e194, st194⟩ := getF X192 hx hZ hown (host := "") (Or.inl (hw _ (List.mem_of_getElem? (i := 69) rfl))) Via.refl e192 f193 (g := (mkF m 349 #[.val (.int qs), .val (.int qp), .val (.int (2 : Int32)), .val (.int (1 : Int32)), .val (.ref b1), .val (.ref b8), .val (.ref b32), .val (.ref b58), .val (.ref b32), .val (.int (1 : Int32)), .val (.ref b8), .val .null, .val (.ref b8), .val (.int (1 : Int32))] [(.ref b58)])) rfl rfl (hb hby at_349)
    refine GoW.step st194 ?_
    show GoW _ _ _ _ _ _ _ (T194.setTop (mkF m 352 #[.val (.int qs), .val (.int qp), .val (.int (2 : Int32)), .val (.int (1 : Int32)), .val (.ref b1), .val (.ref b8), .val (.ref b32), .val (.ref b58), .val (.ref b32), .val (.int (1 : Int32)), .val (.ref b8), .val .null, .val (.ref b8), .val (.int (1 : Int32))] [.null]))
    refine GoW.step (fun _ k => XS.ifnonnullNo X194.here hx rfl (hb hby at_352) rfl k) ?_
    show GoW _ _ _ _ _ _ _ (T194.setTop (mkF m 355 #[.val (.int qs), .val (.int qp), .val (.int (2 : Int32)), .val (.int (1 : Int32)), .val (.ref b1), .val (.ref b8), .val (.ref b32), .val (.ref b58), .val (.ref b32), .val (.int (1 : Int32)), .val (.ref b8), .val .null, .val (.ref b8), .val (.int (1 : Int32))] []))
    refine GoW.step (fun _ k => XS.aload X194.here hx rfl (hb hby at_355) rfl rfl  k) ?_
    show GoW _ _ _ _ _ _ _ (T194.setTop (mkF m 357 #[.val (.int qs), .val (.int qp), .val (.int (2 : Int32)), .val (.int (1 : Int32)), .val (.ref b1), .val (.ref b8), .val (.ref b32), .val (.ref b58), .val (.ref b32), .val (.int (1 : Int32)), .val (.ref b8), .val .null, .val (.ref b8), .val (.int (1 : Int32))] [(.ref b58)]))
    have f195 : Fld Z T181.heap b58 "com/example/steward/steward/runtime/Agent" "ahead" "Lcom/example/steward/steward/runtime/Agent;" .null := (((c82_2.keep K169 (ninS (Ne.symm ne60) (ninS (Ne.symm ne62) nin0))).keep K177 (ninS (Ne.symm ne60) (ninS (Ne.symm ne63) (ninS (Ne.symm ne62) nin0)))).keep K181 (ninS (Ne.symm ne60) (ninS (Ne.symm ne63) (ninS (Ne.symm ne62) nin0))))
    obtain ⟨T196, X196, e196, st196⟩ := getF X194 hx hZ hown (host := "") (Or.inl (hw _ (List.mem_of_getElem? (i := 70) rfl))) Via.refl e194 f195 (g := (mkF m 357 #[.val (.int qs), .val (.int qp), .val (.int (2 : Int32)), .val (.int (1 : Int32)), .val (.ref b1), .val (.ref b8), .val (.ref b32), .val (.ref b58), .val (.ref b32), .val (.int (1 : Int32)), .val (.ref b8), .val .null, .val (.ref b8), .val (.int (1 : Int32))] [(.ref b58)])) rfl rfl (hb hby at_357)
    refine GoW.step st196 ?_
    show GoW _ _ _ _ _ _ _ (T196.setTop (mkF m 360 #[.val (.int qs), .val (.int qp), .val (.int (2 : Int32)), .val (.int (1 : Int32)), .val (.ref b1), .val (.ref b8), .val (.ref b32), .val (.ref b58), .val (.ref b32), .val (.int (1 : Int32)), .val (.ref b8), .val .null, .val (.ref b8), .val (.int (1 : Int32))] [.null]))
    refine GoW.step (fun _ k => XS.ifnonnullNo X196.here hx rfl (hb hby at_360) rfl k) ?_
    show GoW _ _ _ _ _ _ _ (T196.setTop (mkF m 363 #[.val (.int qs), .val (.int qp), .val (.int (2 : Int32)), .val (.int (1 : Int32)), .val (.ref b1), .val (.ref b8), .val (.ref b32), .val (.ref b58), .val (.ref b32), .val (.int (1 : Int32)), .val (.ref b8), .val .null, .val (.ref b8), .val (.int (1 : Int32))] []))
    refine GoW.step (fun _ k => XS.aload X196.here hx rfl (hb hby at_363) rfl rfl  k) ?_
    show GoW _ _ _ _ _ _ _ (T196.setTop (mkF m 365 #[.val (.int qs), .val (.int qp), .val (.int (2 : Int32)), .val (.int (1 : Int32)), .val (.ref b1), .val (.ref b8), .val (.ref b32), .val (.ref b58), .val (.ref b32), .val (.int (1 : Int32)), .val (.ref b8), .val .null, .val (.ref b8), .val (.int (1 : Int32))] [(.ref b58)]))
    have f197 : Fld Z T181.heap b58 "com/example/steward/steward/runtime/Agent" "behind" "Lcom/example/steward/steward/runtime/Agent;" .null := (((c82_3.keep K169 (ninS (Ne.symm ne60) (ninS (Ne.symm ne62) nin0))).keep K177 (ninS (Ne.symm ne60) (ninS (Ne.symm ne63) (ninS (Ne.symm ne62) nin0)))).keep K181 (ninS (Ne.symm ne60) (ninS (Ne.symm ne63) (ninS (Ne.symm ne62) nin0))))
    obtain ⟨T198, X198, e198, st198⟩ := getF X196 hx hZ hown (host := "") (Or.inl (hw _ (List.mem_of_getElem? (i := 71) rfl))) Via.refl e196 f197 (g := (mkF m 365 #[.val (.int qs), .val (.int qp), .val (.int (2 : Int32)), .val (.int (1 : Int32)), .val (.ref b1), .val (.ref b8), .val (.ref b32), .val (.ref b58), .val (.ref b32), .val (.int (1 : Int32)), .val (.ref b8), .val .null, .val (.ref b8), .val (.int (1 : Int32))] [(.ref b58)])) rfl rfl (hb hby at_365)
    refine GoW.step st198 ?_
    show GoW _ _ _ _ _ _ _ (T198.setTop (mkF m 368 #[.val (.int qs), .val (.int qp), .val (.int (2 : Int32)), .val (.int (1 : Int32)), .val (.ref b1), .val (.ref b8), .val (.ref b32), .val (.ref b58), .val (.ref b32), .val (.int (1 : Int32)), .val (.ref b8), .val .null, .val (.ref b8), .val (.int (1 : Int32))] [.null]))
    refine GoW.step (fun _ k => XS.ifnonnullNo X198.here hx rfl (hb hby at_368) rfl k) ?_
    show GoW _ _ _ _ _ _ _ (T198.setTop (mkF m 371 #[.val (.int qs), .val (.int qp), .val (.int (2 : Int32)), .val (.int (1 : Int32)), .val (.ref b1), .val (.ref b8), .val (.ref b32), .val (.ref b58), .val (.ref b32), .val (.int (1 : Int32)), .val (.ref b8), .val .null, .val (.ref b8), .val (.int (1 : Int32))] []))
    refine GoW.step (fun _ k => XS.iconst X198.here hx rfl (hb hby at_371) k) ?_
    show GoW _ _ _ _ _ _ _ (T198.setTop (mkF m 372 #[.val (.int qs), .val (.int qp), .val (.int (2 : Int32)), .val (.int (1 : Int32)), .val (.ref b1), .val (.ref b8), .val (.ref b32), .val (.ref b58), .val (.ref b32), .val (.int (1 : Int32)), .val (.ref b8), .val .null, .val (.ref b8), .val (.int (1 : Int32))] [(.int (1 : Int32))]))
    refine GoW.step (fun _ k => XS.goto X198.here hx rfl (pc0 := 372) (pc' := 376) rfl (hb hby at_372) (by decide) (by decide) k) ?_
    show GoW _ _ _ _ _ _ _ (T198.setTop (mkF m 376 #[.val (.int qs), .val (.int qp), .val (.int (2 : Int32)), .val (.int (1 : Int32)), .val (.ref b1), .val (.ref b8), .val (.ref b32), .val (.ref b58), .val (.ref b32), .val (.int (1 : Int32)), .val (.ref b8), .val .null, .val (.ref b8), .val (.int (1 : Int32))] [(.int (1 : Int32))]))
    refine GoW.step (fun _ k => XS.istore X198.here hx rfl (hb hby at_376) rfl (l' := #[.val (.int qs), .val (.int qp), .val (.int (2 : Int32)), .val (.int (1 : Int32)), .val (.ref b1), .val (.ref b8), .val (.ref b32), .val (.ref b58), .val (.ref b32), .val (.int (1 : Int32)), .val (.ref b8), .val .null, .val (.ref b8), .val (.int (1 : Int32))]) rfl k) ?_
    show GoW _ _ _ _ _ _ _ (T198.setTop (mkF m 378 #[.val (.int qs), .val (.int qp), .val (.int (2 : Int32)), .val (.int (1 : Int32)), .val (.ref b1), .val (.ref b8), .val (.ref b32), .val (.ref b58), .val (.ref b32), .val (.int (1 : Int32)), .val (.ref b8), .val .null, .val (.ref b8), .val (.int (1 : Int32))] []))
    refine GoW.step (fun _ k => XS.aload X198.here hx rfl (hb hby at_378) rfl rfl  k) ?_
    show GoW _ _ _ _ _ _ _ (T198.setTop (mkF m 380 #[.val (.int qs), .val (.int qp), .val (.int (2 : Int32)), .val (.int (1 : Int32)), .val (.ref b1), .val (.ref b8), .val (.ref b32), .val (.ref b58), .val (.ref b32), .val (.int (1 : Int32)), .val (.ref b8), .val .null, .val (.ref b8), .val (.int (1 : Int32))] [(.ref b1)]))
    refine GoW.step (fun _ k => XS.aload X198.here hx rfl (hb hby at_380) rfl rfl  k) ?_
    show GoW _ _ _ _ _ _ _ (T198.setTop (mkF m 382 #[.val (.int qs), .val (.int qp), .val (.int (2 : Int32)), .val (.int (1 : Int32)), .val (.ref b1), .val (.ref b8), .val (.ref b32), .val (.ref b58), .val (.ref b32), .val (.int (1 : Int32)), .val (.ref b8), .val .null, .val (.ref b8), .val (.int (1 : Int32))] [(.ref b32), (.ref b1)]))
    obtain ⟨cq199, kq199, q199a, q199b, q199c⟩ := isOf hZ e198 c181_0
    obtain ⟨_, _, ⟨T199, L199, k199, n199⟩, -, X199, ⟨Lc199, hQ199, l199, y199, z199⟩, st199⟩ := X198.virtualBack hx (y := (⟨"com/example/steward/steward/runtime/Group", "add", "(Lcom/example/steward/steward/runtime/Agent;)V"⟩ : MethodName)) (z := (⟨"com/example/steward/steward/runtime/Group", "add", "(Lcom/example/steward/steward/runtime/Agent;)V"⟩ : MethodName)) hown (mvT hZ (hw _ (List.mem_of_getElem? (i := 49) rfl))) (mvT hZ (hw _ (List.mem_of_getElem? (i := 50) rfl))) (notFace_of_selects (args := #[]) (mvT hZ (hw _ (List.mem_of_getElem? (i := 52) rfl)))) (mvT hZ (hw _ (List.mem_of_getElem? (i := 52) rfl))) (mvT hZ (hw _ (List.mem_of_getElem? (i := 51) rfl))) (by decide) (backOf (W := 0) (rmadd1 l Z aZ hw [] b1 b32 Value.null Value.null Value.null (Value.ref b8) b8 Value.null (Value.ref b1) Value.null T181.heap n0 z182 c181_0 c181_1 c181_2 c181_3 c181_4 c181_9 c181_10 c181_5 c181_6 c181_7 c181_8 (Ne.symm ne35) gn1 gn32 gn8) hZ (hw _ (List.mem_of_getElem? (i := 53) rfl)) (hw _ (List.mem_of_getElem? (i := 3) rfl)) (by decide) (by decide)) q199a q199c (g := (mkF m 382 #[.val (.int qs), .val (.int qp), .val (.int (2 : Int32)), .val (.int (1 : Int32)), .val (.ref b1), .val (.ref b8), .val (.ref b32), .val (.ref b58), .val (.ref b32), .val (.int (1 : Int32)), .val (.ref b8), .val .null, .val (.ref b8), .val (.int (1 : Int32))] [(.ref b32), (.ref b1)])) rfl (by rw [hml]; rfl) (Steps.refl _) (argsL := [(.ref b32)]) (rest := []) (lenOf pd_3 rfl) rfl (by show 2 * 0 + _ ≤ _; exact Nat.le_of_eq rfl) (hb hby at_382) (fun _ _ => ⟨rfl, e198, (by decide : 16 + 0 ≤ _), (by decide : 74 + 0 ≤ _)⟩)
    dsimp only [Pt.U, Pt.locs, Pt.cells, Pt.slots] at X199 l199 y199 z199 st199 hQ199
    subst l199 y199 z199
    obtain ⟨rfl, Nq199, K199, c199_0, c199_1, c199_2, c199_3, c199_4, c199_5, c199_6, c199_7, c199_8, c199_9, c199_10⟩ := hQ199
    have N199 := Fr.app N189 Nq199
    refine GoW.tr st199 ?_
    have z200 : n0 ≤ T199.heap.size := Nat.le_trans z182 K199.1
    have sqz200 : h0.size ≤ T199.heap.size := Nat.le_trans sqz182 K199.1
    have hk202 := Nat.le_trans hk184 K199.1
    show GoW _ _ _ _ _ _ _ (T199.setTop (mkF m 385 #[.val (.int qs), .val (.int qp), .val (.int (2 : Int32)), .val (.int (1 : Int32)), .val (.ref b1), .val (.ref b8), .val (.ref b32), .val (.ref b58), .val (.ref b32), .val (.int (1 : Int32)), .val (.ref b8), .val .null, .val (.ref b8), .val (.int (1 : Int32))] []))
    refine GoW.step (fun _ k => XS.iload X199.here hx rfl (hb hby at_385) rfl  k) ?_
    show GoW _ _ _ _ _ _ _ (T199.setTop (mkF m 387 #[.val (.int qs), .val (.int qp), .val (.int (2 : Int32)), .val (.int (1 : Int32)), .val (.ref b1), .val (.ref b8), .val (.ref b32), .val (.ref b58), .val (.ref b32), .val (.int (1 : Int32)), .val (.ref b8), .val .null, .val (.ref b8), .val (.int (1 : Int32))] [(.int (1 : Int32))]))
    have hc387 : ¬ ((1 : Int32) = (0 : Int32)) := hc344
    refine GoW.step (fun _ k => XS.ifNo X199.here hx rfl (hb hby at_387) rfl ((if0 _ _).trans (feq hc387).1) k) ?_
    show GoW _ _ _ _ _ _ _ (T199.setTop (mkF m 390 #[.val (.int qs), .val (.int qp), .val (.int (2 : Int32)), .val (.int (1 : Int32)), .val (.ref b1), .val (.ref b8), .val (.ref b32), .val (.ref b58), .val (.ref b32), .val (.int (1 : Int32)), .val (.ref b8), .val .null, .val (.ref b8), .val (.int (1 : Int32))] []))
    refine GoW.step (fun _ k => XS.aload X199.here hx rfl (hb hby at_390) rfl rfl  k) ?_
    show GoW _ _ _ _ _ _ _ (T199.setTop (mkF m 392 #[.val (.int qs), .val (.int qp), .val (.int (2 : Int32)), .val (.int (1 : Int32)), .val (.ref b1), .val (.ref b8), .val (.ref b32), .val (.ref b58), .val (.ref b32), .val (.int (1 : Int32)), .val (.ref b8), .val .null, .val (.ref b8), .val (.int (1 : Int32))] [(.ref b32)]))
    obtain ⟨T203, X203, e203, st203⟩ := getF X199 hx hZ hown (host := "") (Or.inl (hw _ (List.mem_of_getElem? (i := 70) rfl))) Via.refl rfl c199_4 (g := (mkF m 392 #[.val (.int qs), .val (.int qp), .val (.int (2 : Int32)), .val (.int (1 : Int32)), .val (.ref b1), .val (.ref b8), .val (.ref b32), .val (.ref b58), .val (.ref b32), .val (.int (1 : Int32)), .val (.ref b8), .val .null, .val (.ref b8), .val (.int (1 : Int32))] [(.ref b32)])) rfl rfl (hb hby at_392)
    refine GoW.step st203 ?_
    show GoW _ _ _ _ _ _ _ (T203.setTop (mkF m 395 #[.val (.int qs), .val (.int qp), .val (.int (2 : Int32)), .val (.int (1 : Int32)), .val (.ref b1), .val (.ref b8), .val (.ref b32), .val (.ref b58), .val (.ref b32), .val (.int (1 : Int32)), .val (.ref b8), .val .null, .val (.ref b8), .val (.int (1 : Int32))] [(.ref b8)]))
    refine GoW.step (fun _ k => XS.aload X203.here hx rfl (hb hby at_395) rfl rfl  k) ?_
    show GoW _ _ _ _ _ _ _ (T203.setTop (mkF m 397 #[.val (.int qs), .val (.int qp), .val (.int (2 : Int32)), .val (.int (1 : Int32)), .val (.ref b1), .val (.ref b8), .val (.ref b32), .val (.ref b58), .val (.ref b32), .val (.int (1 : Int32)), .val (.ref b8), .val .null, .val (.ref b8), .val (.int (1 : Int32))] [(.ref b8), (.ref b8)]))
    refine GoW.step (fun _ k => Jvm.RoadKit.acmp (g := (mkF m 397 #[.val (.int qs), .val (.int qp), .val (.int (2 : Int32)), .val (.int (1 : Int32)), .val (.ref b1), .val (.ref b8), .val (.ref b32), .val (.ref b58), .val (.ref b32), .val (.int (1 : Int32)), .val (.ref b8), .val .null, .val (.ref b8), .val (.int (1 : Int32))] [(.ref b8), (.ref b8)])) X203 hx rfl rfl rfl (pc0 := 397) (pc' := 400) (same := true) rfl (hb hby at_397) rfl (decide_eq_true rfl) (by decide) (by decide) k) ?_
    show GoW _ _ _ _ _ _ _ (T203.setTop (mkF m 400 #[.val (.int qs), .val (.int qp), .val (.int (2 : Int32)), .val (.int (1 : Int32)), .val (.ref b1), .val (.ref b8), .val (.ref b32), .val (.ref b58), .val (.ref b32), .val (.int (1 : Int32)), .val (.ref b8), .val .null, .val (.ref b8), .val (.int (1 : Int32))] []))
    refine GoW.step (fun _ k => XS.aload X203.here hx rfl (hb hby at_400) rfl rfl  k) ?_
    show GoW _ _ _ _ _ _ _ (T203.setTop (mkF m 402 #[.val (.int qs), .val (.int qp), .val (.int (2 : Int32)), .val (.int (1 : Int32)), .val (.ref b1), .val (.ref b8), .val (.ref b32), .val (.ref b58), .val (.ref b32), .val (.int (1 : Int32)), .val (.ref b8), .val .null, .val (.ref b8), .val (.int (1 : Int32))] [(.ref b32)]))
    obtain ⟨T204, X204, e204, st204⟩ := getF X203 hx hZ hown (host := "") (Or.inl (hw _ (List.mem_of_getElem? (i := 71) rfl))) Via.refl e203 c199_5 (g := (mkF m 402 #[.val (.int qs), .val (.int qp), .val (.int (2 : Int32)), .val (.int (1 : Int32)), .val (.ref b1), .val (.ref b8), .val (.ref b32), .val (.ref b58), .val (.ref b32), .val (.int (1 : Int32)), .val (.ref b8), .val .null, .val (.ref b8), .val (.int (1 : Int32))] [(.ref b32)])) rfl rfl (hb hby at_402)
    refine GoW.step st204 ?_
    show GoW _ _ _ _ _ _ _ (T204.setTop (mkF m 405 #[.val (.int qs), .val (.int qp), .val (.int (2 : Int32)), .val (.int (1 : Int32)), .val (.ref b1), .val (.ref b8), .val (.ref b32), .val (.ref b58), .val (.ref b32), .val (.int (1 : Int32)), .val (.ref b8), .val .null, .val (.ref b8), .val (.int (1 : Int32))] [.null]))
    refine GoW.step (fun _ k => XS.ifnonnullNo X204.here hx rfl (hb hby at_405) rfl k) ?_
    show GoW _ _ _ _ _ _ _ (T204.setTop (mkF m 408 #[.val (.int qs), .val (.int qp), .val (.int (2 : Int32)), .val (.int (1 : Int32)), .val (.ref b1), .val (.ref b8), .val (.ref b32), .val (.ref b58), .val (.ref b32), .val (.int (1 : Int32)), .val (.ref b8), .val .null, .val (.ref b8), .val (.int (1 : Int32))] []))
    refine GoW.step (fun _ k => XS.iconst X204.here hx rfl (hb hby at_408) k) ?_
    show GoW _ _ _ _ _ _ _ (T204.setTop (mkF m 409 #[.val (.int qs), .val (.int qp), .val (.int (2 : Int32)), .val (.int (1 : Int32)), .val (.ref b1), .val (.ref b8), .val (.ref b32), .val (.ref b58), .val (.ref b32), .val (.int (1 : Int32)), .val (.ref b8), .val .null, .val (.ref b8), .val (.int (1 : Int32))] [(.int (1 : Int32))]))
    refine GoW.step (fun _ k => XS.goto X204.here hx rfl (pc0 := 409) (pc' := 413) rfl (hb hby at_409) (by decide) (by decide) k) ?_
    show GoW _ _ _ _ _ _ _ (T204.setTop (mkF m 413 #[.val (.int qs), .val (.int qp), .val (.int (2 : Int32)), .val (.int (1 : Int32)), .val (.ref b1), .val (.ref b8), .val (.ref b32), .val (.ref b58), .val (.ref b32), .val (.int (1 : Int32)), .val (.ref b8), .val .null, .val (.ref b8), .val (.int (1 : Int32))] [(.int (1 : Int32))]))
    refine GoW.step (fun _ k => XS.istore X204.here hx rfl (hb hby at_413) rfl (l' := #[.val (.int qs), .val (.int qp), .val (.int (2 : Int32)), .val (.int (1 : Int32)), .val (.ref b1), .val (.ref b8), .val (.ref b32), .val (.ref b58), .val (.ref b32), .val (.int (1 : Int32)), .val (.ref b8), .val .null, .val (.ref b8), .val (.int (1 : Int32))]) rfl k) ?_
    show GoW _ _ _ _ _ _ _ (T204.setTop (mkF m 415 #[.val (.int qs), .val (.int qp), .val (.int (2 : Int32)), .val (.int (1 : Int32)), .val (.ref b1), .val (.ref b8), .val (.ref b32), .val (.ref b58), .val (.ref b32), .val (.int (1 : Int32)), .val (.ref b8), .val .null, .val (.ref b8), .val (.int (1 : Int32))] []))
    refine GoW.step (fun _ k => XS.aload X204.here hx rfl (hb hby at_415) rfl rfl  k) ?_
    show GoW _ _ _ _ _ _ _ (T204.setTop (mkF m 417 #[.val (.int qs), .val (.int qp), .val (.int (2 : Int32)), .val (.int (1 : Int32)), .val (.ref b1), .val (.ref b8), .val (.ref b32), .val (.ref b58), .val (.ref b32), .val (.int (1 : Int32)), .val (.ref b8), .val .null, .val (.ref b8), .val (.int (1 : Int32))] [(.ref b8)]))
    refine GoW.step (fun _ k => XS.ifnullNo X204.here hx rfl (hb hby at_417) rfl k) ?_
    show GoW _ _ _ _ _ _ _ (T204.setTop (mkF m 420 #[.val (.int qs), .val (.int qp), .val (.int (2 : Int32)), .val (.int (1 : Int32)), .val (.ref b1), .val (.ref b8), .val (.ref b32), .val (.ref b58), .val (.ref b32), .val (.int (1 : Int32)), .val (.ref b8), .val .null, .val (.ref b8), .val (.int (1 : Int32))] []))
    refine GoW.step (fun _ k => XS.iload X204.here hx rfl (hb hby at_420) rfl  k) ?_
    show GoW _ _ _ _ _ _ _ (T204.setTop (mkF m 422 #[.val (.int qs), .val (.int qp), .val (.int (2 : Int32)), .val (.int (1 : Int32)), .val (.ref b1), .val (.ref b8), .val (.ref b32), .val (.ref b58), .val (.ref b32), .val (.int (1 : Int32)), .val (.ref b8), .val .null, .val (.ref b8), .val (.int (1 : Int32))] [(.int (1 : Int32))]))
    have hc422 : ¬ ((1 : Int32) = (0 : Int32)) := hc387
    refine GoW.step (fun _ k => XS.ifNo X204.here hx rfl (hb hby at_422) rfl ((if0 _ _).trans (feq hc422).1) k) ?_
    show GoW _ _ _ _ _ _ _ (T204.setTop (mkF m 425 #[.val (.int qs), .val (.int qp), .val (.int (2 : Int32)), .val (.int (1 : Int32)), .val (.ref b1), .val (.ref b8), .val (.ref b32), .val (.ref b58), .val (.ref b32), .val (.int (1 : Int32)), .val (.ref b8), .val .null, .val (.ref b8), .val (.int (1 : Int32))] []))
    refine GoW.step (fun _ k => XS.aload X204.here hx rfl (hb hby at_425) rfl rfl  k) ?_
    show GoW _ _ _ _ _ _ _ (T204.setTop (mkF m 427 #[.val (.int qs), .val (.int qp), .val (.int (2 : Int32)), .val (.int (1 : Int32)), .val (.ref b1), .val (.ref b8), .val (.ref b32), .val (.ref b58), .val (.ref b32), .val (.int (1 : Int32)), .val (.ref b8), .val .null, .val (.ref b8), .val (.int (1 : Int32))] [(.ref b8)]))
    obtain ⟨T205, X205, e205, st205⟩ := getF X204 hx hZ hown (host := "") (Or.inl (hw _ (List.mem_of_getElem? (i := 71) rfl))) Via.refl e204 c199_6 (g := (mkF m 427 #[.val (.int qs), .val (.int qp), .val (.int (2 : Int32)), .val (.int (1 : Int32)), .val (.ref b1), .val (.ref b8), .val (.ref b32), .val (.ref b58), .val (.ref b32), .val (.int (1 : Int32)), .val (.ref b8), .val .null, .val (.ref b8), .val (.int (1 : Int32))] [(.ref b8)])) rfl rfl (hb hby at_427)
    refine GoW.step st205 ?_
    show GoW _ _ _ _ _ _ _ (T205.setTop (mkF m 430 #[.val (.int qs), .val (.int qp), .val (.int (2 : Int32)), .val (.int (1 : Int32)), .val (.ref b1), .val (.ref b8), .val (.ref b32), .val (.ref b58), .val (.ref b32), .val (.int (1 : Int32)), .val (.ref b8), .val .null, .val (.ref b8), .val (.int (1 : Int32))] [(.ref b32)]))
    refine GoW.step (fun _ k => XS.aload X205.here hx rfl (hb hby at_430) rfl rfl  k) ?_
    show GoW _ _ _ _ _ _ _ (T205.setTop (mkF m 432 #[.val (.int qs), .val (.int qp), .val (.int (2 : Int32)), .val (.int (1 : Int32)), .val (.ref b1), .val (.ref b8), .val (.ref b32), .val (.ref b58), .val (.ref b32), .val (.int (1 : Int32)), .val (.ref b8), .val .null, .val (.ref b8), .val (.int (1 : Int32))] [(.ref b32), (.ref b32)]))
    refine GoW.step (fun _ k => Jvm.RoadKit.acmp (g := (mkF m 432 #[.val (.int qs), .val (.int qp), .val (.int (2 : Int32)), .val (.int (1 : Int32)), .val (.ref b1), .val (.ref b8), .val (.ref b32), .val (.ref b58), .val (.ref b32), .val (.int (1 : Int32)), .val (.ref b8), .val .null, .val (.ref b8), .val (.int (1 : Int32))] [(.ref b32), (.ref b32)])) X205 hx rfl rfl rfl (pc0 := 432) (pc' := 435) (same := true) rfl (hb hby at_432) rfl (decide_eq_true rfl) (by decide) (by decide) k) ?_
    show GoW _ _ _ _ _ _ _ (T205.setTop (mkF m 435 #[.val (.int qs), .val (.int qp), .val (.int (2 : Int32)), .val (.int (1 : Int32)), .val (.ref b1), .val (.ref b8), .val (.ref b32), .val (.ref b58), .val (.ref b32), .val (.int (1 : Int32)), .val (.ref b8), .val .null, .val (.ref b8), .val (.int (1 : Int32))] []))
    refine GoW.step (fun _ k => XS.iconst X205.here hx rfl (hb hby at_435) k) ?_
    show GoW _ _ _ _ _ _ _ (T205.setTop (mkF m 436 #[.val (.int qs), .val (.int qp), .val (.int (2 : Int32)), .val (.int (1 : Int32)), .val (.ref b1), .val (.ref b8), .val (.ref b32), .val (.ref b58), .val (.ref b32), .val (.int (1 : Int32)), .val (.ref b8), .val .null, .val (.ref b8), .val (.int (1 : Int32))] [(.int (1 : Int32))]))
    refine GoW.step (fun _ k => XS.goto X205.here hx rfl (pc0 := 436) (pc' := 440) rfl (hb hby at_436) (by decide) (by decide) k) ?_
    show GoW _ _ _ _ _ _ _ (T205.setTop (mkF m 440 #[.val (.int qs), .val (.int qp), .val (.int (2 : Int32)), .val (.int (1 : Int32)), .val (.ref b1), .val (.ref b8), .val (.ref b32), .val (.ref b58), .val (.ref b32), .val (.int (1 : Int32)), .val (.ref b8), .val .null, .val (.ref b8), .val (.int (1 : Int32))] [(.int (1 : Int32))]))
    refine GoW.step (fun _ k => XS.istore X205.here hx rfl (hb hby at_440) rfl (l' := #[.val (.int qs), .val (.int qp), .val (.int (2 : Int32)), .val (.int (1 : Int32)), .val (.ref b1), .val (.ref b8), .val (.ref b32), .val (.ref b58), .val (.ref b32), .val (.int (1 : Int32)), .val (.ref b8), .val .null, .val (.ref b8), .val (.int (1 : Int32))]) rfl k) ?_
    show GoW _ _ _ _ _ _ _ (T205.setTop (mkF m 442 #[.val (.int qs), .val (.int qp), .val (.int (2 : Int32)), .val (.int (1 : Int32)), .val (.ref b1), .val (.ref b8), .val (.ref b32), .val (.ref b58), .val (.ref b32), .val (.int (1 : Int32)), .val (.ref b8), .val .null, .val (.ref b8), .val (.int (1 : Int32))] []))
    refine GoW.step (fun _ k => XS.iload X205.here hx rfl (hb hby at_442) rfl  k) ?_
    show GoW _ _ _ _ _ _ _ (T205.setTop (mkF m 444 #[.val (.int qs), .val (.int qp), .val (.int (2 : Int32)), .val (.int (1 : Int32)), .val (.ref b1), .val (.ref b8), .val (.ref b32), .val (.ref b58), .val (.ref b32), .val (.int (1 : Int32)), .val (.ref b8), .val .null, .val (.ref b8), .val (.int (1 : Int32))] [(.int (1 : Int32))]))
    refine GoW.retN X205 hS72 (by rw [e205]; exact hk202) hx (t := .boolean) Bd.returns (by simp) hlk (hb hby at_444) ?_ (by decide) (by decide)
    rw [e205]
    exact ⟨(by first | rfl | (simp_all [own_nb1, own_nb0]; done)), N199⟩
  · skip
    subst h1 h2
    show GoW _ _ _ _ _ _ _ (T82.setTop (mkF m 57 #[.val (.int qs), .val (.int qp), .val (.int (3 : Int32)), .val (.int (0 : Int32)), .val (.ref b1), .val (.ref b8), .val (.ref b32), .val (.ref b58), .unset, .unset, .unset, .unset, .unset, .unset] []))
    refine GoW.step (fun _ k => XS.aload X82.here hx rfl (hb hby at_57) rfl rfl  k) ?_
    show GoW _ _ _ _ _ _ _ (T82.setTop (mkF m 59 #[.val (.int qs), .val (.int qp), .val (.int (3 : Int32)), .val (.int (0 : Int32)), .val (.ref b1), .val (.ref b8), .val (.ref b32), .val (.ref b58), .unset, .unset, .unset, .unset, .unset, .unset] [(.ref b1)]))
    refine GoW.step (fun _ k => XS.aload X82.here hx rfl (hb hby at_59) rfl rfl  k) ?_
    show GoW _ _ _ _ _ _ _ (T82.setTop (mkF m 61 #[.val (.int qs), .val (.int qp), .val (.int (3 : Int32)), .val (.int (0 : Int32)), .val (.ref b1), .val (.ref b8), .val (.ref b32), .val (.ref b58), .unset, .unset, .unset, .unset, .unset, .unset] [(.ref b8), (.ref b1)]))
    have f206 : Exa Z T82.heap b1 "com/example/steward/steward/runtime/Group" := (((f59.ext E58).ext E72).keep K82)
    have f207 : Exa Z T82.heap b8 "com/example/steward/steward/runtime/Agent" := (((f61.ext E58).ext E72).keep K82)
    have f208 : Fld Z T82.heap b8 "com/example/steward/steward/runtime/Agent" "group" "Lcom/example/steward/steward/runtime/Group;" .null := ((((((c28_1.ext E32).ext E44).keep K54 (ninS ne35 nin0)).ext E58).ext E72).keep K82 (ninS ne62 nin0))
    have f209 : Fld Z T82.heap b8 "com/example/steward/steward/runtime/Agent" "ahead" "Lcom/example/steward/steward/runtime/Agent;" .null := ((((((c28_2.ext E32).ext E44).keep K54 (ninS ne35 nin0)).ext E58).ext E72).keep K82 (ninS ne62 nin0))
    have f210 : Fld Z T82.heap b8 "com/example/steward/steward/runtime/Agent" "behind" "Lcom/example/steward/steward/runtime/Agent;" .null := ((((((c28_3.ext E32).ext E44).keep K54 (ninS ne35 nin0)).ext E58).ext E72).keep K82 (ninS ne62 nin0))
    have f211 : Fld Z T82.heap b1 "com/example/steward/steward/runtime/Group" "first" "Lcom/example/steward/steward/runtime/Agent;" .null := (((((((((f6.ext E8).ext E18).keep K28 (ninS ne9 nin0)).ext E32).ext E44).keep K54 (ninS ne34 nin0)).ext E58).ext E72).keep K82 (ninS ne60 nin0))
    have f212 : Fld Z T82.heap b1 "com/example/steward/steward/runtime/Group" "last" "Lcom/example/steward/steward/runtime/Agent;" .null := (((((((((f5.ext E8).ext E18).keep K28 (ninS ne9 nin0)).ext E32).ext E44).keep K54 (ninS ne34 nin0)).ext E58).ext E72).keep K82 (ninS ne60 nin0))
    obtain ⟨cq213, kq213, q213a, q213b, q213c⟩ := isOf hZ rfl f206
    obtain ⟨_, _, ⟨T213, L213, k213, n213⟩, -, X213, ⟨Lc213, hQ213, l213, y213, z213⟩, st213⟩ := X82.virtualBack hx (y := (⟨"com/example/steward/steward/runtime/Group", "add", "(Lcom/example/steward/steward/runtime/Agent;)V"⟩ : MethodName)) (z := (⟨"com/example/steward/steward/runtime/Group", "add", "(Lcom/example/steward/steward/runtime/Agent;)V"⟩ : MethodName)) hown (mvT hZ (hw _ (List.mem_of_getElem? (i := 49) rfl))) (mvT hZ (hw _ (List.mem_of_getElem? (i := 50) rfl))) (notFace_of_selects (args := #[]) (mvT hZ (hw _ (List.mem_of_getElem? (i := 52) rfl)))) (mvT hZ (hw _ (List.mem_of_getElem? (i := 52) rfl))) (mvT hZ (hw _ (List.mem_of_getElem? (i := 51) rfl))) (by decide) (backOf (W := 0) (rmadd0 l Z aZ hw [] b1 b8 Value.null Value.null Value.null Value.null T82.heap n0 z83 f206 f207 f208 f209 f210 f211 f212 gn1 gn8) hZ (hw _ (List.mem_of_getElem? (i := 53) rfl)) (hw _ (List.mem_of_getElem? (i := 3) rfl)) (by decide) (by decide)) q213a q213c (g := (mkF m 61 #[.val (.int qs), .val (.int qp), .val (.int (3 : Int32)), .val (.int (0 : Int32)), .val (.ref b1), .val (.ref b8), .val (.ref b32), .val (.ref b58), .unset, .unset, .unset, .unset, .unset, .unset] [(.ref b8), (.ref b1)])) rfl (by rw [hml]; rfl) (Steps.refl _) (argsL := [(.ref b8)]) (rest := []) (lenOf pd_3 rfl) rfl (by show 2 * 0 + _ ≤ _; exact Nat.le_of_eq rfl) (hb hby at_61) (fun _ _ => ⟨rfl, rfl, (by decide : 16 + 0 ≤ _), (by decide : 74 + 0 ≤ _)⟩)
    dsimp only [Pt.U, Pt.locs, Pt.cells, Pt.slots] at X213 l213 y213 z213 st213 hQ213
    subst l213 y213 z213
    obtain ⟨rfl, Nq213, K213, c213_0, c213_1, c213_2, c213_3, c213_4, c213_5, c213_6⟩ := hQ213
    have N213 := Fr.app N82 Nq213
    refine GoW.tr st213 ?_
    have z214 : n0 ≤ T213.heap.size := Nat.le_trans z83 K213.1
    have sqz214 : h0.size ≤ T213.heap.size := Nat.le_trans sqz83 K213.1
    have hk216 := Nat.le_trans hk85 K213.1
    show GoW _ _ _ _ _ _ _ (T213.setTop (mkF m 64 #[.val (.int qs), .val (.int qp), .val (.int (3 : Int32)), .val (.int (0 : Int32)), .val (.ref b1), .val (.ref b8), .val (.ref b32), .val (.ref b58), .unset, .unset, .unset, .unset, .unset, .unset] []))
    refine GoW.step (fun _ k => XS.iloadN X213.here hx rfl (hb hby at_64) rfl  k) ?_
    show GoW _ _ _ _ _ _ _ (T213.setTop (mkF m 65 #[.val (.int qs), .val (.int qp), .val (.int (3 : Int32)), .val (.int (0 : Int32)), .val (.ref b1), .val (.ref b8), .val (.ref b32), .val (.ref b58), .unset, .unset, .unset, .unset, .unset, .unset] [(.int (3 : Int32))]))
    refine GoW.step (fun _ k => XS.iconst X213.here hx rfl (hb hby at_65) k) ?_
    show GoW _ _ _ _ _ _ _ (T213.setTop (mkF m 66 #[.val (.int qs), .val (.int qp), .val (.int (3 : Int32)), .val (.int (0 : Int32)), .val (.ref b1), .val (.ref b8), .val (.ref b32), .val (.ref b58), .unset, .unset, .unset, .unset, .unset, .unset] [(.int (2 : Int32)), (.int (3 : Int32))]))
    have hc66 : ¬ ((3 : Int32) < (2 : Int32)) := by decide
    refine GoW.step (fun _ k => XS.icmpNo X213.here hx rfl (hb hby at_66) rfl (flt hc66).1 k) ?_
    show GoW _ _ _ _ _ _ _ (T213.setTop (mkF m 69 #[.val (.int qs), .val (.int qp), .val (.int (3 : Int32)), .val (.int (0 : Int32)), .val (.ref b1), .val (.ref b8), .val (.ref b32), .val (.ref b58), .unset, .unset, .unset, .unset, .unset, .unset] []))
    refine GoW.step (fun _ k => XS.aload X213.here hx rfl (hb hby at_69) rfl rfl  k) ?_
    show GoW _ _ _ _ _ _ _ (T213.setTop (mkF m 71 #[.val (.int qs), .val (.int qp), .val (.int (3 : Int32)), .val (.int (0 : Int32)), .val (.ref b1), .val (.ref b8), .val (.ref b32), .val (.ref b58), .unset, .unset, .unset, .unset, .unset, .unset] [(.ref b1)]))
    refine GoW.step (fun _ k => XS.aload X213.here hx rfl (hb hby at_71) rfl rfl  k) ?_
    show GoW _ _ _ _ _ _ _ (T213.setTop (mkF m 73 #[.val (.int qs), .val (.int qp), .val (.int (3 : Int32)), .val (.int (0 : Int32)), .val (.ref b1), .val (.ref b8), .val (.ref b32), .val (.ref b58), .unset, .unset, .unset, .unset, .unset, .unset] [(.ref b32), (.ref b1)]))
    have f217 : Exa Z T213.heap b32 "com/example/steward/steward/runtime/Agent" := ((((c54_0.ext E58).ext E72).keep K82).keep K213)
    have f218 : Fld Z T213.heap b32 "com/example/steward/steward/runtime/Agent" "group" "Lcom/example/steward/steward/runtime/Group;" .null := ((((c54_1.ext E58).ext E72).keep K82 (ninS ne63 nin0)).keep K213 (ninS (Ne.symm ne34) (ninS (Ne.symm ne35) nin0)))
    have f219 : Fld Z T213.heap b32 "com/example/steward/steward/runtime/Agent" "ahead" "Lcom/example/steward/steward/runtime/Agent;" .null := ((((c54_2.ext E58).ext E72).keep K82 (ninS ne63 nin0)).keep K213 (ninS (Ne.symm ne34) (ninS (Ne.symm ne35) nin0)))
    have f220 : Fld Z T213.heap b32 "com/example/steward/steward/runtime/Agent" "behind" "Lcom/example/steward/steward/runtime/Agent;" .null := ((((c54_3.ext E58).ext E72).keep K82 (ninS ne63 nin0)).keep K213 (ninS (Ne.symm ne34) (ninS (Ne.symm ne35) nin0)))
    obtain ⟨cq221, kq221, q221a, q221b, q221c⟩ := isOf hZ rfl c213_0
    obtain ⟨_, _, ⟨T221, L221, k221, n221⟩, -, X221, ⟨Lc221, hQ221, l221, y221, z221⟩, st221⟩ := X213.virtualBack hx (y := (⟨"com/example/steward/steward/runtime/Group", "add", "(Lcom/example/steward/steward/runtime/Agent;)V"⟩ : MethodName)) (z := (⟨"com/example/steward/steward/runtime/Group", "add", "(Lcom/example/steward/steward/runtime/Agent;)V"⟩ : MethodName)) hown (mvT hZ (hw _ (List.mem_of_getElem? (i := 49) rfl))) (mvT hZ (hw _ (List.mem_of_getElem? (i := 50) rfl))) (notFace_of_selects (args := #[]) (mvT hZ (hw _ (List.mem_of_getElem? (i := 52) rfl)))) (mvT hZ (hw _ (List.mem_of_getElem? (i := 52) rfl))) (mvT hZ (hw _ (List.mem_of_getElem? (i := 51) rfl))) (by decide) (backOf (W := 0) (rmadd1 l Z aZ hw [] b1 b32 Value.null Value.null Value.null (Value.ref b8) b8 Value.null (Value.ref b1) Value.null T213.heap n0 z214 c213_0 f217 f218 f219 f220 c213_5 c213_6 c213_1 c213_4 c213_2 c213_3 (Ne.symm ne35) gn1 gn32 gn8) hZ (hw _ (List.mem_of_getElem? (i := 53) rfl)) (hw _ (List.mem_of_getElem? (i := 3) rfl)) (by decide) (by decide)) q221a q221c (g := (mkF m 73 #[.val (.int qs), .val (.int qp), .val (.int (3 : Int32)), .val (.int (0 : Int32)), .val (.ref b1), .val (.ref b8), .val (.ref b32), .val (.ref b58), .unset, .unset, .unset, .unset, .unset, .unset] [(.ref b32), (.ref b1)])) rfl (by rw [hml]; rfl) (Steps.refl _) (argsL := [(.ref b32)]) (rest := []) (lenOf pd_3 rfl) rfl (by show 2 * 0 + _ ≤ _; exact Nat.le_of_eq rfl) (hb hby at_73) (fun _ _ => ⟨rfl, rfl, (by decide : 16 + 0 ≤ _), (by decide : 74 + 0 ≤ _)⟩)
    dsimp only [Pt.U, Pt.locs, Pt.cells, Pt.slots] at X221 l221 y221 z221 st221 hQ221
    subst l221 y221 z221
    obtain ⟨rfl, Nq221, K221, c221_0, c221_1, c221_2, c221_3, c221_4, c221_5, c221_6, c221_7, c221_8, c221_9, c221_10⟩ := hQ221
    have N221 := Fr.app N213 Nq221
    refine GoW.tr st221 ?_
    have z222 : n0 ≤ T221.heap.size := Nat.le_trans z214 K221.1
    have sqz222 : h0.size ≤ T221.heap.size := Nat.le_trans sqz214 K221.1
    have hk224 := Nat.le_trans hk216 K221.1
    show GoW _ _ _ _ _ _ _ (T221.setTop (mkF m 76 #[.val (.int qs), .val (.int qp), .val (.int (3 : Int32)), .val (.int (0 : Int32)), .val (.ref b1), .val (.ref b8), .val (.ref b32), .val (.ref b58), .unset, .unset, .unset, .unset, .unset, .unset] []))
    refine GoW.step (fun _ k => XS.iloadN X221.here hx rfl (hb hby at_76) rfl  k) ?_
    show GoW _ _ _ _ _ _ _ (T221.setTop (mkF m 77 #[.val (.int qs), .val (.int qp), .val (.int (3 : Int32)), .val (.int (0 : Int32)), .val (.ref b1), .val (.ref b8), .val (.ref b32), .val (.ref b58), .unset, .unset, .unset, .unset, .unset, .unset] [(.int (3 : Int32))]))
    refine GoW.step (fun _ k => XS.iconst X221.here hx rfl (hb hby at_77) k) ?_
    show GoW _ _ _ _ _ _ _ (T221.setTop (mkF m 78 #[.val (.int qs), .val (.int qp), .val (.int (3 : Int32)), .val (.int (0 : Int32)), .val (.ref b1), .val (.ref b8), .val (.ref b32), .val (.ref b58), .unset, .unset, .unset, .unset, .unset, .unset] [(.int (3 : Int32)), (.int (3 : Int32))]))
    have hc78 : ¬ ((3 : Int32) < (3 : Int32)) := by decide
    refine GoW.step (fun _ k => XS.icmpNo X221.here hx rfl (hb hby at_78) rfl (flt hc78).1 k) ?_
    show GoW _ _ _ _ _ _ _ (T221.setTop (mkF m 81 #[.val (.int qs), .val (.int qp), .val (.int (3 : Int32)), .val (.int (0 : Int32)), .val (.ref b1), .val (.ref b8), .val (.ref b32), .val (.ref b58), .unset, .unset, .unset, .unset, .unset, .unset] []))
    refine GoW.step (fun _ k => XS.aload X221.here hx rfl (hb hby at_81) rfl rfl  k) ?_
    show GoW _ _ _ _ _ _ _ (T221.setTop (mkF m 83 #[.val (.int qs), .val (.int qp), .val (.int (3 : Int32)), .val (.int (0 : Int32)), .val (.ref b1), .val (.ref b8), .val (.ref b32), .val (.ref b58), .unset, .unset, .unset, .unset, .unset, .unset] [(.ref b1)]))
    refine GoW.step (fun _ k => XS.aload X221.here hx rfl (hb hby at_83) rfl rfl  k) ?_
    show GoW _ _ _ _ _ _ _ (T221.setTop (mkF m 85 #[.val (.int qs), .val (.int qp), .val (.int (3 : Int32)), .val (.int (0 : Int32)), .val (.ref b1), .val (.ref b8), .val (.ref b32), .val (.ref b58), .unset, .unset, .unset, .unset, .unset, .unset] [(.ref b58), (.ref b1)]))
    have f225 : Exa Z T221.heap b58 "com/example/steward/steward/runtime/Agent" := ((c82_0.keep K213).keep K221)
    have f226 : Fld Z T221.heap b58 "com/example/steward/steward/runtime/Agent" "group" "Lcom/example/steward/steward/runtime/Group;" .null := ((c82_1.keep K213 (ninS (Ne.symm ne60) (ninS (Ne.symm ne62) nin0))).keep K221 (ninS (Ne.symm ne60) (ninS (Ne.symm ne63) (ninS (Ne.symm ne62) nin0))))
    have f227 : Fld Z T221.heap b58 "com/example/steward/steward/runtime/Agent" "ahead" "Lcom/example/steward/steward/runtime/Agent;" .null := ((c82_2.keep K213 (ninS (Ne.symm ne60) (ninS (Ne.symm ne62) nin0))).keep K221 (ninS (Ne.symm ne60) (ninS (Ne.symm ne63) (ninS (Ne.symm ne62) nin0))))
    have f228 : Fld Z T221.heap b58 "com/example/steward/steward/runtime/Agent" "behind" "Lcom/example/steward/steward/runtime/Agent;" .null := ((c82_3.keep K213 (ninS (Ne.symm ne60) (ninS (Ne.symm ne62) nin0))).keep K221 (ninS (Ne.symm ne60) (ninS (Ne.symm ne63) (ninS (Ne.symm ne62) nin0))))
    obtain ⟨cq229, kq229, q229a, q229b, q229c⟩ := isOf hZ rfl c221_0
    obtain ⟨_, _, ⟨T229, L229, k229, n229⟩, -, X229, ⟨Lc229, hQ229, l229, y229, z229⟩, st229⟩ := X221.virtualBack hx (y := (⟨"com/example/steward/steward/runtime/Group", "add", "(Lcom/example/steward/steward/runtime/Agent;)V"⟩ : MethodName)) (z := (⟨"com/example/steward/steward/runtime/Group", "add", "(Lcom/example/steward/steward/runtime/Agent;)V"⟩ : MethodName)) hown (mvT hZ (hw _ (List.mem_of_getElem? (i := 49) rfl))) (mvT hZ (hw _ (List.mem_of_getElem? (i := 50) rfl))) (notFace_of_selects (args := #[]) (mvT hZ (hw _ (List.mem_of_getElem? (i := 52) rfl)))) (mvT hZ (hw _ (List.mem_of_getElem? (i := 52) rfl))) (mvT hZ (hw _ (List.mem_of_getElem? (i := 51) rfl))) (by decide) (backOf (W := 0) (rmadd1 l Z aZ hw [] b1 b58 Value.null Value.null Value.null (Value.ref b8) b32 Value.null (Value.ref b1) (Value.ref b8) T221.heap n0 z222 c221_0 f225 f226 f227 f228 c221_9 c221_10 c221_1 c221_5 c221_3 c221_4 (Ne.symm ne63) gn1 gn58 gn32) hZ (hw _ (List.mem_of_getElem? (i := 53) rfl)) (hw _ (List.mem_of_getElem? (i := 3) rfl)) (by decide) (by decide)) q229a q229c (g := (mkF m 85 #[.val (.int qs), .val (.int qp), .val (.int (3 : Int32)), .val (.int (0 : Int32)), .val (.ref b1), .val (.ref b8), .val (.ref b32), .val (.ref b58), .unset, .unset, .unset, .unset, .unset, .unset] [(.ref b58), (.ref b1)])) rfl (by rw [hml]; rfl) (Steps.refl _) (argsL := [(.ref b58)]) (rest := []) (lenOf pd_3 rfl) rfl (by show 2 * 0 + _ ≤ _; exact Nat.le_of_eq rfl) (hb hby at_85) (fun _ _ => ⟨rfl, rfl, (by decide : 16 + 0 ≤ _), (by decide : 74 + 0 ≤ _)⟩)
    dsimp only [Pt.U, Pt.locs, Pt.cells, Pt.slots] at X229 l229 y229 z229 st229 hQ229
    subst l229 y229 z229
    obtain ⟨rfl, Nq229, K229, c229_0, c229_1, c229_2, c229_3, c229_4, c229_5, c229_6, c229_7, c229_8, c229_9, c229_10⟩ := hQ229
    have N229 := Fr.app N221 Nq229
    refine GoW.tr st229 ?_
    have z230 : n0 ≤ T229.heap.size := Nat.le_trans z222 K229.1
    have sqz230 : h0.size ≤ T229.heap.size := Nat.le_trans sqz222 K229.1
    have hk232 := Nat.le_trans hk224 K229.1
    show GoW _ _ _ _ _ _ _ (T229.setTop (mkF m 88 #[.val (.int qs), .val (.int qp), .val (.int (3 : Int32)), .val (.int (0 : Int32)), .val (.ref b1), .val (.ref b8), .val (.ref b32), .val (.ref b58), .unset, .unset, .unset, .unset, .unset, .unset] []))
    refine GoW.step (fun _ k => XS.iloadN X229.here hx rfl (hb hby at_88) rfl  k) ?_
    show GoW _ _ _ _ _ _ _ (T229.setTop (mkF m 89 #[.val (.int qs), .val (.int qp), .val (.int (3 : Int32)), .val (.int (0 : Int32)), .val (.ref b1), .val (.ref b8), .val (.ref b32), .val (.ref b58), .unset, .unset, .unset, .unset, .unset, .unset] [(.int (0 : Int32))]))
    have hc89 : (0 : Int32) = (0 : Int32) := by decide
    refine GoW.step (fun _ k => XS.ifNo X229.here hx rfl (hb hby at_89) rfl ((if0 _ _).trans (teq hc89).2) k) ?_
    show GoW _ _ _ _ _ _ _ (T229.setTop (mkF m 92 #[.val (.int qs), .val (.int qp), .val (.int (3 : Int32)), .val (.int (0 : Int32)), .val (.ref b1), .val (.ref b8), .val (.ref b32), .val (.ref b58), .unset, .unset, .unset, .unset, .unset, .unset] []))
    refine GoW.step (fun _ k => XS.aload X229.here hx rfl (hb hby at_92) rfl rfl  k) ?_
    show GoW _ _ _ _ _ _ _ (T229.setTop (mkF m 94 #[.val (.int qs), .val (.int qp), .val (.int (3 : Int32)), .val (.int (0 : Int32)), .val (.ref b1), .val (.ref b8), .val (.ref b32), .val (.ref b58), .unset, .unset, .unset, .unset, .unset, .unset] [(.ref b8)]))
    refine GoW.step (fun _ k => XS.goto X229.here hx rfl (pc0 := 94) (pc' := 109) rfl (hb hby at_94) (by decide) (by decide) k) ?_
    show GoW _ _ _ _ _ _ _ (T229.setTop (mkF m 109 #[.val (.int qs), .val (.int qp), .val (.int (3 : Int32)), .val (.int (0 : Int32)), .val (.ref b1), .val (.ref b8), .val (.ref b32), .val (.ref b58), .unset, .unset, .unset, .unset, .unset, .unset] [(.ref b8)]))
    refine GoW.step (fun _ k => XS.astore X229.here hx rfl (hb hby at_109) rfl rfl (l' := #[.val (.int qs), .val (.int qp), .val (.int (3 : Int32)), .val (.int (0 : Int32)), .val (.ref b1), .val (.ref b8), .val (.ref b32), .val (.ref b58), .val (.ref b8), .unset, .unset, .unset, .unset, .unset]) rfl k) ?_
    show GoW _ _ _ _ _ _ _ (T229.setTop (mkF m 111 #[.val (.int qs), .val (.int qp), .val (.int (3 : Int32)), .val (.int (0 : Int32)), .val (.ref b1), .val (.ref b8), .val (.ref b32), .val (.ref b58), .val (.ref b8), .unset, .unset, .unset, .unset, .unset] []))
    refine GoW.step (fun _ k => XS.iloadN X229.here hx rfl (hb hby at_111) rfl  k) ?_
    show GoW _ _ _ _ _ _ _ (T229.setTop (mkF m 112 #[.val (.int qs), .val (.int qp), .val (.int (3 : Int32)), .val (.int (0 : Int32)), .val (.ref b1), .val (.ref b8), .val (.ref b32), .val (.ref b58), .val (.ref b8), .unset, .unset, .unset, .unset, .unset] [(.int (3 : Int32))]))
    refine GoW.step (fun _ k => XS.iconst X229.here hx rfl (hb hby at_112) k) ?_
    show GoW _ _ _ _ _ _ _ (T229.setTop (mkF m 113 #[.val (.int qs), .val (.int qp), .val (.int (3 : Int32)), .val (.int (0 : Int32)), .val (.ref b1), .val (.ref b8), .val (.ref b32), .val (.ref b58), .val (.ref b8), .unset, .unset, .unset, .unset, .unset] [(.int (1 : Int32)), (.int (3 : Int32))]))
    refine GoW.step (fun _ k => XS.isub X229.here hx rfl (hb hby at_113) rfl k) ?_
    show GoW _ _ _ _ _ _ _ (T229.setTop (mkF m 114 #[.val (.int qs), .val (.int qp), .val (.int (3 : Int32)), .val (.int (0 : Int32)), .val (.ref b1), .val (.ref b8), .val (.ref b32), .val (.ref b58), .val (.ref b8), .unset, .unset, .unset, .unset, .unset] [(.int (2 : Int32))]))
    refine GoW.step (fun _ k => XS.istore X229.here hx rfl (hb hby at_114) rfl (l' := #[.val (.int qs), .val (.int qp), .val (.int (3 : Int32)), .val (.int (0 : Int32)), .val (.ref b1), .val (.ref b8), .val (.ref b32), .val (.ref b58), .val (.ref b8), .val (.int (2 : Int32)), .unset, .unset, .unset, .unset]) rfl k) ?_
    show GoW _ _ _ _ _ _ _ (T229.setTop (mkF m 116 #[.val (.int qs), .val (.int qp), .val (.int (3 : Int32)), .val (.int (0 : Int32)), .val (.ref b1), .val (.ref b8), .val (.ref b32), .val (.ref b58), .val (.ref b8), .val (.int (2 : Int32)), .unset, .unset, .unset, .unset] []))
    refine GoW.step (fun _ k => XS.iload X229.here hx rfl (hb hby at_116) rfl  k) ?_
    show GoW _ _ _ _ _ _ _ (T229.setTop (mkF m 118 #[.val (.int qs), .val (.int qp), .val (.int (3 : Int32)), .val (.int (0 : Int32)), .val (.ref b1), .val (.ref b8), .val (.ref b32), .val (.ref b58), .val (.ref b8), .val (.int (2 : Int32)), .unset, .unset, .unset, .unset] [(.int (2 : Int32))]))
    refine GoW.step (fun _ k => XS.iconst X229.here hx rfl (hb hby at_118) k) ?_
    show GoW _ _ _ _ _ _ _ (T229.setTop (mkF m 119 #[.val (.int qs), .val (.int qp), .val (.int (3 : Int32)), .val (.int (0 : Int32)), .val (.ref b1), .val (.ref b8), .val (.ref b32), .val (.ref b58), .val (.ref b8), .val (.int (2 : Int32)), .unset, .unset, .unset, .unset] [(.int (1 : Int32)), (.int (2 : Int32))]))
    have hc119 : ¬ ((2 : Int32) < (1 : Int32)) := by decide
    refine GoW.step (fun _ k => XS.icmpNo X229.here hx rfl (hb hby at_119) rfl (flt hc119).1 k) ?_
    show GoW _ _ _ _ _ _ _ (T229.setTop (mkF m 122 #[.val (.int qs), .val (.int qp), .val (.int (3 : Int32)), .val (.int (0 : Int32)), .val (.ref b1), .val (.ref b8), .val (.ref b32), .val (.ref b58), .val (.ref b8), .val (.int (2 : Int32)), .unset, .unset, .unset, .unset] []))
    refine GoW.step (fun _ k => XS.iloadN X229.here hx rfl (hb hby at_122) rfl  k) ?_
    show GoW _ _ _ _ _ _ _ (T229.setTop (mkF m 123 #[.val (.int qs), .val (.int qp), .val (.int (3 : Int32)), .val (.int (0 : Int32)), .val (.ref b1), .val (.ref b8), .val (.ref b32), .val (.ref b58), .val (.ref b8), .val (.int (2 : Int32)), .unset, .unset, .unset, .unset] [(.int (0 : Int32))]))
    have hc123 : (0 : Int32) = (0 : Int32) := hc89
    refine GoW.step (fun _ k => XS.ifNo X229.here hx rfl (hb hby at_123) rfl ((if0 _ _).trans (teq hc123).2) k) ?_
    show GoW _ _ _ _ _ _ _ (T229.setTop (mkF m 126 #[.val (.int qs), .val (.int qp), .val (.int (3 : Int32)), .val (.int (0 : Int32)), .val (.ref b1), .val (.ref b8), .val (.ref b32), .val (.ref b58), .val (.ref b8), .val (.int (2 : Int32)), .unset, .unset, .unset, .unset] []))
    refine GoW.step (fun _ k => XS.aload X229.here hx rfl (hb hby at_126) rfl rfl  k) ?_
    show GoW _ _ _ _ _ _ _ (T229.setTop (mkF m 128 #[.val (.int qs), .val (.int qp), .val (.int (3 : Int32)), .val (.int (0 : Int32)), .val (.ref b1), .val (.ref b8), .val (.ref b32), .val (.ref b58), .val (.ref b8), .val (.int (2 : Int32)), .unset, .unset, .unset, .unset] [(.ref b32)]))
    refine GoW.step (fun _ k => XS.goto X229.here hx rfl (pc0 := 128) (pc' := 137) rfl (hb hby at_128) (by decide) (by decide) k) ?_
    show GoW _ _ _ _ _ _ _ (T229.setTop (mkF m 137 #[.val (.int qs), .val (.int qp), .val (.int (3 : Int32)), .val (.int (0 : Int32)), .val (.ref b1), .val (.ref b8), .val (.ref b32), .val (.ref b58), .val (.ref b8), .val (.int (2 : Int32)), .unset, .unset, .unset, .unset] [(.ref b32)]))
    refine GoW.step (fun _ k => XS.astore X229.here hx rfl (hb hby at_137) rfl rfl (l' := #[.val (.int qs), .val (.int qp), .val (.int (3 : Int32)), .val (.int (0 : Int32)), .val (.ref b1), .val (.ref b8), .val (.ref b32), .val (.ref b58), .val (.ref b8), .val (.int (2 : Int32)), .val (.ref b32), .unset, .unset, .unset]) rfl k) ?_
    show GoW _ _ _ _ _ _ _ (T229.setTop (mkF m 139 #[.val (.int qs), .val (.int qp), .val (.int (3 : Int32)), .val (.int (0 : Int32)), .val (.ref b1), .val (.ref b8), .val (.ref b32), .val (.ref b58), .val (.ref b8), .val (.int (2 : Int32)), .val (.ref b32), .unset, .unset, .unset] []))
    refine GoW.step (fun _ k => XS.iload X229.here hx rfl (hb hby at_139) rfl  k) ?_
    show GoW _ _ _ _ _ _ _ (T229.setTop (mkF m 141 #[.val (.int qs), .val (.int qp), .val (.int (3 : Int32)), .val (.int (0 : Int32)), .val (.ref b1), .val (.ref b8), .val (.ref b32), .val (.ref b58), .val (.ref b8), .val (.int (2 : Int32)), .val (.ref b32), .unset, .unset, .unset] [(.int (2 : Int32))]))
    refine GoW.step (fun _ k => XS.iconst X229.here hx rfl (hb hby at_141) k) ?_
    show GoW _ _ _ _ _ _ _ (T229.setTop (mkF m 142 #[.val (.int qs), .val (.int qp), .val (.int (3 : Int32)), .val (.int (0 : Int32)), .val (.ref b1), .val (.ref b8), .val (.ref b32), .val (.ref b58), .val (.ref b8), .val (.int (2 : Int32)), .val (.ref b32), .unset, .unset, .unset] [(.int (2 : Int32)), (.int (2 : Int32))]))
    have hc142 : ¬ ((2 : Int32) < (2 : Int32)) := by decide
    refine GoW.step (fun _ k => XS.icmpNo X229.here hx rfl (hb hby at_142) rfl (flt hc142).1 k) ?_
    show GoW _ _ _ _ _ _ _ (T229.setTop (mkF m 145 #[.val (.int qs), .val (.int qp), .val (.int (3 : Int32)), .val (.int (0 : Int32)), .val (.ref b1), .val (.ref b8), .val (.ref b32), .val (.ref b58), .val (.ref b8), .val (.int (2 : Int32)), .val (.ref b32), .unset, .unset, .unset] []))
    refine GoW.step (fun _ k => XS.iloadN X229.here hx rfl (hb hby at_145) rfl  k) ?_
    show GoW _ _ _ _ _ _ _ (T229.setTop (mkF m 146 #[.val (.int qs), .val (.int qp), .val (.int (3 : Int32)), .val (.int (0 : Int32)), .val (.ref b1), .val (.ref b8), .val (.ref b32), .val (.ref b58), .val (.ref b8), .val (.int (2 : Int32)), .val (.ref b32), .unset, .unset, .unset] [(.int (0 : Int32))]))
    refine GoW.step (fun _ k => XS.iconst X229.here hx rfl (hb hby at_146) k) ?_
    show GoW _ _ _ _ _ _ _ (T229.setTop (mkF m 147 #[.val (.int qs), .val (.int qp), .val (.int (3 : Int32)), .val (.int (0 : Int32)), .val (.ref b1), .val (.ref b8), .val (.ref b32), .val (.ref b58), .val (.ref b8), .val (.int (2 : Int32)), .val (.ref b32), .unset, .unset, .unset] [(.int (1 : Int32)), (.int (0 : Int32))]))
    have hc147 : ¬ ((1 : Int32) < (0 : Int32)) := by decide
    refine GoW.step (fun _ k => XS.icmpNo X229.here hx rfl (hb hby at_147) rfl (flt hc147).2.2.1 k) ?_
    show GoW _ _ _ _ _ _ _ (T229.setTop (mkF m 150 #[.val (.int qs), .val (.int qp), .val (.int (3 : Int32)), .val (.int (0 : Int32)), .val (.ref b1), .val (.ref b8), .val (.ref b32), .val (.ref b58), .val (.ref b8), .val (.int (2 : Int32)), .val (.ref b32), .unset, .unset, .unset] []))
    refine GoW.step (fun _ k => XS.aload X229.here hx rfl (hb hby at_150) rfl rfl  k) ?_
    show GoW _ _ _ _ _ _ _ (T229.setTop (mkF m 152 #[.val (.int qs), .val (.int qp), .val (.int (3 : Int32)), .val (.int (0 : Int32)), .val (.ref b1), .val (.ref b8), .val (.ref b32), .val (.ref b58), .val (.ref b8), .val (.int (2 : Int32)), .val (.ref b32), .unset, .unset, .unset] [(.ref b58)]))
    refine GoW.step (fun _ k => XS.goto X229.here hx rfl (pc0 := 152) (pc' := 161) rfl (hb hby at_152) (by decide) (by decide) k) ?_
    show GoW _ _ _ _ _ _ _ (T229.setTop (mkF m 161 #[.val (.int qs), .val (.int qp), .val (.int (3 : Int32)), .val (.int (0 : Int32)), .val (.ref b1), .val (.ref b8), .val (.ref b32), .val (.ref b58), .val (.ref b8), .val (.int (2 : Int32)), .val (.ref b32), .unset, .unset, .unset] [(.ref b58)]))
    refine GoW.step (fun _ k => XS.astore X229.here hx rfl (hb hby at_161) rfl rfl (l' := #[.val (.int qs), .val (.int qp), .val (.int (3 : Int32)), .val (.int (0 : Int32)), .val (.ref b1), .val (.ref b8), .val (.ref b32), .val (.ref b58), .val (.ref b8), .val (.int (2 : Int32)), .val (.ref b32), .val (.ref b58), .unset, .unset]) rfl k) ?_
    show GoW _ _ _ _ _ _ _ (T229.setTop (mkF m 163 #[.val (.int qs), .val (.int qp), .val (.int (3 : Int32)), .val (.int (0 : Int32)), .val (.ref b1), .val (.ref b8), .val (.ref b32), .val (.ref b58), .val (.ref b8), .val (.int (2 : Int32)), .val (.ref b32), .val (.ref b58), .unset, .unset] []))
    refine GoW.step (fun _ k => XS.iload X229.here hx rfl (hb hby at_163) rfl  k) ?_
    show GoW _ _ _ _ _ _ _ (T229.setTop (mkF m 165 #[.val (.int qs), .val (.int qp), .val (.int (3 : Int32)), .val (.int (0 : Int32)), .val (.ref b1), .val (.ref b8), .val (.ref b32), .val (.ref b58), .val (.ref b8), .val (.int (2 : Int32)), .val (.ref b32), .val (.ref b58), .unset, .unset] [(.int (2 : Int32))]))
    have hc165 : ¬ ((2 : Int32) = (0 : Int32)) := by decide
    refine GoW.step (fun _ k => XS.ifYes X229.here hx rfl (pc0 := 165) (pc' := 172) rfl (hb hby at_165) rfl ((if0 _ _).trans (feq hc165).2) (by decide) (by decide) k) ?_
    show GoW _ _ _ _ _ _ _ (T229.setTop (mkF m 172 #[.val (.int qs), .val (.int qp), .val (.int (3 : Int32)), .val (.int (0 : Int32)), .val (.ref b1), .val (.ref b8), .val (.ref b32), .val (.ref b58), .val (.ref b8), .val (.int (2 : Int32)), .val (.ref b32), .val (.ref b58), .unset, .unset] []))
    refine GoW.step (fun _ k => XS.iload X229.here hx rfl (hb hby at_172) rfl  k) ?_
    show GoW _ _ _ _ _ _ _ (T229.setTop (mkF m 174 #[.val (.int qs), .val (.int qp), .val (.int (3 : Int32)), .val (.int (0 : Int32)), .val (.ref b1), .val (.ref b8), .val (.ref b32), .val (.ref b58), .val (.ref b8), .val (.int (2 : Int32)), .val (.ref b32), .val (.ref b58), .unset, .unset] [(.int (2 : Int32))]))
    refine GoW.step (fun _ k => XS.iconst X229.here hx rfl (hb hby at_174) k) ?_
    show GoW _ _ _ _ _ _ _ (T229.setTop (mkF m 175 #[.val (.int qs), .val (.int qp), .val (.int (3 : Int32)), .val (.int (0 : Int32)), .val (.ref b1), .val (.ref b8), .val (.ref b32), .val (.ref b58), .val (.ref b8), .val (.int (2 : Int32)), .val (.ref b32), .val (.ref b58), .unset, .unset] [(.int (1 : Int32)), (.int (2 : Int32))]))
    have hc175 : ¬ ((2 : Int32) = (1 : Int32)) := by decide
    refine GoW.step (fun _ k => XS.icmpYes X229.here hx rfl (pc0 := 175) (pc' := 183) rfl (hb hby at_175) rfl (feq hc175).2 (by decide) (by decide) k) ?_
    show GoW _ _ _ _ _ _ _ (T229.setTop (mkF m 183 #[.val (.int qs), .val (.int qp), .val (.int (3 : Int32)), .val (.int (0 : Int32)), .val (.ref b1), .val (.ref b8), .val (.ref b32), .val (.ref b58), .val (.ref b8), .val (.int (2 : Int32)), .val (.ref b32), .val (.ref b58), .unset, .unset] []))
    refine GoW.step (fun _ k => XS.aload X229.here hx rfl (hb hby at_183) rfl rfl  k) ?_
    show GoW _ _ _ _ _ _ _ (T229.setTop (mkF m 185 #[.val (.int qs), .val (.int qp), .val (.int (3 : Int32)), .val (.int (0 : Int32)), .val (.ref b1), .val (.ref b8), .val (.ref b32), .val (.ref b58), .val (.ref b8), .val (.int (2 : Int32)), .val (.ref b32), .val (.ref b58), .unset, .unset] [(.ref b58)]))
    refine GoW.step (fun _ k => XS.astore X229.here hx rfl (hb hby at_185) rfl rfl (l' := #[.val (.int qs), .val (.int qp), .val (.int (3 : Int32)), .val (.int (0 : Int32)), .val (.ref b1), .val (.ref b8), .val (.ref b32), .val (.ref b58), .val (.ref b8), .val (.int (2 : Int32)), .val (.ref b32), .val (.ref b58), .val (.ref b58), .unset]) rfl k) ?_
    show GoW _ _ _ _ _ _ _ (T229.setTop (mkF m 187 #[.val (.int qs), .val (.int qp), .val (.int (3 : Int32)), .val (.int (0 : Int32)), .val (.ref b1), .val (.ref b8), .val (.ref b32), .val (.ref b58), .val (.ref b8), .val (.int (2 : Int32)), .val (.ref b32), .val (.ref b58), .val (.ref b58), .unset] []))
    refine GoW.step (fun _ k => XS.aload X229.here hx rfl (hb hby at_187) rfl rfl  k) ?_
    show GoW _ _ _ _ _ _ _ (T229.setTop (mkF m 189 #[.val (.int qs), .val (.int qp), .val (.int (3 : Int32)), .val (.int (0 : Int32)), .val (.ref b1), .val (.ref b8), .val (.ref b32), .val (.ref b58), .val (.ref b8), .val (.int (2 : Int32)), .val (.ref b32), .val (.ref b58), .val (.ref b58), .unset] [(.ref b1)]))
    refine GoW.step (fun _ k => XS.aload X229.here hx rfl (hb hby at_189) rfl rfl  k) ?_
    show GoW _ _ _ _ _ _ _ (T229.setTop (mkF m 191 #[.val (.int qs), .val (.int qp), .val (.int (3 : Int32)), .val (.int (0 : Int32)), .val (.ref b1), .val (.ref b8), .val (.ref b32), .val (.ref b58), .val (.ref b8), .val (.int (2 : Int32)), .val (.ref b32), .val (.ref b58), .val (.ref b58), .unset] [(.ref b8), (.ref b1)]))
    have f233 : Exa Z T229.heap b8 "com/example/steward/steward/runtime/Agent" := (c221_2.keep K229)
    have f234 : Fld Z T229.heap b8 "com/example/steward/steward/runtime/Agent" "group" "Lcom/example/steward/steward/runtime/Group;" (.ref b1) := (c221_7.keep K229 (ninS (Ne.symm ne9) (ninS ne62 (ninS ne35 nin0))))
    have f235 : Fld Z T229.heap b8 "com/example/steward/steward/runtime/Agent" "ahead" "Lcom/example/steward/steward/runtime/Agent;" .null := (c221_8.keep K229 (ninS (Ne.symm ne9) (ninS ne62 (ninS ne35 nin0))))
    have f236 : Fld Z T229.heap b8 "com/example/steward/steward/runtime/Agent" "behind" "Lcom/example/steward/steward/runtime/Agent;" (.ref b32) := (c221_6.keep K229 (ninS (Ne.symm ne9) (ninS ne62 (ninS ne35 nin0))))
    obtain ⟨cq237, kq237, q237a, q237b, q237c⟩ := isOf hZ rfl c229_0
    obtain ⟨_, _, ⟨T237, L237, k237, n237⟩, -, X237, ⟨Lc237, hQ237, l237, y237, z237⟩, st237⟩ := X229.virtualBack hx (y := (⟨"com/example/steward/steward/runtime/Group", "remove", "(Lcom/example/steward/steward/runtime/Agent;)V"⟩ : MethodName)) (z := (⟨"com/example/steward/steward/runtime/Group", "remove", "(Lcom/example/steward/steward/runtime/Agent;)V"⟩ : MethodName)) hown (mvT hZ (hw _ (List.mem_of_getElem? (i := 64) rfl))) (mvT hZ (hw _ (List.mem_of_getElem? (i := 65) rfl))) (notFace_of_selects (args := #[]) (mvT hZ (hw _ (List.mem_of_getElem? (i := 67) rfl)))) (mvT hZ (hw _ (List.mem_of_getElem? (i := 67) rfl))) (mvT hZ (hw _ (List.mem_of_getElem? (i := 66) rfl))) (by decide) (backOf (W := 0) (rmrem01 l Z aZ hw [] b1 b8 (Value.ref b1) (Value.ref b8) (Value.ref b58) b32 (Value.ref b8) (Value.ref b1) (Value.ref b58) T229.heap n0 z230 c229_0 f233 f234 c229_9 c229_10 f235 f236 gn1 gn8 c229_2 c229_8 c229_7 c229_6 ne35 gn32) hZ (hw _ (List.mem_of_getElem? (i := 68) rfl)) (hw _ (List.mem_of_getElem? (i := 3) rfl)) (by decide) (by decide)) q237a q237c (g := (mkF m 191 #[.val (.int qs), .val (.int qp), .val (.int (3 : Int32)), .val (.int (0 : Int32)), .val (.ref b1), .val (.ref b8), .val (.ref b32), .val (.ref b58), .val (.ref b8), .val (.int (2 : Int32)), .val (.ref b32), .val (.ref b58), .val (.ref b58), .unset] [(.ref b8), (.ref b1)])) rfl (by rw [hml]; rfl) (Steps.refl _) (argsL := [(.ref b8)]) (rest := []) (lenOf pd_3 rfl) rfl (by show 2 * 0 + _ ≤ _; exact Nat.le_of_eq rfl) (hb hby at_191) (fun _ _ => ⟨rfl, rfl, (by decide : 16 + 0 ≤ _), (by decide : 74 + 0 ≤ _)⟩)
    dsimp only [Pt.U, Pt.locs, Pt.cells, Pt.slots] at X237 l237 y237 z237 st237 hQ237
    subst l237 y237 z237
    obtain ⟨rfl, Nq237, K237, c237_0, c237_1, c237_2, c237_3, c237_4, c237_5, c237_6, c237_7, c237_8, c237_9, c237_10⟩ := hQ237
    have N237 := Fr.app N229 Nq237
    refine GoW.tr st237 ?_
    have z238 : n0 ≤ T237.heap.size := Nat.le_trans z230 K237.1
    have sqz238 : h0.size ≤ T237.heap.size := Nat.le_trans sqz230 K237.1
    have hk240 := Nat.le_trans hk232 K237.1
    show GoW _ _ _ _ _ _ _ (T237.setTop (mkF m 194 #[.val (.int qs), .val (.int qp), .val (.int (3 : Int32)), .val (.int (0 : Int32)), .val (.ref b1), .val (.ref b8), .val (.ref b32), .val (.ref b58), .val (.ref b8), .val (.int (2 : Int32)), .val (.ref b32), .val (.ref b58), .val (.ref b58), .unset] []))
    refine GoW.step (fun _ k => XS.aload X237.here hx rfl (hb hby at_194) rfl rfl  k) ?_
    show GoW _ _ _ _ _ _ _ (T237.setTop (mkF m 196 #[.val (.int qs), .val (.int qp), .val (.int (3 : Int32)), .val (.int (0 : Int32)), .val (.ref b1), .val (.ref b8), .val (.ref b32), .val (.ref b58), .val (.ref b8), .val (.int (2 : Int32)), .val (.ref b32), .val (.ref b58), .val (.ref b58), .unset] [(.ref b8)]))
    obtain ⟨T241, X241, e241, st241⟩ := getF X237 hx hZ hown (host := "") (Or.inl (hw _ (List.mem_of_getElem? (i := 69) rfl))) Via.refl rfl c237_2 (g := (mkF m 196 #[.val (.int qs), .val (.int qp), .val (.int (3 : Int32)), .val (.int (0 : Int32)), .val (.ref b1), .val (.ref b8), .val (.ref b32), .val (.ref b58), .val (.ref b8), .val (.int (2 : Int32)), .val (.ref b32), .val (.ref b58), .val (.ref b58), .unset] [(.ref b8)])) rfl rfl (hb hby at_196)
    refine GoW.step st241 ?_
    show GoW _ _ _ _ _ _ _ (T241.setTop (mkF m 199 #[.val (.int qs), .val (.int qp), .val (.int (3 : Int32)), .val (.int (0 : Int32)), .val (.ref b1), .val (.ref b8), .val (.ref b32), .val (.ref b58), .val (.ref b8), .val (.int (2 : Int32)), .val (.ref b32), .val (.ref b58), .val (.ref b58), .unset] [.null]))
    refine GoW.step (fun _ k => XS.ifnonnullNo X241.here hx rfl (hb hby at_199) rfl k) ?_
    show GoW _ _ _ _ _ _ _ (T241.setTop (mkF m 202 #[.val (.int qs), .val (.int qp), .val (.int (3 : Int32)), .val (.int (0 : Int32)), .val (.ref b1), .val (.ref b8), .val (.ref b32), .val (.ref b58), .val (.ref b8), .val (.int (2 : Int32)), .val (.ref b32), .val (.ref b58), .val (.ref b58), .unset] []))
    refine GoW.step (fun _ k => XS.aload X241.here hx rfl (hb hby at_202) rfl rfl  k) ?_
    show GoW _ _ _ _ _ _ _ (T241.setTop (mkF m 204 #[.val (.int qs), .val (.int qp), .val (.int (3 : Int32)), .val (.int (0 : Int32)), .val (.ref b1), .val (.ref b8), .val (.ref b32), .val (.ref b58), .val (.ref b8), .val (.int (2 : Int32)), .val (.ref b32), .val (.ref b58), .val (.ref b58), .unset] [(.ref b8)]))
    obtain ⟨T242, X242, e242, st242⟩ := getF X241 hx hZ hown (host := "") (Or.inl (hw _ (List.mem_of_getElem? (i := 70) rfl))) Via.refl e241 c237_3 (g := (mkF m 204 #[.val (.int qs), .val (.int qp), .val (.int (3 : Int32)), .val (.int (0 : Int32)), .val (.ref b1), .val (.ref b8), .val (.ref b32), .val (.ref b58), .val (.ref b8), .val (.int (2 : Int32)), .val (.ref b32), .val (.ref b58), .val (.ref b58), .unset] [(.ref b8)])) rfl rfl (hb hby at_204)
    refine GoW.step st242 ?_
    show GoW _ _ _ _ _ _ _ (T242.setTop (mkF m 207 #[.val (.int qs), .val (.int qp), .val (.int (3 : Int32)), .val (.int (0 : Int32)), .val (.ref b1), .val (.ref b8), .val (.ref b32), .val (.ref b58), .val (.ref b8), .val (.int (2 : Int32)), .val (.ref b32), .val (.ref b58), .val (.ref b58), .unset] [.null]))
    refine GoW.step (fun _ k => XS.ifnonnullNo X242.here hx rfl (hb hby at_207) rfl k) ?_
    show GoW _ _ _ _ _ _ _ (T242.setTop (mkF m 210 #[.val (.int qs), .val (.int qp), .val (.int (3 : Int32)), .val (.int (0 : Int32)), .val (.ref b1), .val (.ref b8), .val (.ref b32), .val (.ref b58), .val (.ref b8), .val (.int (2 : Int32)), .val (.ref b32), .val (.ref b58), .val (.ref b58), .unset] []))
    refine GoW.step (fun _ k => XS.aload X242.here hx rfl (hb hby at_210) rfl rfl  k) ?_
    show GoW _ _ _ _ _ _ _ (T242.setTop (mkF m 212 #[.val (.int qs), .val (.int qp), .val (.int (3 : Int32)), .val (.int (0 : Int32)), .val (.ref b1), .val (.ref b8), .val (.ref b32), .val (.ref b58), .val (.ref b8), .val (.int (2 : Int32)), .val (.ref b32), .val (.ref b58), .val (.ref b58), .unset] [(.ref b8)]))
    obtain ⟨T243, X243, e243, st243⟩ := getF X242 hx hZ hown (host := "") (Or.inl (hw _ (List.mem_of_getElem? (i := 71) rfl))) Via.refl e242 c237_4 (g := (mkF m 212 #[.val (.int qs), .val (.int qp), .val (.int (3 : Int32)), .val (.int (0 : Int32)), .val (.ref b1), .val (.ref b8), .val (.ref b32), .val (.ref b58), .val (.ref b8), .val (.int (2 : Int32)), .val (.ref b32), .val (.ref b58), .val (.ref b58), .unset] [(.ref b8)])) rfl rfl (hb hby at_212)
    refine GoW.step st243 ?_
    show GoW _ _ _ _ _ _ _ (T243.setTop (mkF m 215 #[.val (.int qs), .val (.int qp), .val (.int (3 : Int32)), .val (.int (0 : Int32)), .val (.ref b1), .val (.ref b8), .val (.ref b32), .val (.ref b58), .val (.ref b8), .val (.int (2 : Int32)), .val (.ref b32), .val (.ref b58), .val (.ref b58), .unset] [.null]))
    refine GoW.step (fun _ k => XS.ifnonnullNo X243.here hx rfl (hb hby at_215) rfl k) ?_
    show GoW _ _ _ _ _ _ _ (T243.setTop (mkF m 218 #[.val (.int qs), .val (.int qp), .val (.int (3 : Int32)), .val (.int (0 : Int32)), .val (.ref b1), .val (.ref b8), .val (.ref b32), .val (.ref b58), .val (.ref b8), .val (.int (2 : Int32)), .val (.ref b32), .val (.ref b58), .val (.ref b58), .unset] []))
    refine GoW.step (fun _ k => XS.iconst X243.here hx rfl (hb hby at_218) k) ?_
    show GoW _ _ _ _ _ _ _ (T243.setTop (mkF m 219 #[.val (.int qs), .val (.int qp), .val (.int (3 : Int32)), .val (.int (0 : Int32)), .val (.ref b1), .val (.ref b8), .val (.ref b32), .val (.ref b58), .val (.ref b8), .val (.int (2 : Int32)), .val (.ref b32), .val (.ref b58), .val (.ref b58), .unset] [(.int (1 : Int32))]))
    refine GoW.step (fun _ k => XS.goto X243.here hx rfl (pc0 := 219) (pc' := 223) rfl (hb hby at_219) (by decide) (by decide) k) ?_
    show GoW _ _ _ _ _ _ _ (T243.setTop (mkF m 223 #[.val (.int qs), .val (.int qp), .val (.int (3 : Int32)), .val (.int (0 : Int32)), .val (.ref b1), .val (.ref b8), .val (.ref b32), .val (.ref b58), .val (.ref b8), .val (.int (2 : Int32)), .val (.ref b32), .val (.ref b58), .val (.ref b58), .unset] [(.int (1 : Int32))]))
    refine GoW.step (fun _ k => XS.istore X243.here hx rfl (hb hby at_223) rfl (l' := #[.val (.int qs), .val (.int qp), .val (.int (3 : Int32)), .val (.int (0 : Int32)), .val (.ref b1), .val (.ref b8), .val (.ref b32), .val (.ref b58), .val (.ref b8), .val (.int (2 : Int32)), .val (.ref b32), .val (.ref b58), .val (.ref b58), .val (.int (1 : Int32))]) rfl k) ?_
    show GoW _ _ _ _ _ _ _ (T243.setTop (mkF m 225 #[.val (.int qs), .val (.int qp), .val (.int (3 : Int32)), .val (.int (0 : Int32)), .val (.ref b1), .val (.ref b8), .val (.ref b32), .val (.ref b58), .val (.ref b8), .val (.int (2 : Int32)), .val (.ref b32), .val (.ref b58), .val (.ref b58), .val (.int (1 : Int32))] []))
    refine GoW.step (fun _ k => XS.iload X243.here hx rfl (hb hby at_225) rfl  k) ?_
    show GoW _ _ _ _ _ _ _ (T243.setTop (mkF m 227 #[.val (.int qs), .val (.int qp), .val (.int (3 : Int32)), .val (.int (0 : Int32)), .val (.ref b1), .val (.ref b8), .val (.ref b32), .val (.ref b58), .val (.ref b8), .val (.int (2 : Int32)), .val (.ref b32), .val (.ref b58), .val (.ref b58), .val (.int (1 : Int32))] [(.int (1 : Int32))]))
    have hc227 : ¬ ((1 : Int32) = (0 : Int32)) := by decide
    refine GoW.step (fun _ k => XS.ifNo X243.here hx rfl (hb hby at_227) rfl ((if0 _ _).trans (feq hc227).1) k) ?_
    show GoW _ _ _ _ _ _ _ (T243.setTop (mkF m 230 #[.val (.int qs), .val (.int qp), .val (.int (3 : Int32)), .val (.int (0 : Int32)), .val (.ref b1), .val (.ref b8), .val (.ref b32), .val (.ref b58), .val (.ref b8), .val (.int (2 : Int32)), .val (.ref b32), .val (.ref b58), .val (.ref b58), .val (.int (1 : Int32))] []))
    refine GoW.step (fun _ k => XS.aload X243.here hx rfl (hb hby at_230) rfl rfl  k) ?_
    show GoW _ _ _ _ _ _ _ (T243.setTop (mkF m 232 #[.val (.int qs), .val (.int qp), .val (.int (3 : Int32)), .val (.int (0 : Int32)), .val (.ref b1), .val (.ref b8), .val (.ref b32), .val (.ref b58), .val (.ref b8), .val (.int (2 : Int32)), .val (.ref b32), .val (.ref b58), .val (.ref b58), .val (.int (1 : Int32))] [(.ref b1)]))
    have pq244 : (Value.ref b32).isRef = true := rfl
    obtain ⟨cq245, kq245, q245a, q245b, q245c⟩ := isOf hZ e243 c237_0
    obtain ⟨_, _, ⟨T245, L245, k245, n245⟩, -, X245, ⟨Lc245, hQ245, l245, y245, z245⟩, st245⟩ := X243.virtualBack hx (y := (⟨"com/example/steward/steward/runtime/Group", "first", "()Lcom/example/steward/steward/runtime/Agent;"⟩ : MethodName)) (z := (⟨"com/example/steward/steward/runtime/Group", "first", "()Lcom/example/steward/steward/runtime/Agent;"⟩ : MethodName)) hown (mvT hZ (hw _ (List.mem_of_getElem? (i := 72) rfl))) (mvT hZ (hw _ (List.mem_of_getElem? (i := 73) rfl))) (notFace_of_selects (args := #[]) (mvT hZ (hw _ (List.mem_of_getElem? (i := 75) rfl)))) (mvT hZ (hw _ (List.mem_of_getElem? (i := 75) rfl))) (mvT hZ (hw _ (List.mem_of_getElem? (i := 74) rfl))) (by decide) (backOf (W := 0) (rm8 l Z aZ hw [] b1 (Value.ref b32) T237.heap n0 z238 c237_9 pq244) hZ (hw _ (List.mem_of_getElem? (i := 76) rfl)) (hw _ (List.mem_of_getElem? (i := 3) rfl)) (by decide) (by decide)) q245a q245c (g := (mkF m 232 #[.val (.int qs), .val (.int qp), .val (.int (3 : Int32)), .val (.int (0 : Int32)), .val (.ref b1), .val (.ref b8), .val (.ref b32), .val (.ref b58), .val (.ref b8), .val (.int (2 : Int32)), .val (.ref b32), .val (.ref b58), .val (.ref b58), .val (.int (1 : Int32))] [(.ref b1)])) rfl (by rw [hml]; rfl) (Steps.refl _) (argsL := []) (rest := []) (lenOf pd_4 rfl) rfl (by show 2 * 0 + _ ≤ _; exact Nat.le_of_eq rfl) (hb hby at_232) (fun _ _ => ⟨rfl, e243, (by decide : 16 + 0 ≤ _), (by decide : 74 + 0 ≤ _)⟩)
    dsimp only [Pt.U, Pt.locs, Pt.cells, Pt.slots] at X245 l245 y245 z245 st245 hQ245
    subst l245 y245 z245
    obtain ⟨rfl, Nq245, e245⟩ := hQ245
    have N245 := Fr.app N237 Nq245
    refine GoW.tr st245 ?_
    show GoW _ _ _ _ _ _ _ (T245.setTop (mkF m 235 #[.val (.int qs), .val (.int qp), .val (.int (3 : Int32)), .val (.int (0 : Int32)), .val (.ref b1), .val (.ref b8), .val (.ref b32), .val (.ref b58), .val (.ref b8), .val (.int (2 : Int32)), .val (.ref b32), .val (.ref b58), .val (.ref b58), .val (.int (1 : Int32))] [(.ref b32)]))
    refine GoW.step (fun _ k => XS.aload X245.here hx rfl (hb hby at_235) rfl rfl  k) ?_
    show GoW _ _ _ _ _ _ _ (T245.setTop (mkF m 237 #[.val (.int qs), .val (.int qp), .val (.int (3 : Int32)), .val (.int (0 : Int32)), .val (.ref b1), .val (.ref b8), .val (.ref b32), .val (.ref b58), .val (.ref b8), .val (.int (2 : Int32)), .val (.ref b32), .val (.ref b58), .val (.ref b58), .val (.int (1 : Int32))] [(.ref b32), (.ref b32)]))
    refine GoW.step (fun _ k => Jvm.RoadKit.acmp (g := (mkF m 237 #[.val (.int qs), .val (.int qp), .val (.int (3 : Int32)), .val (.int (0 : Int32)), .val (.ref b1), .val (.ref b8), .val (.ref b32), .val (.ref b58), .val (.ref b8), .val (.int (2 : Int32)), .val (.ref b32), .val (.ref b58), .val (.ref b58), .val (.int (1 : Int32))] [(.ref b32), (.ref b32)])) X245 hx rfl rfl rfl (pc0 := 237) (pc' := 240) (same := true) rfl (hb hby at_237) rfl (decide_eq_true rfl) (by decide) (by decide) k) ?_
    show GoW _ _ _ _ _ _ _ (T245.setTop (mkF m 240 #[.val (.int qs), .val (.int qp), .val (.int (3 : Int32)), .val (.int (0 : Int32)), .val (.ref b1), .val (.ref b8), .val (.ref b32), .val (.ref b58), .val (.ref b8), .val (.int (2 : Int32)), .val (.ref b32), .val (.ref b58), .val (.ref b58), .val (.int (1 : Int32))] []))
    refine GoW.step (fun _ k => XS.iconst X245.here hx rfl (hb hby at_240) k) ?_
    show GoW _ _ _ _ _ _ _ (T245.setTop (mkF m 241 #[.val (.int qs), .val (.int qp), .val (.int (3 : Int32)), .val (.int (0 : Int32)), .val (.ref b1), .val (.ref b8), .val (.ref b32), .val (.ref b58), .val (.ref b8), .val (.int (2 : Int32)), .val (.ref b32), .val (.ref b58), .val (.ref b58), .val (.int (1 : Int32))] [(.int (1 : Int32))]))
    refine GoW.step (fun _ k => XS.goto X245.here hx rfl (pc0 := 241) (pc' := 245) rfl (hb hby at_241) (by decide) (by decide) k) ?_
    show GoW _ _ _ _ _ _ _ (T245.setTop (mkF m 245 #[.val (.int qs), .val (.int qp), .val (.int (3 : Int32)), .val (.int (0 : Int32)), .val (.ref b1), .val (.ref b8), .val (.ref b32), .val (.ref b58), .val (.ref b8), .val (.int (2 : Int32)), .val (.ref b32), .val (.ref b58), .val (.ref b58), .val (.int (1 : Int32))] [(.int (1 : Int32))]))
    refine GoW.step (fun _ k => XS.istore X245.here hx rfl (hb hby at_245) rfl (l' := #[.val (.int qs), .val (.int qp), .val (.int (3 : Int32)), .val (.int (0 : Int32)), .val (.ref b1), .val (.ref b8), .val (.ref b32), .val (.ref b58), .val (.ref b8), .val (.int (2 : Int32)), .val (.ref b32), .val (.ref b58), .val (.ref b58), .val (.int (1 : Int32))]) rfl k) ?_
    show GoW _ _ _ _ _ _ _ (T245.setTop (mkF m 247 #[.val (.int qs), .val (.int qp), .val (.int (3 : Int32)), .val (.int (0 : Int32)), .val (.ref b1), .val (.ref b8), .val (.ref b32), .val (.ref b58), .val (.ref b8), .val (.int (2 : Int32)), .val (.ref b32), .val (.ref b58), .val (.ref b58), .val (.int (1 : Int32))] []))
    refine GoW.step (fun _ k => XS.aload X245.here hx rfl (hb hby at_247) rfl rfl  k) ?_
    show GoW _ _ _ _ _ _ _ (T245.setTop (mkF m 249 #[.val (.int qs), .val (.int qp), .val (.int (3 : Int32)), .val (.int (0 : Int32)), .val (.ref b1), .val (.ref b8), .val (.ref b32), .val (.ref b58), .val (.ref b8), .val (.int (2 : Int32)), .val (.ref b32), .val (.ref b58), .val (.ref b58), .val (.int (1 : Int32))] [(.ref b32)]))
    refine GoW.step (fun _ k => XS.ifnullNo X245.here hx rfl (hb hby at_249) rfl k) ?_
    show GoW _ _ _ _ _ _ _ (T245.setTop (mkF m 252 #[.val (.int qs), .val (.int qp), .val (.int (3 : Int32)), .val (.int (0 : Int32)), .val (.ref b1), .val (.ref b8), .val (.ref b32), .val (.ref b58), .val (.ref b8), .val (.int (2 : Int32)), .val (.ref b32), .val (.ref b58), .val (.ref b58), .val (.int (1 : Int32))] []))
    refine GoW.step (fun _ k => XS.iload X245.here hx rfl (hb hby at_252) rfl  k) ?_
    show GoW _ _ _ _ _ _ _ (T245.setTop (mkF m 254 #[.val (.int qs), .val (.int qp), .val (.int (3 : Int32)), .val (.int (0 : Int32)), .val (.ref b1), .val (.ref b8), .val (.ref b32), .val (.ref b58), .val (.ref b8), .val (.int (2 : Int32)), .val (.ref b32), .val (.ref b58), .val (.ref b58), .val (.int (1 : Int32))] [(.int (1 : Int32))]))
    have hc254 : ¬ ((1 : Int32) = (0 : Int32)) := hc227
    refine GoW.step (fun _ k => XS.ifNo X245.here hx rfl (hb hby at_254) rfl ((if0 _ _).trans (feq hc254).1) k) ?_
    show GoW _ _ _ _ _ _ _ (T245.setTop (mkF m 257 #[.val (.int qs), .val (.int qp), .val (.int (3 : Int32)), .val (.int (0 : Int32)), .val (.ref b1), .val (.ref b8), .val (.ref b32), .val (.ref b58), .val (.ref b8), .val (.int (2 : Int32)), .val (.ref b32), .val (.ref b58), .val (.ref b58), .val (.int (1 : Int32))] []))
    refine GoW.step (fun _ k => XS.aload X245.here hx rfl (hb hby at_257) rfl rfl  k) ?_
    show GoW _ _ _ _ _ _ _ (T245.setTop (mkF m 259 #[.val (.int qs), .val (.int qp), .val (.int (3 : Int32)), .val (.int (0 : Int32)), .val (.ref b1), .val (.ref b8), .val (.ref b32), .val (.ref b58), .val (.ref b8), .val (.int (2 : Int32)), .val (.ref b32), .val (.ref b58), .val (.ref b58), .val (.int (1 : Int32))] [(.ref b32)]))
    obtain ⟨T246, X246, e246, st246⟩ := getF X245 hx hZ hown (host := "") (Or.inl (hw _ (List.mem_of_getElem? (i := 70) rfl))) Via.refl e245 c237_6 (g := (mkF m 259 #[.val (.int qs), .val (.int qp), .val (.int (3 : Int32)), .val (.int (0 : Int32)), .val (.ref b1), .val (.ref b8), .val (.ref b32), .val (.ref b58), .val (.ref b8), .val (.int (2 : Int32)), .val (.ref b32), .val (.ref b58), .val (.ref b58), .val (.int (1 : Int32))] [(.ref b32)])) rfl rfl (hb hby at_259)
    refine GoW.step st246 ?_
    show GoW _ _ _ _ _ _ _ (T246.setTop (mkF m 262 #[.val (.int qs), .val (.int qp), .val (.int (3 : Int32)), .val (.int (0 : Int32)), .val (.ref b1), .val (.ref b8), .val (.ref b32), .val (.ref b58), .val (.ref b8), .val (.int (2 : Int32)), .val (.ref b32), .val (.ref b58), .val (.ref b58), .val (.int (1 : Int32))] [.null]))
    refine GoW.step (fun _ k => XS.ifnonnullNo X246.here hx rfl (hb hby at_262) rfl k) ?_
    show GoW _ _ _ _ _ _ _ (T246.setTop (mkF m 265 #[.val (.int qs), .val (.int qp), .val (.int (3 : Int32)), .val (.int (0 : Int32)), .val (.ref b1), .val (.ref b8), .val (.ref b32), .val (.ref b58), .val (.ref b8), .val (.int (2 : Int32)), .val (.ref b32), .val (.ref b58), .val (.ref b58), .val (.int (1 : Int32))] []))
    refine GoW.step (fun _ k => XS.aload X246.here hx rfl (hb hby at_265) rfl rfl  k) ?_
    show GoW _ _ _ _ _ _ _ (T246.setTop (mkF m 267 #[.val (.int qs), .val (.int qp), .val (.int (3 : Int32)), .val (.int (0 : Int32)), .val (.ref b1), .val (.ref b8), .val (.ref b32), .val (.ref b58), .val (.ref b8), .val (.int (2 : Int32)), .val (.ref b32), .val (.ref b58), .val (.ref b58), .val (.int (1 : Int32))] [(.ref b32)]))
    obtain ⟨T247, X247, e247, st247⟩ := getF X246 hx hZ hown (host := "") (Or.inl (hw _ (List.mem_of_getElem? (i := 71) rfl))) Via.refl e246 c237_8 (g := (mkF m 267 #[.val (.int qs), .val (.int qp), .val (.int (3 : Int32)), .val (.int (0 : Int32)), .val (.ref b1), .val (.ref b8), .val (.ref b32), .val (.ref b58), .val (.ref b8), .val (.int (2 : Int32)), .val (.ref b32), .val (.ref b58), .val (.ref b58), .val (.int (1 : Int32))] [(.ref b32)])) rfl rfl (hb hby at_267)
    refine GoW.step st247 ?_
    show GoW _ _ _ _ _ _ _ (T247.setTop (mkF m 270 #[.val (.int qs), .val (.int qp), .val (.int (3 : Int32)), .val (.int (0 : Int32)), .val (.ref b1), .val (.ref b8), .val (.ref b32), .val (.ref b58), .val (.ref b8), .val (.int (2 : Int32)), .val (.ref b32), .val (.ref b58), .val (.ref b58), .val (.int (1 : Int32))] [(.ref b58)]))
    refine GoW.step (fun _ k => XS.aload X247.here hx rfl (hb hby at_270) rfl rfl  k) ?_
    show GoW _ _ _ _ _ _ _ (T247.setTop (mkF m 272 #[.val (.int qs), .val (.int qp), .val (.int (3 : Int32)), .val (.int (0 : Int32)), .val (.ref b1), .val (.ref b8), .val (.ref b32), .val (.ref b58), .val (.ref b8), .val (.int (2 : Int32)), .val (.ref b32), .val (.ref b58), .val (.ref b58), .val (.int (1 : Int32))] [(.ref b58), (.ref b58)]))
    refine GoW.step (fun _ k => Jvm.RoadKit.acmp (g := (mkF m 272 #[.val (.int qs), .val (.int qp), .val (.int (3 : Int32)), .val (.int (0 : Int32)), .val (.ref b1), .val (.ref b8), .val (.ref b32), .val (.ref b58), .val (.ref b8), .val (.int (2 : Int32)), .val (.ref b32), .val (.ref b58), .val (.ref b58), .val (.int (1 : Int32))] [(.ref b58), (.ref b58)])) X247 hx rfl rfl rfl (pc0 := 272) (pc' := 275) (same := true) rfl (hb hby at_272) rfl (decide_eq_true rfl) (by decide) (by decide) k) ?_
    show GoW _ _ _ _ _ _ _ (T247.setTop (mkF m 275 #[.val (.int qs), .val (.int qp), .val (.int (3 : Int32)), .val (.int (0 : Int32)), .val (.ref b1), .val (.ref b8), .val (.ref b32), .val (.ref b58), .val (.ref b8), .val (.int (2 : Int32)), .val (.ref b32), .val (.ref b58), .val (.ref b58), .val (.int (1 : Int32))] []))
    refine GoW.step (fun _ k => XS.aload X247.here hx rfl (hb hby at_275) rfl rfl  k) ?_
    show GoW _ _ _ _ _ _ _ (T247.setTop (mkF m 277 #[.val (.int qs), .val (.int qp), .val (.int (3 : Int32)), .val (.int (0 : Int32)), .val (.ref b1), .val (.ref b8), .val (.ref b32), .val (.ref b58), .val (.ref b8), .val (.int (2 : Int32)), .val (.ref b32), .val (.ref b58), .val (.ref b58), .val (.int (1 : Int32))] [(.ref b32)]))
    obtain ⟨T248, X248, e248, st248⟩ := getF X247 hx hZ hown (host := "") (Or.inl (hw _ (List.mem_of_getElem? (i := 69) rfl))) Via.refl e247 c237_7 (g := (mkF m 277 #[.val (.int qs), .val (.int qp), .val (.int (3 : Int32)), .val (.int (0 : Int32)), .val (.ref b1), .val (.ref b8), .val (.ref b32), .val (.ref b58), .val (.ref b8), .val (.int (2 : Int32)), .val (.ref b32), .val (.ref b58), .val (.ref b58), .val (.int (1 : Int32))] [(.ref b32)])) rfl rfl (hb hby at_277)
    refine GoW.step st248 ?_
    show GoW _ _ _ _ _ _ _ (T248.setTop (mkF m 280 #[.val (.int qs), .val (.int qp), .val (.int (3 : Int32)), .val (.int (0 : Int32)), .val (.ref b1), .val (.ref b8), .val (.ref b32), .val (.ref b58), .val (.ref b8), .val (.int (2 : Int32)), .val (.ref b32), .val (.ref b58), .val (.ref b58), .val (.int (1 : Int32))] [(.ref b1)]))
    refine GoW.step (fun _ k => XS.aload X248.here hx rfl (hb hby at_280) rfl rfl  k) ?_
    show GoW _ _ _ _ _ _ _ (T248.setTop (mkF m 282 #[.val (.int qs), .val (.int qp), .val (.int (3 : Int32)), .val (.int (0 : Int32)), .val (.ref b1), .val (.ref b8), .val (.ref b32), .val (.ref b58), .val (.ref b8), .val (.int (2 : Int32)), .val (.ref b32), .val (.ref b58), .val (.ref b58), .val (.int (1 : Int32))] [(.ref b1), (.ref b1)]))
    refine GoW.step (fun _ k => Jvm.RoadKit.acmp (g := (mkF m 282 #[.val (.int qs), .val (.int qp), .val (.int (3 : Int32)), .val (.int (0 : Int32)), .val (.ref b1), .val (.ref b8), .val (.ref b32), .val (.ref b58), .val (.ref b8), .val (.int (2 : Int32)), .val (.ref b32), .val (.ref b58), .val (.ref b58), .val (.int (1 : Int32))] [(.ref b1), (.ref b1)])) X248 hx rfl rfl rfl (pc0 := 282) (pc' := 285) (same := true) rfl (hb hby at_282) rfl (decide_eq_true rfl) (by decide) (by decide) k) ?_
    show GoW _ _ _ _ _ _ _ (T248.setTop (mkF m 285 #[.val (.int qs), .val (.int qp), .val (.int (3 : Int32)), .val (.int (0 : Int32)), .val (.ref b1), .val (.ref b8), .val (.ref b32), .val (.ref b58), .val (.ref b8), .val (.int (2 : Int32)), .val (.ref b32), .val (.ref b58), .val (.ref b58), .val (.int (1 : Int32))] []))
    refine GoW.step (fun _ k => XS.iconst X248.here hx rfl (hb hby at_285) k) ?_
    show GoW _ _ _ _ _ _ _ (T248.setTop (mkF m 286 #[.val (.int qs), .val (.int qp), .val (.int (3 : Int32)), .val (.int (0 : Int32)), .val (.ref b1), .val (.ref b8), .val (.ref b32), .val (.ref b58), .val (.ref b8), .val (.int (2 : Int32)), .val (.ref b32), .val (.ref b58), .val (.ref b58), .val (.int (1 : Int32))] [(.int (1 : Int32))]))
    refine GoW.step (fun _ k => XS.goto X248.here hx rfl (pc0 := 286) (pc' := 290) rfl (hb hby at_286) (by decide) (by decide) k) ?_
    show GoW _ _ _ _ _ _ _ (T248.setTop (mkF m 290 #[.val (.int qs), .val (.int qp), .val (.int (3 : Int32)), .val (.int (0 : Int32)), .val (.ref b1), .val (.ref b8), .val (.ref b32), .val (.ref b58), .val (.ref b8), .val (.int (2 : Int32)), .val (.ref b32), .val (.ref b58), .val (.ref b58), .val (.int (1 : Int32))] [(.int (1 : Int32))]))
    refine GoW.step (fun _ k => XS.istore X248.here hx rfl (hb hby at_290) rfl (l' := #[.val (.int qs), .val (.int qp), .val (.int (3 : Int32)), .val (.int (0 : Int32)), .val (.ref b1), .val (.ref b8), .val (.ref b32), .val (.ref b58), .val (.ref b8), .val (.int (2 : Int32)), .val (.ref b32), .val (.ref b58), .val (.ref b58), .val (.int (1 : Int32))]) rfl k) ?_
    show GoW _ _ _ _ _ _ _ (T248.setTop (mkF m 292 #[.val (.int qs), .val (.int qp), .val (.int (3 : Int32)), .val (.int (0 : Int32)), .val (.ref b1), .val (.ref b8), .val (.ref b32), .val (.ref b58), .val (.ref b8), .val (.int (2 : Int32)), .val (.ref b32), .val (.ref b58), .val (.ref b58), .val (.int (1 : Int32))] []))
    refine GoW.step (fun _ k => XS.aload X248.here hx rfl (hb hby at_292) rfl rfl  k) ?_
    show GoW _ _ _ _ _ _ _ (T248.setTop (mkF m 294 #[.val (.int qs), .val (.int qp), .val (.int (3 : Int32)), .val (.int (0 : Int32)), .val (.ref b1), .val (.ref b8), .val (.ref b32), .val (.ref b58), .val (.ref b8), .val (.int (2 : Int32)), .val (.ref b32), .val (.ref b58), .val (.ref b58), .val (.int (1 : Int32))] [(.ref b58)]))
    refine GoW.step (fun _ k => XS.ifnullNo X248.here hx rfl (hb hby at_294) rfl k) ?_
    show GoW _ _ _ _ _ _ _ (T248.setTop (mkF m 297 #[.val (.int qs), .val (.int qp), .val (.int (3 : Int32)), .val (.int (0 : Int32)), .val (.ref b1), .val (.ref b8), .val (.ref b32), .val (.ref b58), .val (.ref b8), .val (.int (2 : Int32)), .val (.ref b32), .val (.ref b58), .val (.ref b58), .val (.int (1 : Int32))] []))
    refine GoW.step (fun _ k => XS.iload X248.here hx rfl (hb hby at_297) rfl  k) ?_
    show GoW _ _ _ _ _ _ _ (T248.setTop (mkF m 299 #[.val (.int qs), .val (.int qp), .val (.int (3 : Int32)), .val (.int (0 : Int32)), .val (.ref b1), .val (.ref b8), .val (.ref b32), .val (.ref b58), .val (.ref b8), .val (.int (2 : Int32)), .val (.ref b32), .val (.ref b58), .val (.ref b58), .val (.int (1 : Int32))] [(.int (1 : Int32))]))
    have hc299 : ¬ ((1 : Int32) = (0 : Int32)) := hc254
    refine GoW.step (fun _ k => XS.ifNo X248.here hx rfl (hb hby at_299) rfl ((if0 _ _).trans (feq hc299).1) k) ?_
    show GoW _ _ _ _ _ _ _ (T248.setTop (mkF m 302 #[.val (.int qs), .val (.int qp), .val (.int (3 : Int32)), .val (.int (0 : Int32)), .val (.ref b1), .val (.ref b8), .val (.ref b32), .val (.ref b58), .val (.ref b8), .val (.int (2 : Int32)), .val (.ref b32), .val (.ref b58), .val (.ref b58), .val (.int (1 : Int32))] []))
    refine GoW.step (fun _ k => XS.aload X248.here hx rfl (hb hby at_302) rfl rfl  k) ?_
    show GoW _ _ _ _ _ _ _ (T248.setTop (mkF m 304 #[.val (.int qs), .val (.int qp), .val (.int (3 : Int32)), .val (.int (0 : Int32)), .val (.ref b1), .val (.ref b8), .val (.ref b32), .val (.ref b58), .val (.ref b8), .val (.int (2 : Int32)), .val (.ref b32), .val (.ref b58), .val (.ref b58), .val (.int (1 : Int32))] [(.ref b58)]))
    have f249 : Fld Z T237.heap b58 "com/example/steward/steward/runtime/Agent" "ahead" "Lcom/example/steward/steward/runtime/Agent;" (.ref b32) := (c229_4.keep K237 (ninS (Ne.symm ne60) (ninS (Ne.symm ne62) (ninS (Ne.symm ne63) nin0))))
    obtain ⟨T250, X250, e250, st250⟩ := getF X248 hx hZ hown (host := "") (Or.inl (hw _ (List.mem_of_getElem? (i := 70) rfl))) Via.refl e248 f249 (g := (mkF m 304 #[.val (.int qs), .val (.int qp), .val (.int (3 : Int32)), .val (.int (0 : Int32)), .val (.ref b1), .val (.ref b8), .val (.ref b32), .val (.ref b58), .val (.ref b8), .val (.int (2 : Int32)), .val (.ref b32), .val (.ref b58), .val (.ref b58), .val (.int (1 : Int32))] [(.ref b58)])) rfl rfl (hb hby at_304)
    refine GoW.step st250 ?_
    show GoW _ _ _ _ _ _ _ (T250.setTop (mkF m 307 #[.val (.int qs), .val (.int qp), .val (.int (3 : Int32)), .val (.int (0 : Int32)), .val (.ref b1), .val (.ref b8), .val (.ref b32), .val (.ref b58), .val (.ref b8), .val (.int (2 : Int32)), .val (.ref b32), .val (.ref b58), .val (.ref b58), .val (.int (1 : Int32))] [(.ref b32)]))
    refine GoW.step (fun _ k => XS.aload X250.here hx rfl (hb hby at_307) rfl rfl  k) ?_
    show GoW _ _ _ _ _ _ _ (T250.setTop (mkF m 309 #[.val (.int qs), .val (.int qp), .val (.int (3 : Int32)), .val (.int (0 : Int32)), .val (.ref b1), .val (.ref b8), .val (.ref b32), .val (.ref b58), .val (.ref b8), .val (.int (2 : Int32)), .val (.ref b32), .val (.ref b58), .val (.ref b58), .val (.int (1 : Int32))] [(.ref b32), (.ref b32)]))
    refine GoW.step (fun _ k => Jvm.RoadKit.acmp (g := (mkF m 309 #[.val (.int qs), .val (.int qp), .val (.int (3 : Int32)), .val (.int (0 : Int32)), .val (.ref b1), .val (.ref b8), .val (.ref b32), .val (.ref b58), .val (.ref b8), .val (.int (2 : Int32)), .val (.ref b32), .val (.ref b58), .val (.ref b58), .val (.int (1 : Int32))] [(.ref b32), (.ref b32)])) X250 hx rfl rfl rfl (pc0 := 309) (pc' := 312) (same := true) rfl (hb hby at_309) rfl (decide_eq_true rfl) (by decide) (by decide) k) ?_
    show GoW _ _ _ _ _ _ _ (T250.setTop (mkF m 312 #[.val (.int qs), .val (.int qp), .val (.int (3 : Int32)), .val (.int (0 : Int32)), .val (.ref b1), .val (.ref b8), .val (.ref b32), .val (.ref b58), .val (.ref b8), .val (.int (2 : Int32)), .val (.ref b32), .val (.ref b58), .val (.ref b58), .val (.int (1 : Int32))] []))
    refine GoW.step (fun _ k => XS.aload X250.here hx rfl (hb hby at_312) rfl rfl  k) ?_
    show GoW _ _ _ _ _ _ _ (T250.setTop (mkF m 314 #[.val (.int qs), .val (.int qp), .val (.int (3 : Int32)), .val (.int (0 : Int32)), .val (.ref b1), .val (.ref b8), .val (.ref b32), .val (.ref b58), .val (.ref b8), .val (.int (2 : Int32)), .val (.ref b32), .val (.ref b58), .val (.ref b58), .val (.int (1 : Int32))] [(.ref b58)]))
    have f251 : Fld Z T237.heap b58 "com/example/steward/steward/runtime/Agent" "behind" "Lcom/example/steward/steward/runtime/Agent;" .null := (c229_5.keep K237 (ninS (Ne.symm ne60) (ninS (Ne.symm ne62) (ninS (Ne.symm ne63) nin0))))
    obtain ⟨T252, X252, e252, st252⟩ := getF X250 hx hZ hown (host := "") (Or.inl (hw _ (List.mem_of_getElem? (i := 71) rfl))) Via.refl e250 f251 (g := (mkF m 314 #[.val (.int qs), .val (.int qp), .val (.int (3 : Int32)), .val (.int (0 : Int32)), .val (.ref b1), .val (.ref b8), .val (.ref b32), .val (.ref b58), .val (.ref b8), .val (.int (2 : Int32)), .val (.ref b32), .val (.ref b58), .val (.ref b58), .val (.int (1 : Int32))] [(.ref b58)])) rfl rfl (hb hby at_314)
    refine GoW.step st252 ?_
    show GoW _ _ _ _ _ _ _ (T252.setTop (mkF m 317 #[.val (.int qs), .val (.int qp), .val (.int (3 : Int32)), .val (.int (0 : Int32)), .val (.ref b1), .val (.ref b8), .val (.ref b32), .val (.ref b58), .val (.ref b8), .val (.int (2 : Int32)), .val (.ref b32), .val (.ref b58), .val (.ref b58), .val (.int (1 : Int32))] [.null]))
    refine GoW.step (fun _ k => XS.ifnonnullNo X252.here hx rfl (hb hby at_317) rfl k) ?_
    show GoW _ _ _ _ _ _ _ (T252.setTop (mkF m 320 #[.val (.int qs), .val (.int qp), .val (.int (3 : Int32)), .val (.int (0 : Int32)), .val (.ref b1), .val (.ref b8), .val (.ref b32), .val (.ref b58), .val (.ref b8), .val (.int (2 : Int32)), .val (.ref b32), .val (.ref b58), .val (.ref b58), .val (.int (1 : Int32))] []))
    refine GoW.step (fun _ k => XS.aload X252.here hx rfl (hb hby at_320) rfl rfl  k) ?_
    show GoW _ _ _ _ _ _ _ (T252.setTop (mkF m 322 #[.val (.int qs), .val (.int qp), .val (.int (3 : Int32)), .val (.int (0 : Int32)), .val (.ref b1), .val (.ref b8), .val (.ref b32), .val (.ref b58), .val (.ref b8), .val (.int (2 : Int32)), .val (.ref b32), .val (.ref b58), .val (.ref b58), .val (.int (1 : Int32))] [(.ref b58)]))
    have f253 : Fld Z T237.heap b58 "com/example/steward/steward/runtime/Agent" "group" "Lcom/example/steward/steward/runtime/Group;" (.ref b1) := (c229_3.keep K237 (ninS (Ne.symm ne60) (ninS (Ne.symm ne62) (ninS (Ne.symm ne63) nin0))))
    obtain ⟨T254, X254, e254, st254⟩ := getF X252 hx hZ hown (host := "") (Or.inl (hw _ (List.mem_of_getElem? (i := 69) rfl))) Via.refl e252 f253 (g := (mkF m 322 #[.val (.int qs), .val (.int qp), .val (.int (3 : Int32)), .val (.int (0 : Int32)), .val (.ref b1), .val (.ref b8), .val (.ref b32), .val (.ref b58), .val (.ref b8), .val (.int (2 : Int32)), .val (.ref b32), .val (.ref b58), .val (.ref b58), .val (.int (1 : Int32))] [(.ref b58)])) rfl rfl (hb hby at_322)
    refine GoW.step st254 ?_
    show GoW _ _ _ _ _ _ _ (T254.setTop (mkF m 325 #[.val (.int qs), .val (.int qp), .val (.int (3 : Int32)), .val (.int (0 : Int32)), .val (.ref b1), .val (.ref b8), .val (.ref b32), .val (.ref b58), .val (.ref b8), .val (.int (2 : Int32)), .val (.ref b32), .val (.ref b58), .val (.ref b58), .val (.int (1 : Int32))] [(.ref b1)]))
    refine GoW.step (fun _ k => XS.aload X254.here hx rfl (hb hby at_325) rfl rfl  k) ?_
    show GoW _ _ _ _ _ _ _ (T254.setTop (mkF m 327 #[.val (.int qs), .val (.int qp), .val (.int (3 : Int32)), .val (.int (0 : Int32)), .val (.ref b1), .val (.ref b8), .val (.ref b32), .val (.ref b58), .val (.ref b8), .val (.int (2 : Int32)), .val (.ref b32), .val (.ref b58), .val (.ref b58), .val (.int (1 : Int32))] [(.ref b1), (.ref b1)]))
    refine GoW.step (fun _ k => Jvm.RoadKit.acmp (g := (mkF m 327 #[.val (.int qs), .val (.int qp), .val (.int (3 : Int32)), .val (.int (0 : Int32)), .val (.ref b1), .val (.ref b8), .val (.ref b32), .val (.ref b58), .val (.ref b8), .val (.int (2 : Int32)), .val (.ref b32), .val (.ref b58), .val (.ref b58), .val (.int (1 : Int32))] [(.ref b1), (.ref b1)])) X254 hx rfl rfl rfl (pc0 := 327) (pc' := 330) (same := true) rfl (hb hby at_327) rfl (decide_eq_true rfl) (by decide) (by decide) k) ?_
    show GoW _ _ _ _ _ _ _ (T254.setTop (mkF m 330 #[.val (.int qs), .val (.int qp), .val (.int (3 : Int32)), .val (.int (0 : Int32)), .val (.ref b1), .val (.ref b8), .val (.ref b32), .val (.ref b58), .val (.ref b8), .val (.int (2 : Int32)), .val (.ref b32), .val (.ref b58), .val (.ref b58), .val (.int (1 : Int32))] []))
    refine GoW.step (fun _ k => XS.iconst X254.here hx rfl (hb hby at_330) k) ?_
    show GoW _ _ _ _ _ _ _ (T254.setTop (mkF m 331 #[.val (.int qs), .val (.int qp), .val (.int (3 : Int32)), .val (.int (0 : Int32)), .val (.ref b1), .val (.ref b8), .val (.ref b32), .val (.ref b58), .val (.ref b8), .val (.int (2 : Int32)), .val (.ref b32), .val (.ref b58), .val (.ref b58), .val (.int (1 : Int32))] [(.int (1 : Int32))]))
    refine GoW.step (fun _ k => XS.goto X254.here hx rfl (pc0 := 331) (pc' := 335) rfl (hb hby at_331) (by decide) (by decide) k) ?_
    show GoW _ _ _ _ _ _ _ (T254.setTop (mkF m 335 #[.val (.int qs), .val (.int qp), .val (.int (3 : Int32)), .val (.int (0 : Int32)), .val (.ref b1), .val (.ref b8), .val (.ref b32), .val (.ref b58), .val (.ref b8), .val (.int (2 : Int32)), .val (.ref b32), .val (.ref b58), .val (.ref b58), .val (.int (1 : Int32))] [(.int (1 : Int32))]))
    refine GoW.step (fun _ k => XS.istore X254.here hx rfl (hb hby at_335) rfl (l' := #[.val (.int qs), .val (.int qp), .val (.int (3 : Int32)), .val (.int (0 : Int32)), .val (.ref b1), .val (.ref b8), .val (.ref b32), .val (.ref b58), .val (.ref b8), .val (.int (2 : Int32)), .val (.ref b32), .val (.ref b58), .val (.ref b58), .val (.int (1 : Int32))]) rfl k) ?_
    show GoW _ _ _ _ _ _ _ (T254.setTop (mkF m 337 #[.val (.int qs), .val (.int qp), .val (.int (3 : Int32)), .val (.int (0 : Int32)), .val (.ref b1), .val (.ref b8), .val (.ref b32), .val (.ref b58), .val (.ref b8), .val (.int (2 : Int32)), .val (.ref b32), .val (.ref b58), .val (.ref b58), .val (.int (1 : Int32))] []))
    refine GoW.step (fun _ k => XS.iloadN X254.here hx rfl (hb hby at_337) rfl  k) ?_
    show GoW _ _ _ _ _ _ _ (T254.setTop (mkF m 338 #[.val (.int qs), .val (.int qp), .val (.int (3 : Int32)), .val (.int (0 : Int32)), .val (.ref b1), .val (.ref b8), .val (.ref b32), .val (.ref b58), .val (.ref b8), .val (.int (2 : Int32)), .val (.ref b32), .val (.ref b58), .val (.ref b58), .val (.int (1 : Int32))] [(.int (3 : Int32))]))
    refine GoW.step (fun _ k => XS.iconst X254.here hx rfl (hb hby at_338) k) ?_
    show GoW _ _ _ _ _ _ _ (T254.setTop (mkF m 339 #[.val (.int qs), .val (.int qp), .val (.int (3 : Int32)), .val (.int (0 : Int32)), .val (.ref b1), .val (.ref b8), .val (.ref b32), .val (.ref b58), .val (.ref b8), .val (.int (2 : Int32)), .val (.ref b32), .val (.ref b58), .val (.ref b58), .val (.int (1 : Int32))] [(.int (3 : Int32)), (.int (3 : Int32))]))
    have hc339 : ¬ ((3 : Int32) < (3 : Int32)) := hc78
    refine GoW.step (fun _ k => XS.icmpYes X254.here hx rfl (pc0 := 339) (pc' := 378) rfl (hb hby at_339) rfl (flt hc339).2.1 (by decide) (by decide) k) ?_
    show GoW _ _ _ _ _ _ _ (T254.setTop (mkF m 378 #[.val (.int qs), .val (.int qp), .val (.int (3 : Int32)), .val (.int (0 : Int32)), .val (.ref b1), .val (.ref b8), .val (.ref b32), .val (.ref b58), .val (.ref b8), .val (.int (2 : Int32)), .val (.ref b32), .val (.ref b58), .val (.ref b58), .val (.int (1 : Int32))] []))
    refine GoW.step (fun _ k => XS.aload X254.here hx rfl (hb hby at_378) rfl rfl  k) ?_
    show GoW _ _ _ _ _ _ _ (T254.setTop (mkF m 380 #[.val (.int qs), .val (.int qp), .val (.int (3 : Int32)), .val (.int (0 : Int32)), .val (.ref b1), .val (.ref b8), .val (.ref b32), .val (.ref b58), .val (.ref b8), .val (.int (2 : Int32)), .val (.ref b32), .val (.ref b58), .val (.ref b58), .val (.int (1 : Int32))] [(.ref b1)]))
    refine GoW.step (fun _ k => XS.aload X254.here hx rfl (hb hby at_380) rfl rfl  k) ?_
    show GoW _ _ _ _ _ _ _ (T254.setTop (mkF m 382 #[.val (.int qs), .val (.int qp), .val (.int (3 : Int32)), .val (.int (0 : Int32)), .val (.ref b1), .val (.ref b8), .val (.ref b32), .val (.ref b58), .val (.ref b8), .val (.int (2 : Int32)), .val (.ref b32), .val (.ref b58), .val (.ref b58), .val (.int (1 : Int32))] [(.ref b8), (.ref b1)]))
    have f255 : Exa Z T237.heap b58 "com/example/steward/steward/runtime/Agent" := (c229_1.keep K237)
    obtain ⟨cq256, kq256, q256a, q256b, q256c⟩ := isOf hZ e254 c237_0
    obtain ⟨_, _, ⟨T256, L256, k256, n256⟩, -, X256, ⟨Lc256, hQ256, l256, y256, z256⟩, st256⟩ := X254.virtualBack hx (y := (⟨"com/example/steward/steward/runtime/Group", "add", "(Lcom/example/steward/steward/runtime/Agent;)V"⟩ : MethodName)) (z := (⟨"com/example/steward/steward/runtime/Group", "add", "(Lcom/example/steward/steward/runtime/Agent;)V"⟩ : MethodName)) hown (mvT hZ (hw _ (List.mem_of_getElem? (i := 49) rfl))) (mvT hZ (hw _ (List.mem_of_getElem? (i := 50) rfl))) (notFace_of_selects (args := #[]) (mvT hZ (hw _ (List.mem_of_getElem? (i := 52) rfl)))) (mvT hZ (hw _ (List.mem_of_getElem? (i := 52) rfl))) (mvT hZ (hw _ (List.mem_of_getElem? (i := 51) rfl))) (by decide) (backOf (W := 0) (rmadd1 l Z aZ hw [] b1 b8 Value.null Value.null Value.null (Value.ref b32) b58 Value.null (Value.ref b1) (Value.ref b32) T237.heap n0 z238 c237_0 c237_1 c237_2 c237_3 c237_4 c237_9 c237_10 f255 f251 f253 f249 ne62 gn1 gn8 gn58) hZ (hw _ (List.mem_of_getElem? (i := 53) rfl)) (hw _ (List.mem_of_getElem? (i := 3) rfl)) (by decide) (by decide)) q256a q256c (g := (mkF m 382 #[.val (.int qs), .val (.int qp), .val (.int (3 : Int32)), .val (.int (0 : Int32)), .val (.ref b1), .val (.ref b8), .val (.ref b32), .val (.ref b58), .val (.ref b8), .val (.int (2 : Int32)), .val (.ref b32), .val (.ref b58), .val (.ref b58), .val (.int (1 : Int32))] [(.ref b8), (.ref b1)])) rfl (by rw [hml]; rfl) (Steps.refl _) (argsL := [(.ref b8)]) (rest := []) (lenOf pd_3 rfl) rfl (by show 2 * 0 + _ ≤ _; exact Nat.le_of_eq rfl) (hb hby at_382) (fun _ _ => ⟨rfl, e254, (by decide : 16 + 0 ≤ _), (by decide : 74 + 0 ≤ _)⟩)
    dsimp only [Pt.U, Pt.locs, Pt.cells, Pt.slots] at X256 l256 y256 z256 st256 hQ256
    subst l256 y256 z256
    obtain ⟨rfl, Nq256, K256, c256_0, c256_1, c256_2, c256_3, c256_4, c256_5, c256_6, c256_7, c256_8, c256_9, c256_10⟩ := hQ256
    have N256 := Fr.app N245 Nq256
    refine GoW.tr st256 ?_
    have z257 : n0 ≤ T256.heap.size := Nat.le_trans z238 K256.1
    have sqz257 : h0.size ≤ T256.heap.size := Nat.le_trans sqz238 K256.1
    have hk259 := Nat.le_trans hk240 K256.1
    show GoW _ _ _ _ _ _ _ (T256.setTop (mkF m 385 #[.val (.int qs), .val (.int qp), .val (.int (3 : Int32)), .val (.int (0 : Int32)), .val (.ref b1), .val (.ref b8), .val (.ref b32), .val (.ref b58), .val (.ref b8), .val (.int (2 : Int32)), .val (.ref b32), .val (.ref b58), .val (.ref b58), .val (.int (1 : Int32))] []))
    refine GoW.step (fun _ k => XS.iload X256.here hx rfl (hb hby at_385) rfl  k) ?_
    show GoW _ _ _ _ _ _ _ (T256.setTop (mkF m 387 #[.val (.int qs), .val (.int qp), .val (.int (3 : Int32)), .val (.int (0 : Int32)), .val (.ref b1), .val (.ref b8), .val (.ref b32), .val (.ref b58), .val (.ref b8), .val (.int (2 : Int32)), .val (.ref b32), .val (.ref b58), .val (.ref b58), .val (.int (1 : Int32))] [(.int (1 : Int32))]))
    have hc387 : ¬ ((1 : Int32) = (0 : Int32)) := hc299
    refine GoW.step (fun _ k => XS.ifNo X256.here hx rfl (hb hby at_387) rfl ((if0 _ _).trans (feq hc387).1) k) ?_
    show GoW _ _ _ _ _ _ _ (T256.setTop (mkF m 390 #[.val (.int qs), .val (.int qp), .val (.int (3 : Int32)), .val (.int (0 : Int32)), .val (.ref b1), .val (.ref b8), .val (.ref b32), .val (.ref b58), .val (.ref b8), .val (.int (2 : Int32)), .val (.ref b32), .val (.ref b58), .val (.ref b58), .val (.int (1 : Int32))] []))
    refine GoW.step (fun _ k => XS.aload X256.here hx rfl (hb hby at_390) rfl rfl  k) ?_
    show GoW _ _ _ _ _ _ _ (T256.setTop (mkF m 392 #[.val (.int qs), .val (.int qp), .val (.int (3 : Int32)), .val (.int (0 : Int32)), .val (.ref b1), .val (.ref b8), .val (.ref b32), .val (.ref b58), .val (.ref b8), .val (.int (2 : Int32)), .val (.ref b32), .val (.ref b58), .val (.ref b58), .val (.int (1 : Int32))] [(.ref b8)]))
    obtain ⟨T260, X260, e260, st260⟩ := getF X256 hx hZ hown (host := "") (Or.inl (hw _ (List.mem_of_getElem? (i := 70) rfl))) Via.refl rfl c256_4 (g := (mkF m 392 #[.val (.int qs), .val (.int qp), .val (.int (3 : Int32)), .val (.int (0 : Int32)), .val (.ref b1), .val (.ref b8), .val (.ref b32), .val (.ref b58), .val (.ref b8), .val (.int (2 : Int32)), .val (.ref b32), .val (.ref b58), .val (.ref b58), .val (.int (1 : Int32))] [(.ref b8)])) rfl rfl (hb hby at_392)
    refine GoW.step st260 ?_
    show GoW _ _ _ _ _ _ _ (T260.setTop (mkF m 395 #[.val (.int qs), .val (.int qp), .val (.int (3 : Int32)), .val (.int (0 : Int32)), .val (.ref b1), .val (.ref b8), .val (.ref b32), .val (.ref b58), .val (.ref b8), .val (.int (2 : Int32)), .val (.ref b32), .val (.ref b58), .val (.ref b58), .val (.int (1 : Int32))] [(.ref b58)]))
    refine GoW.step (fun _ k => XS.aload X260.here hx rfl (hb hby at_395) rfl rfl  k) ?_
    show GoW _ _ _ _ _ _ _ (T260.setTop (mkF m 397 #[.val (.int qs), .val (.int qp), .val (.int (3 : Int32)), .val (.int (0 : Int32)), .val (.ref b1), .val (.ref b8), .val (.ref b32), .val (.ref b58), .val (.ref b8), .val (.int (2 : Int32)), .val (.ref b32), .val (.ref b58), .val (.ref b58), .val (.int (1 : Int32))] [(.ref b58), (.ref b58)]))
    refine GoW.step (fun _ k => Jvm.RoadKit.acmp (g := (mkF m 397 #[.val (.int qs), .val (.int qp), .val (.int (3 : Int32)), .val (.int (0 : Int32)), .val (.ref b1), .val (.ref b8), .val (.ref b32), .val (.ref b58), .val (.ref b8), .val (.int (2 : Int32)), .val (.ref b32), .val (.ref b58), .val (.ref b58), .val (.int (1 : Int32))] [(.ref b58), (.ref b58)])) X260 hx rfl rfl rfl (pc0 := 397) (pc' := 400) (same := true) rfl (hb hby at_397) rfl (decide_eq_true rfl) (by decide) (by decide) k) ?_
    show GoW _ _ _ _ _ _ _ (T260.setTop (mkF m 400 #[.val (.int qs), .val (.int qp), .val (.int (3 : Int32)), .val (.int (0 : Int32)), .val (.ref b1), .val (.ref b8), .val (.ref b32), .val (.ref b58), .val (.ref b8), .val (.int (2 : Int32)), .val (.ref b32), .val (.ref b58), .val (.ref b58), .val (.int (1 : Int32))] []))
    refine GoW.step (fun _ k => XS.aload X260.here hx rfl (hb hby at_400) rfl rfl  k) ?_
    show GoW _ _ _ _ _ _ _ (T260.setTop (mkF m 402 #[.val (.int qs), .val (.int qp), .val (.int (3 : Int32)), .val (.int (0 : Int32)), .val (.ref b1), .val (.ref b8), .val (.ref b32), .val (.ref b58), .val (.ref b8), .val (.int (2 : Int32)), .val (.ref b32), .val (.ref b58), .val (.ref b58), .val (.int (1 : Int32))] [(.ref b8)]))
    obtain ⟨T261, X261, e261, st261⟩ := getF X260 hx hZ hown (host := "") (Or.inl (hw _ (List.mem_of_getElem? (i := 71) rfl))) Via.refl e260 c256_5 (g := (mkF m 402 #[.val (.int qs), .val (.int qp), .val (.int (3 : Int32)), .val (.int (0 : Int32)), .val (.ref b1), .val (.ref b8), .val (.ref b32), .val (.ref b58), .val (.ref b8), .val (.int (2 : Int32)), .val (.ref b32), .val (.ref b58), .val (.ref b58), .val (.int (1 : Int32))] [(.ref b8)])) rfl rfl (hb hby at_402)
    refine GoW.step st261 ?_
    show GoW _ _ _ _ _ _ _ (T261.setTop (mkF m 405 #[.val (.int qs), .val (.int qp), .val (.int (3 : Int32)), .val (.int (0 : Int32)), .val (.ref b1), .val (.ref b8), .val (.ref b32), .val (.ref b58), .val (.ref b8), .val (.int (2 : Int32)), .val (.ref b32), .val (.ref b58), .val (.ref b58), .val (.int (1 : Int32))] [.null]))
    refine GoW.step (fun _ k => XS.ifnonnullNo X261.here hx rfl (hb hby at_405) rfl k) ?_
    show GoW _ _ _ _ _ _ _ (T261.setTop (mkF m 408 #[.val (.int qs), .val (.int qp), .val (.int (3 : Int32)), .val (.int (0 : Int32)), .val (.ref b1), .val (.ref b8), .val (.ref b32), .val (.ref b58), .val (.ref b8), .val (.int (2 : Int32)), .val (.ref b32), .val (.ref b58), .val (.ref b58), .val (.int (1 : Int32))] []))
    refine GoW.step (fun _ k => XS.iconst X261.here hx rfl (hb hby at_408) k) ?_
    show GoW _ _ _ _ _ _ _ (T261.setTop (mkF m 409 #[.val (.int qs), .val (.int qp), .val (.int (3 : Int32)), .val (.int (0 : Int32)), .val (.ref b1), .val (.ref b8), .val (.ref b32), .val (.ref b58), .val (.ref b8), .val (.int (2 : Int32)), .val (.ref b32), .val (.ref b58), .val (.ref b58), .val (.int (1 : Int32))] [(.int (1 : Int32))]))
    refine GoW.step (fun _ k => XS.goto X261.here hx rfl (pc0 := 409) (pc' := 413) rfl (hb hby at_409) (by decide) (by decide) k) ?_
    show GoW _ _ _ _ _ _ _ (T261.setTop (mkF m 413 #[.val (.int qs), .val (.int qp), .val (.int (3 : Int32)), .val (.int (0 : Int32)), .val (.ref b1), .val (.ref b8), .val (.ref b32), .val (.ref b58), .val (.ref b8), .val (.int (2 : Int32)), .val (.ref b32), .val (.ref b58), .val (.ref b58), .val (.int (1 : Int32))] [(.int (1 : Int32))]))
    refine GoW.step (fun _ k => XS.istore X261.here hx rfl (hb hby at_413) rfl (l' := #[.val (.int qs), .val (.int qp), .val (.int (3 : Int32)), .val (.int (0 : Int32)), .val (.ref b1), .val (.ref b8), .val (.ref b32), .val (.ref b58), .val (.ref b8), .val (.int (2 : Int32)), .val (.ref b32), .val (.ref b58), .val (.ref b58), .val (.int (1 : Int32))]) rfl k) ?_
    show GoW _ _ _ _ _ _ _ (T261.setTop (mkF m 415 #[.val (.int qs), .val (.int qp), .val (.int (3 : Int32)), .val (.int (0 : Int32)), .val (.ref b1), .val (.ref b8), .val (.ref b32), .val (.ref b58), .val (.ref b8), .val (.int (2 : Int32)), .val (.ref b32), .val (.ref b58), .val (.ref b58), .val (.int (1 : Int32))] []))
    refine GoW.step (fun _ k => XS.aload X261.here hx rfl (hb hby at_415) rfl rfl  k) ?_
    show GoW _ _ _ _ _ _ _ (T261.setTop (mkF m 417 #[.val (.int qs), .val (.int qp), .val (.int (3 : Int32)), .val (.int (0 : Int32)), .val (.ref b1), .val (.ref b8), .val (.ref b32), .val (.ref b58), .val (.ref b8), .val (.int (2 : Int32)), .val (.ref b32), .val (.ref b58), .val (.ref b58), .val (.int (1 : Int32))] [(.ref b58)]))
    refine GoW.step (fun _ k => XS.ifnullNo X261.here hx rfl (hb hby at_417) rfl k) ?_
    show GoW _ _ _ _ _ _ _ (T261.setTop (mkF m 420 #[.val (.int qs), .val (.int qp), .val (.int (3 : Int32)), .val (.int (0 : Int32)), .val (.ref b1), .val (.ref b8), .val (.ref b32), .val (.ref b58), .val (.ref b8), .val (.int (2 : Int32)), .val (.ref b32), .val (.ref b58), .val (.ref b58), .val (.int (1 : Int32))] []))
    refine GoW.step (fun _ k => XS.iload X261.here hx rfl (hb hby at_420) rfl  k) ?_
    show GoW _ _ _ _ _ _ _ (T261.setTop (mkF m 422 #[.val (.int qs), .val (.int qp), .val (.int (3 : Int32)), .val (.int (0 : Int32)), .val (.ref b1), .val (.ref b8), .val (.ref b32), .val (.ref b58), .val (.ref b8), .val (.int (2 : Int32)), .val (.ref b32), .val (.ref b58), .val (.ref b58), .val (.int (1 : Int32))] [(.int (1 : Int32))]))
    have hc422 : ¬ ((1 : Int32) = (0 : Int32)) := hc387
    refine GoW.step (fun _ k => XS.ifNo X261.here hx rfl (hb hby at_422) rfl ((if0 _ _).trans (feq hc422).1) k) ?_
    show GoW _ _ _ _ _ _ _ (T261.setTop (mkF m 425 #[.val (.int qs), .val (.int qp), .val (.int (3 : Int32)), .val (.int (0 : Int32)), .val (.ref b1), .val (.ref b8), .val (.ref b32), .val (.ref b58), .val (.ref b8), .val (.int (2 : Int32)), .val (.ref b32), .val (.ref b58), .val (.ref b58), .val (.int (1 : Int32))] []))
    refine GoW.step (fun _ k => XS.aload X261.here hx rfl (hb hby at_425) rfl rfl  k) ?_
    show GoW _ _ _ _ _ _ _ (T261.setTop (mkF m 427 #[.val (.int qs), .val (.int qp), .val (.int (3 : Int32)), .val (.int (0 : Int32)), .val (.ref b1), .val (.ref b8), .val (.ref b32), .val (.ref b58), .val (.ref b8), .val (.int (2 : Int32)), .val (.ref b32), .val (.ref b58), .val (.ref b58), .val (.int (1 : Int32))] [(.ref b58)]))
    obtain ⟨T262, X262, e262, st262⟩ := getF X261 hx hZ hown (host := "") (Or.inl (hw _ (List.mem_of_getElem? (i := 71) rfl))) Via.refl e261 c256_6 (g := (mkF m 427 #[.val (.int qs), .val (.int qp), .val (.int (3 : Int32)), .val (.int (0 : Int32)), .val (.ref b1), .val (.ref b8), .val (.ref b32), .val (.ref b58), .val (.ref b8), .val (.int (2 : Int32)), .val (.ref b32), .val (.ref b58), .val (.ref b58), .val (.int (1 : Int32))] [(.ref b58)])) rfl rfl (hb hby at_427)
    refine GoW.step st262 ?_
    show GoW _ _ _ _ _ _ _ (T262.setTop (mkF m 430 #[.val (.int qs), .val (.int qp), .val (.int (3 : Int32)), .val (.int (0 : Int32)), .val (.ref b1), .val (.ref b8), .val (.ref b32), .val (.ref b58), .val (.ref b8), .val (.int (2 : Int32)), .val (.ref b32), .val (.ref b58), .val (.ref b58), .val (.int (1 : Int32))] [(.ref b8)]))
    refine GoW.step (fun _ k => XS.aload X262.here hx rfl (hb hby at_430) rfl rfl  k) ?_
    show GoW _ _ _ _ _ _ _ (T262.setTop (mkF m 432 #[.val (.int qs), .val (.int qp), .val (.int (3 : Int32)), .val (.int (0 : Int32)), .val (.ref b1), .val (.ref b8), .val (.ref b32), .val (.ref b58), .val (.ref b8), .val (.int (2 : Int32)), .val (.ref b32), .val (.ref b58), .val (.ref b58), .val (.int (1 : Int32))] [(.ref b8), (.ref b8)]))
    refine GoW.step (fun _ k => Jvm.RoadKit.acmp (g := (mkF m 432 #[.val (.int qs), .val (.int qp), .val (.int (3 : Int32)), .val (.int (0 : Int32)), .val (.ref b1), .val (.ref b8), .val (.ref b32), .val (.ref b58), .val (.ref b8), .val (.int (2 : Int32)), .val (.ref b32), .val (.ref b58), .val (.ref b58), .val (.int (1 : Int32))] [(.ref b8), (.ref b8)])) X262 hx rfl rfl rfl (pc0 := 432) (pc' := 435) (same := true) rfl (hb hby at_432) rfl (decide_eq_true rfl) (by decide) (by decide) k) ?_
    show GoW _ _ _ _ _ _ _ (T262.setTop (mkF m 435 #[.val (.int qs), .val (.int qp), .val (.int (3 : Int32)), .val (.int (0 : Int32)), .val (.ref b1), .val (.ref b8), .val (.ref b32), .val (.ref b58), .val (.ref b8), .val (.int (2 : Int32)), .val (.ref b32), .val (.ref b58), .val (.ref b58), .val (.int (1 : Int32))] []))
    refine GoW.step (fun _ k => XS.iconst X262.here hx rfl (hb hby at_435) k) ?_
    show GoW _ _ _ _ _ _ _ (T262.setTop (mkF m 436 #[.val (.int qs), .val (.int qp), .val (.int (3 : Int32)), .val (.int (0 : Int32)), .val (.ref b1), .val (.ref b8), .val (.ref b32), .val (.ref b58), .val (.ref b8), .val (.int (2 : Int32)), .val (.ref b32), .val (.ref b58), .val (.ref b58), .val (.int (1 : Int32))] [(.int (1 : Int32))]))
    refine GoW.step (fun _ k => XS.goto X262.here hx rfl (pc0 := 436) (pc' := 440) rfl (hb hby at_436) (by decide) (by decide) k) ?_
    show GoW _ _ _ _ _ _ _ (T262.setTop (mkF m 440 #[.val (.int qs), .val (.int qp), .val (.int (3 : Int32)), .val (.int (0 : Int32)), .val (.ref b1), .val (.ref b8), .val (.ref b32), .val (.ref b58), .val (.ref b8), .val (.int (2 : Int32)), .val (.ref b32), .val (.ref b58), .val (.ref b58), .val (.int (1 : Int32))] [(.int (1 : Int32))]))
    refine GoW.step (fun _ k => XS.istore X262.here hx rfl (hb hby at_440) rfl (l' := #[.val (.int qs), .val (.int qp), .val (.int (3 : Int32)), .val (.int (0 : Int32)), .val (.ref b1), .val (.ref b8), .val (.ref b32), .val (.ref b58), .val (.ref b8), .val (.int (2 : Int32)), .val (.ref b32), .val (.ref b58), .val (.ref b58), .val (.int (1 : Int32))]) rfl k) ?_
    show GoW _ _ _ _ _ _ _ (T262.setTop (mkF m 442 #[.val (.int qs), .val (.int qp), .val (.int (3 : Int32)), .val (.int (0 : Int32)), .val (.ref b1), .val (.ref b8), .val (.ref b32), .val (.ref b58), .val (.ref b8), .val (.int (2 : Int32)), .val (.ref b32), .val (.ref b58), .val (.ref b58), .val (.int (1 : Int32))] []))
    refine GoW.step (fun _ k => XS.iload X262.here hx rfl (hb hby at_442) rfl  k) ?_
    show GoW _ _ _ _ _ _ _ (T262.setTop (mkF m 444 #[.val (.int qs), .val (.int qp), .val (.int (3 : Int32)), .val (.int (0 : Int32)), .val (.ref b1), .val (.ref b8), .val (.ref b32), .val (.ref b58), .val (.ref b8), .val (.int (2 : Int32)), .val (.ref b32), .val (.ref b58), .val (.ref b58), .val (.int (1 : Int32))] [(.int (1 : Int32))]))
    refine GoW.retN X262 hS72 (by rw [e262]; exact hk259) hx (t := .boolean) Bd.returns (by simp) hlk (hb hby at_444) ?_ (by decide) (by decide)
    rw [e262]
    exact ⟨(by first | rfl | (simp_all [own_nb1, own_nb0]; done)), N256⟩
  · skip
    subst h1 h2
    show GoW _ _ _ _ _ _ _ (T82.setTop (mkF m 57 #[.val (.int qs), .val (.int qp), .val (.int (3 : Int32)), .val (.int (1 : Int32)), .val (.ref b1), .val (.ref b8), .val (.ref b32), .val (.ref b58), .unset, .unset, .unset, .unset, .unset, .unset] []))
    refine GoW.step (fun _ k => XS.aload X82.here hx rfl (hb hby at_57) rfl rfl  k) ?_
    show GoW _ _ _ _ _ _ _ (T82.setTop (mkF m 59 #[.val (.int qs), .val (.int qp), .val (.int (3 : Int32)), .val (.int (1 : Int32)), .val (.ref b1), .val (.ref b8), .val (.ref b32), .val (.ref b58), .unset, .unset, .unset, .unset, .unset, .unset] [(.ref b1)]))
    refine GoW.step (fun _ k => XS.aload X82.here hx rfl (hb hby at_59) rfl rfl  k) ?_
    show GoW _ _ _ _ _ _ _ (T82.setTop (mkF m 61 #[.val (.int qs), .val (.int qp), .val (.int (3 : Int32)), .val (.int (1 : Int32)), .val (.ref b1), .val (.ref b8), .val (.ref b32), .val (.ref b58), .unset, .unset, .unset, .unset, .unset, .unset] [(.ref b8), (.ref b1)]))
    have f263 : Exa Z T82.heap b1 "com/example/steward/steward/runtime/Group" := (((f59.ext E58).ext E72).keep K82)
    have f264 : Exa Z T82.heap b8 "com/example/steward/steward/runtime/Agent" := (((f61.ext E58).ext E72).keep K82)
    have f265 : Fld Z T82.heap b8 "com/example/steward/steward/runtime/Agent" "group" "Lcom/example/steward/steward/runtime/Group;" .null := ((((((c28_1.ext E32).ext E44).keep K54 (ninS ne35 nin0)).ext E58).ext E72).keep K82 (ninS ne62 nin0))
    have f266 : Fld Z T82.heap b8 "com/example/steward/steward/runtime/Agent" "ahead" "Lcom/example/steward/steward/runtime/Agent;" .null := ((((((c28_2.ext E32).ext E44).keep K54 (ninS ne35 nin0)).ext E58).ext E72).keep K82 (ninS ne62 nin0))
    have f267 : Fld Z T82.heap b8 "com/example/steward/steward/runtime/Agent" "behind" "Lcom/example/steward/steward/runtime/Agent;" .null := ((((((c28_3.ext E32).ext E44).keep K54 (ninS ne35 nin0)).ext E58).ext E72).keep K82 (ninS ne62 nin0))
    have f268 : Fld Z T82.heap b1 "com/example/steward/steward/runtime/Group" "first" "Lcom/example/steward/steward/runtime/Agent;" .null := (((((((((f6.ext E8).ext E18).keep K28 (ninS ne9 nin0)).ext E32).ext E44).keep K54 (ninS ne34 nin0)).ext E58).ext E72).keep K82 (ninS ne60 nin0))
    have f269 : Fld Z T82.heap b1 "com/example/steward/steward/runtime/Group" "last" "Lcom/example/steward/steward/runtime/Agent;" .null := (((((((((f5.ext E8).ext E18).keep K28 (ninS ne9 nin0)).ext E32).ext E44).keep K54 (ninS ne34 nin0)).ext E58).ext E72).keep K82 (ninS ne60 nin0))
    obtain ⟨cq270, kq270, q270a, q270b, q270c⟩ := isOf hZ rfl f263
    obtain ⟨_, _, ⟨T270, L270, k270, n270⟩, -, X270, ⟨Lc270, hQ270, l270, y270, z270⟩, st270⟩ := X82.virtualBack hx (y := (⟨"com/example/steward/steward/runtime/Group", "add", "(Lcom/example/steward/steward/runtime/Agent;)V"⟩ : MethodName)) (z := (⟨"com/example/steward/steward/runtime/Group", "add", "(Lcom/example/steward/steward/runtime/Agent;)V"⟩ : MethodName)) hown (mvT hZ (hw _ (List.mem_of_getElem? (i := 49) rfl))) (mvT hZ (hw _ (List.mem_of_getElem? (i := 50) rfl))) (notFace_of_selects (args := #[]) (mvT hZ (hw _ (List.mem_of_getElem? (i := 52) rfl)))) (mvT hZ (hw _ (List.mem_of_getElem? (i := 52) rfl))) (mvT hZ (hw _ (List.mem_of_getElem? (i := 51) rfl))) (by decide) (backOf (W := 0) (rmadd0 l Z aZ hw [] b1 b8 Value.null Value.null Value.null Value.null T82.heap n0 z83 f263 f264 f265 f266 f267 f268 f269 gn1 gn8) hZ (hw _ (List.mem_of_getElem? (i := 53) rfl)) (hw _ (List.mem_of_getElem? (i := 3) rfl)) (by decide) (by decide)) q270a q270c (g := (mkF m 61 #[.val (.int qs), .val (.int qp), .val (.int (3 : Int32)), .val (.int (1 : Int32)), .val (.ref b1), .val (.ref b8), .val (.ref b32), .val (.ref b58), .unset, .unset, .unset, .unset, .unset, .unset] [(.ref b8), (.ref b1)])) rfl (by rw [hml]; rfl) (Steps.refl _) (argsL := [(.ref b8)]) (rest := []) (lenOf pd_3 rfl) rfl (by show 2 * 0 + _ ≤ _; exact Nat.le_of_eq rfl) (hb hby at_61) (fun _ _ => ⟨rfl, rfl, (by decide : 16 + 0 ≤ _), (by decide : 74 + 0 ≤ _)⟩)
    dsimp only [Pt.U, Pt.locs, Pt.cells, Pt.slots] at X270 l270 y270 z270 st270 hQ270
    subst l270 y270 z270
    obtain ⟨rfl, Nq270, K270, c270_0, c270_1, c270_2, c270_3, c270_4, c270_5, c270_6⟩ := hQ270
    have N270 := Fr.app N82 Nq270
    refine GoW.tr st270 ?_
    have z271 : n0 ≤ T270.heap.size := Nat.le_trans z83 K270.1
    have sqz271 : h0.size ≤ T270.heap.size := Nat.le_trans sqz83 K270.1
    have hk273 := Nat.le_trans hk85 K270.1
    show GoW _ _ _ _ _ _ _ (T270.setTop (mkF m 64 #[.val (.int qs), .val (.int qp), .val (.int (3 : Int32)), .val (.int (1 : Int32)), .val (.ref b1), .val (.ref b8), .val (.ref b32), .val (.ref b58), .unset, .unset, .unset, .unset, .unset, .unset] []))
    refine GoW.step (fun _ k => XS.iloadN X270.here hx rfl (hb hby at_64) rfl  k) ?_
    show GoW _ _ _ _ _ _ _ (T270.setTop (mkF m 65 #[.val (.int qs), .val (.int qp), .val (.int (3 : Int32)), .val (.int (1 : Int32)), .val (.ref b1), .val (.ref b8), .val (.ref b32), .val (.ref b58), .unset, .unset, .unset, .unset, .unset, .unset] [(.int (3 : Int32))]))
    refine GoW.step (fun _ k => XS.iconst X270.here hx rfl (hb hby at_65) k) ?_
    show GoW _ _ _ _ _ _ _ (T270.setTop (mkF m 66 #[.val (.int qs), .val (.int qp), .val (.int (3 : Int32)), .val (.int (1 : Int32)), .val (.ref b1), .val (.ref b8), .val (.ref b32), .val (.ref b58), .unset, .unset, .unset, .unset, .unset, .unset] [(.int (2 : Int32)), (.int (3 : Int32))]))
    have hc66 : ¬ ((3 : Int32) < (2 : Int32)) := by decide
    refine GoW.step (fun _ k => XS.icmpNo X270.here hx rfl (hb hby at_66) rfl (flt hc66).1 k) ?_
    show GoW _ _ _ _ _ _ _ (T270.setTop (mkF m 69 #[.val (.int qs), .val (.int qp), .val (.int (3 : Int32)), .val (.int (1 : Int32)), .val (.ref b1), .val (.ref b8), .val (.ref b32), .val (.ref b58), .unset, .unset, .unset, .unset, .unset, .unset] []))
    refine GoW.step (fun _ k => XS.aload X270.here hx rfl (hb hby at_69) rfl rfl  k) ?_
    show GoW _ _ _ _ _ _ _ (T270.setTop (mkF m 71 #[.val (.int qs), .val (.int qp), .val (.int (3 : Int32)), .val (.int (1 : Int32)), .val (.ref b1), .val (.ref b8), .val (.ref b32), .val (.ref b58), .unset, .unset, .unset, .unset, .unset, .unset] [(.ref b1)]))
    refine GoW.step (fun _ k => XS.aload X270.here hx rfl (hb hby at_71) rfl rfl  k) ?_
    show GoW _ _ _ _ _ _ _ (T270.setTop (mkF m 73 #[.val (.int qs), .val (.int qp), .val (.int (3 : Int32)), .val (.int (1 : Int32)), .val (.ref b1), .val (.ref b8), .val (.ref b32), .val (.ref b58), .unset, .unset, .unset, .unset, .unset, .unset] [(.ref b32), (.ref b1)]))
    have f274 : Exa Z T270.heap b32 "com/example/steward/steward/runtime/Agent" := ((((c54_0.ext E58).ext E72).keep K82).keep K270)
    have f275 : Fld Z T270.heap b32 "com/example/steward/steward/runtime/Agent" "group" "Lcom/example/steward/steward/runtime/Group;" .null := ((((c54_1.ext E58).ext E72).keep K82 (ninS ne63 nin0)).keep K270 (ninS (Ne.symm ne34) (ninS (Ne.symm ne35) nin0)))
    have f276 : Fld Z T270.heap b32 "com/example/steward/steward/runtime/Agent" "ahead" "Lcom/example/steward/steward/runtime/Agent;" .null := ((((c54_2.ext E58).ext E72).keep K82 (ninS ne63 nin0)).keep K270 (ninS (Ne.symm ne34) (ninS (Ne.symm ne35) nin0)))
    have f277 : Fld Z T270.heap b32 "com/example/steward/steward/runtime/Agent" "behind" "Lcom/example/steward/steward/runtime/Agent;" .null := ((((c54_3.ext E58).ext E72).keep K82 (ninS ne63 nin0)).keep K270 (ninS (Ne.symm ne34) (ninS (Ne.symm ne35) nin0)))
    obtain ⟨cq278, kq278, q278a, q278b, q278c⟩ := isOf hZ rfl c270_0
    obtain ⟨_, _, ⟨T278, L278, k278, n278⟩, -, X278, ⟨Lc278, hQ278, l278, y278, z278⟩, st278⟩ := X270.virtualBack hx (y := (⟨"com/example/steward/steward/runtime/Group", "add", "(Lcom/example/steward/steward/runtime/Agent;)V"⟩ : MethodName)) (z := (⟨"com/example/steward/steward/runtime/Group", "add", "(Lcom/example/steward/steward/runtime/Agent;)V"⟩ : MethodName)) hown (mvT hZ (hw _ (List.mem_of_getElem? (i := 49) rfl))) (mvT hZ (hw _ (List.mem_of_getElem? (i := 50) rfl))) (notFace_of_selects (args := #[]) (mvT hZ (hw _ (List.mem_of_getElem? (i := 52) rfl)))) (mvT hZ (hw _ (List.mem_of_getElem? (i := 52) rfl))) (mvT hZ (hw _ (List.mem_of_getElem? (i := 51) rfl))) (by decide) (backOf (W := 0) (rmadd1 l Z aZ hw [] b1 b32 Value.null Value.null Value.null (Value.ref b8) b8 Value.null (Value.ref b1) Value.null T270.heap n0 z271 c270_0 f274 f275 f276 f277 c270_5 c270_6 c270_1 c270_4 c270_2 c270_3 (Ne.symm ne35) gn1 gn32 gn8) hZ (hw _ (List.mem_of_getElem? (i := 53) rfl)) (hw _ (List.mem_of_getElem? (i := 3) rfl)) (by decide) (by decide)) q278a q278c (g := (mkF m 73 #[.val (.int qs), .val (.int qp), .val (.int (3 : Int32)), .val (.int (1 : Int32)), .val (.ref b1), .val (.ref b8), .val (.ref b32), .val (.ref b58), .unset, .unset, .unset, .unset, .unset, .unset] [(.ref b32), (.ref b1)])) rfl (by rw [hml]; rfl) (Steps.refl _) (argsL := [(.ref b32)]) (rest := []) (lenOf pd_3 rfl) rfl (by show 2 * 0 + _ ≤ _; exact Nat.le_of_eq rfl) (hb hby at_73) (fun _ _ => ⟨rfl, rfl, (by decide : 16 + 0 ≤ _), (by decide : 74 + 0 ≤ _)⟩)
    dsimp only [Pt.U, Pt.locs, Pt.cells, Pt.slots] at X278 l278 y278 z278 st278 hQ278
    subst l278 y278 z278
    obtain ⟨rfl, Nq278, K278, c278_0, c278_1, c278_2, c278_3, c278_4, c278_5, c278_6, c278_7, c278_8, c278_9, c278_10⟩ := hQ278
    have N278 := Fr.app N270 Nq278
    refine GoW.tr st278 ?_
    have z279 : n0 ≤ T278.heap.size := Nat.le_trans z271 K278.1
    have sqz279 : h0.size ≤ T278.heap.size := Nat.le_trans sqz271 K278.1
    have hk281 := Nat.le_trans hk273 K278.1
    show GoW _ _ _ _ _ _ _ (T278.setTop (mkF m 76 #[.val (.int qs), .val (.int qp), .val (.int (3 : Int32)), .val (.int (1 : Int32)), .val (.ref b1), .val (.ref b8), .val (.ref b32), .val (.ref b58), .unset, .unset, .unset, .unset, .unset, .unset] []))
    refine GoW.step (fun _ k => XS.iloadN X278.here hx rfl (hb hby at_76) rfl  k) ?_
    show GoW _ _ _ _ _ _ _ (T278.setTop (mkF m 77 #[.val (.int qs), .val (.int qp), .val (.int (3 : Int32)), .val (.int (1 : Int32)), .val (.ref b1), .val (.ref b8), .val (.ref b32), .val (.ref b58), .unset, .unset, .unset, .unset, .unset, .unset] [(.int (3 : Int32))]))
    refine GoW.step (fun _ k => XS.iconst X278.here hx rfl (hb hby at_77) k) ?_
    show GoW _ _ _ _ _ _ _ (T278.setTop (mkF m 78 #[.val (.int qs), .val (.int qp), .val (.int (3 : Int32)), .val (.int (1 : Int32)), .val (.ref b1), .val (.ref b8), .val (.ref b32), .val (.ref b58), .unset, .unset, .unset, .unset, .unset, .unset] [(.int (3 : Int32)), (.int (3 : Int32))]))
    have hc78 : ¬ ((3 : Int32) < (3 : Int32)) := by decide
    refine GoW.step (fun _ k => XS.icmpNo X278.here hx rfl (hb hby at_78) rfl (flt hc78).1 k) ?_
    show GoW _ _ _ _ _ _ _ (T278.setTop (mkF m 81 #[.val (.int qs), .val (.int qp), .val (.int (3 : Int32)), .val (.int (1 : Int32)), .val (.ref b1), .val (.ref b8), .val (.ref b32), .val (.ref b58), .unset, .unset, .unset, .unset, .unset, .unset] []))
    refine GoW.step (fun _ k => XS.aload X278.here hx rfl (hb hby at_81) rfl rfl  k) ?_
    show GoW _ _ _ _ _ _ _ (T278.setTop (mkF m 83 #[.val (.int qs), .val (.int qp), .val (.int (3 : Int32)), .val (.int (1 : Int32)), .val (.ref b1), .val (.ref b8), .val (.ref b32), .val (.ref b58), .unset, .unset, .unset, .unset, .unset, .unset] [(.ref b1)]))
    refine GoW.step (fun _ k => XS.aload X278.here hx rfl (hb hby at_83) rfl rfl  k) ?_
    show GoW _ _ _ _ _ _ _ (T278.setTop (mkF m 85 #[.val (.int qs), .val (.int qp), .val (.int (3 : Int32)), .val (.int (1 : Int32)), .val (.ref b1), .val (.ref b8), .val (.ref b32), .val (.ref b58), .unset, .unset, .unset, .unset, .unset, .unset] [(.ref b58), (.ref b1)]))
    have f282 : Exa Z T278.heap b58 "com/example/steward/steward/runtime/Agent" := ((c82_0.keep K270).keep K278)
    have f283 : Fld Z T278.heap b58 "com/example/steward/steward/runtime/Agent" "group" "Lcom/example/steward/steward/runtime/Group;" .null := ((c82_1.keep K270 (ninS (Ne.symm ne60) (ninS (Ne.symm ne62) nin0))).keep K278 (ninS (Ne.symm ne60) (ninS (Ne.symm ne63) (ninS (Ne.symm ne62) nin0))))
    have f284 : Fld Z T278.heap b58 "com/example/steward/steward/runtime/Agent" "ahead" "Lcom/example/steward/steward/runtime/Agent;" .null := ((c82_2.keep K270 (ninS (Ne.symm ne60) (ninS (Ne.symm ne62) nin0))).keep K278 (ninS (Ne.symm ne60) (ninS (Ne.symm ne63) (ninS (Ne.symm ne62) nin0))))
    have f285 : Fld Z T278.heap b58 "com/example/steward/steward/runtime/Agent" "behind" "Lcom/example/steward/steward/runtime/Agent;" .null := ((c82_3.keep K270 (ninS (Ne.symm ne60) (ninS (Ne.symm ne62) nin0))).keep K278 (ninS (Ne.symm ne60) (ninS (Ne.symm ne63) (ninS (Ne.symm ne62) nin0))))
    obtain ⟨cq286, kq286, q286a, q286b, q286c⟩ := isOf hZ rfl c278_0
    obtain ⟨_, _, ⟨T286, L286, k286, n286⟩, -, X286, ⟨Lc286, hQ286, l286, y286, z286⟩, st286⟩ := X278.virtualBack hx (y := (⟨"com/example/steward/steward/runtime/Group", "add", "(Lcom/example/steward/steward/runtime/Agent;)V"⟩ : MethodName)) (z := (⟨"com/example/steward/steward/runtime/Group", "add", "(Lcom/example/steward/steward/runtime/Agent;)V"⟩ : MethodName)) hown (mvT hZ (hw _ (List.mem_of_getElem? (i := 49) rfl))) (mvT hZ (hw _ (List.mem_of_getElem? (i := 50) rfl))) (notFace_of_selects (args := #[]) (mvT hZ (hw _ (List.mem_of_getElem? (i := 52) rfl)))) (mvT hZ (hw _ (List.mem_of_getElem? (i := 52) rfl))) (mvT hZ (hw _ (List.mem_of_getElem? (i := 51) rfl))) (by decide) (backOf (W := 0) (rmadd1 l Z aZ hw [] b1 b58 Value.null Value.null Value.null (Value.ref b8) b32 Value.null (Value.ref b1) (Value.ref b8) T278.heap n0 z279 c278_0 f282 f283 f284 f285 c278_9 c278_10 c278_1 c278_5 c278_3 c278_4 (Ne.symm ne63) gn1 gn58 gn32) hZ (hw _ (List.mem_of_getElem? (i := 53) rfl)) (hw _ (List.mem_of_getElem? (i := 3) rfl)) (by decide) (by decide)) q286a q286c (g := (mkF m 85 #[.val (.int qs), .val (.int qp), .val (.int (3 : Int32)), .val (.int (1 : Int32)), .val (.ref b1), .val (.ref b8), .val (.ref b32), .val (.ref b58), .unset, .unset, .unset, .unset, .unset, .unset] [(.ref b58), (.ref b1)])) rfl (by rw [hml]; rfl) (Steps.refl _) (argsL := [(.ref b58)]) (rest := []) (lenOf pd_3 rfl) rfl (by show 2 * 0 + _ ≤ _; exact Nat.le_of_eq rfl) (hb hby at_85) (fun _ _ => ⟨rfl, rfl, (by decide : 16 + 0 ≤ _), (by decide : 74 + 0 ≤ _)⟩)
    dsimp only [Pt.U, Pt.locs, Pt.cells, Pt.slots] at X286 l286 y286 z286 st286 hQ286
    subst l286 y286 z286
    obtain ⟨rfl, Nq286, K286, c286_0, c286_1, c286_2, c286_3, c286_4, c286_5, c286_6, c286_7, c286_8, c286_9, c286_10⟩ := hQ286
    have N286 := Fr.app N278 Nq286
    refine GoW.tr st286 ?_
    have z287 : n0 ≤ T286.heap.size := Nat.le_trans z279 K286.1
    have sqz287 : h0.size ≤ T286.heap.size := Nat.le_trans sqz279 K286.1
    have hk289 := Nat.le_trans hk281 K286.1
    show GoW _ _ _ _ _ _ _ (T286.setTop (mkF m 88 #[.val (.int qs), .val (.int qp), .val (.int (3 : Int32)), .val (.int (1 : Int32)), .val (.ref b1), .val (.ref b8), .val (.ref b32), .val (.ref b58), .unset, .unset, .unset, .unset, .unset, .unset] []))
    refine GoW.step (fun _ k => XS.iloadN X286.here hx rfl (hb hby at_88) rfl  k) ?_
    show GoW _ _ _ _ _ _ _ (T286.setTop (mkF m 89 #[.val (.int qs), .val (.int qp), .val (.int (3 : Int32)), .val (.int (1 : Int32)), .val (.ref b1), .val (.ref b8), .val (.ref b32), .val (.ref b58), .unset, .unset, .unset, .unset, .unset, .unset] [(.int (1 : Int32))]))
    have hc89 : ¬ ((1 : Int32) = (0 : Int32)) := by decide
    refine GoW.step (fun _ k => XS.ifYes X286.here hx rfl (pc0 := 89) (pc' := 97) rfl (hb hby at_89) rfl ((if0 _ _).trans (feq hc89).2) (by decide) (by decide) k) ?_
    show GoW _ _ _ _ _ _ _ (T286.setTop (mkF m 97 #[.val (.int qs), .val (.int qp), .val (.int (3 : Int32)), .val (.int (1 : Int32)), .val (.ref b1), .val (.ref b8), .val (.ref b32), .val (.ref b58), .unset, .unset, .unset, .unset, .unset, .unset] []))
    refine GoW.step (fun _ k => XS.iloadN X286.here hx rfl (hb hby at_97) rfl  k) ?_
    show GoW _ _ _ _ _ _ _ (T286.setTop (mkF m 98 #[.val (.int qs), .val (.int qp), .val (.int (3 : Int32)), .val (.int (1 : Int32)), .val (.ref b1), .val (.ref b8), .val (.ref b32), .val (.ref b58), .unset, .unset, .unset, .unset, .unset, .unset] [(.int (1 : Int32))]))
    refine GoW.step (fun _ k => XS.iconst X286.here hx rfl (hb hby at_98) k) ?_
    show GoW _ _ _ _ _ _ _ (T286.setTop (mkF m 99 #[.val (.int qs), .val (.int qp), .val (.int (3 : Int32)), .val (.int (1 : Int32)), .val (.ref b1), .val (.ref b8), .val (.ref b32), .val (.ref b58), .unset, .unset, .unset, .unset, .unset, .unset] [(.int (1 : Int32)), (.int (1 : Int32))]))
    have hc99 : (1 : Int32) = (1 : Int32) := by decide
    refine GoW.step (fun _ k => XS.icmpNo X286.here hx rfl (hb hby at_99) rfl (teq hc99).2 k) ?_
    show GoW _ _ _ _ _ _ _ (T286.setTop (mkF m 102 #[.val (.int qs), .val (.int qp), .val (.int (3 : Int32)), .val (.int (1 : Int32)), .val (.ref b1), .val (.ref b8), .val (.ref b32), .val (.ref b58), .unset, .unset, .unset, .unset, .unset, .unset] []))
    refine GoW.step (fun _ k => XS.aload X286.here hx rfl (hb hby at_102) rfl rfl  k) ?_
    show GoW _ _ _ _ _ _ _ (T286.setTop (mkF m 104 #[.val (.int qs), .val (.int qp), .val (.int (3 : Int32)), .val (.int (1 : Int32)), .val (.ref b1), .val (.ref b8), .val (.ref b32), .val (.ref b58), .unset, .unset, .unset, .unset, .unset, .unset] [(.ref b32)]))
    refine GoW.step (fun _ k => XS.goto X286.here hx rfl (pc0 := 104) (pc' := 109) rfl (hb hby at_104) (by decide) (by decide) k) ?_
    show GoW _ _ _ _ _ _ _ (T286.setTop (mkF m 109 #[.val (.int qs), .val (.int qp), .val (.int (3 : Int32)), .val (.int (1 : Int32)), .val (.ref b1), .val (.ref b8), .val (.ref b32), .val (.ref b58), .unset, .unset, .unset, .unset, .unset, .unset] [(.ref b32)]))
    refine GoW.step (fun _ k => XS.astore X286.here hx rfl (hb hby at_109) rfl rfl (l' := #[.val (.int qs), .val (.int qp), .val (.int (3 : Int32)), .val (.int (1 : Int32)), .val (.ref b1), .val (.ref b8), .val (.ref b32), .val (.ref b58), .val (.ref b32), .unset, .unset, .unset, .unset, .unset]) rfl k) ?_
    show GoW _ _ _ _ _ _ _ (T286.setTop (mkF m 111 #[.val (.int qs), .val (.int qp), .val (.int (3 : Int32)), .val (.int (1 : Int32)), .val (.ref b1), .val (.ref b8), .val (.ref b32), .val (.ref b58), .val (.ref b32), .unset, .unset, .unset, .unset, .unset] []))
    refine GoW.step (fun _ k => XS.iloadN X286.here hx rfl (hb hby at_111) rfl  k) ?_
    show GoW _ _ _ _ _ _ _ (T286.setTop (mkF m 112 #[.val (.int qs), .val (.int qp), .val (.int (3 : Int32)), .val (.int (1 : Int32)), .val (.ref b1), .val (.ref b8), .val (.ref b32), .val (.ref b58), .val (.ref b32), .unset, .unset, .unset, .unset, .unset] [(.int (3 : Int32))]))
    refine GoW.step (fun _ k => XS.iconst X286.here hx rfl (hb hby at_112) k) ?_
    show GoW _ _ _ _ _ _ _ (T286.setTop (mkF m 113 #[.val (.int qs), .val (.int qp), .val (.int (3 : Int32)), .val (.int (1 : Int32)), .val (.ref b1), .val (.ref b8), .val (.ref b32), .val (.ref b58), .val (.ref b32), .unset, .unset, .unset, .unset, .unset] [(.int (1 : Int32)), (.int (3 : Int32))]))
    refine GoW.step (fun _ k => XS.isub X286.here hx rfl (hb hby at_113) rfl k) ?_
    show GoW _ _ _ _ _ _ _ (T286.setTop (mkF m 114 #[.val (.int qs), .val (.int qp), .val (.int (3 : Int32)), .val (.int (1 : Int32)), .val (.ref b1), .val (.ref b8), .val (.ref b32), .val (.ref b58), .val (.ref b32), .unset, .unset, .unset, .unset, .unset] [(.int (2 : Int32))]))
    refine GoW.step (fun _ k => XS.istore X286.here hx rfl (hb hby at_114) rfl (l' := #[.val (.int qs), .val (.int qp), .val (.int (3 : Int32)), .val (.int (1 : Int32)), .val (.ref b1), .val (.ref b8), .val (.ref b32), .val (.ref b58), .val (.ref b32), .val (.int (2 : Int32)), .unset, .unset, .unset, .unset]) rfl k) ?_
    show GoW _ _ _ _ _ _ _ (T286.setTop (mkF m 116 #[.val (.int qs), .val (.int qp), .val (.int (3 : Int32)), .val (.int (1 : Int32)), .val (.ref b1), .val (.ref b8), .val (.ref b32), .val (.ref b58), .val (.ref b32), .val (.int (2 : Int32)), .unset, .unset, .unset, .unset] []))
    refine GoW.step (fun _ k => XS.iload X286.here hx rfl (hb hby at_116) rfl  k) ?_
    show GoW _ _ _ _ _ _ _ (T286.setTop (mkF m 118 #[.val (.int qs), .val (.int qp), .val (.int (3 : Int32)), .val (.int (1 : Int32)), .val (.ref b1), .val (.ref b8), .val (.ref b32), .val (.ref b58), .val (.ref b32), .val (.int (2 : Int32)), .unset, .unset, .unset, .unset] [(.int (2 : Int32))]))
    refine GoW.step (fun _ k => XS.iconst X286.here hx rfl (hb hby at_118) k) ?_
    show GoW _ _ _ _ _ _ _ (T286.setTop (mkF m 119 #[.val (.int qs), .val (.int qp), .val (.int (3 : Int32)), .val (.int (1 : Int32)), .val (.ref b1), .val (.ref b8), .val (.ref b32), .val (.ref b58), .val (.ref b32), .val (.int (2 : Int32)), .unset, .unset, .unset, .unset] [(.int (1 : Int32)), (.int (2 : Int32))]))
    have hc119 : ¬ ((2 : Int32) < (1 : Int32)) := by decide
    refine GoW.step (fun _ k => XS.icmpNo X286.here hx rfl (hb hby at_119) rfl (flt hc119).1 k) ?_
    show GoW _ _ _ _ _ _ _ (T286.setTop (mkF m 122 #[.val (.int qs), .val (.int qp), .val (.int (3 : Int32)), .val (.int (1 : Int32)), .val (.ref b1), .val (.ref b8), .val (.ref b32), .val (.ref b58), .val (.ref b32), .val (.int (2 : Int32)), .unset, .unset, .unset, .unset] []))
    refine GoW.step (fun _ k => XS.iloadN X286.here hx rfl (hb hby at_122) rfl  k) ?_
    show GoW _ _ _ _ _ _ _ (T286.setTop (mkF m 123 #[.val (.int qs), .val (.int qp), .val (.int (3 : Int32)), .val (.int (1 : Int32)), .val (.ref b1), .val (.ref b8), .val (.ref b32), .val (.ref b58), .val (.ref b32), .val (.int (2 : Int32)), .unset, .unset, .unset, .unset] [(.int (1 : Int32))]))
    have hc123 : ¬ ((1 : Int32) = (0 : Int32)) := hc89
    refine GoW.step (fun _ k => XS.ifYes X286.here hx rfl (pc0 := 123) (pc' := 131) rfl (hb hby at_123) rfl ((if0 _ _).trans (feq hc123).2) (by decide) (by decide) k) ?_
    show GoW _ _ _ _ _ _ _ (T286.setTop (mkF m 131 #[.val (.int qs), .val (.int qp), .val (.int (3 : Int32)), .val (.int (1 : Int32)), .val (.ref b1), .val (.ref b8), .val (.ref b32), .val (.ref b58), .val (.ref b32), .val (.int (2 : Int32)), .unset, .unset, .unset, .unset] []))
    refine GoW.step (fun _ k => XS.aload X286.here hx rfl (hb hby at_131) rfl rfl  k) ?_
    show GoW _ _ _ _ _ _ _ (T286.setTop (mkF m 133 #[.val (.int qs), .val (.int qp), .val (.int (3 : Int32)), .val (.int (1 : Int32)), .val (.ref b1), .val (.ref b8), .val (.ref b32), .val (.ref b58), .val (.ref b32), .val (.int (2 : Int32)), .unset, .unset, .unset, .unset] [(.ref b8)]))
    refine GoW.step (fun _ k => XS.goto X286.here hx rfl (pc0 := 133) (pc' := 137) rfl (hb hby at_133) (by decide) (by decide) k) ?_
    show GoW _ _ _ _ _ _ _ (T286.setTop (mkF m 137 #[.val (.int qs), .val (.int qp), .val (.int (3 : Int32)), .val (.int (1 : Int32)), .val (.ref b1), .val (.ref b8), .val (.ref b32), .val (.ref b58), .val (.ref b32), .val (.int (2 : Int32)), .unset, .unset, .unset, .unset] [(.ref b8)]))
    refine GoW.step (fun _ k => XS.astore X286.here hx rfl (hb hby at_137) rfl rfl (l' := #[.val (.int qs), .val (.int qp), .val (.int (3 : Int32)), .val (.int (1 : Int32)), .val (.ref b1), .val (.ref b8), .val (.ref b32), .val (.ref b58), .val (.ref b32), .val (.int (2 : Int32)), .val (.ref b8), .unset, .unset, .unset]) rfl k) ?_
    show GoW _ _ _ _ _ _ _ (T286.setTop (mkF m 139 #[.val (.int qs), .val (.int qp), .val (.int (3 : Int32)), .val (.int (1 : Int32)), .val (.ref b1), .val (.ref b8), .val (.ref b32), .val (.ref b58), .val (.ref b32), .val (.int (2 : Int32)), .val (.ref b8), .unset, .unset, .unset] []))
    refine GoW.step (fun _ k => XS.iload X286.here hx rfl (hb hby at_139) rfl  k) ?_
    show GoW _ _ _ _ _ _ _ (T286.setTop (mkF m 141 #[.val (.int qs), .val (.int qp), .val (.int (3 : Int32)), .val (.int (1 : Int32)), .val (.ref b1), .val (.ref b8), .val (.ref b32), .val (.ref b58), .val (.ref b32), .val (.int (2 : Int32)), .val (.ref b8), .unset, .unset, .unset] [(.int (2 : Int32))]))
    refine GoW.step (fun _ k => XS.iconst X286.here hx rfl (hb hby at_141) k) ?_
    show GoW _ _ _ _ _ _ _ (T286.setTop (mkF m 142 #[.val (.int qs), .val (.int qp), .val (.int (3 : Int32)), .val (.int (1 : Int32)), .val (.ref b1), .val (.ref b8), .val (.ref b32), .val (.ref b58), .val (.ref b32), .val (.int (2 : Int32)), .val (.ref b8), .unset, .unset, .unset] [(.int (2 : Int32)), (.int (2 : Int32))]))
    have hc142 : ¬ ((2 : Int32) < (2 : Int32)) := by decide
    refine GoW.step (fun _ k => XS.icmpNo X286.here hx rfl (hb hby at_142) rfl (flt hc142).1 k) ?_
    show GoW _ _ _ _ _ _ _ (T286.setTop (mkF m 145 #[.val (.int qs), .val (.int qp), .val (.int (3 : Int32)), .val (.int (1 : Int32)), .val (.ref b1), .val (.ref b8), .val (.ref b32), .val (.ref b58), .val (.ref b32), .val (.int (2 : Int32)), .val (.ref b8), .unset, .unset, .unset] []))
    refine GoW.step (fun _ k => XS.iloadN X286.here hx rfl (hb hby at_145) rfl  k) ?_
    show GoW _ _ _ _ _ _ _ (T286.setTop (mkF m 146 #[.val (.int qs), .val (.int qp), .val (.int (3 : Int32)), .val (.int (1 : Int32)), .val (.ref b1), .val (.ref b8), .val (.ref b32), .val (.ref b58), .val (.ref b32), .val (.int (2 : Int32)), .val (.ref b8), .unset, .unset, .unset] [(.int (1 : Int32))]))
    refine GoW.step (fun _ k => XS.iconst X286.here hx rfl (hb hby at_146) k) ?_
    show GoW _ _ _ _ _ _ _ (T286.setTop (mkF m 147 #[.val (.int qs), .val (.int qp), .val (.int (3 : Int32)), .val (.int (1 : Int32)), .val (.ref b1), .val (.ref b8), .val (.ref b32), .val (.ref b58), .val (.ref b32), .val (.int (2 : Int32)), .val (.ref b8), .unset, .unset, .unset] [(.int (1 : Int32)), (.int (1 : Int32))]))
    have hc147 : ¬ ((1 : Int32) < (1 : Int32)) := by decide
    refine GoW.step (fun _ k => XS.icmpNo X286.here hx rfl (hb hby at_147) rfl (flt hc147).2.2.1 k) ?_
    show GoW _ _ _ _ _ _ _ (T286.setTop (mkF m 150 #[.val (.int qs), .val (.int qp), .val (.int (3 : Int32)), .val (.int (1 : Int32)), .val (.ref b1), .val (.ref b8), .val (.ref b32), .val (.ref b58), .val (.ref b32), .val (.int (2 : Int32)), .val (.ref b8), .unset, .unset, .unset] []))
    refine GoW.step (fun _ k => XS.aload X286.here hx rfl (hb hby at_150) rfl rfl  k) ?_
    show GoW _ _ _ _ _ _ _ (T286.setTop (mkF m 152 #[.val (.int qs), .val (.int qp), .val (.int (3 : Int32)), .val (.int (1 : Int32)), .val (.ref b1), .val (.ref b8), .val (.ref b32), .val (.ref b58), .val (.ref b32), .val (.int (2 : Int32)), .val (.ref b8), .unset, .unset, .unset] [(.ref b58)]))
    refine GoW.step (fun _ k => XS.goto X286.here hx rfl (pc0 := 152) (pc' := 161) rfl (hb hby at_152) (by decide) (by decide) k) ?_
    show GoW _ _ _ _ _ _ _ (T286.setTop (mkF m 161 #[.val (.int qs), .val (.int qp), .val (.int (3 : Int32)), .val (.int (1 : Int32)), .val (.ref b1), .val (.ref b8), .val (.ref b32), .val (.ref b58), .val (.ref b32), .val (.int (2 : Int32)), .val (.ref b8), .unset, .unset, .unset] [(.ref b58)]))
    refine GoW.step (fun _ k => XS.astore X286.here hx rfl (hb hby at_161) rfl rfl (l' := #[.val (.int qs), .val (.int qp), .val (.int (3 : Int32)), .val (.int (1 : Int32)), .val (.ref b1), .val (.ref b8), .val (.ref b32), .val (.ref b58), .val (.ref b32), .val (.int (2 : Int32)), .val (.ref b8), .val (.ref b58), .unset, .unset]) rfl k) ?_
    show GoW _ _ _ _ _ _ _ (T286.setTop (mkF m 163 #[.val (.int qs), .val (.int qp), .val (.int (3 : Int32)), .val (.int (1 : Int32)), .val (.ref b1), .val (.ref b8), .val (.ref b32), .val (.ref b58), .val (.ref b32), .val (.int (2 : Int32)), .val (.ref b8), .val (.ref b58), .unset, .unset] []))
    refine GoW.step (fun _ k => XS.iload X286.here hx rfl (hb hby at_163) rfl  k) ?_
    show GoW _ _ _ _ _ _ _ (T286.setTop (mkF m 165 #[.val (.int qs), .val (.int qp), .val (.int (3 : Int32)), .val (.int (1 : Int32)), .val (.ref b1), .val (.ref b8), .val (.ref b32), .val (.ref b58), .val (.ref b32), .val (.int (2 : Int32)), .val (.ref b8), .val (.ref b58), .unset, .unset] [(.int (2 : Int32))]))
    have hc165 : ¬ ((2 : Int32) = (0 : Int32)) := by decide
    refine GoW.step (fun _ k => XS.ifYes X286.here hx rfl (pc0 := 165) (pc' := 172) rfl (hb hby at_165) rfl ((if0 _ _).trans (feq hc165).2) (by decide) (by decide) k) ?_
    show GoW _ _ _ _ _ _ _ (T286.setTop (mkF m 172 #[.val (.int qs), .val (.int qp), .val (.int (3 : Int32)), .val (.int (1 : Int32)), .val (.ref b1), .val (.ref b8), .val (.ref b32), .val (.ref b58), .val (.ref b32), .val (.int (2 : Int32)), .val (.ref b8), .val (.ref b58), .unset, .unset] []))
    refine GoW.step (fun _ k => XS.iload X286.here hx rfl (hb hby at_172) rfl  k) ?_
    show GoW _ _ _ _ _ _ _ (T286.setTop (mkF m 174 #[.val (.int qs), .val (.int qp), .val (.int (3 : Int32)), .val (.int (1 : Int32)), .val (.ref b1), .val (.ref b8), .val (.ref b32), .val (.ref b58), .val (.ref b32), .val (.int (2 : Int32)), .val (.ref b8), .val (.ref b58), .unset, .unset] [(.int (2 : Int32))]))
    refine GoW.step (fun _ k => XS.iconst X286.here hx rfl (hb hby at_174) k) ?_
    show GoW _ _ _ _ _ _ _ (T286.setTop (mkF m 175 #[.val (.int qs), .val (.int qp), .val (.int (3 : Int32)), .val (.int (1 : Int32)), .val (.ref b1), .val (.ref b8), .val (.ref b32), .val (.ref b58), .val (.ref b32), .val (.int (2 : Int32)), .val (.ref b8), .val (.ref b58), .unset, .unset] [(.int (1 : Int32)), (.int (2 : Int32))]))
    have hc175 : ¬ ((2 : Int32) = (1 : Int32)) := by decide
    refine GoW.step (fun _ k => XS.icmpYes X286.here hx rfl (pc0 := 175) (pc' := 183) rfl (hb hby at_175) rfl (feq hc175).2 (by decide) (by decide) k) ?_
    show GoW _ _ _ _ _ _ _ (T286.setTop (mkF m 183 #[.val (.int qs), .val (.int qp), .val (.int (3 : Int32)), .val (.int (1 : Int32)), .val (.ref b1), .val (.ref b8), .val (.ref b32), .val (.ref b58), .val (.ref b32), .val (.int (2 : Int32)), .val (.ref b8), .val (.ref b58), .unset, .unset] []))
    refine GoW.step (fun _ k => XS.aload X286.here hx rfl (hb hby at_183) rfl rfl  k) ?_
    show GoW _ _ _ _ _ _ _ (T286.setTop (mkF m 185 #[.val (.int qs), .val (.int qp), .val (.int (3 : Int32)), .val (.int (1 : Int32)), .val (.ref b1), .val (.ref b8), .val (.ref b32), .val (.ref b58), .val (.ref b32), .val (.int (2 : Int32)), .val (.ref b8), .val (.ref b58), .unset, .unset] [(.ref b58)]))
    refine GoW.step (fun _ k => XS.astore X286.here hx rfl (hb hby at_185) rfl rfl (l' := #[.val (.int qs), .val (.int qp), .val (.int (3 : Int32)), .val (.int (1 : Int32)), .val (.ref b1), .val (.ref b8), .val (.ref b32), .val (.ref b58), .val (.ref b32), .val (.int (2 : Int32)), .val (.ref b8), .val (.ref b58), .val (.ref b58), .unset]) rfl k) ?_
    show GoW _ _ _ _ _ _ _ (T286.setTop (mkF m 187 #[.val (.int qs), .val (.int qp), .val (.int (3 : Int32)), .val (.int (1 : Int32)), .val (.ref b1), .val (.ref b8), .val (.ref b32), .val (.ref b58), .val (.ref b32), .val (.int (2 : Int32)), .val (.ref b8), .val (.ref b58), .val (.ref b58), .unset] []))
    refine GoW.step (fun _ k => XS.aload X286.here hx rfl (hb hby at_187) rfl rfl  k) ?_
    show GoW _ _ _ _ _ _ _ (T286.setTop (mkF m 189 #[.val (.int qs), .val (.int qp), .val (.int (3 : Int32)), .val (.int (1 : Int32)), .val (.ref b1), .val (.ref b8), .val (.ref b32), .val (.ref b58), .val (.ref b32), .val (.int (2 : Int32)), .val (.ref b8), .val (.ref b58), .val (.ref b58), .unset] [(.ref b1)]))
    refine GoW.step (fun _ k => XS.aload X286.here hx rfl (hb hby at_189) rfl rfl  k) ?_
    show GoW _ _ _ _ _ _ _ (T286.setTop (mkF m 191 #[.val (.int qs), .val (.int qp), .val (.int (3 : Int32)), .val (.int (1 : Int32)), .val (.ref b1), .val (.ref b8), .val (.ref b32), .val (.ref b58), .val (.ref b32), .val (.int (2 : Int32)), .val (.ref b8), .val (.ref b58), .val (.ref b58), .unset] [(.ref b32), (.ref b1)]))
    have f290 : Exa Z T286.heap b8 "com/example/steward/steward/runtime/Agent" := (c278_2.keep K286)
    have f291 : Fld Z T286.heap b8 "com/example/steward/steward/runtime/Agent" "behind" "Lcom/example/steward/steward/runtime/Agent;" (.ref b32) := (c278_6.keep K286 (ninS (Ne.symm ne9) (ninS ne62 (ninS ne35 nin0))))
    have f292 : Fld Z T286.heap b8 "com/example/steward/steward/runtime/Agent" "group" "Lcom/example/steward/steward/runtime/Group;" (.ref b1) := (c278_7.keep K286 (ninS (Ne.symm ne9) (ninS ne62 (ninS ne35 nin0))))
    have f293 : Fld Z T286.heap b8 "com/example/steward/steward/runtime/Agent" "ahead" "Lcom/example/steward/steward/runtime/Agent;" .null := (c278_8.keep K286 (ninS (Ne.symm ne9) (ninS ne62 (ninS ne35 nin0))))
    obtain ⟨cq294, kq294, q294a, q294b, q294c⟩ := isOf hZ rfl c286_0
    obtain ⟨_, _, ⟨T294, L294, k294, n294⟩, -, X294, ⟨Lc294, hQ294, l294, y294, z294⟩, st294⟩ := X286.virtualBack hx (y := (⟨"com/example/steward/steward/runtime/Group", "remove", "(Lcom/example/steward/steward/runtime/Agent;)V"⟩ : MethodName)) (z := (⟨"com/example/steward/steward/runtime/Group", "remove", "(Lcom/example/steward/steward/runtime/Agent;)V"⟩ : MethodName)) hown (mvT hZ (hw _ (List.mem_of_getElem? (i := 64) rfl))) (mvT hZ (hw _ (List.mem_of_getElem? (i := 65) rfl))) (notFace_of_selects (args := #[]) (mvT hZ (hw _ (List.mem_of_getElem? (i := 67) rfl)))) (mvT hZ (hw _ (List.mem_of_getElem? (i := 67) rfl))) (mvT hZ (hw _ (List.mem_of_getElem? (i := 66) rfl))) (by decide) (backOf (W := 0) (rmrem11 l Z aZ hw [] b1 b32 (Value.ref b1) (Value.ref b8) (Value.ref b58) b8 (Value.ref b32) (Value.ref b1) Value.null b58 (Value.ref b32) (Value.ref b1) Value.null T286.heap n0 z287 c286_0 c286_2 c286_7 c286_9 c286_10 c286_8 c286_6 gn1 gn32 f290 f291 f292 f293 (Ne.symm ne35) gn8 c286_1 c286_4 c286_3 c286_5 ne63 gn58 ne62) hZ (hw _ (List.mem_of_getElem? (i := 68) rfl)) (hw _ (List.mem_of_getElem? (i := 3) rfl)) (by decide) (by decide)) q294a q294c (g := (mkF m 191 #[.val (.int qs), .val (.int qp), .val (.int (3 : Int32)), .val (.int (1 : Int32)), .val (.ref b1), .val (.ref b8), .val (.ref b32), .val (.ref b58), .val (.ref b32), .val (.int (2 : Int32)), .val (.ref b8), .val (.ref b58), .val (.ref b58), .unset] [(.ref b32), (.ref b1)])) rfl (by rw [hml]; rfl) (Steps.refl _) (argsL := [(.ref b32)]) (rest := []) (lenOf pd_3 rfl) rfl (by show 2 * 0 + _ ≤ _; exact Nat.le_of_eq rfl) (hb hby at_191) (fun _ _ => ⟨rfl, rfl, (by decide : 16 + 0 ≤ _), (by decide : 74 + 0 ≤ _)⟩)
    dsimp only [Pt.U, Pt.locs, Pt.cells, Pt.slots] at X294 l294 y294 z294 st294 hQ294
    subst l294 y294 z294
    obtain ⟨rfl, Nq294, K294, c294_0, c294_1, c294_2, c294_3, c294_4, c294_5, c294_6, c294_7, c294_8, c294_9, c294_10, c294_11, c294_12, c294_13, c294_14⟩ := hQ294
    have N294 := Fr.app N286 Nq294
    refine GoW.tr st294 ?_
    have z295 : n0 ≤ T294.heap.size := Nat.le_trans z287 K294.1
    have sqz295 : h0.size ≤ T294.heap.size := Nat.le_trans sqz287 K294.1
    have hk297 := Nat.le_trans hk289 K294.1
    show GoW _ _ _ _ _ _ _ (T294.setTop (mkF m 194 #[.val (.int qs), .val (.int qp), .val (.int (3 : Int32)), .val (.int (1 : Int32)), .val (.ref b1), .val (.ref b8), .val (.ref b32), .val (.ref b58), .val (.ref b32), .val (.int (2 : Int32)), .val (.ref b8), .val (.ref b58), .val (.ref b58), .unset] []))
    refine GoW.step (fun _ k => XS.aload X294.here hx rfl (hb hby at_194) rfl rfl  k) ?_
    show GoW _ _ _ _ _ _ _ (T294.setTop (mkF m 196 #[.val (.int qs), .val (.int qp), .val (.int (3 : Int32)), .val (.int (1 : Int32)), .val (.ref b1), .val (.ref b8), .val (.ref b32), .val (.ref b58), .val (.ref b32), .val (.int (2 : Int32)), .val (.ref b8), .val (.ref b58), .val (.ref b58), .unset] [(.ref b32)]))
    obtain ⟨T298, X298, e298, st298⟩ := getF X294 hx hZ hown (host := "") (Or.inl (hw _ (List.mem_of_getElem? (i := 69) rfl))) Via.refl rfl c294_2 (g := (mkF m 196 #[.val (.int qs), .val (.int qp), .val (.int (3 : Int32)), .val (.int (1 : Int32)), .val (.ref b1), .val (.ref b8), .val (.ref b32), .val (.ref b58), .val (.ref b32), .val (.int (2 : Int32)), .val (.ref b8), .val (.ref b58), .val (.ref b58), .unset] [(.ref b32)])) rfl rfl (hb hby at_196)
    refine GoW.step st298 ?_
    show GoW _ _ _ _ _ _ _ (T298.setTop (mkF m 199 #[.val (.int qs), .val (.int qp), .val (.int (3 : Int32)), .val (.int (1 : Int32)), .val (.ref b1), .val (.ref b8), .val (.ref b32), .val (.ref b58), .val (.ref b32), .val (.int (2 : Int32)), .val (.ref b8), .val (.ref b58), .val (.ref b58), .unset] [.null]))
    refine GoW.step (fun _ k => XS.ifnonnullNo X298.here hx rfl (hb hby at_199) rfl k) ?_
    show GoW _ _ _ _ _ _ _ (T298.setTop (mkF m 202 #[.val (.int qs), .val (.int qp), .val (.int (3 : Int32)), .val (.int (1 : Int32)), .val (.ref b1), .val (.ref b8), .val (.ref b32), .val (.ref b58), .val (.ref b32), .val (.int (2 : Int32)), .val (.ref b8), .val (.ref b58), .val (.ref b58), .unset] []))
    refine GoW.step (fun _ k => XS.aload X298.here hx rfl (hb hby at_202) rfl rfl  k) ?_
    show GoW _ _ _ _ _ _ _ (T298.setTop (mkF m 204 #[.val (.int qs), .val (.int qp), .val (.int (3 : Int32)), .val (.int (1 : Int32)), .val (.ref b1), .val (.ref b8), .val (.ref b32), .val (.ref b58), .val (.ref b32), .val (.int (2 : Int32)), .val (.ref b8), .val (.ref b58), .val (.ref b58), .unset] [(.ref b32)]))
    obtain ⟨T299, X299, e299, st299⟩ := getF X298 hx hZ hown (host := "") (Or.inl (hw _ (List.mem_of_getElem? (i := 70) rfl))) Via.refl e298 c294_3 (g := (mkF m 204 #[.val (.int qs), .val (.int qp), .val (.int (3 : Int32)), .val (.int (1 : Int32)), .val (.ref b1), .val (.ref b8), .val (.ref b32), .val (.ref b58), .val (.ref b32), .val (.int (2 : Int32)), .val (.ref b8), .val (.ref b58), .val (.ref b58), .unset] [(.ref b32)])) rfl rfl (hb hby at_204)
    refine GoW.step st299 ?_
    show GoW _ _ _ _ _ _ _ (T299.setTop (mkF m 207 #[.val (.int qs), .val (.int qp), .val (.int (3 : Int32)), .val (.int (1 : Int32)), .val (.ref b1), .val (.ref b8), .val (.ref b32), .val (.ref b58), .val (.ref b32), .val (.int (2 : Int32)), .val (.ref b8), .val (.ref b58), .val (.ref b58), .unset] [.null]))
    refine GoW.step (fun _ k => XS.ifnonnullNo X299.here hx rfl (hb hby at_207) rfl k) ?_
    show GoW _ _ _ _ _ _ _ (T299.setTop (mkF m 210 #[.val (.int qs), .val (.int qp), .val (.int (3 : Int32)), .val (.int (1 : Int32)), .val (.ref b1), .val (.ref b8), .val (.ref b32), .val (.ref b58), .val (.ref b32), .val (.int (2 : Int32)), .val (.ref b8), .val (.ref b58), .val (.ref b58), .unset] []))
    refine GoW.step (fun _ k => XS.aload X299.here hx rfl (hb hby at_210) rfl rfl  k) ?_
    show GoW _ _ _ _ _ _ _ (T299.setTop (mkF m 212 #[.val (.int qs), .val (.int qp), .val (.int (3 : Int32)), .val (.int (1 : Int32)), .val (.ref b1), .val (.ref b8), .val (.ref b32), .val (.ref b58), .val (.ref b32), .val (.int (2 : Int32)), .val (.ref b8), .val (.ref b58), .val (.ref b58), .unset] [(.ref b32)]))
    obtain ⟨T300, X300, e300, st300⟩ := getF X299 hx hZ hown (host := "") (Or.inl (hw _ (List.mem_of_getElem? (i := 71) rfl))) Via.refl e299 c294_4 (g := (mkF m 212 #[.val (.int qs), .val (.int qp), .val (.int (3 : Int32)), .val (.int (1 : Int32)), .val (.ref b1), .val (.ref b8), .val (.ref b32), .val (.ref b58), .val (.ref b32), .val (.int (2 : Int32)), .val (.ref b8), .val (.ref b58), .val (.ref b58), .unset] [(.ref b32)])) rfl rfl (hb hby at_212)
    refine GoW.step st300 ?_
    show GoW _ _ _ _ _ _ _ (T300.setTop (mkF m 215 #[.val (.int qs), .val (.int qp), .val (.int (3 : Int32)), .val (.int (1 : Int32)), .val (.ref b1), .val (.ref b8), .val (.ref b32), .val (.ref b58), .val (.ref b32), .val (.int (2 : Int32)), .val (.ref b8), .val (.ref b58), .val (.ref b58), .unset] [.null]))
    refine GoW.step (fun _ k => XS.ifnonnullNo X300.here hx rfl (hb hby at_215) rfl k) ?_
    show GoW _ _ _ _ _ _ _ (T300.setTop (mkF m 218 #[.val (.int qs), .val (.int qp), .val (.int (3 : Int32)), .val (.int (1 : Int32)), .val (.ref b1), .val (.ref b8), .val (.ref b32), .val (.ref b58), .val (.ref b32), .val (.int (2 : Int32)), .val (.ref b8), .val (.ref b58), .val (.ref b58), .unset] []))
    refine GoW.step (fun _ k => XS.iconst X300.here hx rfl (hb hby at_218) k) ?_
    show GoW _ _ _ _ _ _ _ (T300.setTop (mkF m 219 #[.val (.int qs), .val (.int qp), .val (.int (3 : Int32)), .val (.int (1 : Int32)), .val (.ref b1), .val (.ref b8), .val (.ref b32), .val (.ref b58), .val (.ref b32), .val (.int (2 : Int32)), .val (.ref b8), .val (.ref b58), .val (.ref b58), .unset] [(.int (1 : Int32))]))
    refine GoW.step (fun _ k => XS.goto X300.here hx rfl (pc0 := 219) (pc' := 223) rfl (hb hby at_219) (by decide) (by decide) k) ?_
    show GoW _ _ _ _ _ _ _ (T300.setTop (mkF m 223 #[.val (.int qs), .val (.int qp), .val (.int (3 : Int32)), .val (.int (1 : Int32)), .val (.ref b1), .val (.ref b8), .val (.ref b32), .val (.ref b58), .val (.ref b32), .val (.int (2 : Int32)), .val (.ref b8), .val (.ref b58), .val (.ref b58), .unset] [(.int (1 : Int32))]))
    refine GoW.step (fun _ k => XS.istore X300.here hx rfl (hb hby at_223) rfl (l' := #[.val (.int qs), .val (.int qp), .val (.int (3 : Int32)), .val (.int (1 : Int32)), .val (.ref b1), .val (.ref b8), .val (.ref b32), .val (.ref b58), .val (.ref b32), .val (.int (2 : Int32)), .val (.ref b8), .val (.ref b58), .val (.ref b58), .val (.int (1 : Int32))]) rfl k) ?_
    show GoW _ _ _ _ _ _ _ (T300.setTop (mkF m 225 #[.val (.int qs), .val (.int qp), .val (.int (3 : Int32)), .val (.int (1 : Int32)), .val (.ref b1), .val (.ref b8), .val (.ref b32), .val (.ref b58), .val (.ref b32), .val (.int (2 : Int32)), .val (.ref b8), .val (.ref b58), .val (.ref b58), .val (.int (1 : Int32))] []))
    refine GoW.step (fun _ k => XS.iload X300.here hx rfl (hb hby at_225) rfl  k) ?_
    show GoW _ _ _ _ _ _ _ (T300.setTop (mkF m 227 #[.val (.int qs), .val (.int qp), .val (.int (3 : Int32)), .val (.int (1 : Int32)), .val (.ref b1), .val (.ref b8), .val (.ref b32), .val (.ref b58), .val (.ref b32), .val (.int (2 : Int32)), .val (.ref b8), .val (.ref b58), .val (.ref b58), .val (.int (1 : Int32))] [(.int (1 : Int32))]))
    have hc227 : ¬ ((1 : Int32) = (0 : Int32)) := hc123
    refine GoW.step (fun _ k => XS.ifNo X300.here hx rfl (hb hby at_227) rfl ((if0 _ _).trans (feq hc227).1) k) ?_
    show GoW _ _ _ _ _ _ _ (T300.setTop (mkF m 230 #[.val (.int qs), .val (.int qp), .val (.int (3 : Int32)), .val (.int (1 : Int32)), .val (.ref b1), .val (.ref b8), .val (.ref b32), .val (.ref b58), .val (.ref b32), .val (.int (2 : Int32)), .val (.ref b8), .val (.ref b58), .val (.ref b58), .val (.int (1 : Int32))] []))
    refine GoW.step (fun _ k => XS.aload X300.here hx rfl (hb hby at_230) rfl rfl  k) ?_
    show GoW _ _ _ _ _ _ _ (T300.setTop (mkF m 232 #[.val (.int qs), .val (.int qp), .val (.int (3 : Int32)), .val (.int (1 : Int32)), .val (.ref b1), .val (.ref b8), .val (.ref b32), .val (.ref b58), .val (.ref b32), .val (.int (2 : Int32)), .val (.ref b8), .val (.ref b58), .val (.ref b58), .val (.int (1 : Int32))] [(.ref b1)]))
    have pq301 : (Value.ref b8).isRef = true := rfl
    obtain ⟨cq302, kq302, q302a, q302b, q302c⟩ := isOf hZ e300 c294_0
    obtain ⟨_, _, ⟨T302, L302, k302, n302⟩, -, X302, ⟨Lc302, hQ302, l302, y302, z302⟩, st302⟩ := X300.virtualBack hx (y := (⟨"com/example/steward/steward/runtime/Group", "first", "()Lcom/example/steward/steward/runtime/Agent;"⟩ : MethodName)) (z := (⟨"com/example/steward/steward/runtime/Group", "first", "()Lcom/example/steward/steward/runtime/Agent;"⟩ : MethodName)) hown (mvT hZ (hw _ (List.mem_of_getElem? (i := 72) rfl))) (mvT hZ (hw _ (List.mem_of_getElem? (i := 73) rfl))) (notFace_of_selects (args := #[]) (mvT hZ (hw _ (List.mem_of_getElem? (i := 75) rfl)))) (mvT hZ (hw _ (List.mem_of_getElem? (i := 75) rfl))) (mvT hZ (hw _ (List.mem_of_getElem? (i := 74) rfl))) (by decide) (backOf (W := 0) (rm8 l Z aZ hw [] b1 (Value.ref b8) T294.heap n0 z295 c294_13 pq301) hZ (hw _ (List.mem_of_getElem? (i := 76) rfl)) (hw _ (List.mem_of_getElem? (i := 3) rfl)) (by decide) (by decide)) q302a q302c (g := (mkF m 232 #[.val (.int qs), .val (.int qp), .val (.int (3 : Int32)), .val (.int (1 : Int32)), .val (.ref b1), .val (.ref b8), .val (.ref b32), .val (.ref b58), .val (.ref b32), .val (.int (2 : Int32)), .val (.ref b8), .val (.ref b58), .val (.ref b58), .val (.int (1 : Int32))] [(.ref b1)])) rfl (by rw [hml]; rfl) (Steps.refl _) (argsL := []) (rest := []) (lenOf pd_4 rfl) rfl (by show 2 * 0 + _ ≤ _; exact Nat.le_of_eq rfl) (hb hby at_232) (fun _ _ => ⟨rfl, e300, (by decide : 16 + 0 ≤ _), (by decide : 74 + 0 ≤ _)⟩)
    dsimp only [Pt.U, Pt.locs, Pt.cells, Pt.slots] at X302 l302 y302 z302 st302 hQ302
    subst l302 y302 z302
    obtain ⟨rfl, Nq302, e302⟩ := hQ302
    have N302 := Fr.app N294 Nq302
    refine GoW.tr st302 ?_
    show GoW _ _ _ _ _ _ _ (T302.setTop (mkF m 235 #[.val (.int qs), .val (.int qp), .val (.int (3 : Int32)), .val (.int (1 : Int32)), .val (.ref b1), .val (.ref b8), .val (.ref b32), .val (.ref b58), .val (.ref b32), .val (.int (2 : Int32)), .val (.ref b8), .val (.ref b58), .val (.ref b58), .val (.int (1 : Int32))] [(.ref b8)]))
    refine GoW.step (fun _ k => XS.aload X302.here hx rfl (hb hby at_235) rfl rfl  k) ?_
    show GoW _ _ _ _ _ _ _ (T302.setTop (mkF m 237 #[.val (.int qs), .val (.int qp), .val (.int (3 : Int32)), .val (.int (1 : Int32)), .val (.ref b1), .val (.ref b8), .val (.ref b32), .val (.ref b58), .val (.ref b32), .val (.int (2 : Int32)), .val (.ref b8), .val (.ref b58), .val (.ref b58), .val (.int (1 : Int32))] [(.ref b8), (.ref b8)]))
    refine GoW.step (fun _ k => Jvm.RoadKit.acmp (g := (mkF m 237 #[.val (.int qs), .val (.int qp), .val (.int (3 : Int32)), .val (.int (1 : Int32)), .val (.ref b1), .val (.ref b8), .val (.ref b32), .val (.ref b58), .val (.ref b32), .val (.int (2 : Int32)), .val (.ref b8), .val (.ref b58), .val (.ref b58), .val (.int (1 : Int32))] [(.ref b8), (.ref b8)])) X302 hx rfl rfl rfl (pc0 := 237) (pc' := 240) (same := true) rfl (hb hby at_237) rfl (decide_eq_true rfl) (by decide) (by decide) k) ?_
    show GoW _ _ _ _ _ _ _ (T302.setTop (mkF m 240 #[.val (.int qs), .val (.int qp), .val (.int (3 : Int32)), .val (.int (1 : Int32)), .val (.ref b1), .val (.ref b8), .val (.ref b32), .val (.ref b58), .val (.ref b32), .val (.int (2 : Int32)), .val (.ref b8), .val (.ref b58), .val (.ref b58), .val (.int (1 : Int32))] []))
    refine GoW.step (fun _ k => XS.iconst X302.here hx rfl (hb hby at_240) k) ?_
    show GoW _ _ _ _ _ _ _ (T302.setTop (mkF m 241 #[.val (.int qs), .val (.int qp), .val (.int (3 : Int32)), .val (.int (1 : Int32)), .val (.ref b1), .val (.ref b8), .val (.ref b32), .val (.ref b58), .val (.ref b32), .val (.int (2 : Int32)), .val (.ref b8), .val (.ref b58), .val (.ref b58), .val (.int (1 : Int32))] [(.int (1 : Int32))]))
    refine GoW.step (fun _ k => XS.goto X302.here hx rfl (pc0 := 241) (pc' := 245) rfl (hb hby at_241) (by decide) (by decide) k) ?_
    show GoW _ _ _ _ _ _ _ (T302.setTop (mkF m 245 #[.val (.int qs), .val (.int qp), .val (.int (3 : Int32)), .val (.int (1 : Int32)), .val (.ref b1), .val (.ref b8), .val (.ref b32), .val (.ref b58), .val (.ref b32), .val (.int (2 : Int32)), .val (.ref b8), .val (.ref b58), .val (.ref b58), .val (.int (1 : Int32))] [(.int (1 : Int32))]))
    refine GoW.step (fun _ k => XS.istore X302.here hx rfl (hb hby at_245) rfl (l' := #[.val (.int qs), .val (.int qp), .val (.int (3 : Int32)), .val (.int (1 : Int32)), .val (.ref b1), .val (.ref b8), .val (.ref b32), .val (.ref b58), .val (.ref b32), .val (.int (2 : Int32)), .val (.ref b8), .val (.ref b58), .val (.ref b58), .val (.int (1 : Int32))]) rfl k) ?_
    show GoW _ _ _ _ _ _ _ (T302.setTop (mkF m 247 #[.val (.int qs), .val (.int qp), .val (.int (3 : Int32)), .val (.int (1 : Int32)), .val (.ref b1), .val (.ref b8), .val (.ref b32), .val (.ref b58), .val (.ref b32), .val (.int (2 : Int32)), .val (.ref b8), .val (.ref b58), .val (.ref b58), .val (.int (1 : Int32))] []))
    refine GoW.step (fun _ k => XS.aload X302.here hx rfl (hb hby at_247) rfl rfl  k) ?_
    show GoW _ _ _ _ _ _ _ (T302.setTop (mkF m 249 #[.val (.int qs), .val (.int qp), .val (.int (3 : Int32)), .val (.int (1 : Int32)), .val (.ref b1), .val (.ref b8), .val (.ref b32), .val (.ref b58), .val (.ref b32), .val (.int (2 : Int32)), .val (.ref b8), .val (.ref b58), .val (.ref b58), .val (.int (1 : Int32))] [(.ref b8)]))
    refine GoW.step (fun _ k => XS.ifnullNo X302.here hx rfl (hb hby at_249) rfl k) ?_
    show GoW _ _ _ _ _ _ _ (T302.setTop (mkF m 252 #[.val (.int qs), .val (.int qp), .val (.int (3 : Int32)), .val (.int (1 : Int32)), .val (.ref b1), .val (.ref b8), .val (.ref b32), .val (.ref b58), .val (.ref b32), .val (.int (2 : Int32)), .val (.ref b8), .val (.ref b58), .val (.ref b58), .val (.int (1 : Int32))] []))
    refine GoW.step (fun _ k => XS.iload X302.here hx rfl (hb hby at_252) rfl  k) ?_
    show GoW _ _ _ _ _ _ _ (T302.setTop (mkF m 254 #[.val (.int qs), .val (.int qp), .val (.int (3 : Int32)), .val (.int (1 : Int32)), .val (.ref b1), .val (.ref b8), .val (.ref b32), .val (.ref b58), .val (.ref b32), .val (.int (2 : Int32)), .val (.ref b8), .val (.ref b58), .val (.ref b58), .val (.int (1 : Int32))] [(.int (1 : Int32))]))
    have hc254 : ¬ ((1 : Int32) = (0 : Int32)) := hc227
    refine GoW.step (fun _ k => XS.ifNo X302.here hx rfl (hb hby at_254) rfl ((if0 _ _).trans (feq hc254).1) k) ?_
    show GoW _ _ _ _ _ _ _ (T302.setTop (mkF m 257 #[.val (.int qs), .val (.int qp), .val (.int (3 : Int32)), .val (.int (1 : Int32)), .val (.ref b1), .val (.ref b8), .val (.ref b32), .val (.ref b58), .val (.ref b32), .val (.int (2 : Int32)), .val (.ref b8), .val (.ref b58), .val (.ref b58), .val (.int (1 : Int32))] []))
    refine GoW.step (fun _ k => XS.aload X302.here hx rfl (hb hby at_257) rfl rfl  k) ?_
    show GoW _ _ _ _ _ _ _ (T302.setTop (mkF m 259 #[.val (.int qs), .val (.int qp), .val (.int (3 : Int32)), .val (.int (1 : Int32)), .val (.ref b1), .val (.ref b8), .val (.ref b32), .val (.ref b58), .val (.ref b32), .val (.int (2 : Int32)), .val (.ref b8), .val (.ref b58), .val (.ref b58), .val (.int (1 : Int32))] [(.ref b8)]))
    obtain ⟨T303, X303, e303, st303⟩ := getF X302 hx hZ hown (host := "") (Or.inl (hw _ (List.mem_of_getElem? (i := 70) rfl))) Via.refl e302 c294_8 (g := (mkF m 259 #[.val (.int qs), .val (.int qp), .val (.int (3 : Int32)), .val (.int (1 : Int32)), .val (.ref b1), .val (.ref b8), .val (.ref b32), .val (.ref b58), .val (.ref b32), .val (.int (2 : Int32)), .val (.ref b8), .val (.ref b58), .val (.ref b58), .val (.int (1 : Int32))] [(.ref b8)])) rfl rfl (hb hby at_259)
    refine GoW.step st303 ?_
    show GoW _ _ _ _ _ _ _ (T303.setTop (mkF m 262 #[.val (.int qs), .val (.int qp), .val (.int (3 : Int32)), .val (.int (1 : Int32)), .val (.ref b1), .val (.ref b8), .val (.ref b32), .val (.ref b58), .val (.ref b32), .val (.int (2 : Int32)), .val (.ref b8), .val (.ref b58), .val (.ref b58), .val (.int (1 : Int32))] [.null]))
    refine GoW.step (fun _ k => XS.ifnonnullNo X303.here hx rfl (hb hby at_262) rfl k) ?_
    show GoW _ _ _ _ _ _ _ (T303.setTop (mkF m 265 #[.val (.int qs), .val (.int qp), .val (.int (3 : Int32)), .val (.int (1 : Int32)), .val (.ref b1), .val (.ref b8), .val (.ref b32), .val (.ref b58), .val (.ref b32), .val (.int (2 : Int32)), .val (.ref b8), .val (.ref b58), .val (.ref b58), .val (.int (1 : Int32))] []))
    refine GoW.step (fun _ k => XS.aload X303.here hx rfl (hb hby at_265) rfl rfl  k) ?_
    show GoW _ _ _ _ _ _ _ (T303.setTop (mkF m 267 #[.val (.int qs), .val (.int qp), .val (.int (3 : Int32)), .val (.int (1 : Int32)), .val (.ref b1), .val (.ref b8), .val (.ref b32), .val (.ref b58), .val (.ref b32), .val (.int (2 : Int32)), .val (.ref b8), .val (.ref b58), .val (.ref b58), .val (.int (1 : Int32))] [(.ref b8)]))
    obtain ⟨T304, X304, e304, st304⟩ := getF X303 hx hZ hown (host := "") (Or.inl (hw _ (List.mem_of_getElem? (i := 71) rfl))) Via.refl e303 c294_6 (g := (mkF m 267 #[.val (.int qs), .val (.int qp), .val (.int (3 : Int32)), .val (.int (1 : Int32)), .val (.ref b1), .val (.ref b8), .val (.ref b32), .val (.ref b58), .val (.ref b32), .val (.int (2 : Int32)), .val (.ref b8), .val (.ref b58), .val (.ref b58), .val (.int (1 : Int32))] [(.ref b8)])) rfl rfl (hb hby at_267)
    refine GoW.step st304 ?_
    show GoW _ _ _ _ _ _ _ (T304.setTop (mkF m 270 #[.val (.int qs), .val (.int qp), .val (.int (3 : Int32)), .val (.int (1 : Int32)), .val (.ref b1), .val (.ref b8), .val (.ref b32), .val (.ref b58), .val (.ref b32), .val (.int (2 : Int32)), .val (.ref b8), .val (.ref b58), .val (.ref b58), .val (.int (1 : Int32))] [(.ref b58)]))
    refine GoW.step (fun _ k => XS.aload X304.here hx rfl (hb hby at_270) rfl rfl  k) ?_
    show GoW _ _ _ _ _ _ _ (T304.setTop (mkF m 272 #[.val (.int qs), .val (.int qp), .val (.int (3 : Int32)), .val (.int (1 : Int32)), .val (.ref b1), .val (.ref b8), .val (.ref b32), .val (.ref b58), .val (.ref b32), .val (.int (2 : Int32)), .val (.ref b8), .val (.ref b58), .val (.ref b58), .val (.int (1 : Int32))] [(.ref b58), (.ref b58)]))
    refine GoW.step (fun _ k => Jvm.RoadKit.acmp (g := (mkF m 272 #[.val (.int qs), .val (.int qp), .val (.int (3 : Int32)), .val (.int (1 : Int32)), .val (.ref b1), .val (.ref b8), .val (.ref b32), .val (.ref b58), .val (.ref b32), .val (.int (2 : Int32)), .val (.ref b8), .val (.ref b58), .val (.ref b58), .val (.int (1 : Int32))] [(.ref b58), (.ref b58)])) X304 hx rfl rfl rfl (pc0 := 272) (pc' := 275) (same := true) rfl (hb hby at_272) rfl (decide_eq_true rfl) (by decide) (by decide) k) ?_
    show GoW _ _ _ _ _ _ _ (T304.setTop (mkF m 275 #[.val (.int qs), .val (.int qp), .val (.int (3 : Int32)), .val (.int (1 : Int32)), .val (.ref b1), .val (.ref b8), .val (.ref b32), .val (.ref b58), .val (.ref b32), .val (.int (2 : Int32)), .val (.ref b8), .val (.ref b58), .val (.ref b58), .val (.int (1 : Int32))] []))
    refine GoW.step (fun _ k => XS.aload X304.here hx rfl (hb hby at_275) rfl rfl  k) ?_
    show GoW _ _ _ _ _ _ _ (T304.setTop (mkF m 277 #[.val (.int qs), .val (.int qp), .val (.int (3 : Int32)), .val (.int (1 : Int32)), .val (.ref b1), .val (.ref b8), .val (.ref b32), .val (.ref b58), .val (.ref b32), .val (.int (2 : Int32)), .val (.ref b8), .val (.ref b58), .val (.ref b58), .val (.int (1 : Int32))] [(.ref b8)]))
    obtain ⟨T305, X305, e305, st305⟩ := getF X304 hx hZ hown (host := "") (Or.inl (hw _ (List.mem_of_getElem? (i := 69) rfl))) Via.refl e304 c294_7 (g := (mkF m 277 #[.val (.int qs), .val (.int qp), .val (.int (3 : Int32)), .val (.int (1 : Int32)), .val (.ref b1), .val (.ref b8), .val (.ref b32), .val (.ref b58), .val (.ref b32), .val (.int (2 : Int32)), .val (.ref b8), .val (.ref b58), .val (.ref b58), .val (.int (1 : Int32))] [(.ref b8)])) rfl rfl (hb hby at_277)
    refine GoW.step st305 ?_
    show GoW _ _ _ _ _ _ _ (T305.setTop (mkF m 280 #[.val (.int qs), .val (.int qp), .val (.int (3 : Int32)), .val (.int (1 : Int32)), .val (.ref b1), .val (.ref b8), .val (.ref b32), .val (.ref b58), .val (.ref b32), .val (.int (2 : Int32)), .val (.ref b8), .val (.ref b58), .val (.ref b58), .val (.int (1 : Int32))] [(.ref b1)]))
    refine GoW.step (fun _ k => XS.aload X305.here hx rfl (hb hby at_280) rfl rfl  k) ?_
    show GoW _ _ _ _ _ _ _ (T305.setTop (mkF m 282 #[.val (.int qs), .val (.int qp), .val (.int (3 : Int32)), .val (.int (1 : Int32)), .val (.ref b1), .val (.ref b8), .val (.ref b32), .val (.ref b58), .val (.ref b32), .val (.int (2 : Int32)), .val (.ref b8), .val (.ref b58), .val (.ref b58), .val (.int (1 : Int32))] [(.ref b1), (.ref b1)]))
    refine GoW.step (fun _ k => Jvm.RoadKit.acmp (g := (mkF m 282 #[.val (.int qs), .val (.int qp), .val (.int (3 : Int32)), .val (.int (1 : Int32)), .val (.ref b1), .val (.ref b8), .val (.ref b32), .val (.ref b58), .val (.ref b32), .val (.int (2 : Int32)), .val (.ref b8), .val (.ref b58), .val (.ref b58), .val (.int (1 : Int32))] [(.ref b1), (.ref b1)])) X305 hx rfl rfl rfl (pc0 := 282) (pc' := 285) (same := true) rfl (hb hby at_282) rfl (decide_eq_true rfl) (by decide) (by decide) k) ?_
    show GoW _ _ _ _ _ _ _ (T305.setTop (mkF m 285 #[.val (.int qs), .val (.int qp), .val (.int (3 : Int32)), .val (.int (1 : Int32)), .val (.ref b1), .val (.ref b8), .val (.ref b32), .val (.ref b58), .val (.ref b32), .val (.int (2 : Int32)), .val (.ref b8), .val (.ref b58), .val (.ref b58), .val (.int (1 : Int32))] []))
    refine GoW.step (fun _ k => XS.iconst X305.here hx rfl (hb hby at_285) k) ?_
    show GoW _ _ _ _ _ _ _ (T305.setTop (mkF m 286 #[.val (.int qs), .val (.int qp), .val (.int (3 : Int32)), .val (.int (1 : Int32)), .val (.ref b1), .val (.ref b8), .val (.ref b32), .val (.ref b58), .val (.ref b32), .val (.int (2 : Int32)), .val (.ref b8), .val (.ref b58), .val (.ref b58), .val (.int (1 : Int32))] [(.int (1 : Int32))]))
    refine GoW.step (fun _ k => XS.goto X305.here hx rfl (pc0 := 286) (pc' := 290) rfl (hb hby at_286) (by decide) (by decide) k) ?_
    show GoW _ _ _ _ _ _ _ (T305.setTop (mkF m 290 #[.val (.int qs), .val (.int qp), .val (.int (3 : Int32)), .val (.int (1 : Int32)), .val (.ref b1), .val (.ref b8), .val (.ref b32), .val (.ref b58), .val (.ref b32), .val (.int (2 : Int32)), .val (.ref b8), .val (.ref b58), .val (.ref b58), .val (.int (1 : Int32))] [(.int (1 : Int32))]))
    refine GoW.step (fun _ k => XS.istore X305.here hx rfl (hb hby at_290) rfl (l' := #[.val (.int qs), .val (.int qp), .val (.int (3 : Int32)), .val (.int (1 : Int32)), .val (.ref b1), .val (.ref b8), .val (.ref b32), .val (.ref b58), .val (.ref b32), .val (.int (2 : Int32)), .val (.ref b8), .val (.ref b58), .val (.ref b58), .val (.int (1 : Int32))]) rfl k) ?_
    show GoW _ _ _ _ _ _ _ (T305.setTop (mkF m 292 #[.val (.int qs), .val (.int qp), .val (.int (3 : Int32)), .val (.int (1 : Int32)), .val (.ref b1), .val (.ref b8), .val (.ref b32), .val (.ref b58), .val (.ref b32), .val (.int (2 : Int32)), .val (.ref b8), .val (.ref b58), .val (.ref b58), .val (.int (1 : Int32))] []))
    refine GoW.step (fun _ k => XS.aload X305.here hx rfl (hb hby at_292) rfl rfl  k) ?_
    show GoW _ _ _ _ _ _ _ (T305.setTop (mkF m 294 #[.val (.int qs), .val (.int qp), .val (.int (3 : Int32)), .val (.int (1 : Int32)), .val (.ref b1), .val (.ref b8), .val (.ref b32), .val (.ref b58), .val (.ref b32), .val (.int (2 : Int32)), .val (.ref b8), .val (.ref b58), .val (.ref b58), .val (.int (1 : Int32))] [(.ref b58)]))
    refine GoW.step (fun _ k => XS.ifnullNo X305.here hx rfl (hb hby at_294) rfl k) ?_
    show GoW _ _ _ _ _ _ _ (T305.setTop (mkF m 297 #[.val (.int qs), .val (.int qp), .val (.int (3 : Int32)), .val (.int (1 : Int32)), .val (.ref b1), .val (.ref b8), .val (.ref b32), .val (.ref b58), .val (.ref b32), .val (.int (2 : Int32)), .val (.ref b8), .val (.ref b58), .val (.ref b58), .val (.int (1 : Int32))] []))
    refine GoW.step (fun _ k => XS.iload X305.here hx rfl (hb hby at_297) rfl  k) ?_
    show GoW _ _ _ _ _ _ _ (T305.setTop (mkF m 299 #[.val (.int qs), .val (.int qp), .val (.int (3 : Int32)), .val (.int (1 : Int32)), .val (.ref b1), .val (.ref b8), .val (.ref b32), .val (.ref b58), .val (.ref b32), .val (.int (2 : Int32)), .val (.ref b8), .val (.ref b58), .val (.ref b58), .val (.int (1 : Int32))] [(.int (1 : Int32))]))
    have hc299 : ¬ ((1 : Int32) = (0 : Int32)) := hc254
    refine GoW.step (fun _ k => XS.ifNo X305.here hx rfl (hb hby at_299) rfl ((if0 _ _).trans (feq hc299).1) k) ?_
    show GoW _ _ _ _ _ _ _ (T305.setTop (mkF m 302 #[.val (.int qs), .val (.int qp), .val (.int (3 : Int32)), .val (.int (1 : Int32)), .val (.ref b1), .val (.ref b8), .val (.ref b32), .val (.ref b58), .val (.ref b32), .val (.int (2 : Int32)), .val (.ref b8), .val (.ref b58), .val (.ref b58), .val (.int (1 : Int32))] []))
    refine GoW.step (fun _ k => XS.aload X305.here hx rfl (hb hby at_302) rfl rfl  k) ?_
    show GoW _ _ _ _ _ _ _ (T305.setTop (mkF m 304 #[.val (.int qs), .val (.int qp), .val (.int (3 : Int32)), .val (.int (1 : Int32)), .val (.ref b1), .val (.ref b8), .val (.ref b32), .val (.ref b58), .val (.ref b32), .val (.int (2 : Int32)), .val (.ref b8), .val (.ref b58), .val (.ref b58), .val (.int (1 : Int32))] [(.ref b58)]))
    obtain ⟨T306, X306, e306, st306⟩ := getF X305 hx hZ hown (host := "") (Or.inl (hw _ (List.mem_of_getElem? (i := 70) rfl))) Via.refl e305 c294_10 (g := (mkF m 304 #[.val (.int qs), .val (.int qp), .val (.int (3 : Int32)), .val (.int (1 : Int32)), .val (.ref b1), .val (.ref b8), .val (.ref b32), .val (.ref b58), .val (.ref b32), .val (.int (2 : Int32)), .val (.ref b8), .val (.ref b58), .val (.ref b58), .val (.int (1 : Int32))] [(.ref b58)])) rfl rfl (hb hby at_304)
    refine GoW.step st306 ?_
    show GoW _ _ _ _ _ _ _ (T306.setTop (mkF m 307 #[.val (.int qs), .val (.int qp), .val (.int (3 : Int32)), .val (.int (1 : Int32)), .val (.ref b1), .val (.ref b8), .val (.ref b32), .val (.ref b58), .val (.ref b32), .val (.int (2 : Int32)), .val (.ref b8), .val (.ref b58), .val (.ref b58), .val (.int (1 : Int32))] [(.ref b8)]))
    refine GoW.step (fun _ k => XS.aload X306.here hx rfl (hb hby at_307) rfl rfl  k) ?_
    show GoW _ _ _ _ _ _ _ (T306.setTop (mkF m 309 #[.val (.int qs), .val (.int qp), .val (.int (3 : Int32)), .val (.int (1 : Int32)), .val (.ref b1), .val (.ref b8), .val (.ref b32), .val (.ref b58), .val (.ref b32), .val (.int (2 : Int32)), .val (.ref b8), .val (.ref b58), .val (.ref b58), .val (.int (1 : Int32))] [(.ref b8), (.ref b8)]))
    refine GoW.step (fun _ k => Jvm.RoadKit.acmp (g := (mkF m 309 #[.val (.int qs), .val (.int qp), .val (.int (3 : Int32)), .val (.int (1 : Int32)), .val (.ref b1), .val (.ref b8), .val (.ref b32), .val (.ref b58), .val (.ref b32), .val (.int (2 : Int32)), .val (.ref b8), .val (.ref b58), .val (.ref b58), .val (.int (1 : Int32))] [(.ref b8), (.ref b8)])) X306 hx rfl rfl rfl (pc0 := 309) (pc' := 312) (same := true) rfl (hb hby at_309) rfl (decide_eq_true rfl) (by decide) (by decide) k) ?_
    show GoW _ _ _ _ _ _ _ (T306.setTop (mkF m 312 #[.val (.int qs), .val (.int qp), .val (.int (3 : Int32)), .val (.int (1 : Int32)), .val (.ref b1), .val (.ref b8), .val (.ref b32), .val (.ref b58), .val (.ref b32), .val (.int (2 : Int32)), .val (.ref b8), .val (.ref b58), .val (.ref b58), .val (.int (1 : Int32))] []))
    refine GoW.step (fun _ k => XS.aload X306.here hx rfl (hb hby at_312) rfl rfl  k) ?_
    show GoW _ _ _ _ _ _ _ (T306.setTop (mkF m 314 #[.val (.int qs), .val (.int qp), .val (.int (3 : Int32)), .val (.int (1 : Int32)), .val (.ref b1), .val (.ref b8), .val (.ref b32), .val (.ref b58), .val (.ref b32), .val (.int (2 : Int32)), .val (.ref b8), .val (.ref b58), .val (.ref b58), .val (.int (1 : Int32))] [(.ref b58)]))
    obtain ⟨T307, X307, e307, st307⟩ := getF X306 hx hZ hown (host := "") (Or.inl (hw _ (List.mem_of_getElem? (i := 71) rfl))) Via.refl e306 c294_12 (g := (mkF m 314 #[.val (.int qs), .val (.int qp), .val (.int (3 : Int32)), .val (.int (1 : Int32)), .val (.ref b1), .val (.ref b8), .val (.ref b32), .val (.ref b58), .val (.ref b32), .val (.int (2 : Int32)), .val (.ref b8), .val (.ref b58), .val (.ref b58), .val (.int (1 : Int32))] [(.ref b58)])) rfl rfl (hb hby at_314)
    refine GoW.step st307 ?_
    show GoW _ _ _ _ _ _ _ (T307.setTop (mkF m 317 #[.val (.int qs), .val (.int qp), .val (.int (3 : Int32)), .val (.int (1 : Int32)), .val (.ref b1), .val (.ref b8), .val (.ref b32), .val (.ref b58), .val (.ref b32), .val (.int (2 : Int32)), .val (.ref b8), .val (.ref b58), .val (.ref b58), .val (.int (1 : Int32))] [.null]))
    refine GoW.step (fun _ k => XS.ifnonnullNo X307.here hx rfl (hb hby at_317) rfl k) ?_
    show GoW _ _ _ _ _ _ _ (T307.setTop (mkF m 320 #[.val (.int qs), .val (.int qp), .val (.int (3 : Int32)), .val (.int (1 : Int32)), .val (.ref b1), .val (.ref b8), .val (.ref b32), .val (.ref b58), .val (.ref b32), .val (.int (2 : Int32)), .val (.ref b8), .val (.ref b58), .val (.ref b58), .val (.int (1 : Int32))] []))
    refine GoW.step (fun _ k => XS.aload X307.here hx rfl (hb hby at_320) rfl rfl  k) ?_
    show GoW _ _ _ _ _ _ _ (T307.setTop (mkF m 322 #[.val (.int qs), .val (.int qp), .val (.int (3 : Int32)), .val (.int (1 : Int32)), .val (.ref b1), .val (.ref b8), .val (.ref b32), .val (.ref b58), .val (.ref b32), .val (.int (2 : Int32)), .val (.ref b8), .val (.ref b58), .val (.ref b58), .val (.int (1 : Int32))] [(.ref b58)]))
    obtain ⟨T308, X308, e308, st308⟩ := getF X307 hx hZ hown (host := "") (Or.inl (hw _ (List.mem_of_getElem? (i := 69) rfl))) Via.refl e307 c294_11 (g := (mkF m 322 #[.val (.int qs), .val (.int qp), .val (.int (3 : Int32)), .val (.int (1 : Int32)), .val (.ref b1), .val (.ref b8), .val (.ref b32), .val (.ref b58), .val (.ref b32), .val (.int (2 : Int32)), .val (.ref b8), .val (.ref b58), .val (.ref b58), .val (.int (1 : Int32))] [(.ref b58)])) rfl rfl (hb hby at_322)
    refine GoW.step st308 ?_
    show GoW _ _ _ _ _ _ _ (T308.setTop (mkF m 325 #[.val (.int qs), .val (.int qp), .val (.int (3 : Int32)), .val (.int (1 : Int32)), .val (.ref b1), .val (.ref b8), .val (.ref b32), .val (.ref b58), .val (.ref b32), .val (.int (2 : Int32)), .val (.ref b8), .val (.ref b58), .val (.ref b58), .val (.int (1 : Int32))] [(.ref b1)]))
    refine GoW.step (fun _ k => XS.aload X308.here hx rfl (hb hby at_325) rfl rfl  k) ?_
    show GoW _ _ _ _ _ _ _ (T308.setTop (mkF m 327 #[.val (.int qs), .val (.int qp), .val (.int (3 : Int32)), .val (.int (1 : Int32)), .val (.ref b1), .val (.ref b8), .val (.ref b32), .val (.ref b58), .val (.ref b32), .val (.int (2 : Int32)), .val (.ref b8), .val (.ref b58), .val (.ref b58), .val (.int (1 : Int32))] [(.ref b1), (.ref b1)]))
    refine GoW.step (fun _ k => Jvm.RoadKit.acmp (g := (mkF m 327 #[.val (.int qs), .val (.int qp), .val (.int (3 : Int32)), .val (.int (1 : Int32)), .val (.ref b1), .val (.ref b8), .val (.ref b32), .val (.ref b58), .val (.ref b32), .val (.int (2 : Int32)), .val (.ref b8), .val (.ref b58), .val (.ref b58), .val (.int (1 : Int32))] [(.ref b1), (.ref b1)])) X308 hx rfl rfl rfl (pc0 := 327) (pc' := 330) (same := true) rfl (hb hby at_327) rfl (decide_eq_true rfl) (by decide) (by decide) k) ?_
    show GoW _ _ _ _ _ _ _ (T308.setTop (mkF m 330 #[.val (.int qs), .val (.int qp), .val (.int (3 : Int32)), .val (.int (1 : Int32)), .val (.ref b1), .val (.ref b8), .val (.ref b32), .val (.ref b58), .val (.ref b32), .val (.int (2 : Int32)), .val (.ref b8), .val (.ref b58), .val (.ref b58), .val (.int (1 : Int32))] []))
    refine GoW.step (fun _ k => XS.iconst X308.here hx rfl (hb hby at_330) k) ?_
    show GoW _ _ _ _ _ _ _ (T308.setTop (mkF m 331 #[.val (.int qs), .val (.int qp), .val (.int (3 : Int32)), .val (.int (1 : Int32)), .val (.ref b1), .val (.ref b8), .val (.ref b32), .val (.ref b58), .val (.ref b32), .val (.int (2 : Int32)), .val (.ref b8), .val (.ref b58), .val (.ref b58), .val (.int (1 : Int32))] [(.int (1 : Int32))]))
    refine GoW.step (fun _ k => XS.goto X308.here hx rfl (pc0 := 331) (pc' := 335) rfl (hb hby at_331) (by decide) (by decide) k) ?_
    show GoW _ _ _ _ _ _ _ (T308.setTop (mkF m 335 #[.val (.int qs), .val (.int qp), .val (.int (3 : Int32)), .val (.int (1 : Int32)), .val (.ref b1), .val (.ref b8), .val (.ref b32), .val (.ref b58), .val (.ref b32), .val (.int (2 : Int32)), .val (.ref b8), .val (.ref b58), .val (.ref b58), .val (.int (1 : Int32))] [(.int (1 : Int32))]))
    refine GoW.step (fun _ k => XS.istore X308.here hx rfl (hb hby at_335) rfl (l' := #[.val (.int qs), .val (.int qp), .val (.int (3 : Int32)), .val (.int (1 : Int32)), .val (.ref b1), .val (.ref b8), .val (.ref b32), .val (.ref b58), .val (.ref b32), .val (.int (2 : Int32)), .val (.ref b8), .val (.ref b58), .val (.ref b58), .val (.int (1 : Int32))]) rfl k) ?_
    show GoW _ _ _ _ _ _ _ (T308.setTop (mkF m 337 #[.val (.int qs), .val (.int qp), .val (.int (3 : Int32)), .val (.int (1 : Int32)), .val (.ref b1), .val (.ref b8), .val (.ref b32), .val (.ref b58), .val (.ref b32), .val (.int (2 : Int32)), .val (.ref b8), .val (.ref b58), .val (.ref b58), .val (.int (1 : Int32))] []))
    refine GoW.step (fun _ k => XS.iloadN X308.here hx rfl (hb hby at_337) rfl  k) ?_
    show GoW _ _ _ _ _ _ _ (T308.setTop (mkF m 338 #[.val (.int qs), .val (.int qp), .val (.int (3 : Int32)), .val (.int (1 : Int32)), .val (.ref b1), .val (.ref b8), .val (.ref b32), .val (.ref b58), .val (.ref b32), .val (.int (2 : Int32)), .val (.ref b8), .val (.ref b58), .val (.ref b58), .val (.int (1 : Int32))] [(.int (3 : Int32))]))
    refine GoW.step (fun _ k => XS.iconst X308.here hx rfl (hb hby at_338) k) ?_
    show GoW _ _ _ _ _ _ _ (T308.setTop (mkF m 339 #[.val (.int qs), .val (.int qp), .val (.int (3 : Int32)), .val (.int (1 : Int32)), .val (.ref b1), .val (.ref b8), .val (.ref b32), .val (.ref b58), .val (.ref b32), .val (.int (2 : Int32)), .val (.ref b8), .val (.ref b58), .val (.ref b58), .val (.int (1 : Int32))] [(.int (3 : Int32)), (.int (3 : Int32))]))
    have hc339 : ¬ ((3 : Int32) < (3 : Int32)) := hc78
    refine GoW.step (fun _ k => XS.icmpYes X308.here hx rfl (pc0 := 339) (pc' := 378) rfl (hb hby at_339) rfl (flt hc339).2.1 (by decide) (by decide) k) ?_
    show GoW _ _ _ _ _ _ _ (T308.setTop (mkF m 378 #[.val (.int qs), .val (.int qp), .val (.int (3 : Int32)), .val (.int (1 : Int32)), .val (.ref b1), .val (.ref b8), .val (.ref b32), .val (.ref b58), .val (.ref b32), .val (.int (2 : Int32)), .val (.ref b8), .val (.ref b58), .val (.ref b58), .val (.int (1 : Int32))] []))
    refine GoW.step (fun _ k => XS.aload X308.here hx rfl (hb hby at_378) rfl rfl  k) ?_
    show GoW _ _ _ _ _ _ _ (T308.setTop (mkF m 380 #[.val (.int qs), .val (.int qp), .val (.int (3 : Int32)), .val (.int (1 : Int32)), .val (.ref b1), .val (.ref b8), .val (.ref b32), .val (.ref b58), .val (.ref b32), .val (.int (2 : Int32)), .val (.ref b8), .val (.ref b58), .val (.ref b58), .val (.int (1 : Int32))] [(.ref b1)]))
    refine GoW.step (fun _ k => XS.aload X308.here hx rfl (hb hby at_380) rfl rfl  k) ?_
    show GoW _ _ _ _ _ _ _ (T308.setTop (mkF m 382 #[.val (.int qs), .val (.int qp), .val (.int (3 : Int32)), .val (.int (1 : Int32)), .val (.ref b1), .val (.ref b8), .val (.ref b32), .val (.ref b58), .val (.ref b32), .val (.int (2 : Int32)), .val (.ref b8), .val (.ref b58), .val (.ref b58), .val (.int (1 : Int32))] [(.ref b32), (.ref b1)]))
    obtain ⟨cq309, kq309, q309a, q309b, q309c⟩ := isOf hZ e308 c294_0
    obtain ⟨_, _, ⟨T309, L309, k309, n309⟩, -, X309, ⟨Lc309, hQ309, l309, y309, z309⟩, st309⟩ := X308.virtualBack hx (y := (⟨"com/example/steward/steward/runtime/Group", "add", "(Lcom/example/steward/steward/runtime/Agent;)V"⟩ : MethodName)) (z := (⟨"com/example/steward/steward/runtime/Group", "add", "(Lcom/example/steward/steward/runtime/Agent;)V"⟩ : MethodName)) hown (mvT hZ (hw _ (List.mem_of_getElem? (i := 49) rfl))) (mvT hZ (hw _ (List.mem_of_getElem? (i := 50) rfl))) (notFace_of_selects (args := #[]) (mvT hZ (hw _ (List.mem_of_getElem? (i := 52) rfl)))) (mvT hZ (hw _ (List.mem_of_getElem? (i := 52) rfl))) (mvT hZ (hw _ (List.mem_of_getElem? (i := 51) rfl))) (by decide) (backOf (W := 0) (rmadd1 l Z aZ hw [] b1 b32 Value.null Value.null Value.null (Value.ref b8) b58 Value.null (Value.ref b1) (Value.ref b8) T294.heap n0 z295 c294_0 c294_1 c294_2 c294_3 c294_4 c294_13 c294_14 c294_9 c294_12 c294_11 c294_10 ne63 gn1 gn32 gn58) hZ (hw _ (List.mem_of_getElem? (i := 53) rfl)) (hw _ (List.mem_of_getElem? (i := 3) rfl)) (by decide) (by decide)) q309a q309c (g := (mkF m 382 #[.val (.int qs), .val (.int qp), .val (.int (3 : Int32)), .val (.int (1 : Int32)), .val (.ref b1), .val (.ref b8), .val (.ref b32), .val (.ref b58), .val (.ref b32), .val (.int (2 : Int32)), .val (.ref b8), .val (.ref b58), .val (.ref b58), .val (.int (1 : Int32))] [(.ref b32), (.ref b1)])) rfl (by rw [hml]; rfl) (Steps.refl _) (argsL := [(.ref b32)]) (rest := []) (lenOf pd_3 rfl) rfl (by show 2 * 0 + _ ≤ _; exact Nat.le_of_eq rfl) (hb hby at_382) (fun _ _ => ⟨rfl, e308, (by decide : 16 + 0 ≤ _), (by decide : 74 + 0 ≤ _)⟩)
    dsimp only [Pt.U, Pt.locs, Pt.cells, Pt.slots] at X309 l309 y309 z309 st309 hQ309
    subst l309 y309 z309
    obtain ⟨rfl, Nq309, K309, c309_0, c309_1, c309_2, c309_3, c309_4, c309_5, c309_6, c309_7, c309_8, c309_9, c309_10⟩ := hQ309
    have N309 := Fr.app N302 Nq309
    refine GoW.tr st309 ?_
    have z310 : n0 ≤ T309.heap.size := Nat.le_trans z295 K309.1
    have sqz310 : h0.size ≤ T309.heap.size := Nat.le_trans sqz295 K309.1
    have hk312 := Nat.le_trans hk297 K309.1
    show GoW _ _ _ _ _ _ _ (T309.setTop (mkF m 385 #[.val (.int qs), .val (.int qp), .val (.int (3 : Int32)), .val (.int (1 : Int32)), .val (.ref b1), .val (.ref b8), .val (.ref b32), .val (.ref b58), .val (.ref b32), .val (.int (2 : Int32)), .val (.ref b8), .val (.ref b58), .val (.ref b58), .val (.int (1 : Int32))] []))
    refine GoW.step (fun _ k => XS.iload X309.here hx rfl (hb hby at_385) rfl  k) ?_
    show GoW _ _ _ _ _ _ _ (T309.setTop (mkF m 387 #[.val (.int qs), .val (.int qp), .val (.int (3 : Int32)), .val (.int (1 : Int32)), .val (.ref b1), .val (.ref b8), .val (.ref b32), .val (.ref b58), .val (.ref b32), .val (.int (2 : Int32)), .val (.ref b8), .val (.ref b58), .val (.ref b58), .val (.int (1 : Int32))] [(.int (1 : Int32))]))
    have hc387 : ¬ ((1 : Int32) = (0 : Int32)) := hc299
    refine GoW.step (fun _ k => XS.ifNo X309.here hx rfl (hb hby at_387) rfl ((if0 _ _).trans (feq hc387).1) k) ?_
    show GoW _ _ _ _ _ _ _ (T309.setTop (mkF m 390 #[.val (.int qs), .val (.int qp), .val (.int (3 : Int32)), .val (.int (1 : Int32)), .val (.ref b1), .val (.ref b8), .val (.ref b32), .val (.ref b58), .val (.ref b32), .val (.int (2 : Int32)), .val (.ref b8), .val (.ref b58), .val (.ref b58), .val (.int (1 : Int32))] []))
    refine GoW.step (fun _ k => XS.aload X309.here hx rfl (hb hby at_390) rfl rfl  k) ?_
    show GoW _ _ _ _ _ _ _ (T309.setTop (mkF m 392 #[.val (.int qs), .val (.int qp), .val (.int (3 : Int32)), .val (.int (1 : Int32)), .val (.ref b1), .val (.ref b8), .val (.ref b32), .val (.ref b58), .val (.ref b32), .val (.int (2 : Int32)), .val (.ref b8), .val (.ref b58), .val (.ref b58), .val (.int (1 : Int32))] [(.ref b32)]))
    obtain ⟨T313, X313, e313, st313⟩ := getF X309 hx hZ hown (host := "") (Or.inl (hw _ (List.mem_of_getElem? (i := 70) rfl))) Via.refl rfl c309_4 (g := (mkF m 392 #[.val (.int qs), .val (.int qp), .val (.int (3 : Int32)), .val (.int (1 : Int32)), .val (.ref b1), .val (.ref b8), .val (.ref b32), .val (.ref b58), .val (.ref b32), .val (.int (2 : Int32)), .val (.ref b8), .val (.ref b58), .val (.ref b58), .val (.int (1 : Int32))] [(.ref b32)])) rfl rfl (hb hby at_392)
    refine GoW.step st313 ?_
    show GoW _ _ _ _ _ _ _ (T313.setTop (mkF m 395 #[.val (.int qs), .val (.int qp), .val (.int (3 : Int32)), .val (.int (1 : Int32)), .val (.ref b1), .val (.ref b8), .val (.ref b32), .val (.ref b58), .val (.ref b32), .val (.int (2 : Int32)), .val (.ref b8), .val (.ref b58), .val (.ref b58), .val (.int (1 : Int32))] [(.ref b58)]))
    refine GoW.step (fun _ k => XS.aload X313.here hx rfl (hb hby at_395) rfl rfl  k) ?_
    show GoW _ _ _ _ _ _ _ (T313.setTop (mkF m 397 #[.val (.int qs), .val (.int qp), .val (.int (3 : Int32)), .val (.int (1 : Int32)), .val (.ref b1), .val (.ref b8), .val (.ref b32), .val (.ref b58), .val (.ref b32), .val (.int (2 : Int32)), .val (.ref b8), .val (.ref b58), .val (.ref b58), .val (.int (1 : Int32))] [(.ref b58), (.ref b58)]))
    refine GoW.step (fun _ k => Jvm.RoadKit.acmp (g := (mkF m 397 #[.val (.int qs), .val (.int qp), .val (.int (3 : Int32)), .val (.int (1 : Int32)), .val (.ref b1), .val (.ref b8), .val (.ref b32), .val (.ref b58), .val (.ref b32), .val (.int (2 : Int32)), .val (.ref b8), .val (.ref b58), .val (.ref b58), .val (.int (1 : Int32))] [(.ref b58), (.ref b58)])) X313 hx rfl rfl rfl (pc0 := 397) (pc' := 400) (same := true) rfl (hb hby at_397) rfl (decide_eq_true rfl) (by decide) (by decide) k) ?_
    show GoW _ _ _ _ _ _ _ (T313.setTop (mkF m 400 #[.val (.int qs), .val (.int qp), .val (.int (3 : Int32)), .val (.int (1 : Int32)), .val (.ref b1), .val (.ref b8), .val (.ref b32), .val (.ref b58), .val (.ref b32), .val (.int (2 : Int32)), .val (.ref b8), .val (.ref b58), .val (.ref b58), .val (.int (1 : Int32))] []))
    refine GoW.step (fun _ k => XS.aload X313.here hx rfl (hb hby at_400) rfl rfl  k) ?_
    show GoW _ _ _ _ _ _ _ (T313.setTop (mkF m 402 #[.val (.int qs), .val (.int qp), .val (.int (3 : Int32)), .val (.int (1 : Int32)), .val (.ref b1), .val (.ref b8), .val (.ref b32), .val (.ref b58), .val (.ref b32), .val (.int (2 : Int32)), .val (.ref b8), .val (.ref b58), .val (.ref b58), .val (.int (1 : Int32))] [(.ref b32)]))
    obtain ⟨T314, X314, e314, st314⟩ := getF X313 hx hZ hown (host := "") (Or.inl (hw _ (List.mem_of_getElem? (i := 71) rfl))) Via.refl e313 c309_5 (g := (mkF m 402 #[.val (.int qs), .val (.int qp), .val (.int (3 : Int32)), .val (.int (1 : Int32)), .val (.ref b1), .val (.ref b8), .val (.ref b32), .val (.ref b58), .val (.ref b32), .val (.int (2 : Int32)), .val (.ref b8), .val (.ref b58), .val (.ref b58), .val (.int (1 : Int32))] [(.ref b32)])) rfl rfl (hb hby at_402)
    refine GoW.step st314 ?_
    show GoW _ _ _ _ _ _ _ (T314.setTop (mkF m 405 #[.val (.int qs), .val (.int qp), .val (.int (3 : Int32)), .val (.int (1 : Int32)), .val (.ref b1), .val (.ref b8), .val (.ref b32), .val (.ref b58), .val (.ref b32), .val (.int (2 : Int32)), .val (.ref b8), .val (.ref b58), .val (.ref b58), .val (.int (1 : Int32))] [.null]))
    refine GoW.step (fun _ k => XS.ifnonnullNo X314.here hx rfl (hb hby at_405) rfl k) ?_
    show GoW _ _ _ _ _ _ _ (T314.setTop (mkF m 408 #[.val (.int qs), .val (.int qp), .val (.int (3 : Int32)), .val (.int (1 : Int32)), .val (.ref b1), .val (.ref b8), .val (.ref b32), .val (.ref b58), .val (.ref b32), .val (.int (2 : Int32)), .val (.ref b8), .val (.ref b58), .val (.ref b58), .val (.int (1 : Int32))] []))
    refine GoW.step (fun _ k => XS.iconst X314.here hx rfl (hb hby at_408) k) ?_
    show GoW _ _ _ _ _ _ _ (T314.setTop (mkF m 409 #[.val (.int qs), .val (.int qp), .val (.int (3 : Int32)), .val (.int (1 : Int32)), .val (.ref b1), .val (.ref b8), .val (.ref b32), .val (.ref b58), .val (.ref b32), .val (.int (2 : Int32)), .val (.ref b8), .val (.ref b58), .val (.ref b58), .val (.int (1 : Int32))] [(.int (1 : Int32))]))
    refine GoW.step (fun _ k => XS.goto X314.here hx rfl (pc0 := 409) (pc' := 413) rfl (hb hby at_409) (by decide) (by decide) k) ?_
    show GoW _ _ _ _ _ _ _ (T314.setTop (mkF m 413 #[.val (.int qs), .val (.int qp), .val (.int (3 : Int32)), .val (.int (1 : Int32)), .val (.ref b1), .val (.ref b8), .val (.ref b32), .val (.ref b58), .val (.ref b32), .val (.int (2 : Int32)), .val (.ref b8), .val (.ref b58), .val (.ref b58), .val (.int (1 : Int32))] [(.int (1 : Int32))]))
    refine GoW.step (fun _ k => XS.istore X314.here hx rfl (hb hby at_413) rfl (l' := #[.val (.int qs), .val (.int qp), .val (.int (3 : Int32)), .val (.int (1 : Int32)), .val (.ref b1), .val (.ref b8), .val (.ref b32), .val (.ref b58), .val (.ref b32), .val (.int (2 : Int32)), .val (.ref b8), .val (.ref b58), .val (.ref b58), .val (.int (1 : Int32))]) rfl k) ?_
    show GoW _ _ _ _ _ _ _ (T314.setTop (mkF m 415 #[.val (.int qs), .val (.int qp), .val (.int (3 : Int32)), .val (.int (1 : Int32)), .val (.ref b1), .val (.ref b8), .val (.ref b32), .val (.ref b58), .val (.ref b32), .val (.int (2 : Int32)), .val (.ref b8), .val (.ref b58), .val (.ref b58), .val (.int (1 : Int32))] []))
    refine GoW.step (fun _ k => XS.aload X314.here hx rfl (hb hby at_415) rfl rfl  k) ?_
    show GoW _ _ _ _ _ _ _ (T314.setTop (mkF m 417 #[.val (.int qs), .val (.int qp), .val (.int (3 : Int32)), .val (.int (1 : Int32)), .val (.ref b1), .val (.ref b8), .val (.ref b32), .val (.ref b58), .val (.ref b32), .val (.int (2 : Int32)), .val (.ref b8), .val (.ref b58), .val (.ref b58), .val (.int (1 : Int32))] [(.ref b58)]))
    refine GoW.step (fun _ k => XS.ifnullNo X314.here hx rfl (hb hby at_417) rfl k) ?_
    show GoW _ _ _ _ _ _ _ (T314.setTop (mkF m 420 #[.val (.int qs), .val (.int qp), .val (.int (3 : Int32)), .val (.int (1 : Int32)), .val (.ref b1), .val (.ref b8), .val (.ref b32), .val (.ref b58), .val (.ref b32), .val (.int (2 : Int32)), .val (.ref b8), .val (.ref b58), .val (.ref b58), .val (.int (1 : Int32))] []))
    refine GoW.step (fun _ k => XS.iload X314.here hx rfl (hb hby at_420) rfl  k) ?_
    show GoW _ _ _ _ _ _ _ (T314.setTop (mkF m 422 #[.val (.int qs), .val (.int qp), .val (.int (3 : Int32)), .val (.int (1 : Int32)), .val (.ref b1), .val (.ref b8), .val (.ref b32), .val (.ref b58), .val (.ref b32), .val (.int (2 : Int32)), .val (.ref b8), .val (.ref b58), .val (.ref b58), .val (.int (1 : Int32))] [(.int (1 : Int32))]))
    have hc422 : ¬ ((1 : Int32) = (0 : Int32)) := hc387
    refine GoW.step (fun _ k => XS.ifNo X314.here hx rfl (hb hby at_422) rfl ((if0 _ _).trans (feq hc422).1) k) ?_
    show GoW _ _ _ _ _ _ _ (T314.setTop (mkF m 425 #[.val (.int qs), .val (.int qp), .val (.int (3 : Int32)), .val (.int (1 : Int32)), .val (.ref b1), .val (.ref b8), .val (.ref b32), .val (.ref b58), .val (.ref b32), .val (.int (2 : Int32)), .val (.ref b8), .val (.ref b58), .val (.ref b58), .val (.int (1 : Int32))] []))
    refine GoW.step (fun _ k => XS.aload X314.here hx rfl (hb hby at_425) rfl rfl  k) ?_
    show GoW _ _ _ _ _ _ _ (T314.setTop (mkF m 427 #[.val (.int qs), .val (.int qp), .val (.int (3 : Int32)), .val (.int (1 : Int32)), .val (.ref b1), .val (.ref b8), .val (.ref b32), .val (.ref b58), .val (.ref b32), .val (.int (2 : Int32)), .val (.ref b8), .val (.ref b58), .val (.ref b58), .val (.int (1 : Int32))] [(.ref b58)]))
    obtain ⟨T315, X315, e315, st315⟩ := getF X314 hx hZ hown (host := "") (Or.inl (hw _ (List.mem_of_getElem? (i := 71) rfl))) Via.refl e314 c309_6 (g := (mkF m 427 #[.val (.int qs), .val (.int qp), .val (.int (3 : Int32)), .val (.int (1 : Int32)), .val (.ref b1), .val (.ref b8), .val (.ref b32), .val (.ref b58), .val (.ref b32), .val (.int (2 : Int32)), .val (.ref b8), .val (.ref b58), .val (.ref b58), .val (.int (1 : Int32))] [(.ref b58)])) rfl rfl (hb hby at_427)
    refine GoW.step st315 ?_
    show GoW _ _ _ _ _ _ _ (T315.setTop (mkF m 430 #[.val (.int qs), .val (.int qp), .val (.int (3 : Int32)), .val (.int (1 : Int32)), .val (.ref b1), .val (.ref b8), .val (.ref b32), .val (.ref b58), .val (.ref b32), .val (.int (2 : Int32)), .val (.ref b8), .val (.ref b58), .val (.ref b58), .val (.int (1 : Int32))] [(.ref b32)]))
    refine GoW.step (fun _ k => XS.aload X315.here hx rfl (hb hby at_430) rfl rfl  k) ?_
    show GoW _ _ _ _ _ _ _ (T315.setTop (mkF m 432 #[.val (.int qs), .val (.int qp), .val (.int (3 : Int32)), .val (.int (1 : Int32)), .val (.ref b1), .val (.ref b8), .val (.ref b32), .val (.ref b58), .val (.ref b32), .val (.int (2 : Int32)), .val (.ref b8), .val (.ref b58), .val (.ref b58), .val (.int (1 : Int32))] [(.ref b32), (.ref b32)]))
    refine GoW.step (fun _ k => Jvm.RoadKit.acmp (g := (mkF m 432 #[.val (.int qs), .val (.int qp), .val (.int (3 : Int32)), .val (.int (1 : Int32)), .val (.ref b1), .val (.ref b8), .val (.ref b32), .val (.ref b58), .val (.ref b32), .val (.int (2 : Int32)), .val (.ref b8), .val (.ref b58), .val (.ref b58), .val (.int (1 : Int32))] [(.ref b32), (.ref b32)])) X315 hx rfl rfl rfl (pc0 := 432) (pc' := 435) (same := true) rfl (hb hby at_432) rfl (decide_eq_true rfl) (by decide) (by decide) k) ?_
    show GoW _ _ _ _ _ _ _ (T315.setTop (mkF m 435 #[.val (.int qs), .val (.int qp), .val (.int (3 : Int32)), .val (.int (1 : Int32)), .val (.ref b1), .val (.ref b8), .val (.ref b32), .val (.ref b58), .val (.ref b32), .val (.int (2 : Int32)), .val (.ref b8), .val (.ref b58), .val (.ref b58), .val (.int (1 : Int32))] []))
    refine GoW.step (fun _ k => XS.iconst X315.here hx rfl (hb hby at_435) k) ?_
    show GoW _ _ _ _ _ _ _ (T315.setTop (mkF m 436 #[.val (.int qs), .val (.int qp), .val (.int (3 : Int32)), .val (.int (1 : Int32)), .val (.ref b1), .val (.ref b8), .val (.ref b32), .val (.ref b58), .val (.ref b32), .val (.int (2 : Int32)), .val (.ref b8), .val (.ref b58), .val (.ref b58), .val (.int (1 : Int32))] [(.int (1 : Int32))]))
    refine GoW.step (fun _ k => XS.goto X315.here hx rfl (pc0 := 436) (pc' := 440) rfl (hb hby at_436) (by decide) (by decide) k) ?_
    show GoW _ _ _ _ _ _ _ (T315.setTop (mkF m 440 #[.val (.int qs), .val (.int qp), .val (.int (3 : Int32)), .val (.int (1 : Int32)), .val (.ref b1), .val (.ref b8), .val (.ref b32), .val (.ref b58), .val (.ref b32), .val (.int (2 : Int32)), .val (.ref b8), .val (.ref b58), .val (.ref b58), .val (.int (1 : Int32))] [(.int (1 : Int32))]))
    refine GoW.step (fun _ k => XS.istore X315.here hx rfl (hb hby at_440) rfl (l' := #[.val (.int qs), .val (.int qp), .val (.int (3 : Int32)), .val (.int (1 : Int32)), .val (.ref b1), .val (.ref b8), .val (.ref b32), .val (.ref b58), .val (.ref b32), .val (.int (2 : Int32)), .val (.ref b8), .val (.ref b58), .val (.ref b58), .val (.int (1 : Int32))]) rfl k) ?_
    show GoW _ _ _ _ _ _ _ (T315.setTop (mkF m 442 #[.val (.int qs), .val (.int qp), .val (.int (3 : Int32)), .val (.int (1 : Int32)), .val (.ref b1), .val (.ref b8), .val (.ref b32), .val (.ref b58), .val (.ref b32), .val (.int (2 : Int32)), .val (.ref b8), .val (.ref b58), .val (.ref b58), .val (.int (1 : Int32))] []))
    refine GoW.step (fun _ k => XS.iload X315.here hx rfl (hb hby at_442) rfl  k) ?_
    show GoW _ _ _ _ _ _ _ (T315.setTop (mkF m 444 #[.val (.int qs), .val (.int qp), .val (.int (3 : Int32)), .val (.int (1 : Int32)), .val (.ref b1), .val (.ref b8), .val (.ref b32), .val (.ref b58), .val (.ref b32), .val (.int (2 : Int32)), .val (.ref b8), .val (.ref b58), .val (.ref b58), .val (.int (1 : Int32))] [(.int (1 : Int32))]))
    refine GoW.retN X315 hS72 (by rw [e315]; exact hk312) hx (t := .boolean) Bd.returns (by simp) hlk (hb hby at_444) ?_ (by decide) (by decide)
    rw [e315]
    exact ⟨(by first | rfl | (simp_all [own_nb1, own_nb0]; done)), N309⟩
  · skip
    subst h1 h2
    show GoW _ _ _ _ _ _ _ (T82.setTop (mkF m 57 #[.val (.int qs), .val (.int qp), .val (.int (3 : Int32)), .val (.int (2 : Int32)), .val (.ref b1), .val (.ref b8), .val (.ref b32), .val (.ref b58), .unset, .unset, .unset, .unset, .unset, .unset] []))
    refine GoW.step (fun _ k => XS.aload X82.here hx rfl (hb hby at_57) rfl rfl  k) ?_
    show GoW _ _ _ _ _ _ _ (T82.setTop (mkF m 59 #[.val (.int qs), .val (.int qp), .val (.int (3 : Int32)), .val (.int (2 : Int32)), .val (.ref b1), .val (.ref b8), .val (.ref b32), .val (.ref b58), .unset, .unset, .unset, .unset, .unset, .unset] [(.ref b1)]))
    refine GoW.step (fun _ k => XS.aload X82.here hx rfl (hb hby at_59) rfl rfl  k) ?_
    show GoW _ _ _ _ _ _ _ (T82.setTop (mkF m 61 #[.val (.int qs), .val (.int qp), .val (.int (3 : Int32)), .val (.int (2 : Int32)), .val (.ref b1), .val (.ref b8), .val (.ref b32), .val (.ref b58), .unset, .unset, .unset, .unset, .unset, .unset] [(.ref b8), (.ref b1)]))
    have f316 : Exa Z T82.heap b1 "com/example/steward/steward/runtime/Group" := (((f59.ext E58).ext E72).keep K82)
    have f317 : Exa Z T82.heap b8 "com/example/steward/steward/runtime/Agent" := (((f61.ext E58).ext E72).keep K82)
    have f318 : Fld Z T82.heap b8 "com/example/steward/steward/runtime/Agent" "group" "Lcom/example/steward/steward/runtime/Group;" .null := ((((((c28_1.ext E32).ext E44).keep K54 (ninS ne35 nin0)).ext E58).ext E72).keep K82 (ninS ne62 nin0))
    have f319 : Fld Z T82.heap b8 "com/example/steward/steward/runtime/Agent" "ahead" "Lcom/example/steward/steward/runtime/Agent;" .null := ((((((c28_2.ext E32).ext E44).keep K54 (ninS ne35 nin0)).ext E58).ext E72).keep K82 (ninS ne62 nin0))
    have f320 : Fld Z T82.heap b8 "com/example/steward/steward/runtime/Agent" "behind" "Lcom/example/steward/steward/runtime/Agent;" .null := ((((((c28_3.ext E32).ext E44).keep K54 (ninS ne35 nin0)).ext E58).ext E72).keep K82 (ninS ne62 nin0))
    have f321 : Fld Z T82.heap b1 "com/example/steward/steward/runtime/Group" "first" "Lcom/example/steward/steward/runtime/Agent;" .null := (((((((((f6.ext E8).ext E18).keep K28 (ninS ne9 nin0)).ext E32).ext E44).keep K54 (ninS ne34 nin0)).ext E58).ext E72).keep K82 (ninS ne60 nin0))
    have f322 : Fld Z T82.heap b1 "com/example/steward/steward/runtime/Group" "last" "Lcom/example/steward/steward/runtime/Agent;" .null := (((((((((f5.ext E8).ext E18).keep K28 (ninS ne9 nin0)).ext E32).ext E44).keep K54 (ninS ne34 nin0)).ext E58).ext E72).keep K82 (ninS ne60 nin0))
    obtain ⟨cq323, kq323, q323a, q323b, q323c⟩ := isOf hZ rfl f316
    obtain ⟨_, _, ⟨T323, L323, k323, n323⟩, -, X323, ⟨Lc323, hQ323, l323, y323, z323⟩, st323⟩ := X82.virtualBack hx (y := (⟨"com/example/steward/steward/runtime/Group", "add", "(Lcom/example/steward/steward/runtime/Agent;)V"⟩ : MethodName)) (z := (⟨"com/example/steward/steward/runtime/Group", "add", "(Lcom/example/steward/steward/runtime/Agent;)V"⟩ : MethodName)) hown (mvT hZ (hw _ (List.mem_of_getElem? (i := 49) rfl))) (mvT hZ (hw _ (List.mem_of_getElem? (i := 50) rfl))) (notFace_of_selects (args := #[]) (mvT hZ (hw _ (List.mem_of_getElem? (i := 52) rfl)))) (mvT hZ (hw _ (List.mem_of_getElem? (i := 52) rfl))) (mvT hZ (hw _ (List.mem_of_getElem? (i := 51) rfl))) (by decide) (backOf (W := 0) (rmadd0 l Z aZ hw [] b1 b8 Value.null Value.null Value.null Value.null T82.heap n0 z83 f316 f317 f318 f319 f320 f321 f322 gn1 gn8) hZ (hw _ (List.mem_of_getElem? (i := 53) rfl)) (hw _ (List.mem_of_getElem? (i := 3) rfl)) (by decide) (by decide)) q323a q323c (g := (mkF m 61 #[.val (.int qs), .val (.int qp), .val (.int (3 : Int32)), .val (.int (2 : Int32)), .val (.ref b1), .val (.ref b8), .val (.ref b32), .val (.ref b58), .unset, .unset, .unset, .unset, .unset, .unset] [(.ref b8), (.ref b1)])) rfl (by rw [hml]; rfl) (Steps.refl _) (argsL := [(.ref b8)]) (rest := []) (lenOf pd_3 rfl) rfl (by show 2 * 0 + _ ≤ _; exact Nat.le_of_eq rfl) (hb hby at_61) (fun _ _ => ⟨rfl, rfl, (by decide : 16 + 0 ≤ _), (by decide : 74 + 0 ≤ _)⟩)
    dsimp only [Pt.U, Pt.locs, Pt.cells, Pt.slots] at X323 l323 y323 z323 st323 hQ323
    subst l323 y323 z323
    obtain ⟨rfl, Nq323, K323, c323_0, c323_1, c323_2, c323_3, c323_4, c323_5, c323_6⟩ := hQ323
    have N323 := Fr.app N82 Nq323
    refine GoW.tr st323 ?_
    have z324 : n0 ≤ T323.heap.size := Nat.le_trans z83 K323.1
    have sqz324 : h0.size ≤ T323.heap.size := Nat.le_trans sqz83 K323.1
    have hk326 := Nat.le_trans hk85 K323.1
    show GoW _ _ _ _ _ _ _ (T323.setTop (mkF m 64 #[.val (.int qs), .val (.int qp), .val (.int (3 : Int32)), .val (.int (2 : Int32)), .val (.ref b1), .val (.ref b8), .val (.ref b32), .val (.ref b58), .unset, .unset, .unset, .unset, .unset, .unset] []))
    refine GoW.step (fun _ k => XS.iloadN X323.here hx rfl (hb hby at_64) rfl  k) ?_
    show GoW _ _ _ _ _ _ _ (T323.setTop (mkF m 65 #[.val (.int qs), .val (.int qp), .val (.int (3 : Int32)), .val (.int (2 : Int32)), .val (.ref b1), .val (.ref b8), .val (.ref b32), .val (.ref b58), .unset, .unset, .unset, .unset, .unset, .unset] [(.int (3 : Int32))]))
    refine GoW.step (fun _ k => XS.iconst X323.here hx rfl (hb hby at_65) k) ?_
    show GoW _ _ _ _ _ _ _ (T323.setTop (mkF m 66 #[.val (.int qs), .val (.int qp), .val (.int (3 : Int32)), .val (.int (2 : Int32)), .val (.ref b1), .val (.ref b8), .val (.ref b32), .val (.ref b58), .unset, .unset, .unset, .unset, .unset, .unset] [(.int (2 : Int32)), (.int (3 : Int32))]))
    have hc66 : ¬ ((3 : Int32) < (2 : Int32)) := by decide
    refine GoW.step (fun _ k => XS.icmpNo X323.here hx rfl (hb hby at_66) rfl (flt hc66).1 k) ?_
    show GoW _ _ _ _ _ _ _ (T323.setTop (mkF m 69 #[.val (.int qs), .val (.int qp), .val (.int (3 : Int32)), .val (.int (2 : Int32)), .val (.ref b1), .val (.ref b8), .val (.ref b32), .val (.ref b58), .unset, .unset, .unset, .unset, .unset, .unset] []))
    refine GoW.step (fun _ k => XS.aload X323.here hx rfl (hb hby at_69) rfl rfl  k) ?_
    show GoW _ _ _ _ _ _ _ (T323.setTop (mkF m 71 #[.val (.int qs), .val (.int qp), .val (.int (3 : Int32)), .val (.int (2 : Int32)), .val (.ref b1), .val (.ref b8), .val (.ref b32), .val (.ref b58), .unset, .unset, .unset, .unset, .unset, .unset] [(.ref b1)]))
    refine GoW.step (fun _ k => XS.aload X323.here hx rfl (hb hby at_71) rfl rfl  k) ?_
    show GoW _ _ _ _ _ _ _ (T323.setTop (mkF m 73 #[.val (.int qs), .val (.int qp), .val (.int (3 : Int32)), .val (.int (2 : Int32)), .val (.ref b1), .val (.ref b8), .val (.ref b32), .val (.ref b58), .unset, .unset, .unset, .unset, .unset, .unset] [(.ref b32), (.ref b1)]))
    have f327 : Exa Z T323.heap b32 "com/example/steward/steward/runtime/Agent" := ((((c54_0.ext E58).ext E72).keep K82).keep K323)
    have f328 : Fld Z T323.heap b32 "com/example/steward/steward/runtime/Agent" "group" "Lcom/example/steward/steward/runtime/Group;" .null := ((((c54_1.ext E58).ext E72).keep K82 (ninS ne63 nin0)).keep K323 (ninS (Ne.symm ne34) (ninS (Ne.symm ne35) nin0)))
    have f329 : Fld Z T323.heap b32 "com/example/steward/steward/runtime/Agent" "ahead" "Lcom/example/steward/steward/runtime/Agent;" .null := ((((c54_2.ext E58).ext E72).keep K82 (ninS ne63 nin0)).keep K323 (ninS (Ne.symm ne34) (ninS (Ne.symm ne35) nin0)))
    have f330 : Fld Z T323.heap b32 "com/example/steward/steward/runtime/Agent" "behind" "Lcom/example/steward/steward/runtime/Agent;" .null := ((((c54_3.ext E58).ext E72).keep K82 (ninS ne63 nin0)).keep K323 (ninS (Ne.symm ne34) (ninS (Ne.symm ne35) nin0)))
    obtain ⟨cq331, kq331, q331a, q331b, q331c⟩ := isOf hZ rfl c323_0
    obtain ⟨_, _, ⟨T331, L331, k331, n331⟩, -, X331, ⟨Lc331, hQ331, l331, y331, z331⟩, st331⟩ := X323.virtualBack hx (y := (⟨"com/example/steward/steward/runtime/Group", "add", "(Lcom/example/steward/steward/runtime/Agent;)V"⟩ : MethodName)) (z := (⟨"com/example/steward/steward/runtime/Group", "add", "(Lcom/example/steward/steward/runtime/Agent;)V"⟩ : MethodName)) hown (mvT hZ (hw _ (List.mem_of_getElem? (i := 49) rfl))) (mvT hZ (hw _ (List.mem_of_getElem? (i := 50) rfl))) (notFace_of_selects (args := #[]) (mvT hZ (hw _ (List.mem_of_getElem? (i := 52) rfl)))) (mvT hZ (hw _ (List.mem_of_getElem? (i := 52) rfl))) (mvT hZ (hw _ (List.mem_of_getElem? (i := 51) rfl))) (by decide) (backOf (W := 0) (rmadd1 l Z aZ hw [] b1 b32 Value.null Value.null Value.null (Value.ref b8) b8 Value.null (Value.ref b1) Value.null T323.heap n0 z324 c323_0 f327 f328 f329 f330 c323_5 c323_6 c323_1 c323_4 c323_2 c323_3 (Ne.symm ne35) gn1 gn32 gn8) hZ (hw _ (List.mem_of_getElem? (i := 53) rfl)) (hw _ (List.mem_of_getElem? (i := 3) rfl)) (by decide) (by decide)) q331a q331c (g := (mkF m 73 #[.val (.int qs), .val (.int qp), .val (.int (3 : Int32)), .val (.int (2 : Int32)), .val (.ref b1), .val (.ref b8), .val (.ref b32), .val (.ref b58), .unset, .unset, .unset, .unset, .unset, .unset] [(.ref b32), (.ref b1)])) rfl (by rw [hml]; rfl) (Steps.refl _) (argsL := [(.ref b32)]) (rest := []) (lenOf pd_3 rfl) rfl (by show 2 * 0 + _ ≤ _; exact Nat.le_of_eq rfl) (hb hby at_73) (fun _ _ => ⟨rfl, rfl, (by decide : 16 + 0 ≤ _), (by decide : 74 + 0 ≤ _)⟩)
    dsimp only [Pt.U, Pt.locs, Pt.cells, Pt.slots] at X331 l331 y331 z331 st331 hQ331
    subst l331 y331 z331
    obtain ⟨rfl, Nq331, K331, c331_0, c331_1, c331_2, c331_3, c331_4, c331_5, c331_6, c331_7, c331_8, c331_9, c331_10⟩ := hQ331
    have N331 := Fr.app N323 Nq331
    refine GoW.tr st331 ?_
    have z332 : n0 ≤ T331.heap.size := Nat.le_trans z324 K331.1
    have sqz332 : h0.size ≤ T331.heap.size := Nat.le_trans sqz324 K331.1
    have hk334 := Nat.le_trans hk326 K331.1
    show GoW _ _ _ _ _ _ _ (T331.setTop (mkF m 76 #[.val (.int qs), .val (.int qp), .val (.int (3 : Int32)), .val (.int (2 : Int32)), .val (.ref b1), .val (.ref b8), .val (.ref b32), .val (.ref b58), .unset, .unset, .unset, .unset, .unset, .unset] []))
    refine GoW.step (fun _ k => XS.iloadN X331.here hx rfl (hb hby at_76) rfl  k) ?_
    show GoW _ _ _ _ _ _ _ (T331.setTop (mkF m 77 #[.val (.int qs), .val (.int qp), .val (.int (3 : Int32)), .val (.int (2 : Int32)), .val (.ref b1), .val (.ref b8), .val (.ref b32), .val (.ref b58), .unset, .unset, .unset, .unset, .unset, .unset] [(.int (3 : Int32))]))
    refine GoW.step (fun _ k => XS.iconst X331.here hx rfl (hb hby at_77) k) ?_
    show GoW _ _ _ _ _ _ _ (T331.setTop (mkF m 78 #[.val (.int qs), .val (.int qp), .val (.int (3 : Int32)), .val (.int (2 : Int32)), .val (.ref b1), .val (.ref b8), .val (.ref b32), .val (.ref b58), .unset, .unset, .unset, .unset, .unset, .unset] [(.int (3 : Int32)), (.int (3 : Int32))]))
    have hc78 : ¬ ((3 : Int32) < (3 : Int32)) := by decide
    refine GoW.step (fun _ k => XS.icmpNo X331.here hx rfl (hb hby at_78) rfl (flt hc78).1 k) ?_
    show GoW _ _ _ _ _ _ _ (T331.setTop (mkF m 81 #[.val (.int qs), .val (.int qp), .val (.int (3 : Int32)), .val (.int (2 : Int32)), .val (.ref b1), .val (.ref b8), .val (.ref b32), .val (.ref b58), .unset, .unset, .unset, .unset, .unset, .unset] []))
    refine GoW.step (fun _ k => XS.aload X331.here hx rfl (hb hby at_81) rfl rfl  k) ?_
    show GoW _ _ _ _ _ _ _ (T331.setTop (mkF m 83 #[.val (.int qs), .val (.int qp), .val (.int (3 : Int32)), .val (.int (2 : Int32)), .val (.ref b1), .val (.ref b8), .val (.ref b32), .val (.ref b58), .unset, .unset, .unset, .unset, .unset, .unset] [(.ref b1)]))
    refine GoW.step (fun _ k => XS.aload X331.here hx rfl (hb hby at_83) rfl rfl  k) ?_
    show GoW _ _ _ _ _ _ _ (T331.setTop (mkF m 85 #[.val (.int qs), .val (.int qp), .val (.int (3 : Int32)), .val (.int (2 : Int32)), .val (.ref b1), .val (.ref b8), .val (.ref b32), .val (.ref b58), .unset, .unset, .unset, .unset, .unset, .unset] [(.ref b58), (.ref b1)]))
    have f335 : Exa Z T331.heap b58 "com/example/steward/steward/runtime/Agent" := ((c82_0.keep K323).keep K331)
    have f336 : Fld Z T331.heap b58 "com/example/steward/steward/runtime/Agent" "group" "Lcom/example/steward/steward/runtime/Group;" .null := ((c82_1.keep K323 (ninS (Ne.symm ne60) (ninS (Ne.symm ne62) nin0))).keep K331 (ninS (Ne.symm ne60) (ninS (Ne.symm ne63) (ninS (Ne.symm ne62) nin0))))
    have f337 : Fld Z T331.heap b58 "com/example/steward/steward/runtime/Agent" "ahead" "Lcom/example/steward/steward/runtime/Agent;" .null := ((c82_2.keep K323 (ninS (Ne.symm ne60) (ninS (Ne.symm ne62) nin0))).keep K331 (ninS (Ne.symm ne60) (ninS (Ne.symm ne63) (ninS (Ne.symm ne62) nin0))))
    have f338 : Fld Z T331.heap b58 "com/example/steward/steward/runtime/Agent" "behind" "Lcom/example/steward/steward/runtime/Agent;" .null := ((c82_3.keep K323 (ninS (Ne.symm ne60) (ninS (Ne.symm ne62) nin0))).keep K331 (ninS (Ne.symm ne60) (ninS (Ne.symm ne63) (ninS (Ne.symm ne62) nin0))))
    obtain ⟨cq339, kq339, q339a, q339b, q339c⟩ := isOf hZ rfl c331_0
    obtain ⟨_, _, ⟨T339, L339, k339, n339⟩, -, X339, ⟨Lc339, hQ339, l339, y339, z339⟩, st339⟩ := X331.virtualBack hx (y := (⟨"com/example/steward/steward/runtime/Group", "add", "(Lcom/example/steward/steward/runtime/Agent;)V"⟩ : MethodName)) (z := (⟨"com/example/steward/steward/runtime/Group", "add", "(Lcom/example/steward/steward/runtime/Agent;)V"⟩ : MethodName)) hown (mvT hZ (hw _ (List.mem_of_getElem? (i := 49) rfl))) (mvT hZ (hw _ (List.mem_of_getElem? (i := 50) rfl))) (notFace_of_selects (args := #[]) (mvT hZ (hw _ (List.mem_of_getElem? (i := 52) rfl)))) (mvT hZ (hw _ (List.mem_of_getElem? (i := 52) rfl))) (mvT hZ (hw _ (List.mem_of_getElem? (i := 51) rfl))) (by decide) (backOf (W := 0) (rmadd1 l Z aZ hw [] b1 b58 Value.null Value.null Value.null (Value.ref b8) b32 Value.null (Value.ref b1) (Value.ref b8) T331.heap n0 z332 c331_0 f335 f336 f337 f338 c331_9 c331_10 c331_1 c331_5 c331_3 c331_4 (Ne.symm ne63) gn1 gn58 gn32) hZ (hw _ (List.mem_of_getElem? (i := 53) rfl)) (hw _ (List.mem_of_getElem? (i := 3) rfl)) (by decide) (by decide)) q339a q339c (g := (mkF m 85 #[.val (.int qs), .val (.int qp), .val (.int (3 : Int32)), .val (.int (2 : Int32)), .val (.ref b1), .val (.ref b8), .val (.ref b32), .val (.ref b58), .unset, .unset, .unset, .unset, .unset, .unset] [(.ref b58), (.ref b1)])) rfl (by rw [hml]; rfl) (Steps.refl _) (argsL := [(.ref b58)]) (rest := []) (lenOf pd_3 rfl) rfl (by show 2 * 0 + _ ≤ _; exact Nat.le_of_eq rfl) (hb hby at_85) (fun _ _ => ⟨rfl, rfl, (by decide : 16 + 0 ≤ _), (by decide : 74 + 0 ≤ _)⟩)
    dsimp only [Pt.U, Pt.locs, Pt.cells, Pt.slots] at X339 l339 y339 z339 st339 hQ339
    subst l339 y339 z339
    obtain ⟨rfl, Nq339, K339, c339_0, c339_1, c339_2, c339_3, c339_4, c339_5, c339_6, c339_7, c339_8, c339_9, c339_10⟩ := hQ339
    have N339 := Fr.app N331 Nq339
    refine GoW.tr st339 ?_
    have z340 : n0 ≤ T339.heap.size := Nat.le_trans z332 K339.1
    have sqz340 : h0.size ≤ T339.heap.size := Nat.le_trans sqz332 K339.1
    have hk342 := Nat.le_trans hk334 K339.1
    show GoW _ _ _ _ _ _ _ (T339.setTop (mkF m 88 #[.val (.int qs), .val (.int qp), .val (.int (3 : Int32)), .val (.int (2 : Int32)), .val (.ref b1), .val (.ref b8), .val (.ref b32), .val (.ref b58), .unset, .unset, .unset, .unset, .unset, .unset] []))
    refine GoW.step (fun _ k => XS.iloadN X339.here hx rfl (hb hby at_88) rfl  k) ?_
    show GoW _ _ _ _ _ _ _ (T339.setTop (mkF m 89 #[.val (.int qs), .val (.int qp), .val (.int (3 : Int32)), .val (.int (2 : Int32)), .val (.ref b1), .val (.ref b8), .val (.ref b32), .val (.ref b58), .unset, .unset, .unset, .unset, .unset, .unset] [(.int (2 : Int32))]))
    have hc89 : ¬ ((2 : Int32) = (0 : Int32)) := by decide
    refine GoW.step (fun _ k => XS.ifYes X339.here hx rfl (pc0 := 89) (pc' := 97) rfl (hb hby at_89) rfl ((if0 _ _).trans (feq hc89).2) (by decide) (by decide) k) ?_
    show GoW _ _ _ _ _ _ _ (T339.setTop (mkF m 97 #[.val (.int qs), .val (.int qp), .val (.int (3 : Int32)), .val (.int (2 : Int32)), .val (.ref b1), .val (.ref b8), .val (.ref b32), .val (.ref b58), .unset, .unset, .unset, .unset, .unset, .unset] []))
    refine GoW.step (fun _ k => XS.iloadN X339.here hx rfl (hb hby at_97) rfl  k) ?_
    show GoW _ _ _ _ _ _ _ (T339.setTop (mkF m 98 #[.val (.int qs), .val (.int qp), .val (.int (3 : Int32)), .val (.int (2 : Int32)), .val (.ref b1), .val (.ref b8), .val (.ref b32), .val (.ref b58), .unset, .unset, .unset, .unset, .unset, .unset] [(.int (2 : Int32))]))
    refine GoW.step (fun _ k => XS.iconst X339.here hx rfl (hb hby at_98) k) ?_
    show GoW _ _ _ _ _ _ _ (T339.setTop (mkF m 99 #[.val (.int qs), .val (.int qp), .val (.int (3 : Int32)), .val (.int (2 : Int32)), .val (.ref b1), .val (.ref b8), .val (.ref b32), .val (.ref b58), .unset, .unset, .unset, .unset, .unset, .unset] [(.int (1 : Int32)), (.int (2 : Int32))]))
    have hc99 : ¬ ((2 : Int32) = (1 : Int32)) := by decide
    refine GoW.step (fun _ k => XS.icmpYes X339.here hx rfl (pc0 := 99) (pc' := 107) rfl (hb hby at_99) rfl (feq hc99).2 (by decide) (by decide) k) ?_
    show GoW _ _ _ _ _ _ _ (T339.setTop (mkF m 107 #[.val (.int qs), .val (.int qp), .val (.int (3 : Int32)), .val (.int (2 : Int32)), .val (.ref b1), .val (.ref b8), .val (.ref b32), .val (.ref b58), .unset, .unset, .unset, .unset, .unset, .unset] []))
    refine GoW.step (fun _ k => XS.aload X339.here hx rfl (hb hby at_107) rfl rfl  k) ?_
    show GoW _ _ _ _ _ _ _ (T339.setTop (mkF m 109 #[.val (.int qs), .val (.int qp), .val (.int (3 : Int32)), .val (.int (2 : Int32)), .val (.ref b1), .val (.ref b8), .val (.ref b32), .val (.ref b58), .unset, .unset, .unset, .unset, .unset, .unset] [(.ref b58)]))
    refine GoW.step (fun _ k => XS.astore X339.here hx rfl (hb hby at_109) rfl rfl (l' := #[.val (.int qs), .val (.int qp), .val (.int (3 : Int32)), .val (.int (2 : Int32)), .val (.ref b1), .val (.ref b8), .val (.ref b32), .val (.ref b58), .val (.ref b58), .unset, .unset, .unset, .unset, .unset]) rfl k) ?_
    show GoW _ _ _ _ _ _ _ (T339.setTop (mkF m 111 #[.val (.int qs), .val (.int qp), .val (.int (3 : Int32)), .val (.int (2 : Int32)), .val (.ref b1), .val (.ref b8), .val (.ref b32), .val (.ref b58), .val (.ref b58), .unset, .unset, .unset, .unset, .unset] []))
    refine GoW.step (fun _ k => XS.iloadN X339.here hx rfl (hb hby at_111) rfl  k) ?_
    show GoW _ _ _ _ _ _ _ (T339.setTop (mkF m 112 #[.val (.int qs), .val (.int qp), .val (.int (3 : Int32)), .val (.int (2 : Int32)), .val (.ref b1), .val (.ref b8), .val (.ref b32), .val (.ref b58), .val (.ref b58), .unset, .unset, .unset, .unset, .unset] [(.int (3 : Int32))]))
    refine GoW.step (fun _ k => XS.iconst X339.here hx rfl (hb hby at_112) k) ?_
    show GoW _ _ _ _ _ _ _ (T339.setTop (mkF m 113 #[.val (.int qs), .val (.int qp), .val (.int (3 : Int32)), .val (.int (2 : Int32)), .val (.ref b1), .val (.ref b8), .val (.ref b32), .val (.ref b58), .val (.ref b58), .unset, .unset, .unset, .unset, .unset] [(.int (1 : Int32)), (.int (3 : Int32))]))
    refine GoW.step (fun _ k => XS.isub X339.here hx rfl (hb hby at_113) rfl k) ?_
    show GoW _ _ _ _ _ _ _ (T339.setTop (mkF m 114 #[.val (.int qs), .val (.int qp), .val (.int (3 : Int32)), .val (.int (2 : Int32)), .val (.ref b1), .val (.ref b8), .val (.ref b32), .val (.ref b58), .val (.ref b58), .unset, .unset, .unset, .unset, .unset] [(.int (2 : Int32))]))
    refine GoW.step (fun _ k => XS.istore X339.here hx rfl (hb hby at_114) rfl (l' := #[.val (.int qs), .val (.int qp), .val (.int (3 : Int32)), .val (.int (2 : Int32)), .val (.ref b1), .val (.ref b8), .val (.ref b32), .val (.ref b58), .val (.ref b58), .val (.int (2 : Int32)), .unset, .unset, .unset, .unset]) rfl k) ?_
    show GoW _ _ _ _ _ _ _ (T339.setTop (mkF m 116 #[.val (.int qs), .val (.int qp), .val (.int (3 : Int32)), .val (.int (2 : Int32)), .val (.ref b1), .val (.ref b8), .val (.ref b32), .val (.ref b58), .val (.ref b58), .val (.int (2 : Int32)), .unset, .unset, .unset, .unset] []))
    refine GoW.step (fun _ k => XS.iload X339.here hx rfl (hb hby at_116) rfl  k) ?_
    show GoW _ _ _ _ _ _ _ (T339.setTop (mkF m 118 #[.val (.int qs), .val (.int qp), .val (.int (3 : Int32)), .val (.int (2 : Int32)), .val (.ref b1), .val (.ref b8), .val (.ref b32), .val (.ref b58), .val (.ref b58), .val (.int (2 : Int32)), .unset, .unset, .unset, .unset] [(.int (2 : Int32))]))
    refine GoW.step (fun _ k => XS.iconst X339.here hx rfl (hb hby at_118) k) ?_
    show GoW _ _ _ _ _ _ _ (T339.setTop (mkF m 119 #[.val (.int qs), .val (.int qp), .val (.int (3 : Int32)), .val (.int (2 : Int32)), .val (.ref b1), .val (.ref b8), .val (.ref b32), .val (.ref b58), .val (.ref b58), .val (.int (2 : Int32)), .unset, .unset, .unset, .unset] [(.int (1 : Int32)), (.int (2 : Int32))]))
    have hc119 : ¬ ((2 : Int32) < (1 : Int32)) := by decide
    refine GoW.step (fun _ k => XS.icmpNo X339.here hx rfl (hb hby at_119) rfl (flt hc119).1 k) ?_
    show GoW _ _ _ _ _ _ _ (T339.setTop (mkF m 122 #[.val (.int qs), .val (.int qp), .val (.int (3 : Int32)), .val (.int (2 : Int32)), .val (.ref b1), .val (.ref b8), .val (.ref b32), .val (.ref b58), .val (.ref b58), .val (.int (2 : Int32)), .unset, .unset, .unset, .unset] []))
    refine GoW.step (fun _ k => XS.iloadN X339.here hx rfl (hb hby at_122) rfl  k) ?_
    show GoW _ _ _ _ _ _ _ (T339.setTop (mkF m 123 #[.val (.int qs), .val (.int qp), .val (.int (3 : Int32)), .val (.int (2 : Int32)), .val (.ref b1), .val (.ref b8), .val (.ref b32), .val (.ref b58), .val (.ref b58), .val (.int (2 : Int32)), .unset, .unset, .unset, .unset] [(.int (2 : Int32))]))
    have hc123 : ¬ ((2 : Int32) = (0 : Int32)) := hc89
    refine GoW.step (fun _ k => XS.ifYes X339.here hx rfl (pc0 := 123) (pc' := 131) rfl (hb hby at_123) rfl ((if0 _ _).trans (feq hc123).2) (by decide) (by decide) k) ?_
    show GoW _ _ _ _ _ _ _ (T339.setTop (mkF m 131 #[.val (.int qs), .val (.int qp), .val (.int (3 : Int32)), .val (.int (2 : Int32)), .val (.ref b1), .val (.ref b8), .val (.ref b32), .val (.ref b58), .val (.ref b58), .val (.int (2 : Int32)), .unset, .unset, .unset, .unset] []))
    refine GoW.step (fun _ k => XS.aload X339.here hx rfl (hb hby at_131) rfl rfl  k) ?_
    show GoW _ _ _ _ _ _ _ (T339.setTop (mkF m 133 #[.val (.int qs), .val (.int qp), .val (.int (3 : Int32)), .val (.int (2 : Int32)), .val (.ref b1), .val (.ref b8), .val (.ref b32), .val (.ref b58), .val (.ref b58), .val (.int (2 : Int32)), .unset, .unset, .unset, .unset] [(.ref b8)]))
    refine GoW.step (fun _ k => XS.goto X339.here hx rfl (pc0 := 133) (pc' := 137) rfl (hb hby at_133) (by decide) (by decide) k) ?_
    show GoW _ _ _ _ _ _ _ (T339.setTop (mkF m 137 #[.val (.int qs), .val (.int qp), .val (.int (3 : Int32)), .val (.int (2 : Int32)), .val (.ref b1), .val (.ref b8), .val (.ref b32), .val (.ref b58), .val (.ref b58), .val (.int (2 : Int32)), .unset, .unset, .unset, .unset] [(.ref b8)]))
    refine GoW.step (fun _ k => XS.astore X339.here hx rfl (hb hby at_137) rfl rfl (l' := #[.val (.int qs), .val (.int qp), .val (.int (3 : Int32)), .val (.int (2 : Int32)), .val (.ref b1), .val (.ref b8), .val (.ref b32), .val (.ref b58), .val (.ref b58), .val (.int (2 : Int32)), .val (.ref b8), .unset, .unset, .unset]) rfl k) ?_
    show GoW _ _ _ _ _ _ _ (T339.setTop (mkF m 139 #[.val (.int qs), .val (.int qp), .val (.int (3 : Int32)), .val (.int (2 : Int32)), .val (.ref b1), .val (.ref b8), .val (.ref b32), .val (.ref b58), .val (.ref b58), .val (.int (2 : Int32)), .val (.ref b8), .unset, .unset, .unset] []))
    refine GoW.step (fun _ k => XS.iload X339.here hx rfl (hb hby at_139) rfl  k) ?_
    show GoW _ _ _ _ _ _ _ (T339.setTop (mkF m 141 #[.val (.int qs), .val (.int qp), .val (.int (3 : Int32)), .val (.int (2 : Int32)), .val (.ref b1), .val (.ref b8), .val (.ref b32), .val (.ref b58), .val (.ref b58), .val (.int (2 : Int32)), .val (.ref b8), .unset, .unset, .unset] [(.int (2 : Int32))]))
    refine GoW.step (fun _ k => XS.iconst X339.here hx rfl (hb hby at_141) k) ?_
    show GoW _ _ _ _ _ _ _ (T339.setTop (mkF m 142 #[.val (.int qs), .val (.int qp), .val (.int (3 : Int32)), .val (.int (2 : Int32)), .val (.ref b1), .val (.ref b8), .val (.ref b32), .val (.ref b58), .val (.ref b58), .val (.int (2 : Int32)), .val (.ref b8), .unset, .unset, .unset] [(.int (2 : Int32)), (.int (2 : Int32))]))
    have hc142 : ¬ ((2 : Int32) < (2 : Int32)) := by decide
    refine GoW.step (fun _ k => XS.icmpNo X339.here hx rfl (hb hby at_142) rfl (flt hc142).1 k) ?_
    show GoW _ _ _ _ _ _ _ (T339.setTop (mkF m 145 #[.val (.int qs), .val (.int qp), .val (.int (3 : Int32)), .val (.int (2 : Int32)), .val (.ref b1), .val (.ref b8), .val (.ref b32), .val (.ref b58), .val (.ref b58), .val (.int (2 : Int32)), .val (.ref b8), .unset, .unset, .unset] []))
    refine GoW.step (fun _ k => XS.iloadN X339.here hx rfl (hb hby at_145) rfl  k) ?_
    show GoW _ _ _ _ _ _ _ (T339.setTop (mkF m 146 #[.val (.int qs), .val (.int qp), .val (.int (3 : Int32)), .val (.int (2 : Int32)), .val (.ref b1), .val (.ref b8), .val (.ref b32), .val (.ref b58), .val (.ref b58), .val (.int (2 : Int32)), .val (.ref b8), .unset, .unset, .unset] [(.int (2 : Int32))]))
    refine GoW.step (fun _ k => XS.iconst X339.here hx rfl (hb hby at_146) k) ?_
    show GoW _ _ _ _ _ _ _ (T339.setTop (mkF m 147 #[.val (.int qs), .val (.int qp), .val (.int (3 : Int32)), .val (.int (2 : Int32)), .val (.ref b1), .val (.ref b8), .val (.ref b32), .val (.ref b58), .val (.ref b58), .val (.int (2 : Int32)), .val (.ref b8), .unset, .unset, .unset] [(.int (1 : Int32)), (.int (2 : Int32))]))
    have hc147 : (1 : Int32) < (2 : Int32) := by decide
    refine GoW.step (fun _ k => XS.icmpYes X339.here hx rfl (pc0 := 147) (pc' := 155) rfl (hb hby at_147) rfl (tlt hc147).2.2.1 (by decide) (by decide) k) ?_
    show GoW _ _ _ _ _ _ _ (T339.setTop (mkF m 155 #[.val (.int qs), .val (.int qp), .val (.int (3 : Int32)), .val (.int (2 : Int32)), .val (.ref b1), .val (.ref b8), .val (.ref b32), .val (.ref b58), .val (.ref b58), .val (.int (2 : Int32)), .val (.ref b8), .unset, .unset, .unset] []))
    refine GoW.step (fun _ k => XS.aload X339.here hx rfl (hb hby at_155) rfl rfl  k) ?_
    show GoW _ _ _ _ _ _ _ (T339.setTop (mkF m 157 #[.val (.int qs), .val (.int qp), .val (.int (3 : Int32)), .val (.int (2 : Int32)), .val (.ref b1), .val (.ref b8), .val (.ref b32), .val (.ref b58), .val (.ref b58), .val (.int (2 : Int32)), .val (.ref b8), .unset, .unset, .unset] [(.ref b32)]))
    refine GoW.step (fun _ k => XS.goto X339.here hx rfl (pc0 := 157) (pc' := 161) rfl (hb hby at_157) (by decide) (by decide) k) ?_
    show GoW _ _ _ _ _ _ _ (T339.setTop (mkF m 161 #[.val (.int qs), .val (.int qp), .val (.int (3 : Int32)), .val (.int (2 : Int32)), .val (.ref b1), .val (.ref b8), .val (.ref b32), .val (.ref b58), .val (.ref b58), .val (.int (2 : Int32)), .val (.ref b8), .unset, .unset, .unset] [(.ref b32)]))
    refine GoW.step (fun _ k => XS.astore X339.here hx rfl (hb hby at_161) rfl rfl (l' := #[.val (.int qs), .val (.int qp), .val (.int (3 : Int32)), .val (.int (2 : Int32)), .val (.ref b1), .val (.ref b8), .val (.ref b32), .val (.ref b58), .val (.ref b58), .val (.int (2 : Int32)), .val (.ref b8), .val (.ref b32), .unset, .unset]) rfl k) ?_
    show GoW _ _ _ _ _ _ _ (T339.setTop (mkF m 163 #[.val (.int qs), .val (.int qp), .val (.int (3 : Int32)), .val (.int (2 : Int32)), .val (.ref b1), .val (.ref b8), .val (.ref b32), .val (.ref b58), .val (.ref b58), .val (.int (2 : Int32)), .val (.ref b8), .val (.ref b32), .unset, .unset] []))
    refine GoW.step (fun _ k => XS.iload X339.here hx rfl (hb hby at_163) rfl  k) ?_
    show GoW _ _ _ _ _ _ _ (T339.setTop (mkF m 165 #[.val (.int qs), .val (.int qp), .val (.int (3 : Int32)), .val (.int (2 : Int32)), .val (.ref b1), .val (.ref b8), .val (.ref b32), .val (.ref b58), .val (.ref b58), .val (.int (2 : Int32)), .val (.ref b8), .val (.ref b32), .unset, .unset] [(.int (2 : Int32))]))
    have hc165 : ¬ ((2 : Int32) = (0 : Int32)) := hc123
    refine GoW.step (fun _ k => XS.ifYes X339.here hx rfl (pc0 := 165) (pc' := 172) rfl (hb hby at_165) rfl ((if0 _ _).trans (feq hc165).2) (by decide) (by decide) k) ?_
    show GoW _ _ _ _ _ _ _ (T339.setTop (mkF m 172 #[.val (.int qs), .val (.int qp), .val (.int (3 : Int32)), .val (.int (2 : Int32)), .val (.ref b1), .val (.ref b8), .val (.ref b32), .val (.ref b58), .val (.ref b58), .val (.int (2 : Int32)), .val (.ref b8), .val (.ref b32), .unset, .unset] []))
    refine GoW.step (fun _ k => XS.iload X339.here hx rfl (hb hby at_172) rfl  k) ?_
    show GoW _ _ _ _ _ _ _ (T339.setTop (mkF m 174 #[.val (.int qs), .val (.int qp), .val (.int (3 : Int32)), .val (.int (2 : Int32)), .val (.ref b1), .val (.ref b8), .val (.ref b32), .val (.ref b58), .val (.ref b58), .val (.int (2 : Int32)), .val (.ref b8), .val (.ref b32), .unset, .unset] [(.int (2 : Int32))]))
    refine GoW.step (fun _ k => XS.iconst X339.here hx rfl (hb hby at_174) k) ?_
    show GoW _ _ _ _ _ _ _ (T339.setTop (mkF m 175 #[.val (.int qs), .val (.int qp), .val (.int (3 : Int32)), .val (.int (2 : Int32)), .val (.ref b1), .val (.ref b8), .val (.ref b32), .val (.ref b58), .val (.ref b58), .val (.int (2 : Int32)), .val (.ref b8), .val (.ref b32), .unset, .unset] [(.int (1 : Int32)), (.int (2 : Int32))]))
    have hc175 : ¬ ((2 : Int32) = (1 : Int32)) := hc99
    refine GoW.step (fun _ k => XS.icmpYes X339.here hx rfl (pc0 := 175) (pc' := 183) rfl (hb hby at_175) rfl (feq hc175).2 (by decide) (by decide) k) ?_
    show GoW _ _ _ _ _ _ _ (T339.setTop (mkF m 183 #[.val (.int qs), .val (.int qp), .val (.int (3 : Int32)), .val (.int (2 : Int32)), .val (.ref b1), .val (.ref b8), .val (.ref b32), .val (.ref b58), .val (.ref b58), .val (.int (2 : Int32)), .val (.ref b8), .val (.ref b32), .unset, .unset] []))
    refine GoW.step (fun _ k => XS.aload X339.here hx rfl (hb hby at_183) rfl rfl  k) ?_
    show GoW _ _ _ _ _ _ _ (T339.setTop (mkF m 185 #[.val (.int qs), .val (.int qp), .val (.int (3 : Int32)), .val (.int (2 : Int32)), .val (.ref b1), .val (.ref b8), .val (.ref b32), .val (.ref b58), .val (.ref b58), .val (.int (2 : Int32)), .val (.ref b8), .val (.ref b32), .unset, .unset] [(.ref b32)]))
    refine GoW.step (fun _ k => XS.astore X339.here hx rfl (hb hby at_185) rfl rfl (l' := #[.val (.int qs), .val (.int qp), .val (.int (3 : Int32)), .val (.int (2 : Int32)), .val (.ref b1), .val (.ref b8), .val (.ref b32), .val (.ref b58), .val (.ref b58), .val (.int (2 : Int32)), .val (.ref b8), .val (.ref b32), .val (.ref b32), .unset]) rfl k) ?_
    show GoW _ _ _ _ _ _ _ (T339.setTop (mkF m 187 #[.val (.int qs), .val (.int qp), .val (.int (3 : Int32)), .val (.int (2 : Int32)), .val (.ref b1), .val (.ref b8), .val (.ref b32), .val (.ref b58), .val (.ref b58), .val (.int (2 : Int32)), .val (.ref b8), .val (.ref b32), .val (.ref b32), .unset] []))
    refine GoW.step (fun _ k => XS.aload X339.here hx rfl (hb hby at_187) rfl rfl  k) ?_
    show GoW _ _ _ _ _ _ _ (T339.setTop (mkF m 189 #[.val (.int qs), .val (.int qp), .val (.int (3 : Int32)), .val (.int (2 : Int32)), .val (.ref b1), .val (.ref b8), .val (.ref b32), .val (.ref b58), .val (.ref b58), .val (.int (2 : Int32)), .val (.ref b8), .val (.ref b32), .val (.ref b32), .unset] [(.ref b1)]))
    refine GoW.step (fun _ k => XS.aload X339.here hx rfl (hb hby at_189) rfl rfl  k) ?_
    show GoW _ _ _ _ _ _ _ (T339.setTop (mkF m 191 #[.val (.int qs), .val (.int qp), .val (.int (3 : Int32)), .val (.int (2 : Int32)), .val (.ref b1), .val (.ref b8), .val (.ref b32), .val (.ref b58), .val (.ref b58), .val (.int (2 : Int32)), .val (.ref b8), .val (.ref b32), .val (.ref b32), .unset] [(.ref b58), (.ref b1)]))
    obtain ⟨cq343, kq343, q343a, q343b, q343c⟩ := isOf hZ rfl c339_0
    obtain ⟨_, _, ⟨T343, L343, k343, n343⟩, -, X343, ⟨Lc343, hQ343, l343, y343, z343⟩, st343⟩ := X339.virtualBack hx (y := (⟨"com/example/steward/steward/runtime/Group", "remove", "(Lcom/example/steward/steward/runtime/Agent;)V"⟩ : MethodName)) (z := (⟨"com/example/steward/steward/runtime/Group", "remove", "(Lcom/example/steward/steward/runtime/Agent;)V"⟩ : MethodName)) hown (mvT hZ (hw _ (List.mem_of_getElem? (i := 64) rfl))) (mvT hZ (hw _ (List.mem_of_getElem? (i := 65) rfl))) (notFace_of_selects (args := #[]) (mvT hZ (hw _ (List.mem_of_getElem? (i := 67) rfl)))) (mvT hZ (hw _ (List.mem_of_getElem? (i := 67) rfl))) (mvT hZ (hw _ (List.mem_of_getElem? (i := 66) rfl))) (by decide) (backOf (W := 0) (rmrem10 l Z aZ hw [] b1 b58 (Value.ref b1) (Value.ref b8) (Value.ref b58) b32 (Value.ref b58) (Value.ref b1) (Value.ref b8) T339.heap n0 z340 c339_0 c339_1 c339_3 c339_9 c339_10 c339_4 c339_5 gn1 gn58 c339_2 c339_6 c339_7 c339_8 (Ne.symm ne63) gn32) hZ (hw _ (List.mem_of_getElem? (i := 68) rfl)) (hw _ (List.mem_of_getElem? (i := 3) rfl)) (by decide) (by decide)) q343a q343c (g := (mkF m 191 #[.val (.int qs), .val (.int qp), .val (.int (3 : Int32)), .val (.int (2 : Int32)), .val (.ref b1), .val (.ref b8), .val (.ref b32), .val (.ref b58), .val (.ref b58), .val (.int (2 : Int32)), .val (.ref b8), .val (.ref b32), .val (.ref b32), .unset] [(.ref b58), (.ref b1)])) rfl (by rw [hml]; rfl) (Steps.refl _) (argsL := [(.ref b58)]) (rest := []) (lenOf pd_3 rfl) rfl (by show 2 * 0 + _ ≤ _; exact Nat.le_of_eq rfl) (hb hby at_191) (fun _ _ => ⟨rfl, rfl, (by decide : 16 + 0 ≤ _), (by decide : 74 + 0 ≤ _)⟩)
    dsimp only [Pt.U, Pt.locs, Pt.cells, Pt.slots] at X343 l343 y343 z343 st343 hQ343
    subst l343 y343 z343
    obtain ⟨rfl, Nq343, K343, c343_0, c343_1, c343_2, c343_3, c343_4, c343_5, c343_6, c343_7, c343_8, c343_9, c343_10⟩ := hQ343
    have N343 := Fr.app N339 Nq343
    refine GoW.tr st343 ?_
    have z344 : n0 ≤ T343.heap.size := Nat.le_trans z340 K343.1
    have sqz344 : h0.size ≤ T343.heap.size := Nat.le_trans sqz340 K343.1
    have hk346 := Nat.le_trans hk342 K343.1
    show GoW _ _ _ _ _ _ _ (T343.setTop (mkF m 194 #[.val (.int qs), .val (.int qp), .val (.int (3 : Int32)), .val (.int (2 : Int32)), .val (.ref b1), .val (.ref b8), .val (.ref b32), .val (.ref b58), .val (.ref b58), .val (.int (2 : Int32)), .val (.ref b8), .val (.ref b32), .val (.ref b32), .unset] []))
    refine GoW.step (fun _ k => XS.aload X343.here hx rfl (hb hby at_194) rfl rfl  k) ?_
    show GoW _ _ _ _ _ _ _ (T343.setTop (mkF m 196 #[.val (.int qs), .val (.int qp), .val (.int (3 : Int32)), .val (.int (2 : Int32)), .val (.ref b1), .val (.ref b8), .val (.ref b32), .val (.ref b58), .val (.ref b58), .val (.int (2 : Int32)), .val (.ref b8), .val (.ref b32), .val (.ref b32), .unset] [(.ref b58)]))
    obtain ⟨T347, X347, e347, st347⟩ := getF X343 hx hZ hown (host := "") (Or.inl (hw _ (List.mem_of_getElem? (i := 69) rfl))) Via.refl rfl c343_2 (g := (mkF m 196 #[.val (.int qs), .val (.int qp), .val (.int (3 : Int32)), .val (.int (2 : Int32)), .val (.ref b1), .val (.ref b8), .val (.ref b32), .val (.ref b58), .val (.ref b58), .val (.int (2 : Int32)), .val (.ref b8), .val (.ref b32), .val (.ref b32), .unset] [(.ref b58)])) rfl rfl (hb hby at_196)
    refine GoW.step st347 ?_
    show GoW _ _ _ _ _ _ _ (T347.setTop (mkF m 199 #[.val (.int qs), .val (.int qp), .val (.int (3 : Int32)), .val (.int (2 : Int32)), .val (.ref b1), .val (.ref b8), .val (.ref b32), .val (.ref b58), .val (.ref b58), .val (.int (2 : Int32)), .val (.ref b8), .val (.ref b32), .val (.ref b32), .unset] [.null]))
    refine GoW.step (fun _ k => XS.ifnonnullNo X347.here hx rfl (hb hby at_199) rfl k) ?_
    show GoW _ _ _ _ _ _ _ (T347.setTop (mkF m 202 #[.val (.int qs), .val (.int qp), .val (.int (3 : Int32)), .val (.int (2 : Int32)), .val (.ref b1), .val (.ref b8), .val (.ref b32), .val (.ref b58), .val (.ref b58), .val (.int (2 : Int32)), .val (.ref b8), .val (.ref b32), .val (.ref b32), .unset] []))
    refine GoW.step (fun _ k => XS.aload X347.here hx rfl (hb hby at_202) rfl rfl  k) ?_
    show GoW _ _ _ _ _ _ _ (T347.setTop (mkF m 204 #[.val (.int qs), .val (.int qp), .val (.int (3 : Int32)), .val (.int (2 : Int32)), .val (.ref b1), .val (.ref b8), .val (.ref b32), .val (.ref b58), .val (.ref b58), .val (.int (2 : Int32)), .val (.ref b8), .val (.ref b32), .val (.ref b32), .unset] [(.ref b58)]))
    obtain ⟨T348, X348, e348, st348⟩ := getF X347 hx hZ hown (host := "") (Or.inl (hw _ (List.mem_of_getElem? (i := 70) rfl))) Via.refl e347 c343_3 (g := (mkF m 204 #[.val (.int qs), .val (.int qp), .val (.int (3 : Int32)), .val (.int (2 : Int32)), .val (.ref b1), .val (.ref b8), .val (.ref b32), .val (.ref b58), .val (.ref b58), .val (.int (2 : Int32)), .val (.ref b8), .val (.ref b32), .val (.ref b32), .unset] [(.ref b58)])) rfl rfl (hb hby at_204)
    refine GoW.step st348 ?_
    show GoW _ _ _ _ _ _ _ (T348.setTop (mkF m 207 #[.val (.int qs), .val (.int qp), .val (.int (3 : Int32)), .val (.int (2 : Int32)), .val (.ref b1), .val (.ref b8), .val (.ref b32), .val (.ref b58), .val (.ref b58), .val (.int (2 : Int32)), .val (.ref b8), .val (.ref b32), .val (.ref b32), .unset] [.null]))
    refine GoW.step (fun _ k => XS.ifnonnullNo X348.here hx rfl (hb hby at_207) rfl k) ?_
    show GoW _ _ _ _ _ _ _ (T348.setTop (mkF m 210 #[.val (.int qs), .val (.int qp), .val (.int (3 : Int32)), .val (.int (2 : Int32)), .val (.ref b1), .val (.ref b8), .val (.ref b32), .val (.ref b58), .val (.ref b58), .val (.int (2 : Int32)), .val (.ref b8), .val (.ref b32), .val (.ref b32), .unset] []))
    refine GoW.step (fun _ k => XS.aload X348.here hx rfl (hb hby at_210) rfl rfl  k) ?_
    show GoW _ _ _ _ _ _ _ (T348.setTop (mkF m 212 #[.val (.int qs), .val (.int qp), .val (.int (3 : Int32)), .val (.int (2 : Int32)), .val (.ref b1), .val (.ref b8), .val (.ref b32), .val (.ref b58), .val (.ref b58), .val (.int (2 : Int32)), .val (.ref b8), .val (.ref b32), .val (.ref b32), .unset] [(.ref b58)]))
    obtain ⟨T349, X349, e349, st349⟩ := getF X348 hx hZ hown (host := "") (Or.inl (hw _ (List.mem_of_getElem? (i := 71) rfl))) Via.refl e348 c343_4 (g := (mkF m 212 #[.val (.int qs), .val (.int qp), .val (.int (3 : Int32)), .val (.int (2 : Int32)), .val (.ref b1), .val (.ref b8), .val (.ref b32), .val (.ref b58), .val (.ref b58), .val (.int (2 : Int32)), .val (.ref b8), .val (.ref b32), .val (.ref b32), .unset] [(.ref b58)])) rfl rfl (hb hby at_212)
    refine GoW.step st349 ?_
    show GoW _ _ _ _ _ _ _ (T349.setTop (mkF m 215 #[.val (.int qs), .val (.int qp), .val (.int (3 : Int32)), .val (.int (2 : Int32)), .val (.ref b1), .val (.ref b8), .val (.ref b32), .val (.ref b58), .val (.ref b58), .val (.int (2 : Int32)), .val (.ref b8), .val (.ref b32), .val (.ref b32), .unset] [.null]))
    refine GoW.step (fun _ k => XS.ifnonnullNo X349.here hx rfl (hb hby at_215) rfl k) ?_
    show GoW _ _ _ _ _ _ _ (T349.setTop (mkF m 218 #[.val (.int qs), .val (.int qp), .val (.int (3 : Int32)), .val (.int (2 : Int32)), .val (.ref b1), .val (.ref b8), .val (.ref b32), .val (.ref b58), .val (.ref b58), .val (.int (2 : Int32)), .val (.ref b8), .val (.ref b32), .val (.ref b32), .unset] []))
    refine GoW.step (fun _ k => XS.iconst X349.here hx rfl (hb hby at_218) k) ?_
    show GoW _ _ _ _ _ _ _ (T349.setTop (mkF m 219 #[.val (.int qs), .val (.int qp), .val (.int (3 : Int32)), .val (.int (2 : Int32)), .val (.ref b1), .val (.ref b8), .val (.ref b32), .val (.ref b58), .val (.ref b58), .val (.int (2 : Int32)), .val (.ref b8), .val (.ref b32), .val (.ref b32), .unset] [(.int (1 : Int32))]))
    refine GoW.step (fun _ k => XS.goto X349.here hx rfl (pc0 := 219) (pc' := 223) rfl (hb hby at_219) (by decide) (by decide) k) ?_
    show GoW _ _ _ _ _ _ _ (T349.setTop (mkF m 223 #[.val (.int qs), .val (.int qp), .val (.int (3 : Int32)), .val (.int (2 : Int32)), .val (.ref b1), .val (.ref b8), .val (.ref b32), .val (.ref b58), .val (.ref b58), .val (.int (2 : Int32)), .val (.ref b8), .val (.ref b32), .val (.ref b32), .unset] [(.int (1 : Int32))]))
    refine GoW.step (fun _ k => XS.istore X349.here hx rfl (hb hby at_223) rfl (l' := #[.val (.int qs), .val (.int qp), .val (.int (3 : Int32)), .val (.int (2 : Int32)), .val (.ref b1), .val (.ref b8), .val (.ref b32), .val (.ref b58), .val (.ref b58), .val (.int (2 : Int32)), .val (.ref b8), .val (.ref b32), .val (.ref b32), .val (.int (1 : Int32))]) rfl k) ?_
    show GoW _ _ _ _ _ _ _ (T349.setTop (mkF m 225 #[.val (.int qs), .val (.int qp), .val (.int (3 : Int32)), .val (.int (2 : Int32)), .val (.ref b1), .val (.ref b8), .val (.ref b32), .val (.ref b58), .val (.ref b58), .val (.int (2 : Int32)), .val (.ref b8), .val (.ref b32), .val (.ref b32), .val (.int (1 : Int32))] []))
    refine GoW.step (fun _ k => XS.iload X349.here hx rfl (hb hby at_225) rfl  k) ?_
    show GoW _ _ _ _ _ _ _ (T349.setTop (mkF m 227 #[.val (.int qs), .val (.int qp), .val (.int (3 : Int32)), .val (.int (2 : Int32)), .val (.ref b1), .val (.ref b8), .val (.ref b32), .val (.ref b58), .val (.ref b58), .val (.int (2 : Int32)), .val (.ref b8), .val (.ref b32), .val (.ref b32), .val (.int (1 : Int32))] [(.int (1 : Int32))]))
    have hc227 : ¬ ((1 : Int32) = (0 : Int32)) := by decide
    refine GoW.step (fun _ k => XS.ifNo X349.here hx rfl (hb hby at_227) rfl ((if0 _ _).trans (feq hc227).1) k) ?_
    show GoW _ _ _ _ _ _ _ (T349.setTop (mkF m 230 #[.val (.int qs), .val (.int qp), .val (.int (3 : Int32)), .val (.int (2 : Int32)), .val (.ref b1), .val (.ref b8), .val (.ref b32), .val (.ref b58), .val (.ref b58), .val (.int (2 : Int32)), .val (.ref b8), .val (.ref b32), .val (.ref b32), .val (.int (1 : Int32))] []))
    refine GoW.step (fun _ k => XS.aload X349.here hx rfl (hb hby at_230) rfl rfl  k) ?_
    show GoW _ _ _ _ _ _ _ (T349.setTop (mkF m 232 #[.val (.int qs), .val (.int qp), .val (.int (3 : Int32)), .val (.int (2 : Int32)), .val (.ref b1), .val (.ref b8), .val (.ref b32), .val (.ref b58), .val (.ref b58), .val (.int (2 : Int32)), .val (.ref b8), .val (.ref b32), .val (.ref b32), .val (.int (1 : Int32))] [(.ref b1)]))
    have pq350 : (Value.ref b8).isRef = true := rfl
    obtain ⟨cq351, kq351, q351a, q351b, q351c⟩ := isOf hZ e349 c343_0
    obtain ⟨_, _, ⟨T351, L351, k351, n351⟩, -, X351, ⟨Lc351, hQ351, l351, y351, z351⟩, st351⟩ := X349.virtualBack hx (y := (⟨"com/example/steward/steward/runtime/Group", "first", "()Lcom/example/steward/steward/runtime/Agent;"⟩ : MethodName)) (z := (⟨"com/example/steward/steward/runtime/Group", "first", "()Lcom/example/steward/steward/runtime/Agent;"⟩ : MethodName)) hown (mvT hZ (hw _ (List.mem_of_getElem? (i := 72) rfl))) (mvT hZ (hw _ (List.mem_of_getElem? (i := 73) rfl))) (notFace_of_selects (args := #[]) (mvT hZ (hw _ (List.mem_of_getElem? (i := 75) rfl)))) (mvT hZ (hw _ (List.mem_of_getElem? (i := 75) rfl))) (mvT hZ (hw _ (List.mem_of_getElem? (i := 74) rfl))) (by decide) (backOf (W := 0) (rm8 l Z aZ hw [] b1 (Value.ref b8) T343.heap n0 z344 c343_9 pq350) hZ (hw _ (List.mem_of_getElem? (i := 76) rfl)) (hw _ (List.mem_of_getElem? (i := 3) rfl)) (by decide) (by decide)) q351a q351c (g := (mkF m 232 #[.val (.int qs), .val (.int qp), .val (.int (3 : Int32)), .val (.int (2 : Int32)), .val (.ref b1), .val (.ref b8), .val (.ref b32), .val (.ref b58), .val (.ref b58), .val (.int (2 : Int32)), .val (.ref b8), .val (.ref b32), .val (.ref b32), .val (.int (1 : Int32))] [(.ref b1)])) rfl (by rw [hml]; rfl) (Steps.refl _) (argsL := []) (rest := []) (lenOf pd_4 rfl) rfl (by show 2 * 0 + _ ≤ _; exact Nat.le_of_eq rfl) (hb hby at_232) (fun _ _ => ⟨rfl, e349, (by decide : 16 + 0 ≤ _), (by decide : 74 + 0 ≤ _)⟩)
    dsimp only [Pt.U, Pt.locs, Pt.cells, Pt.slots] at X351 l351 y351 z351 st351 hQ351
    subst l351 y351 z351
    obtain ⟨rfl, Nq351, e351⟩ := hQ351
    have N351 := Fr.app N343 Nq351
    refine GoW.tr st351 ?_
    show GoW _ _ _ _ _ _ _ (T351.setTop (mkF m 235 #[.val (.int qs), .val (.int qp), .val (.int (3 : Int32)), .val (.int (2 : Int32)), .val (.ref b1), .val (.ref b8), .val (.ref b32), .val (.ref b58), .val (.ref b58), .val (.int (2 : Int32)), .val (.ref b8), .val (.ref b32), .val (.ref b32), .val (.int (1 : Int32))] [(.ref b8)]))
    refine GoW.step (fun _ k => XS.aload X351.here hx rfl (hb hby at_235) rfl rfl  k) ?_
    show GoW _ _ _ _ _ _ _ (T351.setTop (mkF m 237 #[.val (.int qs), .val (.int qp), .val (.int (3 : Int32)), .val (.int (2 : Int32)), .val (.ref b1), .val (.ref b8), .val (.ref b32), .val (.ref b58), .val (.ref b58), .val (.int (2 : Int32)), .val (.ref b8), .val (.ref b32), .val (.ref b32), .val (.int (1 : Int32))] [(.ref b8), (.ref b8)]))
    refine GoW.step (fun _ k => Jvm.RoadKit.acmp (g := (mkF m 237 #[.val (.int qs), .val (.int qp), .val (.int (3 : Int32)), .val (.int (2 : Int32)), .val (.ref b1), .val (.ref b8), .val (.ref b32), .val (.ref b58), .val (.ref b58), .val (.int (2 : Int32)), .val (.ref b8), .val (.ref b32), .val (.ref b32), .val (.int (1 : Int32))] [(.ref b8), (.ref b8)])) X351 hx rfl rfl rfl (pc0 := 237) (pc' := 240) (same := true) rfl (hb hby at_237) rfl (decide_eq_true rfl) (by decide) (by decide) k) ?_
    show GoW _ _ _ _ _ _ _ (T351.setTop (mkF m 240 #[.val (.int qs), .val (.int qp), .val (.int (3 : Int32)), .val (.int (2 : Int32)), .val (.ref b1), .val (.ref b8), .val (.ref b32), .val (.ref b58), .val (.ref b58), .val (.int (2 : Int32)), .val (.ref b8), .val (.ref b32), .val (.ref b32), .val (.int (1 : Int32))] []))
    refine GoW.step (fun _ k => XS.iconst X351.here hx rfl (hb hby at_240) k) ?_
    show GoW _ _ _ _ _ _ _ (T351.setTop (mkF m 241 #[.val (.int qs), .val (.int qp), .val (.int (3 : Int32)), .val (.int (2 : Int32)), .val (.ref b1), .val (.ref b8), .val (.ref b32), .val (.ref b58), .val (.ref b58), .val (.int (2 : Int32)), .val (.ref b8), .val (.ref b32), .val (.ref b32), .val (.int (1 : Int32))] [(.int (1 : Int32))]))
    refine GoW.step (fun _ k => XS.goto X351.here hx rfl (pc0 := 241) (pc' := 245) rfl (hb hby at_241) (by decide) (by decide) k) ?_
    show GoW _ _ _ _ _ _ _ (T351.setTop (mkF m 245 #[.val (.int qs), .val (.int qp), .val (.int (3 : Int32)), .val (.int (2 : Int32)), .val (.ref b1), .val (.ref b8), .val (.ref b32), .val (.ref b58), .val (.ref b58), .val (.int (2 : Int32)), .val (.ref b8), .val (.ref b32), .val (.ref b32), .val (.int (1 : Int32))] [(.int (1 : Int32))]))
    refine GoW.step (fun _ k => XS.istore X351.here hx rfl (hb hby at_245) rfl (l' := #[.val (.int qs), .val (.int qp), .val (.int (3 : Int32)), .val (.int (2 : Int32)), .val (.ref b1), .val (.ref b8), .val (.ref b32), .val (.ref b58), .val (.ref b58), .val (.int (2 : Int32)), .val (.ref b8), .val (.ref b32), .val (.ref b32), .val (.int (1 : Int32))]) rfl k) ?_
    show GoW _ _ _ _ _ _ _ (T351.setTop (mkF m 247 #[.val (.int qs), .val (.int qp), .val (.int (3 : Int32)), .val (.int (2 : Int32)), .val (.ref b1), .val (.ref b8), .val (.ref b32), .val (.ref b58), .val (.ref b58), .val (.int (2 : Int32)), .val (.ref b8), .val (.ref b32), .val (.ref b32), .val (.int (1 : Int32))] []))
    refine GoW.step (fun _ k => XS.aload X351.here hx rfl (hb hby at_247) rfl rfl  k) ?_
    show GoW _ _ _ _ _ _ _ (T351.setTop (mkF m 249 #[.val (.int qs), .val (.int qp), .val (.int (3 : Int32)), .val (.int (2 : Int32)), .val (.ref b1), .val (.ref b8), .val (.ref b32), .val (.ref b58), .val (.ref b58), .val (.int (2 : Int32)), .val (.ref b8), .val (.ref b32), .val (.ref b32), .val (.int (1 : Int32))] [(.ref b8)]))
    refine GoW.step (fun _ k => XS.ifnullNo X351.here hx rfl (hb hby at_249) rfl k) ?_
    show GoW _ _ _ _ _ _ _ (T351.setTop (mkF m 252 #[.val (.int qs), .val (.int qp), .val (.int (3 : Int32)), .val (.int (2 : Int32)), .val (.ref b1), .val (.ref b8), .val (.ref b32), .val (.ref b58), .val (.ref b58), .val (.int (2 : Int32)), .val (.ref b8), .val (.ref b32), .val (.ref b32), .val (.int (1 : Int32))] []))
    refine GoW.step (fun _ k => XS.iload X351.here hx rfl (hb hby at_252) rfl  k) ?_
    show GoW _ _ _ _ _ _ _ (T351.setTop (mkF m 254 #[.val (.int qs), .val (.int qp), .val (.int (3 : Int32)), .val (.int (2 : Int32)), .val (.ref b1), .val (.ref b8), .val (.ref b32), .val (.ref b58), .val (.ref b58), .val (.int (2 : Int32)), .val (.ref b8), .val (.ref b32), .val (.ref b32), .val (.int (1 : Int32))] [(.int (1 : Int32))]))
    have hc254 : ¬ ((1 : Int32) = (0 : Int32)) := hc227
    refine GoW.step (fun _ k => XS.ifNo X351.here hx rfl (hb hby at_254) rfl ((if0 _ _).trans (feq hc254).1) k) ?_
    show GoW _ _ _ _ _ _ _ (T351.setTop (mkF m 257 #[.val (.int qs), .val (.int qp), .val (.int (3 : Int32)), .val (.int (2 : Int32)), .val (.ref b1), .val (.ref b8), .val (.ref b32), .val (.ref b58), .val (.ref b58), .val (.int (2 : Int32)), .val (.ref b8), .val (.ref b32), .val (.ref b32), .val (.int (1 : Int32))] []))
    refine GoW.step (fun _ k => XS.aload X351.here hx rfl (hb hby at_257) rfl rfl  k) ?_
    show GoW _ _ _ _ _ _ _ (T351.setTop (mkF m 259 #[.val (.int qs), .val (.int qp), .val (.int (3 : Int32)), .val (.int (2 : Int32)), .val (.ref b1), .val (.ref b8), .val (.ref b32), .val (.ref b58), .val (.ref b58), .val (.int (2 : Int32)), .val (.ref b8), .val (.ref b32), .val (.ref b32), .val (.int (1 : Int32))] [(.ref b8)]))
    have f352 : Fld Z T343.heap b8 "com/example/steward/steward/runtime/Agent" "ahead" "Lcom/example/steward/steward/runtime/Agent;" .null := ((c331_8.keep K339 (ninS (Ne.symm ne9) (ninS ne62 (ninS ne35 nin0)))).keep K343 (ninS (Ne.symm ne9) (ninS ne62 (ninS ne35 nin0))))
    obtain ⟨T353, X353, e353, st353⟩ := getF X351 hx hZ hown (host := "") (Or.inl (hw _ (List.mem_of_getElem? (i := 70) rfl))) Via.refl e351 f352 (g := (mkF m 259 #[.val (.int qs), .val (.int qp), .val (.int (3 : Int32)), .val (.int (2 : Int32)), .val (.ref b1), .val (.ref b8), .val (.ref b32), .val (.ref b58), .val (.ref b58), .val (.int (2 : Int32)), .val (.ref b8), .val (.ref b32), .val (.ref b32), .val (.int (1 : Int32))] [(.ref b8)])) rfl rfl (hb hby at_259)
    refine GoW.step st353 ?_
    show GoW _ _ _ _ _ _ _ (T353.setTop (mkF m 262 #[.val (.int qs), .val (.int qp), .val (.int (3 : Int32)), .val (.int (2 : Int32)), .val (.ref b1), .val (.ref b8), .val (.ref b32), .val (.ref b58), .val (.ref b58), .val (.int (2 : Int32)), .val (.ref b8), .val (.ref b32), .val (.ref b32), .val (.int (1 : Int32))] [.null]))
    refine GoW.step (fun _ k => XS.ifnonnullNo X353.here hx rfl (hb hby at_262) rfl k) ?_
    show GoW _ _ _ _ _ _ _ (T353.setTop (mkF m 265 #[.val (.int qs), .val (.int qp), .val (.int (3 : Int32)), .val (.int (2 : Int32)), .val (.ref b1), .val (.ref b8), .val (.ref b32), .val (.ref b58), .val (.ref b58), .val (.int (2 : Int32)), .val (.ref b8), .val (.ref b32), .val (.ref b32), .val (.int (1 : Int32))] []))
    refine GoW.step (fun _ k => XS.aload X353.here hx rfl (hb hby at_265) rfl rfl  k) ?_
    show GoW _ _ _ _ _ _ _ (T353.setTop (mkF m 267 #[.val (.int qs), .val (.int qp), .val (.int (3 : Int32)), .val (.int (2 : Int32)), .val (.ref b1), .val (.ref b8), .val (.ref b32), .val (.ref b58), .val (.ref b58), .val (.int (2 : Int32)), .val (.ref b8), .val (.ref b32), .val (.ref b32), .val (.int (1 : Int32))] [(.ref b8)]))
    have f354 : Fld Z T343.heap b8 "com/example/steward/steward/runtime/Agent" "behind" "Lcom/example/steward/steward/runtime/Agent;" (.ref b32) := ((c331_6.keep K339 (ninS (Ne.symm ne9) (ninS ne62 (ninS ne35 nin0)))).keep K343 (ninS (Ne.symm ne9) (ninS ne62 (ninS ne35 nin0))))
    obtain ⟨T355, X355, e355, st355⟩ := getF X353 hx hZ hown (host := "") (Or.inl (hw _ (List.mem_of_getElem? (i := 71) rfl))) Via.refl e353 f354 (g := (mkF m 267 #[.val (.int qs), .val (.int qp), .val (.int (3 : Int32)), .val (.int (2 : Int32)), .val (.ref b1), .val (.ref b8), .val (.ref b32), .val (.ref b58), .val (.ref b58), .val (.int (2 : Int32)), .val (.ref b8), .val (.ref b32), .val (.ref b32), .val (.int (1 : Int32))] [(.ref b8)])) rfl rfl (hb hby at_267)
    refine GoW.step st355 ?_
    show GoW _ _ _ _ _ _ _ (T355.setTop (mkF m 270 #[.val (.int qs), .val (.int qp), .val (.int (3 : Int32)), .val (.int (2 : Int32)), .val (.ref b1), .val (.ref b8), .val (.ref b32), .val (.ref b58), .val (.ref b58), .val (.int (2 : Int32)), .val (.ref b8), .val (.ref b32), .val (.ref b32), .val (.int (1 : Int32))] [(.ref b32)]))
    refine GoW.step (fun _ k => XS.aload X355.here hx rfl (hb hby at_270) rfl rfl  k) ?_
    show GoW _ _ _ _ _ _ _ (T355.setTop (mkF m 272 #[.val (.int qs), .val (.int qp), .val (.int (3 : Int32)), .val (.int (2 : Int32)), .val (.ref b1), .val (.ref b8), .val (.ref b32), .val (.ref b58), .val (.ref b58), .val (.int (2 : Int32)), .val (.ref b8), .val (.ref b32), .val (.ref b32), .val (.int (1 : Int32))] [(.ref b32), (.ref b32)]))
    refine GoW.step (fun _ k => Jvm.RoadKit.acmp (g := (mkF m 272 #[.val (.int qs), .val (.int qp), .val (.int (3 : Int32)), .val (.int (2 : Int32)), .val (.ref b1), .val (.ref b8), .val (.ref b32), .val (.ref b58), .val (.ref b58), .val (.int (2 : Int32)), .val (.ref b8), .val (.ref b32), .val (.ref b32), .val (.int (1 : Int32))] [(.ref b32), (.ref b32)])) X355 hx rfl rfl rfl (pc0 := 272) (pc' := 275) (same := true) rfl (hb hby at_272) rfl (decide_eq_true rfl) (by decide) (by decide) k) ?_
    show GoW _ _ _ _ _ _ _ (T355.setTop (mkF m 275 #[.val (.int qs), .val (.int qp), .val (.int (3 : Int32)), .val (.int (2 : Int32)), .val (.ref b1), .val (.ref b8), .val (.ref b32), .val (.ref b58), .val (.ref b58), .val (.int (2 : Int32)), .val (.ref b8), .val (.ref b32), .val (.ref b32), .val (.int (1 : Int32))] []))
    refine GoW.step (fun _ k => XS.aload X355.here hx rfl (hb hby at_275) rfl rfl  k) ?_
    show GoW _ _ _ _ _ _ _ (T355.setTop (mkF m 277 #[.val (.int qs), .val (.int qp), .val (.int (3 : Int32)), .val (.int (2 : Int32)), .val (.ref b1), .val (.ref b8), .val (.ref b32), .val (.ref b58), .val (.ref b58), .val (.int (2 : Int32)), .val (.ref b8), .val (.ref b32), .val (.ref b32), .val (.int (1 : Int32))] [(.ref b8)]))
    have f356 : Fld Z T343.heap b8 "com/example/steward/steward/runtime/Agent" "group" "Lcom/example/steward/steward/runtime/Group;" (.ref b1) := ((c331_7.keep K339 (ninS (Ne.symm ne9) (ninS ne62 (ninS ne35 nin0)))).keep K343 (ninS (Ne.symm ne9) (ninS ne62 (ninS ne35 nin0))))
    obtain ⟨T357, X357, e357, st357⟩ := getF X355 hx hZ hown (host := "") (Or.inl (hw _ (List.mem_of_getElem? (i := 69) rfl))) Via.refl e355 f356 (g := (mkF m 277 #[.val (.int qs), .val (.int qp), .val (.int (3 : Int32)), .val (.int (2 : Int32)), .val (.ref b1), .val (.ref b8), .val (.ref b32), .val (.ref b58), .val (.ref b58), .val (.int (2 : Int32)), .val (.ref b8), .val (.ref b32), .val (.ref b32), .val (.int (1 : Int32))] [(.ref b8)])) rfl rfl (hb hby at_277)
    refine GoW.step st357 ?_
    show GoW _ _ _ _ _ _ _ (T357.setTop (mkF m 280 #[.val (.int qs), .val (.int qp), .val (.int (3 : Int32)), .val (.int (2 : Int32)), .val (.ref b1), .val (.ref b8), .val (.ref b32), .val (.ref b58), .val (.ref b58), .val (.int (2 : Int32)), .val (.ref b8), .val (.ref b32), .val (.ref b32), .val (.int (1 : Int32))] [(.ref b1)]))
    refine GoW.step (fun _ k => XS.aload X357.here hx rfl (hb hby at_280) rfl rfl  k) ?_
    show GoW _ _ _ _ _ _ _ (T357.setTop (mkF m 282 #[.val (.int qs), .val (.int qp), .val (.int (3 : Int32)), .val (.int (2 : Int32)), .val (.ref b1), .val (.ref b8), .val (.ref b32), .val (.ref b58), .val (.ref b58), .val (.int (2 : Int32)), .val (.ref b8), .val (.ref b32), .val (.ref b32), .val (.int (1 : Int32))] [(.ref b1), (.ref b1)]))
    refine GoW.step (fun _ k => Jvm.RoadKit.acmp (g := (mkF m 282 #[.val (.int qs), .val (.int qp), .val (.int (3 : Int32)), .val (.int (2 : Int32)), .val (.ref b1), .val (.ref b8), .val (.ref b32), .val (.ref b58), .val (.ref b58), .val (.int (2 : Int32)), .val (.ref b8), .val (.ref b32), .val (.ref b32), .val (.int (1 : Int32))] [(.ref b1), (.ref b1)])) X357 hx rfl rfl rfl (pc0 := 282) (pc' := 285) (same := true) rfl (hb hby at_282) rfl (decide_eq_true rfl) (by decide) (by decide) k) ?_
    show GoW _ _ _ _ _ _ _ (T357.setTop (mkF m 285 #[.val (.int qs), .val (.int qp), .val (.int (3 : Int32)), .val (.int (2 : Int32)), .val (.ref b1), .val (.ref b8), .val (.ref b32), .val (.ref b58), .val (.ref b58), .val (.int (2 : Int32)), .val (.ref b8), .val (.ref b32), .val (.ref b32), .val (.int (1 : Int32))] []))
    refine GoW.step (fun _ k => XS.iconst X357.here hx rfl (hb hby at_285) k) ?_
    show GoW _ _ _ _ _ _ _ (T357.setTop (mkF m 286 #[.val (.int qs), .val (.int qp), .val (.int (3 : Int32)), .val (.int (2 : Int32)), .val (.ref b1), .val (.ref b8), .val (.ref b32), .val (.ref b58), .val (.ref b58), .val (.int (2 : Int32)), .val (.ref b8), .val (.ref b32), .val (.ref b32), .val (.int (1 : Int32))] [(.int (1 : Int32))]))
    refine GoW.step (fun _ k => XS.goto X357.here hx rfl (pc0 := 286) (pc' := 290) rfl (hb hby at_286) (by decide) (by decide) k) ?_
    show GoW _ _ _ _ _ _ _ (T357.setTop (mkF m 290 #[.val (.int qs), .val (.int qp), .val (.int (3 : Int32)), .val (.int (2 : Int32)), .val (.ref b1), .val (.ref b8), .val (.ref b32), .val (.ref b58), .val (.ref b58), .val (.int (2 : Int32)), .val (.ref b8), .val (.ref b32), .val (.ref b32), .val (.int (1 : Int32))] [(.int (1 : Int32))]))
    refine GoW.step (fun _ k => XS.istore X357.here hx rfl (hb hby at_290) rfl (l' := #[.val (.int qs), .val (.int qp), .val (.int (3 : Int32)), .val (.int (2 : Int32)), .val (.ref b1), .val (.ref b8), .val (.ref b32), .val (.ref b58), .val (.ref b58), .val (.int (2 : Int32)), .val (.ref b8), .val (.ref b32), .val (.ref b32), .val (.int (1 : Int32))]) rfl k) ?_
    show GoW _ _ _ _ _ _ _ (T357.setTop (mkF m 292 #[.val (.int qs), .val (.int qp), .val (.int (3 : Int32)), .val (.int (2 : Int32)), .val (.ref b1), .val (.ref b8), .val (.ref b32), .val (.ref b58), .val (.ref b58), .val (.int (2 : Int32)), .val (.ref b8), .val (.ref b32), .val (.ref b32), .val (.int (1 : Int32))] []))
    refine GoW.step (fun _ k => XS.aload X357.here hx rfl (hb hby at_292) rfl rfl  k) ?_
    show GoW _ _ _ _ _ _ _ (T357.setTop (mkF m 294 #[.val (.int qs), .val (.int qp), .val (.int (3 : Int32)), .val (.int (2 : Int32)), .val (.ref b1), .val (.ref b8), .val (.ref b32), .val (.ref b58), .val (.ref b58), .val (.int (2 : Int32)), .val (.ref b8), .val (.ref b32), .val (.ref b32), .val (.int (1 : Int32))] [(.ref b32)]))
    refine GoW.step (fun _ k => XS.ifnullNo X357.here hx rfl (hb hby at_294) rfl k) ?_
    show GoW _ _ _ _ _ _ _ (T357.setTop (mkF m 297 #[.val (.int qs), .val (.int qp), .val (.int (3 : Int32)), .val (.int (2 : Int32)), .val (.ref b1), .val (.ref b8), .val (.ref b32), .val (.ref b58), .val (.ref b58), .val (.int (2 : Int32)), .val (.ref b8), .val (.ref b32), .val (.ref b32), .val (.int (1 : Int32))] []))
    refine GoW.step (fun _ k => XS.iload X357.here hx rfl (hb hby at_297) rfl  k) ?_
    show GoW _ _ _ _ _ _ _ (T357.setTop (mkF m 299 #[.val (.int qs), .val (.int qp), .val (.int (3 : Int32)), .val (.int (2 : Int32)), .val (.ref b1), .val (.ref b8), .val (.ref b32), .val (.ref b58), .val (.ref b58), .val (.int (2 : Int32)), .val (.ref b8), .val (.ref b32), .val (.ref b32), .val (.int (1 : Int32))] [(.int (1 : Int32))]))
    have hc299 : ¬ ((1 : Int32) = (0 : Int32)) := hc254
    refine GoW.step (fun _ k => XS.ifNo X357.here hx rfl (hb hby at_299) rfl ((if0 _ _).trans (feq hc299).1) k) ?_
    show GoW _ _ _ _ _ _ _ (T357.setTop (mkF m 302 #[.val (.int qs), .val (.int qp), .val (.int (3 : Int32)), .val (.int (2 : Int32)), .val (.ref b1), .val (.ref b8), .val (.ref b32), .val (.ref b58), .val (.ref b58), .val (.int (2 : Int32)), .val (.ref b8), .val (.ref b32), .val (.ref b32), .val (.int (1 : Int32))] []))
    refine GoW.step (fun _ k => XS.aload X357.here hx rfl (hb hby at_302) rfl rfl  k) ?_
    show GoW _ _ _ _ _ _ _ (T357.setTop (mkF m 304 #[.val (.int qs), .val (.int qp), .val (.int (3 : Int32)), .val (.int (2 : Int32)), .val (.ref b1), .val (.ref b8), .val (.ref b32), .val (.ref b58), .val (.ref b58), .val (.int (2 : Int32)), .val (.ref b8), .val (.ref b32), .val (.ref b32), .val (.int (1 : Int32))] [(.ref b32)]))
    obtain ⟨T358, X358, e358, st358⟩ := getF X357 hx hZ hown (host := "") (Or.inl (hw _ (List.mem_of_getElem? (i := 70) rfl))) Via.refl e357 c343_8 (g := (mkF m 304 #[.val (.int qs), .val (.int qp), .val (.int (3 : Int32)), .val (.int (2 : Int32)), .val (.ref b1), .val (.ref b8), .val (.ref b32), .val (.ref b58), .val (.ref b58), .val (.int (2 : Int32)), .val (.ref b8), .val (.ref b32), .val (.ref b32), .val (.int (1 : Int32))] [(.ref b32)])) rfl rfl (hb hby at_304)
    refine GoW.step st358 ?_
    show GoW _ _ _ _ _ _ _ (T358.setTop (mkF m 307 #[.val (.int qs), .val (.int qp), .val (.int (3 : Int32)), .val (.int (2 : Int32)), .val (.ref b1), .val (.ref b8), .val (.ref b32), .val (.ref b58), .val (.ref b58), .val (.int (2 : Int32)), .val (.ref b8), .val (.ref b32), .val (.ref b32), .val (.int (1 : Int32))] [(.ref b8)]))
    refine GoW.step (fun _ k => XS.aload X358.here hx rfl (hb hby at_307) rfl rfl  k) ?_
    show GoW _ _ _ _ _ _ _ (T358.setTop (mkF m 309 #[.val (.int qs), .val (.int qp), .val (.int (3 : Int32)), .val (.int (2 : Int32)), .val (.ref b1), .val (.ref b8), .val (.ref b32), .val (.ref b58), .val (.ref b58), .val (.int (2 : Int32)), .val (.ref b8), .val (.ref b32), .val (.ref b32), .val (.int (1 : Int32))] [(.ref b8), (.ref b8)]))
    refine GoW.step (fun _ k => Jvm.RoadKit.acmp (g := (mkF m 309 #[.val (.int qs), .val (.int qp), .val (.int (3 : Int32)), .val (.int (2 : Int32)), .val (.ref b1), .val (.ref b8), .val (.ref b32), .val (.ref b58), .val (.ref b58), .val (.int (2 : Int32)), .val (.ref b8), .val (.ref b32), .val (.ref b32), .val (.int (1 : Int32))] [(.ref b8), (.ref b8)])) X358 hx rfl rfl rfl (pc0 := 309) (pc' := 312) (same := true) rfl (hb hby at_309) rfl (decide_eq_true rfl) (by decide) (by decide) k) ?_
    show GoW _ _ _ _ _ _ _ (T358.setTop (mkF m 312 #[.val (.int qs), .val (.int qp), .val (.int (3 : Int32)), .val (.int (2 : Int32)), .val (.ref b1), .val (.ref b8), .val (.ref b32), .val (.ref b58), .val (.ref b58), .val (.int (2 : Int32)), .val (.ref b8), .val (.ref b32), .val (.ref b32), .val (.int (1 : Int32))] []))
    refine GoW.step (fun _ k => XS.aload X358.here hx rfl (hb hby at_312) rfl rfl  k) ?_
    show GoW _ _ _ _ _ _ _ (T358.setTop (mkF m 314 #[.val (.int qs), .val (.int qp), .val (.int (3 : Int32)), .val (.int (2 : Int32)), .val (.ref b1), .val (.ref b8), .val (.ref b32), .val (.ref b58), .val (.ref b58), .val (.int (2 : Int32)), .val (.ref b8), .val (.ref b32), .val (.ref b32), .val (.int (1 : Int32))] [(.ref b32)]))
    obtain ⟨T359, X359, e359, st359⟩ := getF X358 hx hZ hown (host := "") (Or.inl (hw _ (List.mem_of_getElem? (i := 71) rfl))) Via.refl e358 c343_6 (g := (mkF m 314 #[.val (.int qs), .val (.int qp), .val (.int (3 : Int32)), .val (.int (2 : Int32)), .val (.ref b1), .val (.ref b8), .val (.ref b32), .val (.ref b58), .val (.ref b58), .val (.int (2 : Int32)), .val (.ref b8), .val (.ref b32), .val (.ref b32), .val (.int (1 : Int32))] [(.ref b32)])) rfl rfl (hb hby at_314)
    refine GoW.step st359 ?_
    show GoW _ _ _ _ _ _ _ (T359.setTop (mkF m 317 #[.val (.int qs), .val (.int qp), .val (.int (3 : Int32)), .val (.int (2 : Int32)), .val (.ref b1), .val (.ref b8), .val (.ref b32), .val (.ref b58), .val (.ref b58), .val (.int (2 : Int32)), .val (.ref b8), .val (.ref b32), .val (.ref b32), .val (.int (1 : Int32))] [.null]))
    refine GoW.step (fun _ k => XS.ifnonnullNo X359.here hx rfl (hb hby at_317) rfl k) ?_
    show GoW _ _ _ _ _ _ _ (T359.setTop (mkF m 320 #[.val (.int qs), .val (.int qp), .val (.int (3 : Int32)), .val (.int (2 : Int32)), .val (.ref b1), .val (.ref b8), .val (.ref b32), .val (.ref b58), .val (.ref b58), .val (.int (2 : Int32)), .val (.ref b8), .val (.ref b32), .val (.ref b32), .val (.int (1 : Int32))] []))
    refine GoW.step (fun _ k => XS.aload X359.here hx rfl (hb hby at_320) rfl rfl  k) ?_
    show GoW _ _ _ _ _ _ _ (T359.setTop (mkF m 322 #[.val (.int qs), .val (.int qp), .val (.int (3 : Int32)), .val (.int (2 : Int32)), .val (.ref b1), .val (.ref b8), .val (.ref b32), .val (.ref b58), .val (.ref b58), .val (.int (2 : Int32)), .val (.ref b8), .val (.ref b32), .val (.ref b32), .val (.int (1 : Int32))] [(.ref b32)]))
    obtain ⟨T360, X360, e360, st360⟩ := getF X359 hx hZ hown (host := "") (Or.inl (hw _ (List.mem_of_getElem? (i := 69) rfl))) Via.refl e359 c343_7 (g := (mkF m 322 #[.val (.int qs), .val (.int qp), .val (.int (3 : Int32)), .val (.int (2 : Int32)), .val (.ref b1), .val (.ref b8), .val (.ref b32), .val (.ref b58), .val (.ref b58), .val (.int (2 : Int32)), .val (.ref b8), .val (.ref b32), .val (.ref b32), .val (.int (1 : Int32))] [(.ref b32)])) rfl rfl (hb hby at_322)
    refine GoW.step st360 ?_
    show GoW _ _ _ _ _ _ _ (T360.setTop (mkF m 325 #[.val (.int qs), .val (.int qp), .val (.int (3 : Int32)), .val (.int (2 : Int32)), .val (.ref b1), .val (.ref b8), .val (.ref b32), .val (.ref b58), .val (.ref b58), .val (.int (2 : Int32)), .val (.ref b8), .val (.ref b32), .val (.ref b32), .val (.int (1 : Int32))] [(.ref b1)]))
    refine GoW.step (fun _ k => XS.aload X360.here hx rfl (hb hby at_325) rfl rfl  k) ?_
    show GoW _ _ _ _ _ _ _ (T360.setTop (mkF m 327 #[.val (.int qs), .val (.int qp), .val (.int (3 : Int32)), .val (.int (2 : Int32)), .val (.ref b1), .val (.ref b8), .val (.ref b32), .val (.ref b58), .val (.ref b58), .val (.int (2 : Int32)), .val (.ref b8), .val (.ref b32), .val (.ref b32), .val (.int (1 : Int32))] [(.ref b1), (.ref b1)]))
    refine GoW.step (fun _ k => Jvm.RoadKit.acmp (g := (mkF m 327 #[.val (.int qs), .val (.int qp), .val (.int (3 : Int32)), .val (.int (2 : Int32)), .val (.ref b1), .val (.ref b8), .val (.ref b32), .val (.ref b58), .val (.ref b58), .val (.int (2 : Int32)), .val (.ref b8), .val (.ref b32), .val (.ref b32), .val (.int (1 : Int32))] [(.ref b1), (.ref b1)])) X360 hx rfl rfl rfl (pc0 := 327) (pc' := 330) (same := true) rfl (hb hby at_327) rfl (decide_eq_true rfl) (by decide) (by decide) k) ?_
    show GoW _ _ _ _ _ _ _ (T360.setTop (mkF m 330 #[.val (.int qs), .val (.int qp), .val (.int (3 : Int32)), .val (.int (2 : Int32)), .val (.ref b1), .val (.ref b8), .val (.ref b32), .val (.ref b58), .val (.ref b58), .val (.int (2 : Int32)), .val (.ref b8), .val (.ref b32), .val (.ref b32), .val (.int (1 : Int32))] []))
    refine GoW.step (fun _ k => XS.iconst X360.here hx rfl (hb hby at_330) k) ?_
    show GoW _ _ _ _ _ _ _ (T360.setTop (mkF m 331 #[.val (.int qs), .val (.int qp), .val (.int (3 : Int32)), .val (.int (2 : Int32)), .val (.ref b1), .val (.ref b8), .val (.ref b32), .val (.ref b58), .val (.ref b58), .val (.int (2 : Int32)), .val (.ref b8), .val (.ref b32), .val (.ref b32), .val (.int (1 : Int32))] [(.int (1 : Int32))]))
    refine GoW.step (fun _ k => XS.goto X360.here hx rfl (pc0 := 331) (pc' := 335) rfl (hb hby at_331) (by decide) (by decide) k) ?_
    show GoW _ _ _ _ _ _ _ (T360.setTop (mkF m 335 #[.val (.int qs), .val (.int qp), .val (.int (3 : Int32)), .val (.int (2 : Int32)), .val (.ref b1), .val (.ref b8), .val (.ref b32), .val (.ref b58), .val (.ref b58), .val (.int (2 : Int32)), .val (.ref b8), .val (.ref b32), .val (.ref b32), .val (.int (1 : Int32))] [(.int (1 : Int32))]))
    refine GoW.step (fun _ k => XS.istore X360.here hx rfl (hb hby at_335) rfl (l' := #[.val (.int qs), .val (.int qp), .val (.int (3 : Int32)), .val (.int (2 : Int32)), .val (.ref b1), .val (.ref b8), .val (.ref b32), .val (.ref b58), .val (.ref b58), .val (.int (2 : Int32)), .val (.ref b8), .val (.ref b32), .val (.ref b32), .val (.int (1 : Int32))]) rfl k) ?_
    show GoW _ _ _ _ _ _ _ (T360.setTop (mkF m 337 #[.val (.int qs), .val (.int qp), .val (.int (3 : Int32)), .val (.int (2 : Int32)), .val (.ref b1), .val (.ref b8), .val (.ref b32), .val (.ref b58), .val (.ref b58), .val (.int (2 : Int32)), .val (.ref b8), .val (.ref b32), .val (.ref b32), .val (.int (1 : Int32))] []))
    refine GoW.step (fun _ k => XS.iloadN X360.here hx rfl (hb hby at_337) rfl  k) ?_
    show GoW _ _ _ _ _ _ _ (T360.setTop (mkF m 338 #[.val (.int qs), .val (.int qp), .val (.int (3 : Int32)), .val (.int (2 : Int32)), .val (.ref b1), .val (.ref b8), .val (.ref b32), .val (.ref b58), .val (.ref b58), .val (.int (2 : Int32)), .val (.ref b8), .val (.ref b32), .val (.ref b32), .val (.int (1 : Int32))] [(.int (3 : Int32))]))
    refine GoW.step (fun _ k => XS.iconst X360.here hx rfl (hb hby at_338) k) ?_
    show GoW _ _ _ _ _ _ _ (T360.setTop (mkF m 339 #[.val (.int qs), .val (.int qp), .val (.int (3 : Int32)), .val (.int (2 : Int32)), .val (.ref b1), .val (.ref b8), .val (.ref b32), .val (.ref b58), .val (.ref b58), .val (.int (2 : Int32)), .val (.ref b8), .val (.ref b32), .val (.ref b32), .val (.int (1 : Int32))] [(.int (3 : Int32)), (.int (3 : Int32))]))
    have hc339 : ¬ ((3 : Int32) < (3 : Int32)) := hc78
    refine GoW.step (fun _ k => XS.icmpYes X360.here hx rfl (pc0 := 339) (pc' := 378) rfl (hb hby at_339) rfl (flt hc339).2.1 (by decide) (by decide) k) ?_
    show GoW _ _ _ _ _ _ _ (T360.setTop (mkF m 378 #[.val (.int qs), .val (.int qp), .val (.int (3 : Int32)), .val (.int (2 : Int32)), .val (.ref b1), .val (.ref b8), .val (.ref b32), .val (.ref b58), .val (.ref b58), .val (.int (2 : Int32)), .val (.ref b8), .val (.ref b32), .val (.ref b32), .val (.int (1 : Int32))] []))
    refine GoW.step (fun _ k => XS.aload X360.here hx rfl (hb hby at_378) rfl rfl  k) ?_
    show GoW _ _ _ _ _ _ _ (T360.setTop (mkF m 380 #[.val (.int qs), .val (.int qp), .val (.int (3 : Int32)), .val (.int (2 : Int32)), .val (.ref b1), .val (.ref b8), .val (.ref b32), .val (.ref b58), .val (.ref b58), .val (.int (2 : Int32)), .val (.ref b8), .val (.ref b32), .val (.ref b32), .val (.int (1 : Int32))] [(.ref b1)]))
    refine GoW.step (fun _ k => XS.aload X360.here hx rfl (hb hby at_380) rfl rfl  k) ?_
    show GoW _ _ _ _ _ _ _ (T360.setTop (mkF m 382 #[.val (.int qs), .val (.int qp), .val (.int (3 : Int32)), .val (.int (2 : Int32)), .val (.ref b1), .val (.ref b8), .val (.ref b32), .val (.ref b58), .val (.ref b58), .val (.int (2 : Int32)), .val (.ref b8), .val (.ref b32), .val (.ref b32), .val (.int (1 : Int32))] [(.ref b58), (.ref b1)]))
    obtain ⟨cq361, kq361, q361a, q361b, q361c⟩ := isOf hZ e360 c343_0
    obtain ⟨_, _, ⟨T361, L361, k361, n361⟩, -, X361, ⟨Lc361, hQ361, l361, y361, z361⟩, st361⟩ := X360.virtualBack hx (y := (⟨"com/example/steward/steward/runtime/Group", "add", "(Lcom/example/steward/steward/runtime/Agent;)V"⟩ : MethodName)) (z := (⟨"com/example/steward/steward/runtime/Group", "add", "(Lcom/example/steward/steward/runtime/Agent;)V"⟩ : MethodName)) hown (mvT hZ (hw _ (List.mem_of_getElem? (i := 49) rfl))) (mvT hZ (hw _ (List.mem_of_getElem? (i := 50) rfl))) (notFace_of_selects (args := #[]) (mvT hZ (hw _ (List.mem_of_getElem? (i := 52) rfl)))) (mvT hZ (hw _ (List.mem_of_getElem? (i := 52) rfl))) (mvT hZ (hw _ (List.mem_of_getElem? (i := 51) rfl))) (by decide) (backOf (W := 0) (rmadd1 l Z aZ hw [] b1 b58 Value.null Value.null Value.null (Value.ref b8) b32 Value.null (Value.ref b1) (Value.ref b8) T343.heap n0 z344 c343_0 c343_1 c343_2 c343_3 c343_4 c343_9 c343_10 c343_5 c343_6 c343_7 c343_8 (Ne.symm ne63) gn1 gn58 gn32) hZ (hw _ (List.mem_of_getElem? (i := 53) rfl)) (hw _ (List.mem_of_getElem? (i := 3) rfl)) (by decide) (by decide)) q361a q361c (g := (mkF m 382 #[.val (.int qs), .val (.int qp), .val (.int (3 : Int32)), .val (.int (2 : Int32)), .val (.ref b1), .val (.ref b8), .val (.ref b32), .val (.ref b58), .val (.ref b58), .val (.int (2 : Int32)), .val (.ref b8), .val (.ref b32), .val (.ref b32), .val (.int (1 : Int32))] [(.ref b58), (.ref b1)])) rfl (by rw [hml]; rfl) (Steps.refl _) (argsL := [(.ref b58)]) (rest := []) (lenOf pd_3 rfl) rfl (by show 2 * 0 + _ ≤ _; exact Nat.le_of_eq rfl) (hb hby at_382) (fun _ _ => ⟨rfl, e360, (by decide : 16 + 0 ≤ _), (by decide : 74 + 0 ≤ _)⟩)
    dsimp only [Pt.U, Pt.locs, Pt.cells, Pt.slots] at X361 l361 y361 z361 st361 hQ361
    subst l361 y361 z361
    obtain ⟨rfl, Nq361, K361, c361_0, c361_1, c361_2, c361_3, c361_4, c361_5, c361_6, c361_7, c361_8, c361_9, c361_10⟩ := hQ361
    have N361 := Fr.app N351 Nq361
    refine GoW.tr st361 ?_
    have z362 : n0 ≤ T361.heap.size := Nat.le_trans z344 K361.1
    have sqz362 : h0.size ≤ T361.heap.size := Nat.le_trans sqz344 K361.1
    have hk364 := Nat.le_trans hk346 K361.1
    show GoW _ _ _ _ _ _ _ (T361.setTop (mkF m 385 #[.val (.int qs), .val (.int qp), .val (.int (3 : Int32)), .val (.int (2 : Int32)), .val (.ref b1), .val (.ref b8), .val (.ref b32), .val (.ref b58), .val (.ref b58), .val (.int (2 : Int32)), .val (.ref b8), .val (.ref b32), .val (.ref b32), .val (.int (1 : Int32))] []))
    refine GoW.step (fun _ k => XS.iload X361.here hx rfl (hb hby at_385) rfl  k) ?_
    show GoW _ _ _ _ _ _ _ (T361.setTop (mkF m 387 #[.val (.int qs), .val (.int qp), .val (.int (3 : Int32)), .val (.int (2 : Int32)), .val (.ref b1), .val (.ref b8), .val (.ref b32), .val (.ref b58), .val (.ref b58), .val (.int (2 : Int32)), .val (.ref b8), .val (.ref b32), .val (.ref b32), .val (.int (1 : Int32))] [(.int (1 : Int32))]))
    have hc387 : ¬ ((1 : Int32) = (0 : Int32)) := hc299
    refine GoW.step (fun _ k => XS.ifNo X361.here hx rfl (hb hby at_387) rfl ((if0 _ _).trans (feq hc387).1) k) ?_
    show GoW _ _ _ _ _ _ _ (T361.setTop (mkF m 390 #[.val (.int qs), .val (.int qp), .val (.int (3 : Int32)), .val (.int (2 : Int32)), .val (.ref b1), .val (.ref b8), .val (.ref b32), .val (.ref b58), .val (.ref b58), .val (.int (2 : Int32)), .val (.ref b8), .val (.ref b32), .val (.ref b32), .val (.int (1 : Int32))] []))
    refine GoW.step (fun _ k => XS.aload X361.here hx rfl (hb hby at_390) rfl rfl  k) ?_
    show GoW _ _ _ _ _ _ _ (T361.setTop (mkF m 392 #[.val (.int qs), .val (.int qp), .val (.int (3 : Int32)), .val (.int (2 : Int32)), .val (.ref b1), .val (.ref b8), .val (.ref b32), .val (.ref b58), .val (.ref b58), .val (.int (2 : Int32)), .val (.ref b8), .val (.ref b32), .val (.ref b32), .val (.int (1 : Int32))] [(.ref b58)]))
    obtain ⟨T365, X365, e365, st365⟩ := getF X361 hx hZ hown (host := "") (Or.inl (hw _ (List.mem_of_getElem? (i := 70) rfl))) Via.refl rfl c361_4 (g := (mkF m 392 #[.val (.int qs), .val (.int qp), .val (.int (3 : Int32)), .val (.int (2 : Int32)), .val (.ref b1), .val (.ref b8), .val (.ref b32), .val (.ref b58), .val (.ref b58), .val (.int (2 : Int32)), .val (.ref b8), .val (.ref b32), .val (.ref b32), .val (.int (1 : Int32))] [(.ref b58)])) rfl rfl (hb hby at_392)
    refine GoW.step st365 ?_
    show GoW _ _ _ _ _ _ _ (T365.setTop (mkF m 395 #[.val (.int qs), .val (.int qp), .val (.int (3 : Int32)), .val (.int (2 : Int32)), .val (.ref b1), .val (.ref b8), .val (.ref b32), .val (.ref b58), .val (.ref b58), .val (.int (2 : Int32)), .val (.ref b8), .val (.ref b32), .val (.ref b32), .val (.int (1 : Int32))] [(.ref b32)]))
    refine GoW.step (fun _ k => XS.aload X365.here hx rfl (hb hby at_395) rfl rfl  k) ?_
    show GoW _ _ _ _ _ _ _ (T365.setTop (mkF m 397 #[.val (.int qs), .val (.int qp), .val (.int (3 : Int32)), .val (.int (2 : Int32)), .val (.ref b1), .val (.ref b8), .val (.ref b32), .val (.ref b58), .val (.ref b58), .val (.int (2 : Int32)), .val (.ref b8), .val (.ref b32), .val (.ref b32), .val (.int (1 : Int32))] [(.ref b32), (.ref b32)]))
    refine GoW.step (fun _ k => Jvm.RoadKit.acmp (g := (mkF m 397 #[.val (.int qs), .val (.int qp), .val (.int (3 : Int32)), .val (.int (2 : Int32)), .val (.ref b1), .val (.ref b8), .val (.ref b32), .val (.ref b58), .val (.ref b58), .val (.int (2 : Int32)), .val (.ref b8), .val (.ref b32), .val (.ref b32), .val (.int (1 : Int32))] [(.ref b32), (.ref b32)])) X365 hx rfl rfl rfl (pc0 := 397) (pc' := 400) (same := true) rfl (hb hby at_397) rfl (decide_eq_true rfl) (by decide) (by decide) k) ?_
    show GoW _ _ _ _ _ _ _ (T365.setTop (mkF m 400 #[.val (.int qs), .val (.int qp), .val (.int (3 : Int32)), .val (.int (2 : Int32)), .val (.ref b1), .val (.ref b8), .val (.ref b32), .val (.ref b58), .val (.ref b58), .val (.int (2 : Int32)), .val (.ref b8), .val (.ref b32), .val (.ref b32), .val (.int (1 : Int32))] []))
    refine GoW.step (fun _ k => XS.aload X365.here hx rfl (hb hby at_400) rfl rfl  k) ?_
    show GoW _ _ _ _ _ _ _ (T365.setTop (mkF m 402 #[.val (.int qs), .val (.int qp), .val (.int (3 : Int32)), .val (.int (2 : Int32)), .val (.ref b1), .val (.ref b8), .val (.ref b32), .val (.ref b58), .val (.ref b58), .val (.int (2 : Int32)), .val (.ref b8), .val (.ref b32), .val (.ref b32), .val (.int (1 : Int32))] [(.ref b58)]))
    obtain ⟨T366, X366, e366, st366⟩ := getF X365 hx hZ hown (host := "") (Or.inl (hw _ (List.mem_of_getElem? (i := 71) rfl))) Via.refl e365 c361_5 (g := (mkF m 402 #[.val (.int qs), .val (.int qp), .val (.int (3 : Int32)), .val (.int (2 : Int32)), .val (.ref b1), .val (.ref b8), .val (.ref b32), .val (.ref b58), .val (.ref b58), .val (.int (2 : Int32)), .val (.ref b8), .val (.ref b32), .val (.ref b32), .val (.int (1 : Int32))] [(.ref b58)])) rfl rfl (hb hby at_402)
    refine GoW.step st366 ?_
    show GoW _ _ _ _ _ _ _ (T366.setTop (mkF m 405 #[.val (.int qs), .val (.int qp), .val (.int (3 : Int32)), .val (.int (2 : Int32)), .val (.ref b1), .val (.ref b8), .val (.ref b32), .val (.ref b58), .val (.ref b58), .val (.int (2 : Int32)), .val (.ref b8), .val (.ref b32), .val (.ref b32), .val (.int (1 : Int32))] [.null]))
    refine GoW.step (fun _ k => XS.ifnonnullNo X366.here hx rfl (hb hby at_405) rfl k) ?_
    show GoW _ _ _ _ _ _ _ (T366.setTop (mkF m 408 #[.val (.int qs), .val (.int qp), .val (.int (3 : Int32)), .val (.int (2 : Int32)), .val (.ref b1), .val (.ref b8), .val (.ref b32), .val (.ref b58), .val (.ref b58), .val (.int (2 : Int32)), .val (.ref b8), .val (.ref b32), .val (.ref b32), .val (.int (1 : Int32))] []))
    refine GoW.step (fun _ k => XS.iconst X366.here hx rfl (hb hby at_408) k) ?_
    show GoW _ _ _ _ _ _ _ (T366.setTop (mkF m 409 #[.val (.int qs), .val (.int qp), .val (.int (3 : Int32)), .val (.int (2 : Int32)), .val (.ref b1), .val (.ref b8), .val (.ref b32), .val (.ref b58), .val (.ref b58), .val (.int (2 : Int32)), .val (.ref b8), .val (.ref b32), .val (.ref b32), .val (.int (1 : Int32))] [(.int (1 : Int32))]))
    refine GoW.step (fun _ k => XS.goto X366.here hx rfl (pc0 := 409) (pc' := 413) rfl (hb hby at_409) (by decide) (by decide) k) ?_
    show GoW _ _ _ _ _ _ _ (T366.setTop (mkF m 413 #[.val (.int qs), .val (.int qp), .val (.int (3 : Int32)), .val (.int (2 : Int32)), .val (.ref b1), .val (.ref b8), .val (.ref b32), .val (.ref b58), .val (.ref b58), .val (.int (2 : Int32)), .val (.ref b8), .val (.ref b32), .val (.ref b32), .val (.int (1 : Int32))] [(.int (1 : Int32))]))
    refine GoW.step (fun _ k => XS.istore X366.here hx rfl (hb hby at_413) rfl (l' := #[.val (.int qs), .val (.int qp), .val (.int (3 : Int32)), .val (.int (2 : Int32)), .val (.ref b1), .val (.ref b8), .val (.ref b32), .val (.ref b58), .val (.ref b58), .val (.int (2 : Int32)), .val (.ref b8), .val (.ref b32), .val (.ref b32), .val (.int (1 : Int32))]) rfl k) ?_
    show GoW _ _ _ _ _ _ _ (T366.setTop (mkF m 415 #[.val (.int qs), .val (.int qp), .val (.int (3 : Int32)), .val (.int (2 : Int32)), .val (.ref b1), .val (.ref b8), .val (.ref b32), .val (.ref b58), .val (.ref b58), .val (.int (2 : Int32)), .val (.ref b8), .val (.ref b32), .val (.ref b32), .val (.int (1 : Int32))] []))
    refine GoW.step (fun _ k => XS.aload X366.here hx rfl (hb hby at_415) rfl rfl  k) ?_
    show GoW _ _ _ _ _ _ _ (T366.setTop (mkF m 417 #[.val (.int qs), .val (.int qp), .val (.int (3 : Int32)), .val (.int (2 : Int32)), .val (.ref b1), .val (.ref b8), .val (.ref b32), .val (.ref b58), .val (.ref b58), .val (.int (2 : Int32)), .val (.ref b8), .val (.ref b32), .val (.ref b32), .val (.int (1 : Int32))] [(.ref b32)]))
    refine GoW.step (fun _ k => XS.ifnullNo X366.here hx rfl (hb hby at_417) rfl k) ?_
    show GoW _ _ _ _ _ _ _ (T366.setTop (mkF m 420 #[.val (.int qs), .val (.int qp), .val (.int (3 : Int32)), .val (.int (2 : Int32)), .val (.ref b1), .val (.ref b8), .val (.ref b32), .val (.ref b58), .val (.ref b58), .val (.int (2 : Int32)), .val (.ref b8), .val (.ref b32), .val (.ref b32), .val (.int (1 : Int32))] []))
    refine GoW.step (fun _ k => XS.iload X366.here hx rfl (hb hby at_420) rfl  k) ?_
    show GoW _ _ _ _ _ _ _ (T366.setTop (mkF m 422 #[.val (.int qs), .val (.int qp), .val (.int (3 : Int32)), .val (.int (2 : Int32)), .val (.ref b1), .val (.ref b8), .val (.ref b32), .val (.ref b58), .val (.ref b58), .val (.int (2 : Int32)), .val (.ref b8), .val (.ref b32), .val (.ref b32), .val (.int (1 : Int32))] [(.int (1 : Int32))]))
    have hc422 : ¬ ((1 : Int32) = (0 : Int32)) := hc387
    refine GoW.step (fun _ k => XS.ifNo X366.here hx rfl (hb hby at_422) rfl ((if0 _ _).trans (feq hc422).1) k) ?_
    show GoW _ _ _ _ _ _ _ (T366.setTop (mkF m 425 #[.val (.int qs), .val (.int qp), .val (.int (3 : Int32)), .val (.int (2 : Int32)), .val (.ref b1), .val (.ref b8), .val (.ref b32), .val (.ref b58), .val (.ref b58), .val (.int (2 : Int32)), .val (.ref b8), .val (.ref b32), .val (.ref b32), .val (.int (1 : Int32))] []))
    refine GoW.step (fun _ k => XS.aload X366.here hx rfl (hb hby at_425) rfl rfl  k) ?_
    show GoW _ _ _ _ _ _ _ (T366.setTop (mkF m 427 #[.val (.int qs), .val (.int qp), .val (.int (3 : Int32)), .val (.int (2 : Int32)), .val (.ref b1), .val (.ref b8), .val (.ref b32), .val (.ref b58), .val (.ref b58), .val (.int (2 : Int32)), .val (.ref b8), .val (.ref b32), .val (.ref b32), .val (.int (1 : Int32))] [(.ref b32)]))
    obtain ⟨T367, X367, e367, st367⟩ := getF X366 hx hZ hown (host := "") (Or.inl (hw _ (List.mem_of_getElem? (i := 71) rfl))) Via.refl e366 c361_6 (g := (mkF m 427 #[.val (.int qs), .val (.int qp), .val (.int (3 : Int32)), .val (.int (2 : Int32)), .val (.ref b1), .val (.ref b8), .val (.ref b32), .val (.ref b58), .val (.ref b58), .val (.int (2 : Int32)), .val (.ref b8), .val (.ref b32), .val (.ref b32), .val (.int (1 : Int32))] [(.ref b32)])) rfl rfl (hb hby at_427)
    refine GoW.step st367 ?_
    show GoW _ _ _ _ _ _ _ (T367.setTop (mkF m 430 #[.val (.int qs), .val (.int qp), .val (.int (3 : Int32)), .val (.int (2 : Int32)), .val (.ref b1), .val (.ref b8), .val (.ref b32), .val (.ref b58), .val (.ref b58), .val (.int (2 : Int32)), .val (.ref b8), .val (.ref b32), .val (.ref b32), .val (.int (1 : Int32))] [(.ref b58)]))
    refine GoW.step (fun _ k => XS.aload X367.here hx rfl (hb hby at_430) rfl rfl  k) ?_
    show GoW _ _ _ _ _ _ _ (T367.setTop (mkF m 432 #[.val (.int qs), .val (.int qp), .val (.int (3 : Int32)), .val (.int (2 : Int32)), .val (.ref b1), .val (.ref b8), .val (.ref b32), .val (.ref b58), .val (.ref b58), .val (.int (2 : Int32)), .val (.ref b8), .val (.ref b32), .val (.ref b32), .val (.int (1 : Int32))] [(.ref b58), (.ref b58)]))
    refine GoW.step (fun _ k => Jvm.RoadKit.acmp (g := (mkF m 432 #[.val (.int qs), .val (.int qp), .val (.int (3 : Int32)), .val (.int (2 : Int32)), .val (.ref b1), .val (.ref b8), .val (.ref b32), .val (.ref b58), .val (.ref b58), .val (.int (2 : Int32)), .val (.ref b8), .val (.ref b32), .val (.ref b32), .val (.int (1 : Int32))] [(.ref b58), (.ref b58)])) X367 hx rfl rfl rfl (pc0 := 432) (pc' := 435) (same := true) rfl (hb hby at_432) rfl (decide_eq_true rfl) (by decide) (by decide) k) ?_
    show GoW _ _ _ _ _ _ _ (T367.setTop (mkF m 435 #[.val (.int qs), .val (.int qp), .val (.int (3 : Int32)), .val (.int (2 : Int32)), .val (.ref b1), .val (.ref b8), .val (.ref b32), .val (.ref b58), .val (.ref b58), .val (.int (2 : Int32)), .val (.ref b8), .val (.ref b32), .val (.ref b32), .val (.int (1 : Int32))] []))
    refine GoW.step (fun _ k => XS.iconst X367.here hx rfl (hb hby at_435) k) ?_
    show GoW _ _ _ _ _ _ _ (T367.setTop (mkF m 436 #[.val (.int qs), .val (.int qp), .val (.int (3 : Int32)), .val (.int (2 : Int32)), .val (.ref b1), .val (.ref b8), .val (.ref b32), .val (.ref b58), .val (.ref b58), .val (.int (2 : Int32)), .val (.ref b8), .val (.ref b32), .val (.ref b32), .val (.int (1 : Int32))] [(.int (1 : Int32))]))
    refine GoW.step (fun _ k => XS.goto X367.here hx rfl (pc0 := 436) (pc' := 440) rfl (hb hby at_436) (by decide) (by decide) k) ?_
    show GoW _ _ _ _ _ _ _ (T367.setTop (mkF m 440 #[.val (.int qs), .val (.int qp), .val (.int (3 : Int32)), .val (.int (2 : Int32)), .val (.ref b1), .val (.ref b8), .val (.ref b32), .val (.ref b58), .val (.ref b58), .val (.int (2 : Int32)), .val (.ref b8), .val (.ref b32), .val (.ref b32), .val (.int (1 : Int32))] [(.int (1 : Int32))]))
    refine GoW.step (fun _ k => XS.istore X367.here hx rfl (hb hby at_440) rfl (l' := #[.val (.int qs), .val (.int qp), .val (.int (3 : Int32)), .val (.int (2 : Int32)), .val (.ref b1), .val (.ref b8), .val (.ref b32), .val (.ref b58), .val (.ref b58), .val (.int (2 : Int32)), .val (.ref b8), .val (.ref b32), .val (.ref b32), .val (.int (1 : Int32))]) rfl k) ?_
    show GoW _ _ _ _ _ _ _ (T367.setTop (mkF m 442 #[.val (.int qs), .val (.int qp), .val (.int (3 : Int32)), .val (.int (2 : Int32)), .val (.ref b1), .val (.ref b8), .val (.ref b32), .val (.ref b58), .val (.ref b58), .val (.int (2 : Int32)), .val (.ref b8), .val (.ref b32), .val (.ref b32), .val (.int (1 : Int32))] []))
    refine GoW.step (fun _ k => XS.iload X367.here hx rfl (hb hby at_442) rfl  k) ?_
    show GoW _ _ _ _ _ _ _ (T367.setTop (mkF m 444 #[.val (.int qs), .val (.int qp), .val (.int (3 : Int32)), .val (.int (2 : Int32)), .val (.ref b1), .val (.ref b8), .val (.ref b32), .val (.ref b58), .val (.ref b58), .val (.int (2 : Int32)), .val (.ref b8), .val (.ref b32), .val (.ref b32), .val (.int (1 : Int32))] [(.int (1 : Int32))]))
    refine GoW.retN X367 hS72 (by rw [e367]; exact hk364) hx (t := .boolean) Bd.returns (by simp) hlk (hb hby at_444) ?_ (by decide) (by decide)
    rw [e367]
    exact ⟨(by first | rfl | (simp_all [own_nb1, own_nb0]; done)), N361⟩
set_option maxRecDepth 65536 in
set_option maxHeartbeats 40000000 in
theorem comes_1 {Post : Tables → Env → Array Value → State → Outcome → State → Prop} (hpost : ∀ tb e args s v u, (limb_1_1.after args s (.returned v) u = true ∧ limb_1_2.after args s (.returned v) u = true ∧ True) → ReturnedEndW s (.returned v) u (Jvm.fieldLocs frame_1_writes args s ++ Jvm.arrayLocs frame_1_arrays args s ++ Jvm.staticLocs frame_1_statics s) 40 3264 → Post tb e args s (.returned v) u) :
    ArmFor flags0 classFile x code maxLocals ret World_1 tables_1 room_1 Calls_1 rest_1 Pre_1 Post := by
  intro l hfl _ _ p e ha hc hk s m args below hf hA hF happ hP
  obtain ⟨hcalls, hrest, hpre⟩ := hP
  obtain ⟨-, -, -, hnamed, -, -, -, hat⟩ := (Spec.applies_iff hf).mp happ
  obtain ⟨hg, hn⟩ := and_e (Cond.before_iff.mp (show (Jvm.Cond.and given_1 narrow_1).before args s = true from hpre))
  obtain ⟨g0, r0⟩ := and_e hg
  obtain ⟨a0, r1⟩ := and_e r0
  have a1 := r1
  obtain ⟨w0, w1, rfl⟩ : ∃ w0 w1 : Value, args = #[w0, w1] := by
    have hs : args.size = 2 := by simpa [Cond.value, given_1] using g0
    obtain ⟨L⟩ := args
    match L, hs with
    | [w0, w1], _ => exact ⟨w0, w1, rfl⟩
  have hw := fun d (hd : d ∈ tables_1) => atoms_spec (ws := Jvm.Cond.code x code maxLocals ret :: tables_1) hat d (List.mem_cons_of_mem _ hd)
  have hfit : Fit s := fun {y c} hc i hi => by
    obtain ⟨ha, rfl⟩ := Array.getElem?_eq_some_iff.mp hc
    have q := List.all_eq_true.mp ((Array.all_eq_true_iff_forall_mem.mp hF) _ (Array.getElem_mem ha)) i (List.mem_range.mpr hi)
    simpa [Array.getElem?_eq_getElem hi] using q
  obtain ⟨i0, ei0⟩ := is_v a0
  obtain rfl : w0 = (.int i0) := Option.some.inj ei0
  obtain ⟨i1, ei1⟩ := is_v a1
  obtain rfl : w1 = (.int i1) := Option.some.inj ei1
  obtain ⟨n, o, h1, h2, h3, _, L, rfl, ⟨rfl, N⟩, hq⟩ := rm0 l s _ hw tables_1 i0 i1  s.heap s.heap.size (Nat.le_refl _)  p e ha hc hk s m _ below hf ((Spec.applies_iff_loose hf).mp happ).1 ⟨rfl, State.Warmed39.refl s, rfl⟩ trivial
  refine ⟨n, _, h1, h2, h3, hpost _ _ _ _ _ _ ⟨Cond.after_iff.mpr rfl, Cond.after_iff.mpr (eq_i res_at (Term.int_eval (1)) rfl), trivial⟩ ⟨hq.1, hq.2.1, hq.2.2.1, (hq.2.2.2.sift fun y hy => Or.inr (N y hy)).mono (by decide) (by decide)⟩⟩
theorem main_1_1 : Claimed_1_1 := comes_1 fun _ _ _ _ _ _ h hF => ⟨h.1, hF⟩
theorem main_1_2 : Claimed_1_2 := comes_1 fun _ _ _ _ _ _ h hF => ⟨h.2.1, hF⟩
end Jvm.Pilot.@@N@@
namespace Jvm.Pilot.@@N@@
open Jvm Jvm.ClassFile Sem Op Lib Jvm.Free Jvm.Stand Jvm.Pilot.@@N@@.Jvm.D
/-! MADE BY PROGRAM (witnessworld.py) out of the Statement's table words and the real class files: 23 classes; the members and pool entries that the words name. The judged class is class 1, her method 1. -/
namespace start1
open Jvm.ClassFile
def u (s : String) : CpInfo := .utf8 (stringToUtf16 s)
/-- a pool by its gaps: so many unusable entries, then the entry; so many at the end -/
def gap : Nat → List CpInfo → List CpInfo
  | 0, r => r
  | n + 1, r => .unusable :: gap n r
def poolList (es : List (Nat × CpInfo)) (last : Nat) : List CpInfo := es.foldr (fun e r => gap e.1 (e.2 :: r)) (gap last [])
def pool (es : List (Nat × CpInfo)) (last : Nat) : Array CpInfo := ⟨poolList es last⟩
def fileOf (pool : Array CpInfo) (this : Nat) (attrs : Array Attribute := #[]) (ms : Array MethodInfo := #[]) (fl : Nat := 33) (sup : Nat := 0) (ifs : Array Nat := #[]) (fds : Array FieldInfo := #[]) : ClassFile where
  minorVersion := 0
  majorVersion := 65
  constantPool := pool
  accessFlags := fl
  thisClass := this
  superClass := sup
  interfaces := ifs
  fields := fds
  methods := ms
  attributes := attrs
def plain (name : String) (sup : Option ClassId) : Class where
  name := name
  kind := .ordinary
  loader := none
  accessFlags := 33
  super := sup
  interfaces := #[]
  cf := none
  fields := #[]
  methods := #[]
  instanceTypes := #[]
  staticTypes := #[]
  resolved := #[]
  callSites := []
  init := .initialized
  statics := none
  mirror := none

def pool0 : Array CpInfo := pool [(5, u "<init>"), (0, u "()V"), (1, .class_ 10), (1, u "java/lang/Object")] 113

def k0c0 : Code := { maxStack := 0, maxLocals := 1, code := object_method_1_code, exceptionTable := #[], attributes := #[] }
def k0m0 : Method := { name := "<init>", desc := "()V", sig := { parameters := [], returnType := none }, accessFlags := 1, code := some k0c0 }
/-- java/lang/Object -/
def k0 : Class := { plain "java/lang/Object" none with
  accessFlags := 33
  interfaces := #[]
  cf := some (fileOf pool0 8 #[] #[{ accessFlags := 1, nameIndex := 5, descriptorIndex := 6, attributes := #[] }] 33 0 #[] #[])
  fields := #[]
  methods := #[k0m0]
  instanceTypes := #[]
  staticTypes := #[]
  resolved := Array.replicate 124 none
  statics := none }

def pool1 : Array CpInfo := pool [(2, .class_ 4), (0, .nameAndType 5 6), (0, u "java/lang/Object"), (0, u "<init>"), (0, u "()V"), (0, .integer 2147483647), (0, .class_ 9), (0, u "com/example/steward/steward/runtime/Group"), (0, .methodref 8 3), (0, .class_ 12), (0, u "com/example/steward/steward/runtime/Agent"), (0, .string 14), (0, u "a"), (0, .methodref 11 16), (0, .nameAndType 5 17), (0, u "(Ljava/lang/String;)V"), (0, .string 19), (0, u "b"), (0, .string 21), (0, u "c"), (0, .methodref 8 23), (0, .nameAndType 24 25), (0, u "add"), (0, u "(Lcom/example/steward/steward/runtime/Agent;)V"), (0, .methodref 8 27), (0, .nameAndType 28 25), (0, u "remove"), (0, .fieldref 11 30), (0, .nameAndType 31 32), (0, u "group"), (0, u "Lcom/example/steward/steward/runtime/Group;"), (0, .fieldref 11 34), (0, .nameAndType 35 36), (0, u "ahead"), (0, u "Lcom/example/steward/steward/runtime/Agent;"), (0, .fieldref 11 38), (0, .nameAndType 39 36), (0, u "behind"), (0, .methodref 8 41), (0, .nameAndType 42 43), (0, u "first"), (0, u "()Lcom/example/steward/steward/runtime/Agent;"), (0, .class_ 45), (0, u "com/example/steward/steward/runtime/GroupRemovePinLaw"), (2, u "law"), (0, u "(II)Z")] 3

def k1m0 : Method := { name := "<init>", desc := "()V", sig := { parameters := [], returnType := none }, accessFlags := 1, code := none }
def k1c1 : Code := { maxStack := 3, maxLocals := 14, code := code, exceptionTable := #[], attributes := #[] }
def k1m1 : Method := { name := "law", desc := "(II)Z", sig := { parameters := [.int, .int], returnType := some .boolean }, accessFlags := 9, code := some k1c1 }
/-- com/example/steward/steward/runtime/GroupRemovePinLaw -/
def k1 : Class := { plain "com/example/steward/steward/runtime/GroupRemovePinLaw" (some 0) with
  accessFlags := 49
  interfaces := #[]
  cf := some (fileOf pool1 44 #[] #[{ accessFlags := 1, nameIndex := 5, descriptorIndex := 6, attributes := #[] }, { accessFlags := 9, nameIndex := 48, descriptorIndex := 49, attributes := #[] }] 49 2 #[] #[])
  fields := #[]
  methods := #[k1m0, k1m1]
  instanceTypes := #[]
  staticTypes := #[]
  resolved := Array.replicate 53 none
  statics := none }

def pool2 : Array CpInfo := pool [(1, .methodref 2 3), (0, .class_ 4), (0, .nameAndType 5 6), (0, u "java/lang/Object"), (0, u "<init>"), (0, u "()V"), (0, .fieldref 8 9), (0, .class_ 10), (0, .nameAndType 11 12), (0, u "com/example/steward/steward/runtime/Group"), (0, u "first"), (0, u "Lcom/example/steward/steward/runtime/Agent;"), (0, .fieldref 14 15), (0, .class_ 16), (0, .nameAndType 17 18), (0, u "com/example/steward/steward/runtime/Agent"), (0, u "group"), (0, u "Lcom/example/steward/steward/runtime/Group;"), (0, .fieldref 8 20), (0, .nameAndType 21 12), (0, u "last"), (0, .fieldref 14 23), (0, .nameAndType 24 12), (0, u "ahead"), (0, .fieldref 14 26), (0, .nameAndType 27 12), (0, u "behind"), (2, u "remove"), (0, u "(Lcom/example/steward/steward/runtime/Agent;)V"), (7, u "()Lcom/example/steward/steward/runtime/Agent;"), (1, u "add")] 6

def k2c0 : Code := { maxStack := 1, maxLocals := 1, code := prog_44_method_1_code, exceptionTable := #[], attributes := #[] }
def k2m0 : Method := { name := "<init>", desc := "()V", sig := { parameters := [], returnType := none }, accessFlags := 0, code := some k2c0 }
def k2c1 : Code := { maxStack := 1, maxLocals := 1, code := prog_44_method_3_code, exceptionTable := #[], attributes := #[] }
def k2m1 : Method := { name := "first", desc := "()Lcom/example/steward/steward/runtime/Agent;", sig := { parameters := [], returnType := some (.object "com/example/steward/steward/runtime/Agent") }, accessFlags := 0, code := some k2c1 }
def k2c2 : Code := { maxStack := 2, maxLocals := 2, code := prog_44_method_4_code, exceptionTable := #[], attributes := #[] }
def k2m2 : Method := { name := "add", desc := "(Lcom/example/steward/steward/runtime/Agent;)V", sig := { parameters := [(.object "com/example/steward/steward/runtime/Agent")], returnType := none }, accessFlags := 0, code := some k2c2 }
def k2c3 : Code := { maxStack := 2, maxLocals := 2, code := prog_44_method_5_code, exceptionTable := #[], attributes := #[] }
def k2m3 : Method := { name := "remove", desc := "(Lcom/example/steward/steward/runtime/Agent;)V", sig := { parameters := [(.object "com/example/steward/steward/runtime/Agent")], returnType := none }, accessFlags := 0, code := some k2c3 }
/-- com/example/steward/steward/runtime/Group -/
def k2 : Class := { plain "com/example/steward/steward/runtime/Group" (some 0) with
  accessFlags := 48
  interfaces := #[]
  cf := some (fileOf pool2 8 #[] #[{ accessFlags := 0, nameIndex := 5, descriptorIndex := 6, attributes := #[] }, { accessFlags := 0, nameIndex := 11, descriptorIndex := 39, attributes := #[] }, { accessFlags := 0, nameIndex := 41, descriptorIndex := 31, attributes := #[] }, { accessFlags := 0, nameIndex := 30, descriptorIndex := 31, attributes := #[] }] 48 2 #[] #[{ accessFlags := 2, nameIndex := 11, descriptorIndex := 12, attributes := #[] }, { accessFlags := 2, nameIndex := 21, descriptorIndex := 12, attributes := #[] }])
  fields := #[{ name := "first", type := (.object "com/example/steward/steward/runtime/Agent"), accessFlags := 2, slot := 0, constantValue := 0 }, { name := "last", type := (.object "com/example/steward/steward/runtime/Agent"), accessFlags := 2, slot := 1, constantValue := 0 }]
  methods := #[k2m0, k2m1, k2m2, k2m3]
  instanceTypes := #[(.object "com/example/steward/steward/runtime/Agent"), (.object "com/example/steward/steward/runtime/Agent")]
  staticTypes := #[]
  resolved := Array.replicate 48 none
  statics := none }

def pool3 : Array CpInfo := pool [(1, .methodref 2 3), (0, .class_ 4), (0, .nameAndType 5 6), (0, u "java/lang/Object"), (0, u "<init>"), (0, u "()V"), (0, .class_ 8), (0, u "java/util/ArrayDeque"), (0, .methodref 7 10), (0, .nameAndType 5 11), (0, u "(I)V"), (0, .fieldref 13 14), (0, .class_ 15), (0, .nameAndType 16 17), (0, u "com/example/steward/steward/runtime/Agent"), (0, u "normal"), (0, u "Ljava/util/ArrayDeque;"), (0, .fieldref 13 19), (0, .nameAndType 20 21), (0, u "key"), (0, u "Ljava/lang/String;"), (12, u "highest"), (11, u "state"), (0, u "Ljava/lang/Object;"), (2, u "inCache"), (0, u "Z"), (0, u "running"), (1, u "group"), (0, u "Lcom/example/steward/steward/runtime/Group;"), (1, u "ahead"), (0, u "Lcom/example/steward/steward/runtime/Agent;"), (1, u "behind"), (0, u "entered"), (0, u "J"), (0, u "streak"), (0, u "I"), (0, u "(Ljava/lang/String;)V")] 10

def k3c0 : Code := { maxStack := 4, maxLocals := 2, code := prog_29_method_1_code, exceptionTable := #[], attributes := #[] }
def k3m0 : Method := { name := "<init>", desc := "(Ljava/lang/String;)V", sig := { parameters := [(.object "java/lang/String")], returnType := none }, accessFlags := 0, code := some k3c0 }
/-- com/example/steward/steward/runtime/Agent -/
def k3 : Class := { plain "com/example/steward/steward/runtime/Agent" (some 0) with
  accessFlags := 48
  interfaces := #[]
  cf := some (fileOf pool3 13 #[] #[{ accessFlags := 0, nameIndex := 5, descriptorIndex := 65, attributes := #[] }] 48 2 #[] #[{ accessFlags := 16, nameIndex := 20, descriptorIndex := 21, attributes := #[] }, { accessFlags := 0, nameIndex := 46, descriptorIndex := 47, attributes := #[] }, { accessFlags := 0, nameIndex := 50, descriptorIndex := 51, attributes := #[] }, { accessFlags := 0, nameIndex := 52, descriptorIndex := 51, attributes := #[] }, { accessFlags := 18, nameIndex := 16, descriptorIndex := 17, attributes := #[] }, { accessFlags := 2, nameIndex := 34, descriptorIndex := 17, attributes := #[] }, { accessFlags := 0, nameIndex := 54, descriptorIndex := 55, attributes := #[] }, { accessFlags := 0, nameIndex := 57, descriptorIndex := 58, attributes := #[] }, { accessFlags := 0, nameIndex := 60, descriptorIndex := 58, attributes := #[] }, { accessFlags := 0, nameIndex := 61, descriptorIndex := 62, attributes := #[] }, { accessFlags := 0, nameIndex := 63, descriptorIndex := 64, attributes := #[] }])
  fields := #[{ name := "key", type := (.object "java/lang/String"), accessFlags := 16, slot := 0, constantValue := 0 }, { name := "state", type := (.object "java/lang/Object"), accessFlags := 0, slot := 1, constantValue := 0 }, { name := "inCache", type := .boolean, accessFlags := 0, slot := 2, constantValue := 0 }, { name := "running", type := .boolean, accessFlags := 0, slot := 3, constantValue := 0 }, { name := "normal", type := (.object "java/util/ArrayDeque"), accessFlags := 18, slot := 4, constantValue := 0 }, { name := "highest", type := (.object "java/util/ArrayDeque"), accessFlags := 2, slot := 5, constantValue := 0 }, { name := "group", type := (.object "com/example/steward/steward/runtime/Group"), accessFlags := 0, slot := 6, constantValue := 0 }, { name := "ahead", type := (.object "com/example/steward/steward/runtime/Agent"), accessFlags := 0, slot := 7, constantValue := 0 }, { name := "behind", type := (.object "com/example/steward/steward/runtime/Agent"), accessFlags := 0, slot := 8, constantValue := 0 }, { name := "entered", type := .long, accessFlags := 0, slot := 9, constantValue := 0 }, { name := "streak", type := .int, accessFlags := 0, slot := 10, constantValue := 0 }]
  methods := #[k3m0]
  instanceTypes := #[(.object "java/lang/String"), (.object "java/lang/Object"), .boolean, .boolean, (.object "java/util/ArrayDeque"), (.object "java/util/ArrayDeque"), (.object "com/example/steward/steward/runtime/Group"), (.object "com/example/steward/steward/runtime/Agent"), (.object "com/example/steward/steward/runtime/Agent"), .long, .int]
  staticTypes := #[]
  resolved := Array.replicate 76 none
  statics := none }

def pool4 : Array CpInfo := pool [(1, .class_ 2), (0, u "java/io/Serializable"), (0, .class_ 4), (0, u "java/lang/Object")] 2

/-- java/io/Serializable -/
def k4 : Class := { plain "java/io/Serializable" (some 0) with
  accessFlags := 1537
  interfaces := #[]
  cf := some (fileOf pool4 1 #[] #[] 1537 3 #[] #[])
  fields := #[]
  methods := #[]
  instanceTypes := #[]
  staticTypes := #[]
  resolved := Array.replicate 7 none
  statics := none }

def pool5 : Array CpInfo := pool [(1, .class_ 2), (0, u "java/lang/Comparable"), (0, .class_ 4), (0, u "java/lang/Object")] 7

/-- java/lang/Comparable -/
def k5 : Class := { plain "java/lang/Comparable" (some 0) with
  accessFlags := 1537
  interfaces := #[]
  cf := some (fileOf pool5 1 #[] #[] 1537 3 #[] #[])
  fields := #[]
  methods := #[]
  instanceTypes := #[]
  staticTypes := #[]
  resolved := Array.replicate 12 none
  statics := none }

def pool6 : Array CpInfo := pool [(2, .class_ 4), (1, u "java/lang/CharSequence"), (42, .class_ 48), (0, u "java/lang/CharSequence$1CodePointIterator"), (10, .class_ 60), (0, u "java/lang/CharSequence$1CharIterator"), (5, .class_ 67), (0, u "java/lang/Object")] 63

/-- java/lang/CharSequence -/
def k6 : Class := { plain "java/lang/CharSequence" (some 0) with
  accessFlags := 1537
  interfaces := #[]
  cf := some (fileOf pool6 2 #[.nestMembers #[47, 59]] #[] 1537 66 #[] #[])
  fields := #[]
  methods := #[]
  instanceTypes := #[]
  staticTypes := #[]
  resolved := Array.replicate 131 none
  statics := none }

def pool7 : Array CpInfo := pool [(1, .class_ 2), (0, u "java/lang/constant/Constable"), (0, .class_ 4), (0, u "java/lang/Object")] 6

/-- java/lang/constant/Constable -/
def k7 : Class := { plain "java/lang/constant/Constable" (some 0) with
  accessFlags := 1537
  interfaces := #[]
  cf := some (fileOf pool7 1 #[] #[] 1537 3 #[] #[])
  fields := #[]
  methods := #[]
  instanceTypes := #[]
  staticTypes := #[]
  resolved := Array.replicate 11 none
  statics := none }

def pool8 : Array CpInfo := pool [(1, .class_ 2), (0, u "java/lang/constant/ConstantDesc"), (0, .class_ 4), (0, u "java/lang/Object")] 32

/-- java/lang/constant/ConstantDesc -/
def k8 : Class := { plain "java/lang/constant/ConstantDesc" (some 0) with
  accessFlags := 1537
  interfaces := #[]
  cf := some (fileOf pool8 1 #[] #[] 1537 3 #[] #[])
  fields := #[]
  methods := #[]
  instanceTypes := #[]
  staticTypes := #[]
  resolved := Array.replicate 37 none
  statics := none }

def pool9 : Array CpInfo := pool [(2, .class_ 4), (1, u "java/lang/Object"), (0, u "<init>"), (0, u "()V"), (3, .class_ 12), (1, u "java/lang/String"), (0, u "value"), (0, u "[B"), (2, u "coder"), (0, u "B"), (2, u "hash"), (0, u "I"), (2, u "hashIsZero"), (0, u "Z"), (13, u "COMPACT_STRINGS"), (534, .class_ 576), (0, u "java/lang/CharSequence"), (22, u "CASE_INSENSITIVE_ORDER"), (0, u "Ljava/util/Comparator;"), (500, u "serialPersistentFields"), (0, u "[Ljava/io/ObjectStreamField;"), (0, .class_ 1104), (0, u "java/lang/String$CaseInsensitiveComparator"), (1, .class_ 1107), (0, u "java/io/Serializable"), (0, .class_ 1109), (0, u "java/lang/Comparable"), (0, .class_ 1111), (0, u "java/lang/constant/Constable"), (0, .class_ 1113), (0, u "java/lang/constant/ConstantDesc"), (2, u "serialVersionUID"), (0, u "J"), (3, u "REPL"), (0, u "C"), (2, u "LATIN1"), (1, u "UTF16")] 323

def k9m0 : Method := { name := "<init>", desc := "()V", sig := { parameters := [], returnType := none }, accessFlags := 1, code := none }
/-- java/lang/String -/
def k9 : Class := { plain "java/lang/String" (some 0) with
  accessFlags := 49
  interfaces := #[4, 5, 6, 7, 8]
  cf := some (fileOf pool9 10 #[.nestMembers #[1103]] #[{ accessFlags := 1, nameIndex := 5, descriptorIndex := 6, attributes := #[] }] 49 2 #[1106, 1108, 575, 1110, 1112] #[{ accessFlags := 18, nameIndex := 13, descriptorIndex := 14, attributes := #[] }, { accessFlags := 18, nameIndex := 17, descriptorIndex := 18, attributes := #[] }, { accessFlags := 2, nameIndex := 21, descriptorIndex := 22, attributes := #[] }, { accessFlags := 2, nameIndex := 25, descriptorIndex := 26, attributes := #[] }, { accessFlags := 26, nameIndex := 1116, descriptorIndex := 1117, attributes := #[] }, { accessFlags := 24, nameIndex := 40, descriptorIndex := 26, attributes := #[] }, { accessFlags := 26, nameIndex := 1101, descriptorIndex := 1102, attributes := #[] }, { accessFlags := 26, nameIndex := 1121, descriptorIndex := 1122, attributes := #[] }, { accessFlags := 25, nameIndex := 599, descriptorIndex := 600, attributes := #[] }, { accessFlags := 24, nameIndex := 1125, descriptorIndex := 18, attributes := #[] }, { accessFlags := 24, nameIndex := 1127, descriptorIndex := 18, attributes := #[] }])
  fields := #[{ name := "value", type := (.array .byte), accessFlags := 18, slot := 0, constantValue := 0 }, { name := "coder", type := .byte, accessFlags := 18, slot := 1, constantValue := 0 }, { name := "hash", type := .int, accessFlags := 2, slot := 2, constantValue := 0 }, { name := "hashIsZero", type := .boolean, accessFlags := 2, slot := 3, constantValue := 0 }, { name := "serialVersionUID", type := .long, accessFlags := 26, slot := 0, constantValue := 0 }, { name := "COMPACT_STRINGS", type := .boolean, accessFlags := 24, slot := 1, constantValue := 0 }, { name := "serialPersistentFields", type := (.array (.object "java/io/ObjectStreamField")), accessFlags := 26, slot := 2, constantValue := 0 }, { name := "REPL", type := .char, accessFlags := 26, slot := 3, constantValue := 0 }, { name := "CASE_INSENSITIVE_ORDER", type := (.object "java/util/Comparator"), accessFlags := 25, slot := 4, constantValue := 0 }, { name := "LATIN1", type := .byte, accessFlags := 24, slot := 5, constantValue := 0 }, { name := "UTF16", type := .byte, accessFlags := 24, slot := 6, constantValue := 0 }]
  methods := #[k9m0]
  instanceTypes := #[(.array .byte), .byte, .int, .boolean]
  staticTypes := #[.long, .boolean, (.array (.object "java/io/ObjectStreamField")), .char, (.object "java/util/Comparator"), .byte, .byte]
  resolved := Array.replicate 1451 none
  statics := none }

def pool10 : Array CpInfo := pool [(8, .class_ 10), (1, u "java/lang/Iterable"), (24, .class_ 36), (0, u "java/lang/Object")] 25

/-- java/lang/Iterable -/
def k10 : Class := { plain "java/lang/Iterable" (some 0) with
  accessFlags := 1537
  interfaces := #[]
  cf := some (fileOf pool10 8 #[] #[] 1537 35 #[] #[])
  fields := #[]
  methods := #[]
  instanceTypes := #[]
  staticTypes := #[]
  resolved := Array.replicate 62 none
  statics := none }

def pool11 : Array CpInfo := pool [(10, .class_ 12), (1, u "java/util/Collection"), (47, .class_ 61), (0, u "java/lang/Object"), (0, .class_ 63), (0, u "java/lang/Iterable")] 51

/-- java/util/Collection -/
def k11 : Class := { plain "java/util/Collection" (some 0) with
  accessFlags := 1537
  interfaces := #[10]
  cf := some (fileOf pool11 10 #[] #[] 1537 60 #[62] #[])
  fields := #[]
  methods := #[]
  instanceTypes := #[]
  staticTypes := #[]
  resolved := Array.replicate 115 none
  statics := none }

def pool12 : Array CpInfo := pool [(1, .methodref 2 3), (0, .class_ 4), (0, .nameAndType 5 6), (0, u "java/lang/Object"), (0, u "<init>"), (0, u "()V"), (1, .class_ 10), (1, u "java/util/AbstractCollection"), (66, .class_ 78), (0, u "java/util/Collection")] 81

def k12c0 : Code := { maxStack := 1, maxLocals := 1, code := jdk_22_method_1_code, exceptionTable := #[], attributes := #[] }
def k12m0 : Method := { name := "<init>", desc := "()V", sig := { parameters := [], returnType := none }, accessFlags := 4, code := some k12c0 }
/-- java/util/AbstractCollection -/
def k12 : Class := { plain "java/util/AbstractCollection" (some 0) with
  accessFlags := 1057
  interfaces := #[11]
  cf := some (fileOf pool12 8 #[] #[{ accessFlags := 4, nameIndex := 5, descriptorIndex := 6, attributes := #[] }] 1057 2 #[77] #[])
  fields := #[]
  methods := #[k12m0]
  instanceTypes := #[]
  staticTypes := #[]
  resolved := Array.replicate 160 none
  statics := none }

def pool13 : Array CpInfo := pool [(1, .class_ 2), (0, u "java/util/Queue"), (0, .class_ 4), (0, u "java/lang/Object"), (0, .class_ 6), (0, u "java/util/Collection")] 14

/-- java/util/Queue -/
def k13 : Class := { plain "java/util/Queue" (some 0) with
  accessFlags := 1537
  interfaces := #[11]
  cf := some (fileOf pool13 1 #[] #[] 1537 3 #[5] #[])
  fields := #[]
  methods := #[]
  instanceTypes := #[]
  staticTypes := #[]
  resolved := Array.replicate 21 none
  statics := none }

def pool14 : Array CpInfo := pool [(8, .class_ 10), (1, u "java/util/SequencedCollection"), (15, .class_ 27), (0, u "java/lang/Object"), (0, .class_ 29), (0, u "java/util/Collection")] 27

/-- java/util/SequencedCollection -/
def k14 : Class := { plain "java/util/SequencedCollection" (some 0) with
  accessFlags := 1537
  interfaces := #[11]
  cf := some (fileOf pool14 8 #[] #[] 1537 26 #[28] #[])
  fields := #[]
  methods := #[]
  instanceTypes := #[]
  staticTypes := #[]
  resolved := Array.replicate 57 none
  statics := none }

def pool15 : Array CpInfo := pool [(8, .class_ 10), (1, u "java/util/Deque"), (2, .class_ 14), (0, u "java/lang/Object"), (0, .class_ 16), (0, u "java/util/Queue"), (0, .class_ 18), (0, u "java/util/SequencedCollection")] 51

/-- java/util/Deque -/
def k15 : Class := { plain "java/util/Deque" (some 0) with
  accessFlags := 1537
  interfaces := #[13, 14]
  cf := some (fileOf pool15 8 #[] #[] 1537 13 #[15, 17] #[])
  fields := #[]
  methods := #[]
  instanceTypes := #[]
  staticTypes := #[]
  resolved := Array.replicate 70 none
  statics := none }

def pool16 : Array CpInfo := pool [(1, .class_ 2), (0, u "java/lang/Cloneable"), (0, .class_ 4), (0, u "java/lang/Object")] 2

/-- java/lang/Cloneable -/
def k16 : Class := { plain "java/lang/Cloneable" (some 0) with
  accessFlags := 1537
  interfaces := #[]
  cf := some (fileOf pool16 1 #[] #[] 1537 3 #[] #[])
  fields := #[]
  methods := #[]
  instanceTypes := #[]
  staticTypes := #[]
  resolved := Array.replicate 7 none
  statics := none }

def pool17 : Array CpInfo := pool [(3, .fieldref 4 5), (0, .class_ 6), (0, .nameAndType 7 8), (0, u "java/util/ArrayDeque"), (0, u "elements"), (0, u "[Ljava/lang/Object;"), (13, u "tail"), (0, u "I"), (2, u "head"), (12, u "<init>"), (1, .integer 2147483647), (0, .methodref 43 44), (0, .class_ 45), (0, .nameAndType 39 46), (0, u "java/util/AbstractCollection"), (0, u "()V"), (0, .class_ 48), (0, u "java/lang/Object"), (8, u "(I)V"), (73, .class_ 132), (0, u "java/util/ArrayDeque$DeqIterator"), (3, .class_ 137), (0, u "java/util/ArrayDeque$DescendingIterator"), (1, .class_ 140), (0, u "java/util/ArrayDeque$DeqSpliterator"), (137, .class_ 279), (0, u "java/util/Deque"), (0, .class_ 281), (0, u "java/lang/Cloneable"), (0, .class_ 283), (0, u "java/io/Serializable"), (0, u "MAX_ARRAY_SIZE"), (1, u "serialVersionUID"), (0, u "J")] 150

def k17m0 : Method := { name := "<init>", desc := "()V", sig := { parameters := [], returnType := none }, accessFlags := 1, code := none }
def k17c1 : Code := { maxStack := 3, maxLocals := 2, code := jdk_21_method_4_code, exceptionTable := #[], attributes := #[] }
def k17m1 : Method := { name := "<init>", desc := "(I)V", sig := { parameters := [.int], returnType := none }, accessFlags := 1, code := some k17c1 }
/-- java/util/ArrayDeque -/
def k17 : Class := { plain "java/util/ArrayDeque" (some 12) with
  accessFlags := 33
  interfaces := #[15, 16, 4]
  cf := some (fileOf pool17 4 #[.nestMembers #[139, 136, 131]] #[{ accessFlags := 1, nameIndex := 39, descriptorIndex := 46, attributes := #[] }, { accessFlags := 1, nameIndex := 39, descriptorIndex := 57, attributes := #[] }] 33 43 #[278, 280, 282] #[{ accessFlags := 128, nameIndex := 7, descriptorIndex := 8, attributes := #[] }, { accessFlags := 128, nameIndex := 26, descriptorIndex := 23, attributes := #[] }, { accessFlags := 128, nameIndex := 22, descriptorIndex := 23, attributes := #[] }, { accessFlags := 26, nameIndex := 284, descriptorIndex := 23, attributes := #[] }, { accessFlags := 26, nameIndex := 286, descriptorIndex := 287, attributes := #[] }])
  fields := #[{ name := "elements", type := (.array (.object "java/lang/Object")), accessFlags := 128, slot := 0, constantValue := 0 }, { name := "head", type := .int, accessFlags := 128, slot := 1, constantValue := 0 }, { name := "tail", type := .int, accessFlags := 128, slot := 2, constantValue := 0 }, { name := "MAX_ARRAY_SIZE", type := .int, accessFlags := 26, slot := 0, constantValue := 0 }, { name := "serialVersionUID", type := .long, accessFlags := 26, slot := 1, constantValue := 0 }]
  methods := #[k17m0, k17m1]
  instanceTypes := #[(.array (.object "java/lang/Object")), .int, .int]
  staticTypes := #[.int, .long]
  resolved := Array.replicate 438 none
  statics := none }

/-- the primitive byte -/
def k18 : Class := { plain "byte" none with kind := .primitive 'B', accessFlags := 0x411 }
/-- [B -/
def k19 : Class := { plain "[B" (some 0) with kind := .array 18 .byte, interfaces := #[16, 4], accessFlags := 1041 }

/-- the primitive int -/
def k20 : Class := { plain "int" none with kind := .primitive 'I', accessFlags := 0x411 }
/-- [I -/
def k21 : Class := { plain "[I" (some 0) with kind := .array 20 .int, interfaces := #[16, 4], accessFlags := 1041 }

/-- [Ljava/lang/Object; -/
def k22 : Class := { plain "[Ljava/lang/Object;" (some 0) with kind := .array 0 (.object "java/lang/Object"), interfaces := #[16, 4], accessFlags := 1041 }

def heap : Heap := #[]
def classes : Array Class := #[k0, k1, k2, k3, k4, k5, k6, k7, k8, k9, k10, k11, k12, k13, k14, k15, k16, k17, k18, k19, k20, k21, k22]
def interned : List (Array UInt16 × Addr) := []
def slotsUsed : Nat := 0
def theMethod : MethodId := ⟨1, 1⟩
def args0 : Array Value := #[.int 5, .int 3]
def aboutOver (below : List Frame) : State where
  vm := { classes := classes, interned := interned.toArray }
  heap := heap
  slotsUsed := slotsUsed
  threads := #[{ frames := .invoking theMethod args0 :: below }]
def below0 : List Frame := [.native { method := ⟨0, 0⟩, args := #[] }]
def about1 : State := aboutOver below0
def p0 : Program := .bare "" "" ""
def e0 : Env := launch0.env 0 0 0
theorem w_frames : about1.frames = Frame.invoking theMethod args0 :: below0 := rfl
set_option maxRecDepth 65536 in
theorem w_args : argsFit about1.vm theMethod args0 = true := by decide +kernel
set_option maxRecDepth 65536 in
theorem w_heap : heapFits about1 = true := by decide +kernel
set_option maxRecDepth 65536 in
theorem w_runnable : about1.curStatus? = some .runnable := by decide +kernel
set_option maxRecDepth 65536 in
theorem w_alone : about1.alone = true := by decide +kernel
set_option maxRecDepth 65536 in
theorem w_named : about1.methodNamed? x = some theMethod := by decide +kernel
set_option maxRecDepth 65536 in
theorem w_hears : about1.hears theMethod below0 = true := by decide +kernel
set_option maxRecDepth 65536 in
theorem w_ripe : about1.ripe theMethod args0 below0 = true := by decide +kernel
theorem w_running : about1.status = .running := rfl
set_option maxRecDepth 65536 in
theorem w_room : about1.hasRoom e0.platform room_1 = true :=
  launch0.hasRoom_least _ room_1 (by decide +kernel) (by decide +kernel) (by decide +kernel) (by decide +kernel) (by decide +kernel) (by decide +kernel)
theorem allAtoms_all (ts : List Jvm.Cond) (a : Array Jvm.Value) (st : Jvm.State) : (allAtoms ts).before a st = ts.all (fun c => c.before a st) := by
  induction ts with
  | nil => rfl
  | cons c t ih =>
    show (Jvm.Cond.and c (allAtoms t)).before a st = _
    rw [Jvm.Cond.before_and, ih, List.all_cons]
def words1 : List Jvm.Cond := Jvm.Cond.code x code maxLocals ret :: tables_1
/-- a 'code' word, met by the world's own term for the bytes: nothing is compared byte by byte -/
theorem code_word {y : MethodName} {bytes : ByteArray} {mx : Nat} {rt : Option FieldType} {a : Array Value} {s : State} {m : MethodId} {meth : Method} {c : Code} (h1 : s.methodNamed? y = some m) (h2 : s.vm.method? m = some meth) (h3 : meth.code = some c) (h4 : c.code = bytes)
    (h5 : (c.maxLocals == mx && c.exceptionTable.isEmpty && decide (c.maxStack ≤ mostOperands) && decide (meth.sig.returnType = rt) && !meth.locks && decide (parseMethodDescriptor y.desc = some meth.sig)) = true) : (Jvm.Cond.code y bytes mx rt).before a s = true := by
  simp only [Bool.and_eq_true, beq_iff_eq, Bool.not_eq_true', decide_eq_true_eq] at h5
  obtain ⟨⟨⟨⟨⟨g1, g2⟩, g3⟩, g4⟩, g5⟩, g6⟩ := h5
  simp [Cond.before, Cond.holds, Cond.value, h1, h2, h3, h4, g1, g2, g3, g4, g5, g6]
def isCode : Jvm.Cond → Bool
  | .code _ _ _ _ => true
  | _ => false
theorem all_split {L : List Jvm.Cond} {P : Jvm.Cond → Bool} (h1 : L.all (fun c => isCode c || P c) = true) (h2 : ∀ c ∈ L.filter isCode, P c = true) : L.all P = true := by
  refine List.all_eq_true.mpr fun c hc => ?_
  have h := List.all_eq_true.mp h1 c hc
  rcases Bool.eq_false_or_eq_true (isCode c) with hi | hi
  · exact h2 c (List.mem_filter.mpr ⟨hc, hi⟩)
  · simpa [hi] using h
set_option maxRecDepth 65536 in
theorem w_c0 : (Jvm.Cond.code x code maxLocals ret).before args0 about1 = true := code_word (m := ⟨1, 1⟩) (meth := k1m1) (c := k1c1) (by decide +kernel) rfl rfl rfl (by decide +kernel)
set_option maxRecDepth 65536 in
theorem w_c1 : (Jvm.Cond.code ({ cls := "com/example/steward/steward/runtime/Group", name := "<init>", desc := "()V" } : Jvm.MethodName) prog_44_method_1_code (1 : Nat) (Option.none : Option Jvm.ClassFile.FieldType)).before args0 about1 = true := code_word (m := ⟨2, 0⟩) (meth := k2m0) (c := k2c0) (by decide +kernel) rfl rfl rfl (by decide +kernel)
set_option maxRecDepth 65536 in
theorem w_c2 : (Jvm.Cond.code ({ cls := "java/lang/Object", name := "<init>", desc := "()V" } : Jvm.MethodName) object_method_1_code (1 : Nat) (Option.none : Option Jvm.ClassFile.FieldType)).before args0 about1 = true := code_word (m := ⟨0, 0⟩) (meth := k0m0) (c := k0c0) (by decide +kernel) rfl rfl rfl (by decide +kernel)
set_option maxRecDepth 65536 in
theorem w_c3 : (Jvm.Cond.code ({ cls := "com/example/steward/steward/runtime/Agent", name := "<init>", desc := "(Ljava/lang/String;)V" } : Jvm.MethodName) prog_29_method_1_code (2 : Nat) (Option.none : Option Jvm.ClassFile.FieldType)).before args0 about1 = true := code_word (m := ⟨3, 0⟩) (meth := k3m0) (c := k3c0) (by decide +kernel) rfl rfl rfl (by decide +kernel)
set_option maxRecDepth 65536 in
theorem w_c4 : (Jvm.Cond.code ({ cls := "java/util/ArrayDeque", name := "<init>", desc := "(I)V" } : Jvm.MethodName) jdk_21_method_4_code (2 : Nat) (Option.none : Option Jvm.ClassFile.FieldType)).before args0 about1 = true := code_word (m := ⟨17, 1⟩) (meth := k17m1) (c := k17c1) (by decide +kernel) rfl rfl rfl (by decide +kernel)
set_option maxRecDepth 65536 in
theorem w_c5 : (Jvm.Cond.code ({ cls := "java/util/AbstractCollection", name := "<init>", desc := "()V" } : Jvm.MethodName) jdk_22_method_1_code (1 : Nat) (Option.none : Option Jvm.ClassFile.FieldType)).before args0 about1 = true := code_word (m := ⟨12, 0⟩) (meth := k12m0) (c := k12c0) (by decide +kernel) rfl rfl rfl (by decide +kernel)
set_option maxRecDepth 65536 in
theorem w_c6 : (Jvm.Cond.code ({ cls := "com/example/steward/steward/runtime/Group", name := "add", desc := "(Lcom/example/steward/steward/runtime/Agent;)V" } : Jvm.MethodName) prog_44_method_4_code (2 : Nat) (Option.none : Option Jvm.ClassFile.FieldType)).before args0 about1 = true := code_word (m := ⟨2, 2⟩) (meth := k2m2) (c := k2c2) (by decide +kernel) rfl rfl rfl (by decide +kernel)
set_option maxRecDepth 65536 in
theorem w_c7 : (Jvm.Cond.code ({ cls := "com/example/steward/steward/runtime/Group", name := "remove", desc := "(Lcom/example/steward/steward/runtime/Agent;)V" } : Jvm.MethodName) prog_44_method_5_code (2 : Nat) (Option.none : Option Jvm.ClassFile.FieldType)).before args0 about1 = true := code_word (m := ⟨2, 3⟩) (meth := k2m3) (c := k2c3) (by decide +kernel) rfl rfl rfl (by decide +kernel)
set_option maxRecDepth 65536 in
theorem w_c8 : (Jvm.Cond.code ({ cls := "com/example/steward/steward/runtime/Group", name := "first", desc := "()Lcom/example/steward/steward/runtime/Agent;" } : Jvm.MethodName) prog_44_method_3_code (1 : Nat) (Option.some (Jvm.ClassFile.FieldType.object "com/example/steward/steward/runtime/Agent"))).before args0 about1 = true := code_word (m := ⟨2, 1⟩) (meth := k2m1) (c := k2c1) (by decide +kernel) rfl rfl rfl (by decide +kernel)
def codes1 : List Jvm.Cond := [Jvm.Cond.code x code maxLocals ret, Jvm.Cond.code ({ cls := "com/example/steward/steward/runtime/Group", name := "<init>", desc := "()V" } : Jvm.MethodName) prog_44_method_1_code (1 : Nat) (Option.none : Option Jvm.ClassFile.FieldType), Jvm.Cond.code ({ cls := "java/lang/Object", name := "<init>", desc := "()V" } : Jvm.MethodName) object_method_1_code (1 : Nat) (Option.none : Option Jvm.ClassFile.FieldType), Jvm.Cond.code ({ cls := "com/example/steward/steward/runtime/Agent", name := "<init>", desc := "(Ljava/lang/String;)V" } : Jvm.MethodName) prog_29_method_1_code (2 : Nat) (Option.none : Option Jvm.ClassFile.FieldType), Jvm.Cond.code ({ cls := "java/util/ArrayDeque", name := "<init>", desc := "(I)V" } : Jvm.MethodName) jdk_21_method_4_code (2 : Nat) (Option.none : Option Jvm.ClassFile.FieldType), Jvm.Cond.code ({ cls := "java/util/AbstractCollection", name := "<init>", desc := "()V" } : Jvm.MethodName) jdk_22_method_1_code (1 : Nat) (Option.none : Option Jvm.ClassFile.FieldType), Jvm.Cond.code ({ cls := "com/example/steward/steward/runtime/Group", name := "add", desc := "(Lcom/example/steward/steward/runtime/Agent;)V" } : Jvm.MethodName) prog_44_method_4_code (2 : Nat) (Option.none : Option Jvm.ClassFile.FieldType), Jvm.Cond.code ({ cls := "com/example/steward/steward/runtime/Group", name := "remove", desc := "(Lcom/example/steward/steward/runtime/Agent;)V" } : Jvm.MethodName) prog_44_method_5_code (2 : Nat) (Option.none : Option Jvm.ClassFile.FieldType), Jvm.Cond.code ({ cls := "com/example/steward/steward/runtime/Group", name := "first", desc := "()Lcom/example/steward/steward/runtime/Agent;" } : Jvm.MethodName) prog_44_method_3_code (1 : Nat) (Option.some (Jvm.ClassFile.FieldType.object "com/example/steward/steward/runtime/Agent"))]
set_option maxRecDepth 65536 in
theorem codes_eq : words1.filter isCode = codes1 := rfl
theorem w_codes : ∀ c ∈ words1.filter isCode, c.before args0 about1 = true := by
  rw [codes_eq]
  intro c hc
  simp only [codes1, List.mem_cons, List.not_mem_nil, or_false] at hc
  rcases hc with rfl | rfl | rfl | rfl | rfl | rfl | rfl | rfl | rfl
  · exact w_c0
  · exact w_c1
  · exact w_c2
  · exact w_c3
  · exact w_c4
  · exact w_c5
  · exact w_c6
  · exact w_c7
  · exact w_c8
set_option maxRecDepth 65536 in
theorem w_t1 : (words1.take 24).all (fun c => isCode c || c.before args0 about1) = true := by decide +kernel
set_option maxRecDepth 65536 in
theorem w_t2 : ((words1.drop 24).take 24).all (fun c => isCode c || c.before args0 about1) = true := by decide +kernel
set_option maxRecDepth 65536 in
theorem w_t3 : (((words1.drop 24).drop 24).take 24).all (fun c => isCode c || c.before args0 about1) = true := by decide +kernel
set_option maxRecDepth 65536 in
theorem w_t4 : (((words1.drop 24).drop 24).drop 24).all (fun c => isCode c || c.before args0 about1) = true := by decide +kernel
theorem w_tables : (allAtoms (Jvm.Cond.code x code maxLocals ret :: tables_1)).before args0 about1 = true := by
  rw [allAtoms_all]
  show words1.all (fun c => c.before args0 about1) = true
  refine all_split ?_ w_codes
  rw [← List.take_append_drop 24 words1, List.all_append, w_t1, ← List.take_append_drop 24 (words1.drop 24), List.all_append, w_t2, ← List.take_append_drop 24 ((words1.drop 24).drop 24), List.all_append, w_t3, w_t4]
  rfl
set_option maxRecDepth 65536 in
theorem w_case : (Jvm.Cond.and given_1 narrow_1).before args0 about1 = true := by decide +kernel
theorem w_applies : (headSpec (Jvm.Cond.code x code maxLocals ret :: tables_1) room_1).applies x e0.platform about1 = true :=
  (Spec.applies_iff w_frames).mpr ⟨w_running, w_runnable, w_alone, w_named, w_hears, w_ripe, w_room, w_tables⟩
theorem atStart : AtStart classFile x code maxLocals ret World_1 tables_1 room_1 Calls_1 rest_1 Pre_1 launch0 p0 e0 about1 theMethod args0 below0 :=
  ⟨lists_1, trivial, launch0.admits_env _ _ _, launch0.least_env, fairChoices_fair.cas, fairChoices_fair.clock, w_frames, w_args, w_heap, w_applies, trivial, trivial, w_case⟩
end start1
theorem witness_1 : WitnessClaimed_1 := ⟨start1.p0, start1.e0, start1.about1, start1.theMethod, start1.args0, start1.below0, start1.atStart⟩
end Jvm.Pilot.@@N@@
