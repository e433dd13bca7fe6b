import JvmDerived
import JvmDerived.Pilot.@@N@@Statement
import JvmDerived.Pilot.@@N@@Code
set_option linter.unusedVariables false
set_option linter.unusedSimpArgs false
namespace Jvm.Pilot.@@N@@
open Jvm Jvm.ClassFile Sem Op Lib Jvm.Free Jvm.Stand Jvm.LawKit Jvm.RoadKit Bundle Jvm.Pilot.@@N@@.Jvm.D
section Own
variable {p : Program} {l : Launch} {e : Env} {R : Room} {s : State} {m : MethodId} {args : Array Value} {below : List Frame} {meth : Method} {c : Code} {T : State} {locs : List Loc} {cells slots : Nat} {C N : Nat} {Q : Option Value → Heap → List Loc → Prop} {S S' : State} {Z : State} {h h' : Heap}
/-- from the state S the invocation ends in a return, and Q holds there -/
def Go (p : Program) (e : Env) (below : List Frame) (s : State) (C N : Nat) (Q : Option Value → Heap → List Loc → Prop) (S : State) : Prop :=
  ∃ s₂ o, Steps p.tables e below S s₂ ∧ s₂.status = .running ∧ Ended s₂ below o ∧ ∃ v L, o = .returned v ∧ Q v s₂.heap L ∧ FrameEnd s o s₂ L C N
theorem Go.step (st : ∀ t, Steps p.tables e below S' t → Steps p.tables e below S t) (G : Go p e below s C N Q S') : Go p e below s C N Q S := by
  obtain ⟨s₂, o, h, r⟩ := G
  exact ⟨s₂, o, st _ h, r⟩
theorem Go.tr (st : Steps p.tables e below S S') (G : Go p e below s C N Q S') : Go p e below s C N Q S := by
  obtain ⟨s₂, o, h, r⟩ := G
  exact ⟨s₂, o, st.trans h, r⟩
theorem Go.out (X : Stand p l e R s m args below meth c T locs cells slots) {v : Option Value} {g : JFrame} (hv : meth.sig.returnType = none → v = none) (hlk : meth.locks = false)
    (hst : ∀ fs, (∀ (f : JFrame) (acts : List Action), f.method = m → f.locked = none → f.entered = [] → (doReturn e (T.setTop f) acts v).1 = T.setFrames fs) → Steps p.tables e below (T.setTop g) (T.setFrames fs))
    (hQ : Q v T.heap locs) (hc : cells ≤ C) (hn : slots ≤ N) : Go p e below s C N Q (T.setTop g) := by
  obtain ⟨fs, hr, hrun, hended, hW, hsame⟩ := X.leave (v := v) hv hlk
  exact ⟨_, _, hst fs hr, hrun, hended, _, _, rfl, hQ, ⟨_, rfl⟩, hW, hsame.mono hc hn⟩
theorem Go.retV (X : Stand p l e R s m args below meth c T locs cells slots) (hx : p.tables.exec = Jvm.exec) {pc : Nat} {Ls : Array Slot} (hret : meth.sig.returnType = none) (hlk : meth.locks = false) (hd : decode c.code pc = .ok (.return_, 1))
    (hQ : Q none T.heap locs) (hc : cells ≤ C) (hn : slots ≤ N) : Go p e below s C N Q (T.setTop (mkF m pc Ls [])) :=
  Go.out X (fun _ => rfl) hlk (fun fs hr => X.returnOut hx hret hd hr) hQ hc hn
theorem Go.retI (X : Stand p l e R s m args below meth c T locs cells slots) (hx : p.tables.exec = Jvm.exec) {pc : Nat} {Ls : Array Slot} {z : Int32} {rest : List Value} (hret : meth.sig.returnType = some .int) (hlk : meth.locks = false) (hd : decode c.code pc = .ok (.ireturn, 1))
    (hQ : Q (some (.int z)) T.heap locs) (hc : cells ≤ C) (hn : slots ≤ N) : Go p e below s C N Q (T.setTop (mkF m pc Ls (.int z :: rest))) :=
  Go.out X (fun h => by rw [hret] at h; cases h) hlk (fun fs hr => retOut X hx hret rfl (Or.inl ⟨rfl, Or.inl rfl, z, rfl⟩) hd hr) hQ hc hn
theorem Go.retN (X : Stand p l e R s m args below meth c T locs cells slots) (hx : p.tables.exec = Jvm.exec) {pc : Nat} {Ls : Array Slot} {z : Int32} {t : FieldType} {rest : List Value} (hret : meth.sig.returnType = some t) (ht : t = .boolean ∨ t = .byte ∨ t = .char ∨ t = .short) (hlk : meth.locks = false) (hd : decode c.code pc = .ok (.ireturn, 1))
    (hQ : Q (some (.int (nar t z))) T.heap locs) (hc : cells ≤ C) (hn : slots ≤ N) : Go p e below s C N Q (T.setTop (mkF m pc Ls (.int z :: rest))) :=
  Go.out X (fun h => by rw [hret] at h; cases h) hlk (fun fs hr => Jvm.RoadKit.retN X hx hret ht hd hr) hQ hc hn
theorem Go.retJ (X : Stand p l e R s m args below meth c T locs cells slots) (hx : p.tables.exec = Jvm.exec) {pc : Nat} {Ls : Array Slot} {z : Int64} {rest : List Value} (hret : meth.sig.returnType = some .long) (hlk : meth.locks = false) (hd : decode c.code pc = .ok (.lreturn, 1))
    (hQ : Q (some (.long z)) T.heap locs) (hc : cells ≤ C) (hn : slots ≤ N) : Go p e below s C N Q (T.setTop (mkF m pc Ls (.long z :: rest))) :=
  Go.out X (fun h => by rw [hret] at h; cases h) hlk (fun fs hr => retOut X hx hret rfl (Or.inr (Or.inl ⟨rfl, rfl, z, rfl⟩)) hd hr) hQ hc hn
theorem Go.retA (X : Stand p l e R s m args below meth c T locs cells slots) (hx : p.tables.exec = Jvm.exec) {pc : Nat} {Ls : Array Slot} {w : Value} {t : FieldType} {rest : List Value} (hret : meth.sig.returnType = some t) (ht : t.isReference = true) (hw : w.isRef = true) (hlk : meth.locks = false) (hd : decode c.code pc = .ok (.areturn, 1))
    (hQ : Q (some w) T.heap locs) (hc : cells ≤ C) (hn : slots ≤ N) : Go p e below s C N Q (T.setTop (mkF m pc Ls (w :: rest))) :=
  Go.out X (fun h => by rw [hret] at h; cases h) hlk (fun fs hr => retOut X hx hret (by rcases ref_cases hw with rfl | ⟨a, rfl⟩ <;> cases t <;> first | rfl | cases ht) (Or.inr (Or.inr (Or.inr (Or.inr ⟨rfl, ht, hw⟩)))) hd hr) hQ hc hn
/-- an array of ints, bytes ..: z places, the j-th holds f j -/
def Ai (Z : State) (h : Heap) (a : Addr) (ty : FieldType) (z : Int32) (f : Int32 → Int32) : Prop :=
  ∃ c : Cell, Arr Z h a c ty ∧ c.slots.size = z.toNatClampNeg ∧ ¬ z < 0 ∧ ∀ j : Int32, ¬ j < 0 → j < z → c.slots[j.toNatClampNeg]? = some (.int (f j))
theorem own_inb {cl : Cell} {z j : Int32} (S : cl.slots.size = z.toNatClampNeg) (h0 : ¬ j < 0) (h1 : j < z) : ¬ (j < 0 ∨ cl.slots.size ≤ j.toNatClampNeg) := inb_of S ⟨h0, h1⟩
theorem Ai.lt {a : Addr} {ty : FieldType} {z : Int32} {f : Int32 → Int32} (F : Ai Z h a ty z f) : a < h.size := by obtain ⟨c, A, -⟩ := F; exact A.lt
theorem Ai.nn {a : Addr} {ty : FieldType} {z : Int32} {f : Int32 → Int32} (F : Ai Z h a ty z f) : ¬ z < 0 := by obtain ⟨c, -, -, q, -⟩ := F; exact q
theorem Ai.ext {a : Addr} {ty : FieldType} {z : Int32} {f : Int32 → Int32} (F : Ai Z h a ty z f) (E : Ext h h') : Ai Z h' a ty z f := by obtain ⟨c, A, r⟩ := F; exact ⟨c, A.ext E, r⟩
theorem Ai.other {a b : Addr} {sl : Nat} {v : Value} {ty : FieldType} {z : Int32} {f : Int32 → Int32} (F : Ai Z h b ty z f) (W : Wr h h' a sl v) (q : b ≠ a) : Ai Z h' b ty z f := by obtain ⟨c, A, r⟩ := F; exact ⟨c, A.other W q, r⟩
theorem Ai.keep {a : Addr} {ws : List Addr} {ty : FieldType} {z : Int32} {f : Int32 → Int32} (F : Ai Z h a ty z f) (K : Keep h h' ws) (q : a ∉ ws) : Ai Z h' a ty z f := by obtain ⟨c, A, r⟩ := F; exact ⟨c, ⟨K.2.1 a c A.1 q, A.2⟩, r⟩
theorem Ai.new {a : Addr} {k : ClassId} {ty : FieldType} {z : Int32} (A : Arr Z h a (newA k ty z) ty) (q : ¬ z < 0) (hd : defaultValue ty = .int 0) : Ai Z h a ty z (fun _ => 0) :=
  ⟨_, A, sz_new _ _ _, q, fun j h0 h1 => by rw [get_new (sz_new k ty z ▸ own_inb (sz_new k ty z) h0 h1), hd]⟩
theorem Ai.eqf {a : Addr} {ty : FieldType} {z : Int32} {f g : Int32 → Int32} (F : Ai Z h a ty z f) (q : ∀ j : Int32, ¬ j < 0 → j < z → f j = g j) : Ai Z h a ty z g := by
  obtain ⟨c, A, S, n, H⟩ := F; exact ⟨c, A, S, n, fun j h0 h1 => by rw [← q j h0 h1]; exact H j h0 h1⟩
theorem Ai.set {a : Addr} {ty : FieldType} {z j x : Int32} {f : Int32 → Int32} (F : Ai Z h a ty z f) (h0 : ¬ j < 0) (h1 : j < z) (W : Wr h h' a j.toNatClampNeg (.int x)) : Ai Z h' a ty z (fun i => if i = j then x else f i) := by
  obtain ⟨c, A, S, n, H⟩ := F
  refine ⟨_, A.same W, by rw [sz_set]; exact S, n, fun i g0 g1 => ?_⟩
  by_cases e : i = j
  · rw [get_hit (own_inb S h0 h1) e]; simp [e]
  · rw [get_miss h0 g0 e, H i g0 g1]; simp [e]
theorem Ai.len (X : Stand p l e R s m args below meth c T locs cells slots) (hx : p.tables.exec = Jvm.exec) (hZ : Z.Warmed39 s.vm) (eT : T.heap = h) {a : Addr} {ty : FieldType} {z : Int32} {f : Int32 → Int32} (F : Ai Z h a ty z f)
    {g : JFrame} (hg : g.method = m) {rest : List Value} (hs : g.stack = .ref a :: rest) (hd : decode c.code g.pc = .ok (.arraylength, 1)) : ∀ target, Steps p.tables e below (T.setTop { g with pc := g.pc + 1, stack := .int z :: rest }) target → Steps p.tables e below (T.setTop g) target := by
  obtain ⟨cl, A, S, n, H⟩ := F
  intro t k
  refine X.arraylength hx (by rw [eT]; exact A.1) (State.isArrayOf_alike hZ.alike A.2.1) hg hs hd _ ?_
  rw [len_of S n]; exact k
theorem Ai.iaload (X : Stand p l e R s m args below meth c T locs cells slots) (hx : p.tables.exec = Jvm.exec) (hZ : Z.Warmed39 s.vm) (eT : T.heap = h) {a : Addr} {z j : Int32} {f : Int32 → Int32} (F : Ai Z h a .int z f) (h0 : ¬ j < 0) (h1 : j < z)
    {g : JFrame} (hg : g.method = m) {rest : List Value} (hs : g.stack = .int j :: .ref a :: rest) (hd : decode c.code g.pc = .ok (.iaload, 1)) : ∀ target, Steps p.tables e below (T.setTop { g with pc := g.pc + 1, stack := .int (f j) :: rest }) target → Steps p.tables e below (T.setTop g) target := by
  obtain ⟨cl, A, S, n, H⟩ := F
  exact X.iaload hx (by rw [eT]; exact A.1) (State.isArrayOf_alike hZ.alike A.2.1) A.2.2 (own_inb S h0 h1) (H j h0 h1) hg hs hd
theorem Ai.baload (X : Stand p l e R s m args below meth c T locs cells slots) (hx : p.tables.exec = Jvm.exec) (hZ : Z.Warmed39 s.vm) (eT : T.heap = h) {a : Addr} {z j : Int32} {f : Int32 → Int32} (F : Ai Z h a .byte z f) (h0 : ¬ j < 0) (h1 : j < z)
    {g : JFrame} (hg : g.method = m) {rest : List Value} (hs : g.stack = .int j :: .ref a :: rest) (hd : decode c.code g.pc = .ok (.baload, 1)) : ∀ target, Steps p.tables e below (T.setTop { g with pc := g.pc + 1, stack := .int (f j) :: rest }) target → Steps p.tables e below (T.setTop g) target := by
  obtain ⟨cl, A, S, n, H⟩ := F
  exact X.baloadBytes hx (by rw [eT]; exact A.1) (State.isArrayOf_alike hZ.alike A.2.1) A.2.2 (own_inb S h0 h1) (H j h0 h1) hg hs hd
theorem Ai.stI (X : Stand p l e R s m args below meth c T locs cells slots) (hx : p.tables.exec = Jvm.exec) (hZ : Z.Warmed39 s.vm) (eT : T.heap = h) {a : Addr} {z j x : Int32} {f : Int32 → Int32} (F : Ai Z h a .int z f) (h0 : ¬ j < 0) (h1 : j < z)
    {g : JFrame} (hg : g.method = m) {rest : List Value} (hs : g.stack = .int x :: .int j :: .ref a :: rest) (hd : decode c.code g.pc = .ok (.iastore, 1)) :
    ∃ T' h', Stand p l e R s m args below meth c T' (locs ++ [⟨a, j.toNatClampNeg⟩]) cells slots ∧ T'.heap = h' ∧ Wr h h' a j.toNatClampNeg (.int x) ∧ Ai Z h' a .int z (fun i => if i = j then x else f i) ∧ ∀ target, Steps p.tables e below (T'.setTop { g with pc := g.pc + 1, stack := rest }) target → Steps p.tables e below (T.setTop g) target := by
  obtain ⟨cl, A, S, n, H⟩ := F
  obtain ⟨T', h', X', e', W, st⟩ := Jvm.RoadKit.stI X hx hZ eT A (own_inb S h0 h1) hg hs hd
  exact ⟨T', h', X', e', W, Ai.set ⟨cl, A, S, n, H⟩ h0 h1 W, st⟩
theorem Ai.stB (X : Stand p l e R s m args below meth c T locs cells slots) (hx : p.tables.exec = Jvm.exec) (hZ : Z.Warmed39 s.vm) (eT : T.heap = h) {a : Addr} {z j x : Int32} {f : Int32 → Int32} (F : Ai Z h a .byte z f) (h0 : ¬ j < 0) (h1 : j < z)
    {g : JFrame} (hg : g.method = m) {rest : List Value} (hs : g.stack = .int x :: .int j :: .ref a :: rest) (hd : decode c.code g.pc = .ok (.bastore, 1)) :
    ∃ T' h', Stand p l e R s m args below meth c T' (locs ++ [⟨a, j.toNatClampNeg⟩]) cells slots ∧ T'.heap = h' ∧ Wr h h' a j.toNatClampNeg (.int (nar .byte x)) ∧ Ai Z h' a .byte z (fun i => if i = j then nar .byte x else f i) ∧ ∀ target, Steps p.tables e below (T'.setTop { g with pc := g.pc + 1, stack := rest }) target → Steps p.tables e below (T.setTop g) target := by
  obtain ⟨cl, A, S, n, H⟩ := F
  obtain ⟨T', h', X', e', W, st⟩ := Jvm.RoadKit.stB X hx hZ eT A (own_inb S h0 h1) hg hs hd
  exact ⟨T', h', X', e', W, Ai.set ⟨cl, A, S, n, H⟩ h0 h1 W, st⟩
end Own
theorem narrow_ref {t : FieldType} {v : Value} (hv : v.isRef = true) (ht : t.isReference = true) : narrow t v = v := by rcases ref_cases hv with rfl | ⟨a, rfl⟩ <;> cases t <;> first | rfl | cases ht
theorem fits_refV {t : FieldType} {v : Value} (hv : v.isRef = true) (ht : t.isReference = true) : fits t v = true := by rcases ref_cases hv with rfl | ⟨a, rfl⟩ <;> cases t <;> first | rfl | cases ht
theorem own_iincW {tb : Tables} [Ours tb] {e : Env} {below : List Frame} {T target : State} {m : MethodId} {c : Code} {g : JFrame} (h : At T m c below) (hx : tb.exec = Jvm.exec) (hg : g.method = m) {k : Nat} {cst : Int} {x : Int32} {l' : Array Slot} (hd : decode c.code g.pc = .ok (.iinc k cst, 6)) (hl : g.locals[k]? = some (.val (.int x))) (hl' : storeLocals g.locals k (.int (x + Int32.ofInt cst)) = some l')
    (hr : Steps tb e below (T.setTop { g with pc := g.pc + 6, locals := l' }) target) : Steps tb e below (T.setTop g) target := by
  subst hg
  jvm_step h [h.top, hx, hd, hl, hl']
  exact hr

section Wide
variable {p : Program} {l : Launch} {e : Env} {R : Room} {s : State} {m : MethodId} {args : Array Value} {below : List Frame} {meth : Method} {c : Code} {T : State} {locs : List Loc} {cells slots : Nat} {C N : Nat} {Q : Option Value → Heap → List Loc → Prop} {S S' : State} {Z : State} {h h' : Heap} {vm0 : Vm} {k0 : Nat}
/-- as Go, for a body that may load String constants: the end is the wide one -/
def GoW (p : Program) (e : Env) (below : List Frame) (s : State) (C N : Nat) (Q : Option Value → Heap → List Loc → Prop) (S : State) : Prop :=
  ∃ s₂ o, Steps p.tables e below S s₂ ∧ s₂.status = .running ∧ Ended s₂ below o ∧ ∃ v L, o = .returned v ∧ Q v s₂.heap L ∧ ReturnedEndW s o s₂ L C N
theorem GoW.step (st : ∀ t, Steps p.tables e below S' t → Steps p.tables e below S t) (G : GoW p e below s C N Q S') : GoW p e below s C N Q S := by
  obtain ⟨s₂, o, h, r⟩ := G
  exact ⟨s₂, o, st _ h, r⟩
theorem GoW.tr (st : Steps p.tables e below S S') (G : GoW p e below s C N Q S') : GoW p e below s C N Q S := by
  obtain ⟨s₂, o, h, r⟩ := G
  exact ⟨s₂, o, st.trans h, r⟩
theorem GoW.out (X : Stand p l e R (s.setVm vm0) m args below meth c T locs cells slots) (hS : s.Since vm0 k0) (hk : k0 ≤ T.heap.size) {v : Option Value} {g : JFrame} (hv : meth.sig.returnType = none → v = none) (hlk : meth.locks = false)
    (hst : ∀ fs, (∀ (f : JFrame) (acts : List Action), f.method = m → f.locked = none → f.entered = [] → (doReturn e (T.setTop f) acts v).1 = T.setFrames fs) → Steps p.tables e below (T.setTop g) (T.setFrames fs))
    (hQ : Q v T.heap locs) (hc : cells ≤ C) (hn : slots ≤ N) : GoW p e below s C N Q (T.setTop g) := by
  obtain ⟨fs, hr, hrun, hended, hW, hsame⟩ := X.leave (v := v) hv hlk
  have q := hS.ended hW hk hsame
  exact ⟨_, _, hst fs hr, hrun, hended, _, _, rfl, hQ, ⟨_, rfl⟩, q.1, q.2.1, q.2.2.mono hc hn⟩
theorem GoW.retV (X : Stand p l e R (s.setVm vm0) m args below meth c T locs cells slots) (hS : s.Since vm0 k0) (hk : k0 ≤ T.heap.size) (hx : p.tables.exec = Jvm.exec) {pc : Nat} {Ls : Array Slot} (hret : meth.sig.returnType = none) (hlk : meth.locks = false) (hd : decode c.code pc = .ok (.return_, 1))
    (hQ : Q none T.heap locs) (hc : cells ≤ C) (hn : slots ≤ N) : GoW p e below s C N Q (T.setTop (mkF m pc Ls [])) :=
  GoW.out X hS hk (fun _ => rfl) hlk (fun fs hr => X.returnOut hx hret hd hr) hQ hc hn
theorem GoW.retN (X : Stand p l e R (s.setVm vm0) m args below meth c T locs cells slots) (hS : s.Since vm0 k0) (hk : k0 ≤ T.heap.size) (hx : p.tables.exec = Jvm.exec) {pc : Nat} {Ls : Array Slot} {z : Int32} {t : FieldType} {rest : List Value} (hret : meth.sig.returnType = some t) (ht : t = .boolean ∨ t = .byte ∨ t = .char ∨ t = .short) (hlk : meth.locks = false) (hd : decode c.code pc = .ok (.ireturn, 1))
    (hQ : Q (some (.int (nar t z))) T.heap locs) (hc : cells ≤ C) (hn : slots ≤ N) : GoW p e below s C N Q (T.setTop (mkF m pc Ls (.int z :: rest))) :=
  GoW.out X hS hk (fun h => by rw [hret] at h; cases h) hlk (fun fs hr => Jvm.RoadKit.retN X hx hret ht hd hr) hQ hc hn
end Wide

theorem own_nb1 : nar .boolean 1 = 1 := by decide
theorem own_nb0 : nar .boolean 0 = 0 := by decide
theorem own_lirr {a : Int32} : ¬ a < a := by rw [Int32.lt_iff_toInt_lt]; omega
theorem own_lasym {a b : Int32} (h : a < b) : ¬ b < a := by rw [Int32.lt_iff_toInt_lt] at *; omega
theorem own_lneg {a b : Int32} (h0 : ¬ a < 0) (h : a < b) : ¬ b < 0 := by rw [Int32.lt_iff_toInt_lt] at *; omega
theorem own_clamp {z : Int32} {n : Nat} (h : z.toInt ≤ n) : z.toNatClampNeg ≤ n := by
  show z.toInt.toNat ≤ n
  omega
theorem own_i_0 : (0 : Int32).toInt = 0 := by decide
theorem own_i_255 : (255 : Int32).toInt = 255 := by decide
theorem own_i_65535 : (65535 : Int32).toInt = 65535 := by decide
theorem own_i_11 : (11 : Int32).toInt = 11 := by decide
theorem own_all (P : Int32 → Prop) (h : ∀ n : Fin 256, P (Int32.ofInt (n.val : Int))) (c : Int32) (h0 : 0 ≤ c.toInt) (h1 : c.toInt ≤ 255) : P c := by
  have this : P (Int32.ofInt ((c.toInt.toNat : Nat) : Int)) := h ⟨c.toInt.toNat, by omega⟩
  have e : Int32.ofInt ((c.toInt.toNat : Nat) : Int) = c := by
    rw [Int.toNat_of_nonneg h0]; exact Int32.ofInt_toInt c
  rw [e] at this; exact this
theorem own_255 (x : Int32) : 0 ≤ (x &&& (255 : Int32)).toInt ∧ (x &&& (255 : Int32)).toInt ≤ 255 := by
  have h := c_mask x 255 8 (by decide) (by decide)
  omega
theorem own_r255 {x : Int32} (h : 0 ≤ x.toInt ∧ x.toInt ≤ 255) : ¬ x < 0 ∧ ¬ (255 : Int32) < x := by
  simp only [Int32.lt_iff_toInt_lt, own_i_0, own_i_255]; omega
theorem own_e16 (x : Int32) : ¬ (x &&& (65535 : Int32)) < 0 ∧ ¬ (65535 : Int32) < (x &&& (65535 : Int32)) := by
  have h := c_mask x 65535 16 (by decide) (by decide)
  simp only [Int32.lt_iff_toInt_lt, own_i_0, own_i_65535]; omega
theorem own_fl (c : Int32) (h : 0 ≤ c.toInt ∧ c.toInt ≤ 255) : (0 ≤ (c ||| 128).toInt ∧ (c ||| 128).toInt ≤ 255 ∧ ¬ ((c ||| 128) &&& 128) = 0) ∧ (0 ≤ (c &&& 127).toInt ∧ (c &&& 127).toInt ≤ 255 ∧ ((c &&& 127) &&& 128) = 0) :=
  own_all (fun c => (0 ≤ (c ||| 128).toInt ∧ (c ||| 128).toInt ≤ 255 ∧ ¬ ((c ||| 128) &&& 128) = 0) ∧ (0 ≤ (c &&& 127).toInt ∧ (c &&& 127).toInt ≤ 255 ∧ ((c &&& 127) &&& 128) = 0)) (by decide +kernel) c h.1 h.2
theorem own_ln (x : Int32) : ¬ (if (11 : Int32) < x then x else (11 : Int32)) < 11 := by
  split
  · rename_i h; simp only [Int32.lt_iff_toInt_lt, own_i_11] at *; omega
  · decide
theorem own_mr0 {p : Int32} (h : (p &&& 128) = 0) : (if (p &&& (128 : Int32)) = 0 then (0 : Int32) else 1) = 0 := if_pos h
theorem own_mr1 {p : Int32} (h : ¬ (p &&& 128) = 0) : ¬ (if (p &&& (128 : Int32)) = 0 then (0 : Int32) else 1) = 0 := by rw [if_neg h]; decide
theorem d1_0 : decode jdk_29_method_65_code 0 = .ok (.iload_n 0, 1) := by decide +kernel
theorem d1_1 : decode jdk_29_method_65_code 1 = .ok (.iload_n 1, 1) := by decide +kernel
theorem d1_2 : decode jdk_29_method_65_code 2 = .ok (.if_icmp .lt 7, 3) := by decide +kernel
theorem d1_5 : decode jdk_29_method_65_code 5 = .ok (.iload_n 0, 1) := by decide +kernel
theorem d1_6 : decode jdk_29_method_65_code 6 = .ok (.goto 4, 3) := by decide +kernel
theorem d1_9 : decode jdk_29_method_65_code 9 = .ok (.iload_n 1, 1) := by decide +kernel
theorem d1_10 : decode jdk_29_method_65_code 10 = .ok (.ireturn, 1) := by decide +kernel
theorem ef_1 (m : MethodId) (p0 : Int32) (p1 : Int32) : entryFrame m #[(.int p0), (.int p1)] 2 = mkF m 0 #[.val (.int p0), .val (.int p1)] [] := by first | (simp [entryFrame, mkF, argsToLocals, Value.category]; done) | rfl
def Q1 (Z : State) (p0 : Int32) (p1 : Int32) (h0 : Heap) (n0 : Nat) (v : Option Value) (h : Heap) (L : List Loc) : Prop := (v = some (.int (if p0 < p1 then p1 else p0))) ∧ (Fr n0 L) ∧ (h = h0)
set_option maxRecDepth 65536 in
set_option maxHeartbeats 40000000 in
theorem rm1 (l : Launch) (Z : State) (aZ : Array Value) (hw : ∀ d ∈ tables_1, d.before aZ Z = true) (ws : List Jvm.Cond) (p0 : Int32) (p1 : Int32) (h0 : Heap) (n0 : Nat) (Z0 : n0 ≤ h0.size)  :
    MetFree l (⟨"java/lang/Math", "max", "(II)I"⟩ : MethodName) (head1 (Jvm.Cond.code (⟨"java/lang/Math", "max", "(II)I"⟩ : MethodName) jdk_29_method_65_code 2 (some .int) :: ws) ({ frames := 0, cells := 0, slots := 0, locals := 0 } : Room)) (fun a U => a = #[(.int p0), (.int p1)] ∧ Z.Warmed39 U.vm ∧ U.heap = h0) (fun _ _ _ _ _ => True) (fun _ U o U' => ∃ v L, o = .returned v ∧ Q1 Z p0 p1 h0 n0 v U'.heap L ∧ FrameEnd U o U' L ({ frames := 0, cells := 0, slots := 0, locals := 0 } : Room).cells ({ frames := 0, cells := 0, slots := 0, locals := 0 } : Room).slots) := by
  refine MetFree.of_bodySF (Jvm.Free.JP.mathPlain rfl (by decide +kernel)) hisR ?_
  intro p e s m args below meth c s₁ Bd hml0 hP hK
  obtain ⟨rfl, hZ, hh⟩ := hP
  have hx := Bd.exec
  have hby := Bd.bytes
  have hml : c.maxLocals = 2 := hml0
  have hown : s.vm.findClass "java/lang/Math" = some m.cls := findClass_of_methodNamed Bd.named
  have hnm := (name_of_methodNamed Bd.named Bd.method).1
  have hlk : meth.locks = false := BodyLoose.notSynchronized Bd
  have X0 : Stand p l e ({ frames := 0, cells := 0, slots := 0, locals := 0 } : Room) s m #[(.int p0), (.int p1)] below meth c s₁ [] 0 0 := Stand.of_body Bd
  have e0 : s₁.heap = h0 := by rw [← hh, Bd.state]; rfl
  have N0 := Fr.nil n0
  have sq0 : h0.size ≤ h0.size := Nat.le_refl _
  change Go p e below s ({ frames := 0, cells := 0, slots := 0, locals := 0 } : Room).cells ({ frames := 0, cells := 0, slots := 0, locals := 0 } : Room).slots (Q1 Z p0 p1 h0 n0) (s₁.setTop (entryFrame m #[(.int p0), (.int p1)] 2))
  rw [ef_1 m p0 p1]
  show Go _ _ _ _ _ _ _ (s₁.setTop (mkF m 0 #[.val (.int p0), .val (.int p1)] []))
  refine Go.step (fun _ k => XS.iloadN X0.here hx rfl (hb hby d1_0) rfl  k) ?_
  show Go _ _ _ _ _ _ _ (s₁.setTop (mkF m 1 #[.val (.int p0), .val (.int p1)] [(.int p0)]))
  refine Go.step (fun _ k => XS.iloadN X0.here hx rfl (hb hby d1_1) rfl  k) ?_
  show Go _ _ _ _ _ _ _ (s₁.setTop (mkF m 2 #[.val (.int p0), .val (.int p1)] [(.int p1), (.int p0)]))
  by_cases hc2 : p0 < p1
  · skip
    refine Go.step (fun _ k => XS.icmpYes X0.here hx rfl (pc0 := 2) (pc' := 9) rfl (hb hby d1_2) rfl (tlt hc2).1 (by decide) (by decide) k) ?_
    show Go _ _ _ _ _ _ _ (s₁.setTop (mkF m 9 #[.val (.int p0), .val (.int p1)] []))
    refine Go.step (fun _ k => XS.iloadN X0.here hx rfl (hb hby d1_9) rfl  k) ?_
    show Go _ _ _ _ _ _ _ (s₁.setTop (mkF m 10 #[.val (.int p0), .val (.int p1)] [(.int p1)]))
    refine Go.retI X0 hx Bd.returns hlk (hb hby d1_10) ?_ (by decide) (by decide)
    rw [e0]
    exact ⟨(by first | rfl | rw [if_pos hc2] | rw [if_neg hc2]), N0, rfl⟩
  · skip
    refine Go.step (fun _ k => XS.icmpNo X0.here hx rfl (hb hby d1_2) rfl (flt hc2).1 k) ?_
    show Go _ _ _ _ _ _ _ (s₁.setTop (mkF m 5 #[.val (.int p0), .val (.int p1)] []))
    refine Go.step (fun _ k => XS.iloadN X0.here hx rfl (hb hby d1_5) rfl  k) ?_
    show Go _ _ _ _ _ _ _ (s₁.setTop (mkF m 6 #[.val (.int p0), .val (.int p1)] [(.int p0)]))
    refine Go.step (fun _ k => XS.goto X0.here hx rfl (pc0 := 6) (pc' := 10) rfl (hb hby d1_6) (by decide) (by decide) k) ?_
    show Go _ _ _ _ _ _ _ (s₁.setTop (mkF m 10 #[.val (.int p0), .val (.int p1)] [(.int p0)]))
    refine Go.retI X0 hx Bd.returns hlk (hb hby d1_10) ?_ (by decide) (by decide)
    rw [e0]
    exact ⟨(by first | rfl | rw [if_pos hc2] | rw [if_neg hc2]), N0, rfl⟩
theorem pn_4 : plainName "java/lang/Record" = true := by first | (simp [plainName, overriddenIn]; done) | decide +kernel
theorem d3_0 : decode jdk_30_method_1_code 0 = .ok (.aload_n 0, 1) := by decide +kernel
theorem d3_1 : decode jdk_30_method_1_code 1 = .ok (.invokespecial 1, 3) := by decide +kernel
theorem d3_4 : decode jdk_30_method_1_code 4 = .ok (.return_, 1) := by decide +kernel
theorem ef_3 (m : MethodId) (a0 : Addr) : entryFrame m #[(.ref a0)] 1 = mkF m 0 #[.val (.ref a0)] [] := by first | (simp [entryFrame, mkF, argsToLocals, Value.category]; done) | rfl
def Q3 (Z : State) (a0 : Addr) (h0 : Heap) (n0 : Nat) (v : Option Value) (h : Heap) (L : List Loc) : Prop := (v = none) ∧ (Fr n0 L) ∧ (h = h0)
set_option maxRecDepth 65536 in
set_option maxHeartbeats 40000000 in
theorem rm3 (l : Launch) (Z : State) (aZ : Array Value) (hw : ∀ d ∈ tables_1, d.before aZ Z = true) (ws : List Jvm.Cond) (a0 : Addr) (h0 : Heap) (n0 : Nat) (Z0 : n0 ≤ h0.size)  :
    MetFree l (⟨"java/lang/Record", "<init>", "()V"⟩ : MethodName) (head1 (Jvm.Cond.code (⟨"java/lang/Record", "<init>", "()V"⟩ : MethodName) jdk_30_method_1_code 1 none :: ws) ({ frames := 1, cells := 0, slots := 0, locals := 12 } : Room)) (fun a U => a = #[(.ref a0)] ∧ Z.Warmed39 U.vm ∧ U.heap = h0) (fun _ _ _ _ _ => True) (fun _ U o U' => ∃ v L, o = .returned v ∧ Q3 Z a0 h0 n0 v U'.heap L ∧ FrameEnd U o U' L ({ frames := 1, cells := 0, slots := 0, locals := 12 } : Room).cells ({ frames := 1, cells := 0, slots := 0, locals := 12 } : Room).slots) := by
  refine MetFree.of_bodySF (plainFor_of_name pn_4) hisR ?_
  intro p e s m args below meth c s₁ Bd hml0 hP hK
  obtain ⟨rfl, hZ, hh⟩ := hP
  have hx := Bd.exec
  have hby := Bd.bytes
  have hml : c.maxLocals = 1 := hml0
  have hown : s.vm.findClass "java/lang/Record" = some m.cls := findClass_of_methodNamed Bd.named
  have hnm := (name_of_methodNamed Bd.named Bd.method).1
  have hlk : meth.locks = false := BodyLoose.notSynchronized Bd
  have X0 : Stand p l e ({ frames := 1, cells := 0, slots := 0, locals := 12 } : Room) s m #[(.ref a0)] below meth c s₁ [] 0 0 := Stand.of_body Bd
  have e0 : s₁.heap = h0 := by rw [← hh, Bd.state]; rfl
  have N0 := Fr.nil n0
  have sq0 : h0.size ≤ h0.size := Nat.le_refl _
  change Go p e below s ({ frames := 1, cells := 0, slots := 0, locals := 12 } : Room).cells ({ frames := 1, cells := 0, slots := 0, locals := 12 } : Room).slots (Q3 Z a0 h0 n0) (s₁.setTop (entryFrame m #[(.ref a0)] 1))
  rw [ef_3 m a0]
  show Go _ _ _ _ _ _ _ (s₁.setTop (mkF m 0 #[.val (.ref a0)] []))
  refine Go.step (fun _ k => XS.aloadN X0.here hx rfl (hb hby d3_0) rfl rfl  k) ?_
  show Go _ _ _ _ _ _ _ (s₁.setTop (mkF m 1 #[.val (.ref a0)] [(.ref a0)]))
  obtain ⟨T1, X1, e1, st1⟩ := initO X0 hx hZ hown (hw _ (List.mem_of_getElem? (i := 15) rfl)) (hw _ (List.mem_of_getElem? (i := 16) rfl)) (hw _ (List.mem_of_getElem? (i := 17) rfl)) e0 (g := (mkF m 1 #[.val (.ref a0)] [(.ref a0)])) rfl (by rw [hml]; rfl) rfl (hb hby d3_1) (by decide) (W := 0) (by show 2 * 0 + _ ≤ _; exact Nat.le_of_eq rfl) (by decide)
  refine Go.step st1 ?_
  show Go _ _ _ _ _ _ _ (T1.setTop (mkF m 4 #[.val (.ref a0)] []))
  refine Go.retV X1 hx Bd.returns hlk (hb hby d3_4) ?_ (by decide) (by decide)
  rw [e1]
  exact ⟨(rfl), N0, rfl⟩
theorem pn_5 : plainName "com/example/sidewire/sidewire/protocol/PacketHeader" = true := by first | (simp [plainName, overriddenIn]; done) | decide +kernel
theorem d5_0 : decode prog_37_method_11_code 0 = .ok (.iload_n 1, 1) := by decide +kernel
theorem d5_1 : decode prog_37_method_11_code 1 = .ok (.ifCond .lt 8, 3) := by decide +kernel
theorem d5_4 : decode prog_37_method_11_code 4 = .ok (.iload_n 1, 1) := by decide +kernel
theorem d5_5 : decode prog_37_method_11_code 5 = .ok (.iload_n 2, 1) := by decide +kernel
theorem d5_6 : decode prog_37_method_11_code 6 = .ok (.if_icmp .le 19, 3) := by decide +kernel
theorem d5_25 : decode prog_37_method_11_code 25 = .ok (.return_, 1) := by decide +kernel
theorem ef_5 (m : MethodId) (sA : Addr) (p1 : Int32) (p2 : Int32) : entryFrame m #[(.ref sA), (.int p1), (.int p2)] 3 = mkF m 0 #[.val (.ref sA), .val (.int p1), .val (.int p2)] [] := by first | (simp [entryFrame, mkF, argsToLocals, Value.category]; done) | rfl
def Q5 (Z : State) (sA : Addr) (p1 : Int32) (p2 : Int32) (h0 : Heap) (n0 : Nat) (v : Option Value) (h : Heap) (L : List Loc) : Prop := (v = none) ∧ (Fr n0 L) ∧ (h = h0)
set_option maxRecDepth 65536 in
set_option maxHeartbeats 40000000 in
theorem rm5 (l : Launch) (Z : State) (aZ : Array Value) (hw : ∀ d ∈ tables_1, d.before aZ Z = true) (ws : List Jvm.Cond) (sA : Addr) (p1 : Int32) (p2 : Int32) (h0 : Heap) (n0 : Nat) (Z0 : n0 ≤ h0.size) (hr1 : ¬ p1 < 0) (hr2 : ¬ p2 < p1) :
    MetFree l (⟨"com/example/sidewire/sidewire/protocol/PacketHeader", "requireRange", "(Ljava/lang/String;II)V"⟩ : MethodName) (head1 (Jvm.Cond.code (⟨"com/example/sidewire/sidewire/protocol/PacketHeader", "requireRange", "(Ljava/lang/String;II)V"⟩ : MethodName) prog_37_method_11_code 3 none :: ws) ({ frames := 0, cells := 0, slots := 0, locals := 0 } : Room)) (fun a U => a = #[(.ref sA), (.int p1), (.int p2)] ∧ Z.Warmed39 U.vm ∧ U.heap = h0) (fun _ _ _ _ _ => True) (fun _ U o U' => ∃ v L, o = .returned v ∧ Q5 Z sA p1 p2 h0 n0 v U'.heap L ∧ FrameEnd U o U' L ({ frames := 0, cells := 0, slots := 0, locals := 0 } : Room).cells ({ frames := 0, cells := 0, slots := 0, locals := 0 } : Room).slots) := by
  refine MetFree.of_bodySF (plainFor_of_name pn_5) hisR ?_
  intro p e s m args below meth c s₁ Bd hml0 hP hK
  obtain ⟨rfl, hZ, hh⟩ := hP
  have hx := Bd.exec
  have hby := Bd.bytes
  have hml : c.maxLocals = 3 := hml0
  have hown : s.vm.findClass "com/example/sidewire/sidewire/protocol/PacketHeader" = some m.cls := findClass_of_methodNamed Bd.named
  have hnm := (name_of_methodNamed Bd.named Bd.method).1
  have hlk : meth.locks = false := BodyLoose.notSynchronized Bd
  have X0 : Stand p l e ({ frames := 0, cells := 0, slots := 0, locals := 0 } : Room) s m #[(.ref sA), (.int p1), (.int p2)] below meth c s₁ [] 0 0 := Stand.of_body Bd
  have e0 : s₁.heap = h0 := by rw [← hh, Bd.state]; rfl
  have N0 := Fr.nil n0
  have sq0 : h0.size ≤ h0.size := Nat.le_refl _
  change Go p e below s ({ frames := 0, cells := 0, slots := 0, locals := 0 } : Room).cells ({ frames := 0, cells := 0, slots := 0, locals := 0 } : Room).slots (Q5 Z sA p1 p2 h0 n0) (s₁.setTop (entryFrame m #[(.ref sA), (.int p1), (.int p2)] 3))
  rw [ef_5 m sA p1 p2]
  show Go _ _ _ _ _ _ _ (s₁.setTop (mkF m 0 #[.val (.ref sA), .val (.int p1), .val (.int p2)] []))
  refine Go.step (fun _ k => XS.iloadN X0.here hx rfl (hb hby d5_0) rfl  k) ?_
  show Go _ _ _ _ _ _ _ (s₁.setTop (mkF m 1 #[.val (.ref sA), .val (.int p1), .val (.int p2)] [(.int p1)]))
  have hc1 : ¬ (p1 < (0 : Int32)) := hr1
  refine Go.step (fun _ k => XS.ifNo X0.here hx rfl (hb hby d5_1) rfl ((if0 _ _).trans (flt hc1).1) k) ?_
  show Go _ _ _ _ _ _ _ (s₁.setTop (mkF m 4 #[.val (.ref sA), .val (.int p1), .val (.int p2)] []))
  refine Go.step (fun _ k => XS.iloadN X0.here hx rfl (hb hby d5_4) rfl  k) ?_
  show Go _ _ _ _ _ _ _ (s₁.setTop (mkF m 5 #[.val (.ref sA), .val (.int p1), .val (.int p2)] [(.int p1)]))
  refine Go.step (fun _ k => XS.iloadN X0.here hx rfl (hb hby d5_5) rfl  k) ?_
  show Go _ _ _ _ _ _ _ (s₁.setTop (mkF m 6 #[.val (.ref sA), .val (.int p1), .val (.int p2)] [(.int p2), (.int p1)]))
  have hc6 : ¬ (p2 < p1) := hr2
  refine Go.step (fun _ k => XS.icmpYes X0.here hx rfl (pc0 := 6) (pc' := 25) rfl (hb hby d5_6) rfl (flt hc6).2.2.2 (by decide) (by decide) k) ?_
  show Go _ _ _ _ _ _ _ (s₁.setTop (mkF m 25 #[.val (.ref sA), .val (.int p1), .val (.int p2)] []))
  refine Go.retV X0 hx Bd.returns hlk (hb hby d5_25) ?_ (by decide) (by decide)
  rw [e0]
  exact ⟨(rfl), N0, rfl⟩
theorem d6_0 : decode prog_37_method_9_code 0 = .ok (.iload_n 0, 1) := by decide +kernel
theorem d6_1 : decode prog_37_method_9_code 1 = .ok (.sipush 128, 3) := by decide +kernel
theorem d6_4 : decode prog_37_method_9_code 4 = .ok (.iand, 1) := by decide +kernel
theorem d6_5 : decode prog_37_method_9_code 5 = .ok (.ifCond .eq 7, 3) := by decide +kernel
theorem d6_8 : decode prog_37_method_9_code 8 = .ok (.iconst 1, 1) := by decide +kernel
theorem d6_9 : decode prog_37_method_9_code 9 = .ok (.goto 4, 3) := by decide +kernel
theorem d6_12 : decode prog_37_method_9_code 12 = .ok (.iconst 0, 1) := by decide +kernel
theorem d6_13 : decode prog_37_method_9_code 13 = .ok (.ireturn, 1) := by decide +kernel
theorem ef_6 (m : MethodId) (p0 : Int32) : entryFrame m #[(.int p0)] 1 = mkF m 0 #[.val (.int p0)] [] := by first | (simp [entryFrame, mkF, argsToLocals, Value.category]; done) | rfl
def Q6 (Z : State) (p0 : Int32) (h0 : Heap) (n0 : Nat) (v : Option Value) (h : Heap) (L : List Loc) : Prop := (v = some (.int (if (p0 &&& (128 : Int32)) = 0 then (0 : Int32) else 1))) ∧ (Fr n0 L) ∧ (h = h0)
set_option maxRecDepth 65536 in
set_option maxHeartbeats 40000000 in
theorem rm6 (l : Launch) (Z : State) (aZ : Array Value) (hw : ∀ d ∈ tables_1, d.before aZ Z = true) (ws : List Jvm.Cond) (p0 : Int32) (h0 : Heap) (n0 : Nat) (Z0 : n0 ≤ h0.size)  :
    MetFree l (⟨"com/example/sidewire/sidewire/protocol/PacketHeader", "marksReply", "(I)Z"⟩ : MethodName) (head1 (Jvm.Cond.code (⟨"com/example/sidewire/sidewire/protocol/PacketHeader", "marksReply", "(I)Z"⟩ : MethodName) prog_37_method_9_code 1 (some .boolean) :: ws) ({ frames := 0, cells := 0, slots := 0, locals := 0 } : Room)) (fun a U => a = #[(.int p0)] ∧ Z.Warmed39 U.vm ∧ U.heap = h0) (fun _ _ _ _ _ => True) (fun _ U o U' => ∃ v L, o = .returned v ∧ Q6 Z p0 h0 n0 v U'.heap L ∧ FrameEnd U o U' L ({ frames := 0, cells := 0, slots := 0, locals := 0 } : Room).cells ({ frames := 0, cells := 0, slots := 0, locals := 0 } : Room).slots) := by
  refine MetFree.of_bodySF (plainFor_of_name pn_5) hisR ?_
  intro p e s m args below meth c s₁ Bd hml0 hP hK
  obtain ⟨rfl, hZ, hh⟩ := hP
  have hx := Bd.exec
  have hby := Bd.bytes
  have hml : c.maxLocals = 1 := hml0
  have hown : s.vm.findClass "com/example/sidewire/sidewire/protocol/PacketHeader" = some m.cls := findClass_of_methodNamed Bd.named
  have hnm := (name_of_methodNamed Bd.named Bd.method).1
  have hlk : meth.locks = false := BodyLoose.notSynchronized Bd
  have X0 : Stand p l e ({ frames := 0, cells := 0, slots := 0, locals := 0 } : Room) s m #[(.int p0)] below meth c s₁ [] 0 0 := Stand.of_body Bd
  have e0 : s₁.heap = h0 := by rw [← hh, Bd.state]; rfl
  have N0 := Fr.nil n0
  have sq0 : h0.size ≤ h0.size := Nat.le_refl _
  change Go p e below s ({ frames := 0, cells := 0, slots := 0, locals := 0 } : Room).cells ({ frames := 0, cells := 0, slots := 0, locals := 0 } : Room).slots (Q6 Z p0 h0 n0) (s₁.setTop (entryFrame m #[(.int p0)] 1))
  rw [ef_6 m p0]
  show Go _ _ _ _ _ _ _ (s₁.setTop (mkF m 0 #[.val (.int p0)] []))
  refine Go.step (fun _ k => XS.iloadN X0.here hx rfl (hb hby d6_0) rfl  k) ?_
  show Go _ _ _ _ _ _ _ (s₁.setTop (mkF m 1 #[.val (.int p0)] [(.int p0)]))
  refine Go.step (fun _ k => XS.sipush X0.here hx rfl (hb hby d6_1) k) ?_
  show Go _ _ _ _ _ _ _ (s₁.setTop (mkF m 4 #[.val (.int p0)] [(.int (128 : Int32)), (.int p0)]))
  refine Go.step (fun _ k => XS.iand X0.here hx rfl (hb hby d6_4) rfl k) ?_
  show Go _ _ _ _ _ _ _ (s₁.setTop (mkF m 5 #[.val (.int p0)] [(.int (p0 &&& (128 : Int32)))]))
  by_cases hc5 : (p0 &&& (128 : Int32)) = (0 : Int32)
  · skip
    refine Go.step (fun _ k => XS.ifYes X0.here hx rfl (pc0 := 5) (pc' := 12) rfl (hb hby d6_5) rfl ((if0 _ _).trans (teq hc5).1) (by decide) (by decide) k) ?_
    show Go _ _ _ _ _ _ _ (s₁.setTop (mkF m 12 #[.val (.int p0)] []))
    refine Go.step (fun _ k => XS.iconst X0.here hx rfl (hb hby d6_12) k) ?_
    show Go _ _ _ _ _ _ _ (s₁.setTop (mkF m 13 #[.val (.int p0)] [(.int (0 : Int32))]))
    refine Go.retN X0 hx (t := .boolean) Bd.returns (by simp) hlk (hb hby d6_13) ?_ (by decide) (by decide)
    rw [e0]
    exact ⟨(by first | rfl | (simp_all [own_nb1, own_nb0]; done)), N0, rfl⟩
  · skip
    refine Go.step (fun _ k => XS.ifNo X0.here hx rfl (hb hby d6_5) rfl ((if0 _ _).trans (feq hc5).1) k) ?_
    show Go _ _ _ _ _ _ _ (s₁.setTop (mkF m 8 #[.val (.int p0)] []))
    refine Go.step (fun _ k => XS.iconst X0.here hx rfl (hb hby d6_8) k) ?_
    show Go _ _ _ _ _ _ _ (s₁.setTop (mkF m 9 #[.val (.int p0)] [(.int (1 : Int32))]))
    refine Go.step (fun _ k => XS.goto X0.here hx rfl (pc0 := 9) (pc' := 13) rfl (hb hby d6_9) (by decide) (by decide) k) ?_
    show Go _ _ _ _ _ _ _ (s₁.setTop (mkF m 13 #[.val (.int p0)] [(.int (1 : Int32))]))
    refine Go.retN X0 hx (t := .boolean) Bd.returns (by simp) hlk (hb hby d6_13) ?_ (by decide) (by decide)
    rw [e0]
    exact ⟨(by first | rfl | (simp_all [own_nb1, own_nb0]; done)), N0, rfl⟩
theorem pd_0 : parseMethodDescriptor "()V" = some ⟨[], none⟩ := by decide +kernel
theorem pd_1 : parseMethodDescriptor "(Ljava/lang/String;II)V" = some ⟨[(.object "java/lang/String"), .int, .int], none⟩ := by decide +kernel
theorem pd_2 : parseMethodDescriptor "(I)Z" = some ⟨[.int], some .boolean⟩ := by decide +kernel
theorem d2_0 : decode prog_37_method_1_code 0 = .ok (.aload_n 0, 1) := by decide +kernel
theorem d2_1 : decode prog_37_method_1_code 1 = .ok (.invokespecial 1, 3) := by decide +kernel
theorem d2_4 : decode prog_37_method_1_code 4 = .ok (.iload_n 1, 1) := by decide +kernel
theorem d2_5 : decode prog_37_method_1_code 5 = .ok (.bipush 11, 2) := by decide +kernel
theorem d2_7 : decode prog_37_method_1_code 7 = .ok (.if_icmp .ge 17, 3) := by decide +kernel
theorem d2_24 : decode prog_37_method_1_code 24 = .ok (.ldc 18, 2) := by decide +kernel
theorem d2_26 : decode prog_37_method_1_code 26 = .ok (.iload_n 3, 1) := by decide +kernel
theorem d2_27 : decode prog_37_method_1_code 27 = .ok (.sipush 255, 3) := by decide +kernel
theorem d2_30 : decode prog_37_method_1_code 30 = .ok (.invokestatic 20, 3) := by decide +kernel
theorem d2_33 : decode prog_37_method_1_code 33 = .ok (.ldc 24, 2) := by decide +kernel
theorem d2_35 : decode prog_37_method_1_code 35 = .ok (.iload 4, 2) := by decide +kernel
theorem d2_37 : decode prog_37_method_1_code 37 = .ok (.sipush 255, 3) := by decide +kernel
theorem d2_40 : decode prog_37_method_1_code 40 = .ok (.invokestatic 20, 3) := by decide +kernel
theorem d2_43 : decode prog_37_method_1_code 43 = .ok (.ldc 26, 2) := by decide +kernel
theorem d2_45 : decode prog_37_method_1_code 45 = .ok (.iload 5, 2) := by decide +kernel
theorem d2_47 : decode prog_37_method_1_code 47 = .ok (.sipush 255, 3) := by decide +kernel
theorem d2_50 : decode prog_37_method_1_code 50 = .ok (.invokestatic 20, 3) := by decide +kernel
theorem d2_53 : decode prog_37_method_1_code 53 = .ok (.ldc 28, 2) := by decide +kernel
theorem d2_55 : decode prog_37_method_1_code 55 = .ok (.iload 6, 2) := by decide +kernel
theorem d2_57 : decode prog_37_method_1_code 57 = .ok (.ldc 30, 2) := by decide +kernel
theorem d2_59 : decode prog_37_method_1_code 59 = .ok (.invokestatic 20, 3) := by decide +kernel
theorem d2_62 : decode prog_37_method_1_code 62 = .ok (.iload_n 3, 1) := by decide +kernel
theorem d2_63 : decode prog_37_method_1_code 63 = .ok (.invokestatic 31, 3) := by decide +kernel
theorem d2_66 : decode prog_37_method_1_code 66 = .ok (.ifCond .eq 23, 3) := by decide +kernel
theorem d2_69 : decode prog_37_method_1_code 69 = .ok (.iload 4, 2) := by decide +kernel
theorem d2_71 : decode prog_37_method_1_code 71 = .ok (.ifCond .ne 8, 3) := by decide +kernel
theorem d2_74 : decode prog_37_method_1_code 74 = .ok (.iload 5, 2) := by decide +kernel
theorem d2_76 : decode prog_37_method_1_code 76 = .ok (.ifCond .eq 13, 3) := by decide +kernel
theorem d2_89 : decode prog_37_method_1_code 89 = .ok (.iload_n 3, 1) := by decide +kernel
theorem d2_90 : decode prog_37_method_1_code 90 = .ok (.invokestatic 31, 3) := by decide +kernel
theorem d2_93 : decode prog_37_method_1_code 93 = .ok (.ifCond .ne 18, 3) := by decide +kernel
theorem d2_111 : decode prog_37_method_1_code 111 = .ok (.aload_n 0, 1) := by decide +kernel
theorem d2_112 : decode prog_37_method_1_code 112 = .ok (.iload_n 1, 1) := by decide +kernel
theorem d2_113 : decode prog_37_method_1_code 113 = .ok (.putfield 39, 3) := by decide +kernel
theorem d2_116 : decode prog_37_method_1_code 116 = .ok (.aload_n 0, 1) := by decide +kernel
theorem d2_117 : decode prog_37_method_1_code 117 = .ok (.iload_n 2, 1) := by decide +kernel
theorem d2_118 : decode prog_37_method_1_code 118 = .ok (.putfield 43, 3) := by decide +kernel
theorem d2_121 : decode prog_37_method_1_code 121 = .ok (.aload_n 0, 1) := by decide +kernel
theorem d2_122 : decode prog_37_method_1_code 122 = .ok (.iload_n 3, 1) := by decide +kernel
theorem d2_123 : decode prog_37_method_1_code 123 = .ok (.putfield 46, 3) := by decide +kernel
theorem d2_126 : decode prog_37_method_1_code 126 = .ok (.aload_n 0, 1) := by decide +kernel
theorem d2_127 : decode prog_37_method_1_code 127 = .ok (.iload 4, 2) := by decide +kernel
theorem d2_129 : decode prog_37_method_1_code 129 = .ok (.putfield 48, 3) := by decide +kernel
theorem d2_132 : decode prog_37_method_1_code 132 = .ok (.aload_n 0, 1) := by decide +kernel
theorem d2_133 : decode prog_37_method_1_code 133 = .ok (.iload 5, 2) := by decide +kernel
theorem d2_135 : decode prog_37_method_1_code 135 = .ok (.putfield 51, 3) := by decide +kernel
theorem d2_138 : decode prog_37_method_1_code 138 = .ok (.aload_n 0, 1) := by decide +kernel
theorem d2_139 : decode prog_37_method_1_code 139 = .ok (.iload 6, 2) := by decide +kernel
theorem d2_141 : decode prog_37_method_1_code 141 = .ok (.putfield 53, 3) := by decide +kernel
theorem d2_144 : decode prog_37_method_1_code 144 = .ok (.return_, 1) := by decide +kernel
theorem ef_phR (m : MethodId) (a0 : Addr) (p1 : Int32) (p2 : Int32) (p3 : Int32) (p4 : Int32) (p5 : Int32) (p6 : Int32) : entryFrame m #[(.ref a0), (.int p1), (.int p2), (.int p3), (.int p4), (.int p5), (.int p6)] 7 = mkF m 0 #[.val (.ref a0), .val (.int p1), .val (.int p2), .val (.int p3), .val (.int p4), .val (.int p5), .val (.int p6)] [] := by first | (simp [entryFrame, mkF, argsToLocals, Value.category]; done) | rfl
def QphR (Z : State) (a0 : Addr) (p1 : Int32) (p2 : Int32) (p3 : Int32) (p4 : Int32) (p5 : Int32) (p6 : Int32) (h0 : Heap) (n0 : Nat) (v : Option Value) (h : Heap) (L : List Loc) : Prop := (v = none) ∧ (Fr n0 L) ∧ (Keep h0 h [a0]) ∧ (Exa Z h a0 "com/example/sidewire/sidewire/protocol/PacketHeader") ∧ (Fld Z h a0 "com/example/sidewire/sidewire/protocol/PacketHeader" "commandSet" "I" (.int p4)) ∧ (Fld Z h a0 "com/example/sidewire/sidewire/protocol/PacketHeader" "command" "I" (.int p5))
set_option maxRecDepth 65536 in
set_option maxHeartbeats 40000000 in
theorem rmphR (l : Launch) (Z : State) (aZ : Array Value) (hw : ∀ d ∈ tables_1, d.before aZ Z = true) (ws : List Jvm.Cond) (a0 : Addr) (p1 : Int32) (p2 : Int32) (p3 : Int32) (p4 : Int32) (p5 : Int32) (p6 : Int32) (h0 : Heap) (n0 : Nat) (Z0 : n0 ≤ h0.size) (E_0 : Exa Z h0 a0 "com/example/sidewire/sidewire/protocol/PacketHeader") (F_1 : Fld Z h0 a0 "com/example/sidewire/sidewire/protocol/PacketHeader" "length" "I" (.int (0 : Int32))) (F_2 : Fld Z h0 a0 "com/example/sidewire/sidewire/protocol/PacketHeader" "id" "I" (.int (0 : Int32))) (F_3 : Fld Z h0 a0 "com/example/sidewire/sidewire/protocol/PacketHeader" "flags" "I" (.int (0 : Int32))) (F_4 : Fld Z h0 a0 "com/example/sidewire/sidewire/protocol/PacketHeader" "commandSet" "I" (.int (0 : Int32))) (F_5 : Fld Z h0 a0 "com/example/sidewire/sidewire/protocol/PacketHeader" "command" "I" (.int (0 : Int32))) (F_6 : Fld Z h0 a0 "com/example/sidewire/sidewire/protocol/PacketHeader" "errorCode" "I" (.int (0 : Int32))) (g_7 : n0 ≤ a0) (h11 : ¬ p1 < 11) (g3 : ¬ p3 < 0 ∧ ¬ (255 : Int32) < p3) (g4 : ¬ p4 < 0 ∧ ¬ (255 : Int32) < p4) (g5 : ¬ p5 < 0 ∧ ¬ (255 : Int32) < p5) (g6 : ¬ p6 < 0 ∧ ¬ (65535 : Int32) < p6) (hr : ¬ (p3 &&& (128 : Int32)) = 0) (h4 : p4 = 0) (h5 : p5 = 0) :
    MetFree l (⟨"com/example/sidewire/sidewire/protocol/PacketHeader", "<init>", "(IIIIII)V"⟩ : MethodName) (head1 (Jvm.Cond.code (⟨"com/example/sidewire/sidewire/protocol/PacketHeader", "<init>", "(IIIIII)V"⟩ : MethodName) prog_37_method_1_code 7 none :: ws) ({ frames := 2, cells := 8, slots := 148, locals := 24 } : Room)) (fun a U => a = #[(.ref a0), (.int p1), (.int p2), (.int p3), (.int p4), (.int p5), (.int p6)] ∧ Z.Warmed39 U.vm ∧ U.heap = h0) (fun _ _ _ _ _ => True) (fun _ U o U' => ∃ v L, o = .returned v ∧ QphR Z a0 p1 p2 p3 p4 p5 p6 h0 n0 v U'.heap L ∧ ReturnedEndW U o U' L ({ frames := 2, cells := 8, slots := 148, locals := 24 } : Room).cells ({ frames := 2, cells := 8, slots := 148, locals := 24 } : Room).slots) := by
  refine MetFree.of_bodySF (plainFor_of_name pn_5) hisR ?_
  intro p e s m args below meth c s₁ Bd hml0 hP hK
  obtain ⟨rfl, hZ, hh⟩ := hP
  have hx := Bd.exec
  have hby := Bd.bytes
  have hml : c.maxLocals = 7 := hml0
  have hown : s.vm.findClass "com/example/sidewire/sidewire/protocol/PacketHeader" = some m.cls := findClass_of_methodNamed Bd.named
  have hnm := (name_of_methodNamed Bd.named Bd.method).1
  have hlk : meth.locks = false := BodyLoose.notSynchronized Bd
  have X0 : Stand p l e ({ frames := 2, cells := 8, slots := 148, locals := 24 } : Room) (s.setVm s.vm) m #[(.ref a0), (.int p1), (.int p2), (.int p3), (.int p4), (.int p5), (.int p6)] below meth c s₁ [] 0 0 := Stand.of_body Bd
  have e0 : s₁.heap = h0 := by rw [← hh, Bd.state]; rfl
  have N0 := Fr.nil n0
  have sq0 : h0.size ≤ h0.size := Nat.le_refl _
  have hS0 : s.Since s.vm h0.size := (State.WarmedH.refl s).since _
  have hk0 : h0.size ≤ h0.size := Nat.le_refl _
  have hSt : ∀ d ∈ Bundle.stringAtoms, d.before aZ Z = true := by
    intro d hd
    simp only [Bundle.stringAtoms, List.mem_cons, List.not_mem_nil, or_false] at hd
    rcases hd with rfl | rfl | rfl | rfl | rfl | rfl | rfl
    · exact (hw _ (List.mem_of_getElem? (i := 19) rfl))
    · exact (hw _ (List.mem_of_getElem? (i := 20) rfl))
    · exact (hw _ (List.mem_of_getElem? (i := 21) rfl))
    · exact (hw _ (List.mem_of_getElem? (i := 22) rfl))
    · exact (hw _ (List.mem_of_getElem? (i := 23) rfl))
    · exact (hw _ (List.mem_of_getElem? (i := 24) rfl))
    · exact (hw _ (List.mem_of_getElem? (i := 25) rfl))
  have k0 : Keep h0 h0 [a0] := Keep.refl _ _
  change GoW p e below s ({ frames := 2, cells := 8, slots := 148, locals := 24 } : Room).cells ({ frames := 2, cells := 8, slots := 148, locals := 24 } : Room).slots (QphR Z a0 p1 p2 p3 p4 p5 p6 h0 n0) (s₁.setTop (entryFrame m #[(.ref a0), (.int p1), (.int p2), (.int p3), (.int p4), (.int p5), (.int p6)] 7))
  rw [ef_phR m a0 p1 p2 p3 p4 p5 p6]
  show GoW _ _ _ _ _ _ _ (s₁.setTop (mkF m 0 #[.val (.ref a0), .val (.int p1), .val (.int p2), .val (.int p3), .val (.int p4), .val (.int p5), .val (.int p6)] []))
  refine GoW.step (fun _ k => XS.aloadN X0.here hx rfl (hb hby d2_0) rfl rfl  k) ?_
  show GoW _ _ _ _ _ _ _ (s₁.setTop (mkF m 1 #[.val (.ref a0), .val (.int p1), .val (.int p2), .val (.int p3), .val (.int p4), .val (.int p5), .val (.int p6)] [(.ref a0)]))
  obtain ⟨_, _, ⟨T1, L1, k1, n1⟩, -, X1, ⟨Lc1, hQ1, l1, y1, z1⟩, st1⟩ := X0.specialBack hx (y := (⟨"java/lang/Record", "<init>", "()V"⟩ : MethodName)) rfl hown (mvT hZ (hw _ (List.mem_of_getElem? (i := 10) rfl))) (mvT hZ (hw _ (List.mem_of_getElem? (i := 11) rfl))) (mvT hZ (hw _ (List.mem_of_getElem? (i := 14) rfl))) (by decide) (backOf (W := 0) (rm3 l Z aZ hw [] a0 h0 n0 Z0 ) hZ (hw _ (List.mem_of_getElem? (i := 14) rfl)) (hw _ (List.mem_of_getElem? (i := 13) rfl)) (by decide) (by decide)) (g := (mkF m 1 #[.val (.ref a0), .val (.int p1), .val (.int p2), .val (.int p3), .val (.int p4), .val (.int p5), .val (.int p6)] [(.ref a0)])) rfl (by rw [hml]; rfl) (Steps.refl _) (a := a0) (argsL := []) (rest := []) (lenOf pd_0 rfl) rfl (by show 2 * 0 + _ ≤ _; exact Nat.le_of_eq rfl) (hb hby d2_1) (fun _ _ => ⟨rfl, e0, (by decide : 0 + 0 ≤ _), (by decide : 0 + 0 ≤ _)⟩)
  dsimp only [Pt.U, Pt.locs, Pt.cells, Pt.slots] at X1 l1 y1 z1 st1 hQ1
  subst l1 y1 z1
  obtain ⟨rfl, Nq1, e1⟩ := hQ1
  have N1 := Fr.app N0 Nq1
  refine GoW.tr st1 ?_
  show GoW _ _ _ _ _ _ _ (T1.setTop (mkF m 4 #[.val (.ref a0), .val (.int p1), .val (.int p2), .val (.int p3), .val (.int p4), .val (.int p5), .val (.int p6)] []))
  refine GoW.step (fun _ k => XS.iloadN X1.here hx rfl (hb hby d2_4) rfl  k) ?_
  show GoW _ _ _ _ _ _ _ (T1.setTop (mkF m 5 #[.val (.ref a0), .val (.int p1), .val (.int p2), .val (.int p3), .val (.int p4), .val (.int p5), .val (.int p6)] [(.int p1)]))
  refine GoW.step (fun _ k => XS.bipush X1.here hx rfl (hb hby d2_5) k) ?_
  show GoW _ _ _ _ _ _ _ (T1.setTop (mkF m 7 #[.val (.ref a0), .val (.int p1), .val (.int p2), .val (.int p3), .val (.int p4), .val (.int p5), .val (.int p6)] [(.int (11 : Int32)), (.int p1)]))
  have hc7 : ¬ (p1 < (11 : Int32)) := h11
  refine GoW.step (fun _ k => XS.icmpYes X1.here hx rfl (pc0 := 7) (pc' := 24) rfl (hb hby d2_7) rfl (flt hc7).2.1 (by decide) (by decide) k) ?_
  show GoW _ _ _ _ _ _ _ (T1.setTop (mkF m 24 #[.val (.ref a0), .val (.int p1), .val (.int p2), .val (.int p3), .val (.int p4), .val (.int p5), .val (.int p6)] []))
  obtain ⟨b2, T2, h2, k2, X2, e2, E2, hS2, hk2a, hZ, hown, st2⟩ := ldcS X1 hx hZ hown (hw _ (List.mem_of_getElem? (i := 18) rfl)) hSt e1 hS0 hk0 (g := (mkF m 24 #[.val (.ref a0), .val (.int p1), .val (.int p2), .val (.int p3), .val (.int p4), .val (.int p5), .val (.int p6)] [])) rfl (hb hby d2_24) (n := 20) (by decide) (by decide) (by decide) (by decide)
  refine GoW.step st2 ?_
  have z3 : n0 ≤ h2.size := Nat.le_trans Z0 E2.1
  have sqz3 : h0.size ≤ h2.size := Nat.le_trans sq0 E2.1
  have hk5 := Nat.le_trans hk0 E2.1
  have k4 : Keep h0 h2 [a0] := k0.ext E2
  show GoW _ _ _ _ _ _ _ (T2.setTop (mkF m 26 #[.val (.ref a0), .val (.int p1), .val (.int p2), .val (.int p3), .val (.int p4), .val (.int p5), .val (.int p6)] [(.ref b2)]))
  refine GoW.step (fun _ k => XS.iloadN X2.here hx rfl (hb hby d2_26) rfl  k) ?_
  show GoW _ _ _ _ _ _ _ (T2.setTop (mkF m 27 #[.val (.ref a0), .val (.int p1), .val (.int p2), .val (.int p3), .val (.int p4), .val (.int p5), .val (.int p6)] [(.int p3), (.ref b2)]))
  refine GoW.step (fun _ k => XS.sipush X2.here hx rfl (hb hby d2_27) k) ?_
  show GoW _ _ _ _ _ _ _ (T2.setTop (mkF m 30 #[.val (.ref a0), .val (.int p1), .val (.int p2), .val (.int p3), .val (.int p4), .val (.int p5), .val (.int p6)] [(.int (255 : Int32)), (.int p3), (.ref b2)]))
  have pq6 : ¬ p3 < 0 := g3.1
  have pq7 : ¬ (255 : Int32) < p3 := g3.2
  obtain ⟨_, _, ⟨T8, L8, k8, n8⟩, -, X8, ⟨Lc8, hQ8, l8, y8, z8⟩, st8⟩ := Jvm.LawKit.callS X2 hx (y := (⟨"com/example/sidewire/sidewire/protocol/PacketHeader", "requireRange", "(Ljava/lang/String;II)V"⟩ : MethodName)) hown (mvT hZ (hw _ (List.mem_of_getElem? (i := 26) rfl))) (mvT hZ (hw _ (List.mem_of_getElem? (i := 27) rfl))) (mvT hZ (hw _ (List.mem_of_getElem? (i := 6) rfl))) (mvT hZ (hw _ (List.mem_of_getElem? (i := 28) rfl))) (by decide) (backOf (W := 0) (rm5 l Z aZ hw [] b2 p3 (255 : Int32) h2 n0 z3 pq6 pq7) hZ (hw _ (List.mem_of_getElem? (i := 28) rfl)) (hw _ (List.mem_of_getElem? (i := 6) rfl)) (by decide) (by decide)) (g := (mkF m 30 #[.val (.ref a0), .val (.int p1), .val (.int p2), .val (.int p3), .val (.int p4), .val (.int p5), .val (.int p6)] [(.int (255 : Int32)), (.int p3), (.ref b2)])) rfl (by rw [hml]; rfl) (argsL := [(.ref b2), (.int p3), (.int (255 : Int32))]) (rest := []) (lenOf pd_1 rfl) rfl (by show 2 * 0 + _ ≤ _; exact Nat.le_of_eq rfl) (hb hby d2_30) (fun _ _ => ⟨rfl, e2, (by decide : 2 + 0 ≤ _), (by decide : 24 + 0 ≤ _)⟩)
  dsimp only [Pt.U, Pt.locs, Pt.cells, Pt.slots] at X8 l8 y8 z8 st8 hQ8
  subst l8 y8 z8
  obtain ⟨rfl, Nq8, e8⟩ := hQ8
  have N8 := Fr.app N1 Nq8
  refine GoW.step st8 ?_
  show GoW _ _ _ _ _ _ _ (T8.setTop (mkF m 33 #[.val (.ref a0), .val (.int p1), .val (.int p2), .val (.int p3), .val (.int p4), .val (.int p5), .val (.int p6)] []))
  obtain ⟨b9, T9, h9, k9, X9, e9, E9, hS9, hk9a, hZ, hown, st9⟩ := ldcS X8 hx hZ hown (hw _ (List.mem_of_getElem? (i := 29) rfl)) hSt e8 hS2 hk2a (g := (mkF m 33 #[.val (.ref a0), .val (.int p1), .val (.int p2), .val (.int p3), .val (.int p4), .val (.int p5), .val (.int p6)] [])) rfl (hb hby d2_33) (n := 44) (by decide) (by decide) (by decide) (by decide)
  refine GoW.step st9 ?_
  have z10 : n0 ≤ h9.size := Nat.le_trans z3 E9.1
  have sqz10 : h0.size ≤ h9.size := Nat.le_trans sqz3 E9.1
  have hk12 := Nat.le_trans hk2a E9.1
  have k11 : Keep h0 h9 [a0] := k4.ext E9
  show GoW _ _ _ _ _ _ _ (T9.setTop (mkF m 35 #[.val (.ref a0), .val (.int p1), .val (.int p2), .val (.int p3), .val (.int p4), .val (.int p5), .val (.int p6)] [(.ref b9)]))
  refine GoW.step (fun _ k => XS.iload X9.here hx rfl (hb hby d2_35) rfl  k) ?_
  show GoW _ _ _ _ _ _ _ (T9.setTop (mkF m 37 #[.val (.ref a0), .val (.int p1), .val (.int p2), .val (.int p3), .val (.int p4), .val (.int p5), .val (.int p6)] [(.int p4), (.ref b9)]))
  refine GoW.step (fun _ k => XS.sipush X9.here hx rfl (hb hby d2_37) k) ?_
  show GoW _ _ _ _ _ _ _ (T9.setTop (mkF m 40 #[.val (.ref a0), .val (.int p1), .val (.int p2), .val (.int p3), .val (.int p4), .val (.int p5), .val (.int p6)] [(.int (255 : Int32)), (.int p4), (.ref b9)]))
  have pq13 : ¬ p4 < 0 := g4.1
  have pq14 : ¬ (255 : Int32) < p4 := g4.2
  obtain ⟨_, _, ⟨T15, L15, k15, n15⟩, -, X15, ⟨Lc15, hQ15, l15, y15, z15⟩, st15⟩ := Jvm.LawKit.callS X9 hx (y := (⟨"com/example/sidewire/sidewire/protocol/PacketHeader", "requireRange", "(Ljava/lang/String;II)V"⟩ : MethodName)) hown (mvT hZ (hw _ (List.mem_of_getElem? (i := 26) rfl))) (mvT hZ (hw _ (List.mem_of_getElem? (i := 27) rfl))) (mvT hZ (hw _ (List.mem_of_getElem? (i := 6) rfl))) (mvT hZ (hw _ (List.mem_of_getElem? (i := 28) rfl))) (by decide) (backOf (W := 0) (rm5 l Z aZ hw [] b9 p4 (255 : Int32) h9 n0 z10 pq13 pq14) hZ (hw _ (List.mem_of_getElem? (i := 28) rfl)) (hw _ (List.mem_of_getElem? (i := 6) rfl)) (by decide) (by decide)) (g := (mkF m 40 #[.val (.ref a0), .val (.int p1), .val (.int p2), .val (.int p3), .val (.int p4), .val (.int p5), .val (.int p6)] [(.int (255 : Int32)), (.int p4), (.ref b9)])) rfl (by rw [hml]; rfl) (argsL := [(.ref b9), (.int p4), (.int (255 : Int32))]) (rest := []) (lenOf pd_1 rfl) rfl (by show 2 * 0 + _ ≤ _; exact Nat.le_of_eq rfl) (hb hby d2_40) (fun _ _ => ⟨rfl, e9, (by decide : 4 + 0 ≤ _), (by decide : 72 + 0 ≤ _)⟩)
  dsimp only [Pt.U, Pt.locs, Pt.cells, Pt.slots] at X15 l15 y15 z15 st15 hQ15
  subst l15 y15 z15
  obtain ⟨rfl, Nq15, e15⟩ := hQ15
  have N15 := Fr.app N8 Nq15
  refine GoW.step st15 ?_
  show GoW _ _ _ _ _ _ _ (T15.setTop (mkF m 43 #[.val (.ref a0), .val (.int p1), .val (.int p2), .val (.int p3), .val (.int p4), .val (.int p5), .val (.int p6)] []))
  obtain ⟨b16, T16, h16, k16, X16, e16, E16, hS16, hk16a, hZ, hown, st16⟩ := ldcS X15 hx hZ hown (hw _ (List.mem_of_getElem? (i := 30) rfl)) hSt e15 hS9 hk9a (g := (mkF m 43 #[.val (.ref a0), .val (.int p1), .val (.int p2), .val (.int p3), .val (.int p4), .val (.int p5), .val (.int p6)] [])) rfl (hb hby d2_43) (n := 28) (by decide) (by decide) (by decide) (by decide)
  refine GoW.step st16 ?_
  have z17 : n0 ≤ h16.size := Nat.le_trans z10 E16.1
  have sqz17 : h0.size ≤ h16.size := Nat.le_trans sqz10 E16.1
  have hk19 := Nat.le_trans hk9a E16.1
  have k18 : Keep h0 h16 [a0] := k11.ext E16
  show GoW _ _ _ _ _ _ _ (T16.setTop (mkF m 45 #[.val (.ref a0), .val (.int p1), .val (.int p2), .val (.int p3), .val (.int p4), .val (.int p5), .val (.int p6)] [(.ref b16)]))
  refine GoW.step (fun _ k => XS.iload X16.here hx rfl (hb hby d2_45) rfl  k) ?_
  show GoW _ _ _ _ _ _ _ (T16.setTop (mkF m 47 #[.val (.ref a0), .val (.int p1), .val (.int p2), .val (.int p3), .val (.int p4), .val (.int p5), .val (.int p6)] [(.int p5), (.ref b16)]))
  refine GoW.step (fun _ k => XS.sipush X16.here hx rfl (hb hby d2_47) k) ?_
  show GoW _ _ _ _ _ _ _ (T16.setTop (mkF m 50 #[.val (.ref a0), .val (.int p1), .val (.int p2), .val (.int p3), .val (.int p4), .val (.int p5), .val (.int p6)] [(.int (255 : Int32)), (.int p5), (.ref b16)]))
  have pq20 : ¬ p5 < 0 := g5.1
  have pq21 : ¬ (255 : Int32) < p5 := g5.2
  obtain ⟨_, _, ⟨T22, L22, k22, n22⟩, -, X22, ⟨Lc22, hQ22, l22, y22, z22⟩, st22⟩ := Jvm.LawKit.callS X16 hx (y := (⟨"com/example/sidewire/sidewire/protocol/PacketHeader", "requireRange", "(Ljava/lang/String;II)V"⟩ : MethodName)) hown (mvT hZ (hw _ (List.mem_of_getElem? (i := 26) rfl))) (mvT hZ (hw _ (List.mem_of_getElem? (i := 27) rfl))) (mvT hZ (hw _ (List.mem_of_getElem? (i := 6) rfl))) (mvT hZ (hw _ (List.mem_of_getElem? (i := 28) rfl))) (by decide) (backOf (W := 0) (rm5 l Z aZ hw [] b16 p5 (255 : Int32) h16 n0 z17 pq20 pq21) hZ (hw _ (List.mem_of_getElem? (i := 28) rfl)) (hw _ (List.mem_of_getElem? (i := 6) rfl)) (by decide) (by decide)) (g := (mkF m 50 #[.val (.ref a0), .val (.int p1), .val (.int p2), .val (.int p3), .val (.int p4), .val (.int p5), .val (.int p6)] [(.int (255 : Int32)), (.int p5), (.ref b16)])) rfl (by rw [hml]; rfl) (argsL := [(.ref b16), (.int p5), (.int (255 : Int32))]) (rest := []) (lenOf pd_1 rfl) rfl (by show 2 * 0 + _ ≤ _; exact Nat.le_of_eq rfl) (hb hby d2_50) (fun _ _ => ⟨rfl, e16, (by decide : 6 + 0 ≤ _), (by decide : 104 + 0 ≤ _)⟩)
  dsimp only [Pt.U, Pt.locs, Pt.cells, Pt.slots] at X22 l22 y22 z22 st22 hQ22
  subst l22 y22 z22
  obtain ⟨rfl, Nq22, e22⟩ := hQ22
  have N22 := Fr.app N15 Nq22
  refine GoW.step st22 ?_
  show GoW _ _ _ _ _ _ _ (T22.setTop (mkF m 53 #[.val (.ref a0), .val (.int p1), .val (.int p2), .val (.int p3), .val (.int p4), .val (.int p5), .val (.int p6)] []))
  obtain ⟨b23, T23, h23, k23, X23, e23, E23, hS23, hk23a, hZ, hown, st23⟩ := ldcS X22 hx hZ hown (hw _ (List.mem_of_getElem? (i := 31) rfl)) hSt e22 hS16 hk16a (g := (mkF m 53 #[.val (.ref a0), .val (.int p1), .val (.int p2), .val (.int p3), .val (.int p4), .val (.int p5), .val (.int p6)] [])) rfl (hb hby d2_53) (n := 40) (by decide) (by decide) (by decide) (by decide)
  refine GoW.step st23 ?_
  have z24 : n0 ≤ h23.size := Nat.le_trans z17 E23.1
  have sqz24 : h0.size ≤ h23.size := Nat.le_trans sqz17 E23.1
  have hk26 := Nat.le_trans hk16a E23.1
  have k25 : Keep h0 h23 [a0] := k18.ext E23
  show GoW _ _ _ _ _ _ _ (T23.setTop (mkF m 55 #[.val (.ref a0), .val (.int p1), .val (.int p2), .val (.int p3), .val (.int p4), .val (.int p5), .val (.int p6)] [(.ref b23)]))
  refine GoW.step (fun _ k => XS.iload X23.here hx rfl (hb hby d2_55) rfl  k) ?_
  show GoW _ _ _ _ _ _ _ (T23.setTop (mkF m 57 #[.val (.ref a0), .val (.int p1), .val (.int p2), .val (.int p3), .val (.int p4), .val (.int p5), .val (.int p6)] [(.int p6), (.ref b23)]))
  refine GoW.step (X23.ldcInt hx hown (mvT hZ (hw _ (List.mem_of_getElem? (i := 32) rfl))) (g := (mkF m 57 #[.val (.ref a0), .val (.int p1), .val (.int p2), .val (.int p3), .val (.int p4), .val (.int p5), .val (.int p6)] [(.int p6), (.ref b23)])) rfl (hb hby d2_57)) ?_
  show GoW _ _ _ _ _ _ _ (T23.setTop (mkF m 59 #[.val (.ref a0), .val (.int p1), .val (.int p2), .val (.int p3), .val (.int p4), .val (.int p5), .val (.int p6)] [(.int (65535 : Int32)), (.int p6), (.ref b23)]))
  have pq27 : ¬ p6 < 0 := g6.1
  have pq28 : ¬ (65535 : Int32) < p6 := g6.2
  obtain ⟨_, _, ⟨T29, L29, k29, n29⟩, -, X29, ⟨Lc29, hQ29, l29, y29, z29⟩, st29⟩ := Jvm.LawKit.callS X23 hx (y := (⟨"com/example/sidewire/sidewire/protocol/PacketHeader", "requireRange", "(Ljava/lang/String;II)V"⟩ : MethodName)) hown (mvT hZ (hw _ (List.mem_of_getElem? (i := 26) rfl))) (mvT hZ (hw _ (List.mem_of_getElem? (i := 27) rfl))) (mvT hZ (hw _ (List.mem_of_getElem? (i := 6) rfl))) (mvT hZ (hw _ (List.mem_of_getElem? (i := 28) rfl))) (by decide) (backOf (W := 0) (rm5 l Z aZ hw [] b23 p6 (65535 : Int32) h23 n0 z24 pq27 pq28) hZ (hw _ (List.mem_of_getElem? (i := 28) rfl)) (hw _ (List.mem_of_getElem? (i := 6) rfl)) (by decide) (by decide)) (g := (mkF m 59 #[.val (.ref a0), .val (.int p1), .val (.int p2), .val (.int p3), .val (.int p4), .val (.int p5), .val (.int p6)] [(.int (65535 : Int32)), (.int p6), (.ref b23)])) rfl (by rw [hml]; rfl) (argsL := [(.ref b23), (.int p6), (.int (65535 : Int32))]) (rest := []) (lenOf pd_1 rfl) rfl (by show 2 * 0 + _ ≤ _; exact Nat.le_of_eq rfl) (hb hby d2_59) (fun _ _ => ⟨rfl, e23, (by decide : 8 + 0 ≤ _), (by decide : 148 + 0 ≤ _)⟩)
  dsimp only [Pt.U, Pt.locs, Pt.cells, Pt.slots] at X29 l29 y29 z29 st29 hQ29
  subst l29 y29 z29
  obtain ⟨rfl, Nq29, e29⟩ := hQ29
  have N29 := Fr.app N22 Nq29
  refine GoW.step st29 ?_
  show GoW _ _ _ _ _ _ _ (T29.setTop (mkF m 62 #[.val (.ref a0), .val (.int p1), .val (.int p2), .val (.int p3), .val (.int p4), .val (.int p5), .val (.int p6)] []))
  refine GoW.step (fun _ k => XS.iloadN X29.here hx rfl (hb hby d2_62) rfl  k) ?_
  show GoW _ _ _ _ _ _ _ (T29.setTop (mkF m 63 #[.val (.ref a0), .val (.int p1), .val (.int p2), .val (.int p3), .val (.int p4), .val (.int p5), .val (.int p6)] [(.int p3)]))
  obtain ⟨_, _, ⟨T30, L30, k30, n30⟩, -, X30, ⟨Lc30, hQ30, l30, y30, z30⟩, st30⟩ := Jvm.LawKit.callS X29 hx (y := (⟨"com/example/sidewire/sidewire/protocol/PacketHeader", "marksReply", "(I)Z"⟩ : MethodName)) hown (mvT hZ (hw _ (List.mem_of_getElem? (i := 33) rfl))) (mvT hZ (hw _ (List.mem_of_getElem? (i := 34) rfl))) (mvT hZ (hw _ (List.mem_of_getElem? (i := 6) rfl))) (mvT hZ (hw _ (List.mem_of_getElem? (i := 35) rfl))) (by decide) (backOf (W := 0) (rm6 l Z aZ hw [] p3 h23 n0 z24 ) hZ (hw _ (List.mem_of_getElem? (i := 35) rfl)) (hw _ (List.mem_of_getElem? (i := 6) rfl)) (by decide) (by decide)) (g := (mkF m 63 #[.val (.ref a0), .val (.int p1), .val (.int p2), .val (.int p3), .val (.int p4), .val (.int p5), .val (.int p6)] [(.int p3)])) rfl (by rw [hml]; rfl) (argsL := [(.int p3)]) (rest := []) (lenOf pd_2 rfl) rfl (by show 2 * 0 + _ ≤ _; exact Nat.le_of_eq rfl) (hb hby d2_63) (fun _ _ => ⟨rfl, e29, (by decide : 8 + 0 ≤ _), (by decide : 148 + 0 ≤ _)⟩)
  dsimp only [Pt.U, Pt.locs, Pt.cells, Pt.slots] at X30 l30 y30 z30 st30 hQ30
  subst l30 y30 z30
  obtain ⟨rfl, Nq30, e30⟩ := hQ30
  have N30 := Fr.app N29 Nq30
  refine GoW.step st30 ?_
  show GoW _ _ _ _ _ _ _ (T30.setTop (mkF m 66 #[.val (.ref a0), .val (.int p1), .val (.int p2), .val (.int p3), .val (.int p4), .val (.int p5), .val (.int p6)] [(.int (if (p3 &&& (128 : Int32)) = 0 then (0 : Int32) else 1))]))
  have hc66 : ¬ ((if (p3 &&& (128 : Int32)) = 0 then (0 : Int32) else 1) = (0 : Int32)) := own_mr1 hr
  refine GoW.step (fun _ k => XS.ifNo X30.here hx rfl (hb hby d2_66) rfl ((if0 _ _).trans (feq hc66).1) k) ?_
  show GoW _ _ _ _ _ _ _ (T30.setTop (mkF m 69 #[.val (.ref a0), .val (.int p1), .val (.int p2), .val (.int p3), .val (.int p4), .val (.int p5), .val (.int p6)] []))
  refine GoW.step (fun _ k => XS.iload X30.here hx rfl (hb hby d2_69) rfl  k) ?_
  show GoW _ _ _ _ _ _ _ (T30.setTop (mkF m 71 #[.val (.ref a0), .val (.int p1), .val (.int p2), .val (.int p3), .val (.int p4), .val (.int p5), .val (.int p6)] [(.int p4)]))
  have hc71 : p4 = (0 : Int32) := h4
  refine GoW.step (fun _ k => XS.ifNo X30.here hx rfl (hb hby d2_71) rfl ((if0 _ _).trans (teq hc71).2) k) ?_
  show GoW _ _ _ _ _ _ _ (T30.setTop (mkF m 74 #[.val (.ref a0), .val (.int p1), .val (.int p2), .val (.int p3), .val (.int p4), .val (.int p5), .val (.int p6)] []))
  refine GoW.step (fun _ k => XS.iload X30.here hx rfl (hb hby d2_74) rfl  k) ?_
  show GoW _ _ _ _ _ _ _ (T30.setTop (mkF m 76 #[.val (.ref a0), .val (.int p1), .val (.int p2), .val (.int p3), .val (.int p4), .val (.int p5), .val (.int p6)] [(.int p5)]))
  have hc76 : p5 = (0 : Int32) := h5
  refine GoW.step (fun _ k => XS.ifYes X30.here hx rfl (pc0 := 76) (pc' := 89) rfl (hb hby d2_76) rfl ((if0 _ _).trans (teq hc76).1) (by decide) (by decide) k) ?_
  show GoW _ _ _ _ _ _ _ (T30.setTop (mkF m 89 #[.val (.ref a0), .val (.int p1), .val (.int p2), .val (.int p3), .val (.int p4), .val (.int p5), .val (.int p6)] []))
  refine GoW.step (fun _ k => XS.iloadN X30.here hx rfl (hb hby d2_89) rfl  k) ?_
  show GoW _ _ _ _ _ _ _ (T30.setTop (mkF m 90 #[.val (.ref a0), .val (.int p1), .val (.int p2), .val (.int p3), .val (.int p4), .val (.int p5), .val (.int p6)] [(.int p3)]))
  obtain ⟨_, _, ⟨T31, L31, k31, n31⟩, -, X31, ⟨Lc31, hQ31, l31, y31, z31⟩, st31⟩ := Jvm.LawKit.callS X30 hx (y := (⟨"com/example/sidewire/sidewire/protocol/PacketHeader", "marksReply", "(I)Z"⟩ : MethodName)) hown (mvT hZ (hw _ (List.mem_of_getElem? (i := 33) rfl))) (mvT hZ (hw _ (List.mem_of_getElem? (i := 34) rfl))) (mvT hZ (hw _ (List.mem_of_getElem? (i := 6) rfl))) (mvT hZ (hw _ (List.mem_of_getElem? (i := 35) rfl))) (by decide) (backOf (W := 0) (rm6 l Z aZ hw [] p3 h23 n0 z24 ) hZ (hw _ (List.mem_of_getElem? (i := 35) rfl)) (hw _ (List.mem_of_getElem? (i := 6) rfl)) (by decide) (by decide)) (g := (mkF m 90 #[.val (.ref a0), .val (.int p1), .val (.int p2), .val (.int p3), .val (.int p4), .val (.int p5), .val (.int p6)] [(.int p3)])) rfl (by rw [hml]; rfl) (argsL := [(.int p3)]) (rest := []) (lenOf pd_2 rfl) rfl (by show 2 * 0 + _ ≤ _; exact Nat.le_of_eq rfl) (hb hby d2_90) (fun _ _ => ⟨rfl, e30, (by decide : 8 + 0 ≤ _), (by decide : 148 + 0 ≤ _)⟩)
  dsimp only [Pt.U, Pt.locs, Pt.cells, Pt.slots] at X31 l31 y31 z31 st31 hQ31
  subst l31 y31 z31
  obtain ⟨rfl, Nq31, e31⟩ := hQ31
  have N31 := Fr.app N30 Nq31
  refine GoW.step st31 ?_
  show GoW _ _ _ _ _ _ _ (T31.setTop (mkF m 93 #[.val (.ref a0), .val (.int p1), .val (.int p2), .val (.int p3), .val (.int p4), .val (.int p5), .val (.int p6)] [(.int (if (p3 &&& (128 : Int32)) = 0 then (0 : Int32) else 1))]))
  have hc93 : ¬ ((if (p3 &&& (128 : Int32)) = 0 then (0 : Int32) else 1) = (0 : Int32)) := own_mr1 hr
  refine GoW.step (fun _ k => XS.ifYes X31.here hx rfl (pc0 := 93) (pc' := 111) rfl (hb hby d2_93) rfl ((if0 _ _).trans (feq hc93).2) (by decide) (by decide) k) ?_
  show GoW _ _ _ _ _ _ _ (T31.setTop (mkF m 111 #[.val (.ref a0), .val (.int p1), .val (.int p2), .val (.int p3), .val (.int p4), .val (.int p5), .val (.int p6)] []))
  refine GoW.step (fun _ k => XS.aloadN X31.here hx rfl (hb hby d2_111) rfl rfl  k) ?_
  show GoW _ _ _ _ _ _ _ (T31.setTop (mkF m 112 #[.val (.ref a0), .val (.int p1), .val (.int p2), .val (.int p3), .val (.int p4), .val (.int p5), .val (.int p6)] [(.ref a0)]))
  refine GoW.step (fun _ k => XS.iloadN X31.here hx rfl (hb hby d2_112) rfl  k) ?_
  show GoW _ _ _ _ _ _ _ (T31.setTop (mkF m 113 #[.val (.ref a0), .val (.int p1), .val (.int p2), .val (.int p3), .val (.int p4), .val (.int p5), .val (.int p6)] [(.int p1), (.ref a0)]))
  have f32 : Exa Z h23 a0 "com/example/sidewire/sidewire/protocol/PacketHeader" := ((((E_0.ext E2).ext E9).ext E16).ext E23)
  have f33 : Fld Z h23 a0 "com/example/sidewire/sidewire/protocol/PacketHeader" "length" "I" (.int (0 : Int32)) := ((((F_1.ext E2).ext E9).ext E16).ext E23)
  obtain ⟨T34, h34, X34, e34, W34, st34⟩ := putF X31 hx hZ hown (host := "") (Or.inl (hw _ (List.mem_of_getElem? (i := 36) rfl))) Via.refl e31 f33 f32 (Or.inr ⟨(hw _ (List.mem_of_getElem? (i := 37) rfl)), rfl, hnm⟩) (hw _ (List.mem_of_getElem? (i := 5) rfl)) (ty := .int) (v := (.int p1)) (by decide) rfl rfl (g := (mkF m 113 #[.val (.ref a0), .val (.int p1), .val (.int p2), .val (.int p3), .val (.int p4), .val (.int p5), .val (.int p6)] [(.int p1), (.ref a0)])) rfl rfl (hb hby d2_113)
  refine GoW.step st34 ?_
  have N34 := Fr.snoc X34 N31 g_7
  have z35 : n0 ≤ h34.size := Nat.le_trans z24 (Keep.of_wr W34).1
  have sqz35 : h0.size ≤ h34.size := Nat.le_trans sqz24 (Keep.of_wr W34).1
  have hk37 := Nat.le_trans hk23a (Keep.of_wr W34).1
  have k36 : Keep h0 h34 [a0] := k25.wr W34 (Or.inl (List.mem_of_getElem? (i := 0) rfl))
  have f38 : Fld Z h34 a0 "com/example/sidewire/sidewire/protocol/PacketHeader" "length" "I" (.int p1) := f33.same W34
  show GoW _ _ _ _ _ _ _ (T34.setTop (mkF m 116 #[.val (.ref a0), .val (.int p1), .val (.int p2), .val (.int p3), .val (.int p4), .val (.int p5), .val (.int p6)] []))
  refine GoW.step (fun _ k => XS.aloadN X34.here hx rfl (hb hby d2_116) rfl rfl  k) ?_
  show GoW _ _ _ _ _ _ _ (T34.setTop (mkF m 117 #[.val (.ref a0), .val (.int p1), .val (.int p2), .val (.int p3), .val (.int p4), .val (.int p5), .val (.int p6)] [(.ref a0)]))
  refine GoW.step (fun _ k => XS.iloadN X34.here hx rfl (hb hby d2_117) rfl  k) ?_
  show GoW _ _ _ _ _ _ _ (T34.setTop (mkF m 118 #[.val (.ref a0), .val (.int p1), .val (.int p2), .val (.int p3), .val (.int p4), .val (.int p5), .val (.int p6)] [(.int p2), (.ref a0)]))
  have f39 : Exa Z h34 a0 "com/example/sidewire/sidewire/protocol/PacketHeader" := (f32.wr W34)
  have f40 : Fld Z h34 a0 "com/example/sidewire/sidewire/protocol/PacketHeader" "id" "I" (.int (0 : Int32)) := (((((F_2.ext E2).ext E9).ext E16).ext E23).other W34 (Or.inr (slot_ne (Or.inr (hw _ (List.mem_of_getElem? (i := 39) rfl))) (Or.inr (hw _ (List.mem_of_getElem? (i := 37) rfl))) (by decide) (t := .int) (t' := .int) (by decide) (by decide))))
  obtain ⟨T41, h41, X41, e41, W41, st41⟩ := putF X34 hx hZ hown (host := "") (Or.inl (hw _ (List.mem_of_getElem? (i := 38) rfl))) Via.refl e34 f40 f39 (Or.inr ⟨(hw _ (List.mem_of_getElem? (i := 39) rfl)), rfl, hnm⟩) (hw _ (List.mem_of_getElem? (i := 5) rfl)) (ty := .int) (v := (.int p2)) (by decide) rfl rfl (g := (mkF m 118 #[.val (.ref a0), .val (.int p1), .val (.int p2), .val (.int p3), .val (.int p4), .val (.int p5), .val (.int p6)] [(.int p2), (.ref a0)])) rfl rfl (hb hby d2_118)
  refine GoW.step st41 ?_
  have N41 := Fr.snoc X41 N34 g_7
  have z42 : n0 ≤ h41.size := Nat.le_trans z35 (Keep.of_wr W41).1
  have sqz42 : h0.size ≤ h41.size := Nat.le_trans sqz35 (Keep.of_wr W41).1
  have hk44 := Nat.le_trans hk37 (Keep.of_wr W41).1
  have k43 : Keep h0 h41 [a0] := k36.wr W41 (Or.inl (List.mem_of_getElem? (i := 0) rfl))
  have f45 : Fld Z h41 a0 "com/example/sidewire/sidewire/protocol/PacketHeader" "id" "I" (.int p2) := f40.same W41
  show GoW _ _ _ _ _ _ _ (T41.setTop (mkF m 121 #[.val (.ref a0), .val (.int p1), .val (.int p2), .val (.int p3), .val (.int p4), .val (.int p5), .val (.int p6)] []))
  refine GoW.step (fun _ k => XS.aloadN X41.here hx rfl (hb hby d2_121) rfl rfl  k) ?_
  show GoW _ _ _ _ _ _ _ (T41.setTop (mkF m 122 #[.val (.ref a0), .val (.int p1), .val (.int p2), .val (.int p3), .val (.int p4), .val (.int p5), .val (.int p6)] [(.ref a0)]))
  refine GoW.step (fun _ k => XS.iloadN X41.here hx rfl (hb hby d2_122) rfl  k) ?_
  show GoW _ _ _ _ _ _ _ (T41.setTop (mkF m 123 #[.val (.ref a0), .val (.int p1), .val (.int p2), .val (.int p3), .val (.int p4), .val (.int p5), .val (.int p6)] [(.int p3), (.ref a0)]))
  have f46 : Exa Z h41 a0 "com/example/sidewire/sidewire/protocol/PacketHeader" := (f39.wr W41)
  have f47 : Fld Z h41 a0 "com/example/sidewire/sidewire/protocol/PacketHeader" "flags" "I" (.int (0 : Int32)) := ((((((F_3.ext E2).ext E9).ext E16).ext E23).other W34 (Or.inr (slot_ne (Or.inr (hw _ (List.mem_of_getElem? (i := 41) rfl))) (Or.inr (hw _ (List.mem_of_getElem? (i := 37) rfl))) (by decide) (t := .int) (t' := .int) (by decide) (by decide)))).other W41 (Or.inr (slot_ne (Or.inr (hw _ (List.mem_of_getElem? (i := 41) rfl))) (Or.inr (hw _ (List.mem_of_getElem? (i := 39) rfl))) (by decide) (t := .int) (t' := .int) (by decide) (by decide))))
  obtain ⟨T48, h48, X48, e48, W48, st48⟩ := putF X41 hx hZ hown (host := "") (Or.inl (hw _ (List.mem_of_getElem? (i := 40) rfl))) Via.refl e41 f47 f46 (Or.inr ⟨(hw _ (List.mem_of_getElem? (i := 41) rfl)), rfl, hnm⟩) (hw _ (List.mem_of_getElem? (i := 5) rfl)) (ty := .int) (v := (.int p3)) (by decide) rfl rfl (g := (mkF m 123 #[.val (.ref a0), .val (.int p1), .val (.int p2), .val (.int p3), .val (.int p4), .val (.int p5), .val (.int p6)] [(.int p3), (.ref a0)])) rfl rfl (hb hby d2_123)
  refine GoW.step st48 ?_
  have N48 := Fr.snoc X48 N41 g_7
  have z49 : n0 ≤ h48.size := Nat.le_trans z42 (Keep.of_wr W48).1
  have sqz49 : h0.size ≤ h48.size := Nat.le_trans sqz42 (Keep.of_wr W48).1
  have hk51 := Nat.le_trans hk44 (Keep.of_wr W48).1
  have k50 : Keep h0 h48 [a0] := k43.wr W48 (Or.inl (List.mem_of_getElem? (i := 0) rfl))
  have f52 : Fld Z h48 a0 "com/example/sidewire/sidewire/protocol/PacketHeader" "flags" "I" (.int p3) := f47.same W48
  show GoW _ _ _ _ _ _ _ (T48.setTop (mkF m 126 #[.val (.ref a0), .val (.int p1), .val (.int p2), .val (.int p3), .val (.int p4), .val (.int p5), .val (.int p6)] []))
  refine GoW.step (fun _ k => XS.aloadN X48.here hx rfl (hb hby d2_126) rfl rfl  k) ?_
  show GoW _ _ _ _ _ _ _ (T48.setTop (mkF m 127 #[.val (.ref a0), .val (.int p1), .val (.int p2), .val (.int p3), .val (.int p4), .val (.int p5), .val (.int p6)] [(.ref a0)]))
  refine GoW.step (fun _ k => XS.iload X48.here hx rfl (hb hby d2_127) rfl  k) ?_
  show GoW _ _ _ _ _ _ _ (T48.setTop (mkF m 129 #[.val (.ref a0), .val (.int p1), .val (.int p2), .val (.int p3), .val (.int p4), .val (.int p5), .val (.int p6)] [(.int p4), (.ref a0)]))
  have f53 : Exa Z h48 a0 "com/example/sidewire/sidewire/protocol/PacketHeader" := (f46.wr W48)
  have f54 : Fld Z h48 a0 "com/example/sidewire/sidewire/protocol/PacketHeader" "commandSet" "I" (.int (0 : Int32)) := (((((((F_4.ext E2).ext E9).ext E16).ext E23).other W34 (Or.inr (slot_ne (Or.inr (hw _ (List.mem_of_getElem? (i := 43) rfl))) (Or.inr (hw _ (List.mem_of_getElem? (i := 37) rfl))) (by decide) (t := .int) (t' := .int) (by decide) (by decide)))).other W41 (Or.inr (slot_ne (Or.inr (hw _ (List.mem_of_getElem? (i := 43) rfl))) (Or.inr (hw _ (List.mem_of_getElem? (i := 39) rfl))) (by decide) (t := .int) (t' := .int) (by decide) (by decide)))).other W48 (Or.inr (slot_ne (Or.inr (hw _ (List.mem_of_getElem? (i := 43) rfl))) (Or.inr (hw _ (List.mem_of_getElem? (i := 41) rfl))) (by decide) (t := .int) (t' := .int) (by decide) (by decide))))
  obtain ⟨T55, h55, X55, e55, W55, st55⟩ := putF X48 hx hZ hown (host := "") (Or.inl (hw _ (List.mem_of_getElem? (i := 42) rfl))) Via.refl e48 f54 f53 (Or.inr ⟨(hw _ (List.mem_of_getElem? (i := 43) rfl)), rfl, hnm⟩) (hw _ (List.mem_of_getElem? (i := 5) rfl)) (ty := .int) (v := (.int p4)) (by decide) rfl rfl (g := (mkF m 129 #[.val (.ref a0), .val (.int p1), .val (.int p2), .val (.int p3), .val (.int p4), .val (.int p5), .val (.int p6)] [(.int p4), (.ref a0)])) rfl rfl (hb hby d2_129)
  refine GoW.step st55 ?_
  have N55 := Fr.snoc X55 N48 g_7
  have z56 : n0 ≤ h55.size := Nat.le_trans z49 (Keep.of_wr W55).1
  have sqz56 : h0.size ≤ h55.size := Nat.le_trans sqz49 (Keep.of_wr W55).1
  have hk58 := Nat.le_trans hk51 (Keep.of_wr W55).1
  have k57 : Keep h0 h55 [a0] := k50.wr W55 (Or.inl (List.mem_of_getElem? (i := 0) rfl))
  have f59 : Fld Z h55 a0 "com/example/sidewire/sidewire/protocol/PacketHeader" "commandSet" "I" (.int p4) := f54.same W55
  show GoW _ _ _ _ _ _ _ (T55.setTop (mkF m 132 #[.val (.ref a0), .val (.int p1), .val (.int p2), .val (.int p3), .val (.int p4), .val (.int p5), .val (.int p6)] []))
  refine GoW.step (fun _ k => XS.aloadN X55.here hx rfl (hb hby d2_132) rfl rfl  k) ?_
  show GoW _ _ _ _ _ _ _ (T55.setTop (mkF m 133 #[.val (.ref a0), .val (.int p1), .val (.int p2), .val (.int p3), .val (.int p4), .val (.int p5), .val (.int p6)] [(.ref a0)]))
  refine GoW.step (fun _ k => XS.iload X55.here hx rfl (hb hby d2_133) rfl  k) ?_
  show GoW _ _ _ _ _ _ _ (T55.setTop (mkF m 135 #[.val (.ref a0), .val (.int p1), .val (.int p2), .val (.int p3), .val (.int p4), .val (.int p5), .val (.int p6)] [(.int p5), (.ref a0)]))
  have f60 : Exa Z h55 a0 "com/example/sidewire/sidewire/protocol/PacketHeader" := (f53.wr W55)
  have f61 : Fld Z h55 a0 "com/example/sidewire/sidewire/protocol/PacketHeader" "command" "I" (.int (0 : Int32)) := ((((((((F_5.ext E2).ext E9).ext E16).ext E23).other W34 (Or.inr (slot_ne (Or.inr (hw _ (List.mem_of_getElem? (i := 45) rfl))) (Or.inr (hw _ (List.mem_of_getElem? (i := 37) rfl))) (by decide) (t := .int) (t' := .int) (by decide) (by decide)))).other W41 (Or.inr (slot_ne (Or.inr (hw _ (List.mem_of_getElem? (i := 45) rfl))) (Or.inr (hw _ (List.mem_of_getElem? (i := 39) rfl))) (by decide) (t := .int) (t' := .int) (by decide) (by decide)))).other W48 (Or.inr (slot_ne (Or.inr (hw _ (List.mem_of_getElem? (i := 45) rfl))) (Or.inr (hw _ (List.mem_of_getElem? (i := 41) rfl))) (by decide) (t := .int) (t' := .int) (by decide) (by decide)))).other W55 (Or.inr (slot_ne (Or.inr (hw _ (List.mem_of_getElem? (i := 45) rfl))) (Or.inr (hw _ (List.mem_of_getElem? (i := 43) rfl))) (by decide) (t := .int) (t' := .int) (by decide) (by decide))))
  obtain ⟨T62, h62, X62, e62, W62, st62⟩ := putF X55 hx hZ hown (host := "") (Or.inl (hw _ (List.mem_of_getElem? (i := 44) rfl))) Via.refl e55 f61 f60 (Or.inr ⟨(hw _ (List.mem_of_getElem? (i := 45) rfl)), rfl, hnm⟩) (hw _ (List.mem_of_getElem? (i := 5) rfl)) (ty := .int) (v := (.int p5)) (by decide) rfl rfl (g := (mkF m 135 #[.val (.ref a0), .val (.int p1), .val (.int p2), .val (.int p3), .val (.int p4), .val (.int p5), .val (.int p6)] [(.int p5), (.ref a0)])) rfl rfl (hb hby d2_135)
  refine GoW.step st62 ?_
  have N62 := Fr.snoc X62 N55 g_7
  have z63 : n0 ≤ h62.size := Nat.le_trans z56 (Keep.of_wr W62).1
  have sqz63 : h0.size ≤ h62.size := Nat.le_trans sqz56 (Keep.of_wr W62).1
  have hk65 := Nat.le_trans hk58 (Keep.of_wr W62).1
  have k64 : Keep h0 h62 [a0] := k57.wr W62 (Or.inl (List.mem_of_getElem? (i := 0) rfl))
  have f66 : Fld Z h62 a0 "com/example/sidewire/sidewire/protocol/PacketHeader" "command" "I" (.int p5) := f61.same W62
  show GoW _ _ _ _ _ _ _ (T62.setTop (mkF m 138 #[.val (.ref a0), .val (.int p1), .val (.int p2), .val (.int p3), .val (.int p4), .val (.int p5), .val (.int p6)] []))
  refine GoW.step (fun _ k => XS.aloadN X62.here hx rfl (hb hby d2_138) rfl rfl  k) ?_
  show GoW _ _ _ _ _ _ _ (T62.setTop (mkF m 139 #[.val (.ref a0), .val (.int p1), .val (.int p2), .val (.int p3), .val (.int p4), .val (.int p5), .val (.int p6)] [(.ref a0)]))
  refine GoW.step (fun _ k => XS.iload X62.here hx rfl (hb hby d2_139) rfl  k) ?_
  show GoW _ _ _ _ _ _ _ (T62.setTop (mkF m 141 #[.val (.ref a0), .val (.int p1), .val (.int p2), .val (.int p3), .val (.int p4), .val (.int p5), .val (.int p6)] [(.int p6), (.ref a0)]))
  have f67 : Exa Z h62 a0 "com/example/sidewire/sidewire/protocol/PacketHeader" := (f60.wr W62)
  have f68 : Fld Z h62 a0 "com/example/sidewire/sidewire/protocol/PacketHeader" "errorCode" "I" (.int (0 : Int32)) := (((((((((F_6.ext E2).ext E9).ext E16).ext E23).other W34 (Or.inr (slot_ne (Or.inr (hw _ (List.mem_of_getElem? (i := 47) rfl))) (Or.inr (hw _ (List.mem_of_getElem? (i := 37) rfl))) (by decide) (t := .int) (t' := .int) (by decide) (by decide)))).other W41 (Or.inr (slot_ne (Or.inr (hw _ (List.mem_of_getElem? (i := 47) rfl))) (Or.inr (hw _ (List.mem_of_getElem? (i := 39) rfl))) (by decide) (t := .int) (t' := .int) (by decide) (by decide)))).other W48 (Or.inr (slot_ne (Or.inr (hw _ (List.mem_of_getElem? (i := 47) rfl))) (Or.inr (hw _ (List.mem_of_getElem? (i := 41) rfl))) (by decide) (t := .int) (t' := .int) (by decide) (by decide)))).other W55 (Or.inr (slot_ne (Or.inr (hw _ (List.mem_of_getElem? (i := 47) rfl))) (Or.inr (hw _ (List.mem_of_getElem? (i := 43) rfl))) (by decide) (t := .int) (t' := .int) (by decide) (by decide)))).other W62 (Or.inr (slot_ne (Or.inr (hw _ (List.mem_of_getElem? (i := 47) rfl))) (Or.inr (hw _ (List.mem_of_getElem? (i := 45) rfl))) (by decide) (t := .int) (t' := .int) (by decide) (by decide))))
  obtain ⟨T69, h69, X69, e69, W69, st69⟩ := putF X62 hx hZ hown (host := "") (Or.inl (hw _ (List.mem_of_getElem? (i := 46) rfl))) Via.refl e62 f68 f67 (Or.inr ⟨(hw _ (List.mem_of_getElem? (i := 47) rfl)), rfl, hnm⟩) (hw _ (List.mem_of_getElem? (i := 5) rfl)) (ty := .int) (v := (.int p6)) (by decide) rfl rfl (g := (mkF m 141 #[.val (.ref a0), .val (.int p1), .val (.int p2), .val (.int p3), .val (.int p4), .val (.int p5), .val (.int p6)] [(.int p6), (.ref a0)])) rfl rfl (hb hby d2_141)
  refine GoW.step st69 ?_
  have N69 := Fr.snoc X69 N62 g_7
  have z70 : n0 ≤ h69.size := Nat.le_trans z63 (Keep.of_wr W69).1
  have sqz70 : h0.size ≤ h69.size := Nat.le_trans sqz63 (Keep.of_wr W69).1
  have hk72 := Nat.le_trans hk65 (Keep.of_wr W69).1
  have k71 : Keep h0 h69 [a0] := k64.wr W69 (Or.inl (List.mem_of_getElem? (i := 0) rfl))
  have f73 : Fld Z h69 a0 "com/example/sidewire/sidewire/protocol/PacketHeader" "errorCode" "I" (.int p6) := f68.same W69
  show GoW _ _ _ _ _ _ _ (T69.setTop (mkF m 144 #[.val (.ref a0), .val (.int p1), .val (.int p2), .val (.int p3), .val (.int p4), .val (.int p5), .val (.int p6)] []))
  have f74 : Exa Z h69 a0 "com/example/sidewire/sidewire/protocol/PacketHeader" := (f67.wr W69)
  have f75 : Fld Z h69 a0 "com/example/sidewire/sidewire/protocol/PacketHeader" "commandSet" "I" (.int p4) := ((f59.other W62 (Or.inr (slot_ne (Or.inr (hw _ (List.mem_of_getElem? (i := 43) rfl))) (Or.inr (hw _ (List.mem_of_getElem? (i := 45) rfl))) (by decide) (t := .int) (t' := .int) (by decide) (by decide)))).other W69 (Or.inr (slot_ne (Or.inr (hw _ (List.mem_of_getElem? (i := 43) rfl))) (Or.inr (hw _ (List.mem_of_getElem? (i := 47) rfl))) (by decide) (t := .int) (t' := .int) (by decide) (by decide))))
  have f76 : Fld Z h69 a0 "com/example/sidewire/sidewire/protocol/PacketHeader" "command" "I" (.int p5) := (f66.other W69 (Or.inr (slot_ne (Or.inr (hw _ (List.mem_of_getElem? (i := 45) rfl))) (Or.inr (hw _ (List.mem_of_getElem? (i := 47) rfl))) (by decide) (t := .int) (t' := .int) (by decide) (by decide))))
  refine GoW.retV X69 hS23 (by rw [e69]; exact hk72) hx Bd.returns hlk (hb hby d2_144) ?_ (by decide) (by decide)
  rw [e69]
  exact ⟨(rfl), N69, k71, f74, f75, f76⟩
theorem d2_96 : decode prog_37_method_1_code 96 = .ok (.iload 6, 2) := by decide +kernel
theorem d2_98 : decode prog_37_method_1_code 98 = .ok (.ifCond .eq 13, 3) := by decide +kernel
theorem ef_phN (m : MethodId) (a0 : Addr) (p1 : Int32) (p2 : Int32) (p3 : Int32) (p4 : Int32) (p5 : Int32) (p6 : Int32) : entryFrame m #[(.ref a0), (.int p1), (.int p2), (.int p3), (.int p4), (.int p5), (.int p6)] 7 = mkF m 0 #[.val (.ref a0), .val (.int p1), .val (.int p2), .val (.int p3), .val (.int p4), .val (.int p5), .val (.int p6)] [] := by first | (simp [entryFrame, mkF, argsToLocals, Value.category]; done) | rfl
def QphN (Z : State) (a0 : Addr) (p1 : Int32) (p2 : Int32) (p3 : Int32) (p4 : Int32) (p5 : Int32) (p6 : Int32) (h0 : Heap) (n0 : Nat) (v : Option Value) (h : Heap) (L : List Loc) : Prop := (v = none) ∧ (Fr n0 L) ∧ (Keep h0 h [a0]) ∧ (Exa Z h a0 "com/example/sidewire/sidewire/protocol/PacketHeader") ∧ (Fld Z h a0 "com/example/sidewire/sidewire/protocol/PacketHeader" "commandSet" "I" (.int p4)) ∧ (Fld Z h a0 "com/example/sidewire/sidewire/protocol/PacketHeader" "command" "I" (.int p5))
set_option maxRecDepth 65536 in
set_option maxHeartbeats 40000000 in
theorem rmphN (l : Launch) (Z : State) (aZ : Array Value) (hw : ∀ d ∈ tables_1, d.before aZ Z = true) (ws : List Jvm.Cond) (a0 : Addr) (p1 : Int32) (p2 : Int32) (p3 : Int32) (p4 : Int32) (p5 : Int32) (p6 : Int32) (h0 : Heap) (n0 : Nat) (Z0 : n0 ≤ h0.size) (E_0 : Exa Z h0 a0 "com/example/sidewire/sidewire/protocol/PacketHeader") (F_1 : Fld Z h0 a0 "com/example/sidewire/sidewire/protocol/PacketHeader" "length" "I" (.int (0 : Int32))) (F_2 : Fld Z h0 a0 "com/example/sidewire/sidewire/protocol/PacketHeader" "id" "I" (.int (0 : Int32))) (F_3 : Fld Z h0 a0 "com/example/sidewire/sidewire/protocol/PacketHeader" "flags" "I" (.int (0 : Int32))) (F_4 : Fld Z h0 a0 "com/example/sidewire/sidewire/protocol/PacketHeader" "commandSet" "I" (.int (0 : Int32))) (F_5 : Fld Z h0 a0 "com/example/sidewire/sidewire/protocol/PacketHeader" "command" "I" (.int (0 : Int32))) (F_6 : Fld Z h0 a0 "com/example/sidewire/sidewire/protocol/PacketHeader" "errorCode" "I" (.int (0 : Int32))) (g_7 : n0 ≤ a0) (h11 : ¬ p1 < 11) (g3 : ¬ p3 < 0 ∧ ¬ (255 : Int32) < p3) (g4 : ¬ p4 < 0 ∧ ¬ (255 : Int32) < p4) (g5 : ¬ p5 < 0 ∧ ¬ (255 : Int32) < p5) (g6 : ¬ p6 < 0 ∧ ¬ (65535 : Int32) < p6) (hr : (p3 &&& (128 : Int32)) = 0) (h6 : p6 = 0) :
    MetFree l (⟨"com/example/sidewire/sidewire/protocol/PacketHeader", "<init>", "(IIIIII)V"⟩ : MethodName) (head1 (Jvm.Cond.code (⟨"com/example/sidewire/sidewire/protocol/PacketHeader", "<init>", "(IIIIII)V"⟩ : MethodName) prog_37_method_1_code 7 none :: ws) ({ frames := 2, cells := 8, slots := 148, locals := 24 } : Room)) (fun a U => a = #[(.ref a0), (.int p1), (.int p2), (.int p3), (.int p4), (.int p5), (.int p6)] ∧ Z.Warmed39 U.vm ∧ U.heap = h0) (fun _ _ _ _ _ => True) (fun _ U o U' => ∃ v L, o = .returned v ∧ QphN Z a0 p1 p2 p3 p4 p5 p6 h0 n0 v U'.heap L ∧ ReturnedEndW U o U' L ({ frames := 2, cells := 8, slots := 148, locals := 24 } : Room).cells ({ frames := 2, cells := 8, slots := 148, locals := 24 } : Room).slots) := by
  refine MetFree.of_bodySF (plainFor_of_name pn_5) hisR ?_
  intro p e s m args below meth c s₁ Bd hml0 hP hK
  obtain ⟨rfl, hZ, hh⟩ := hP
  have hx := Bd.exec
  have hby := Bd.bytes
  have hml : c.maxLocals = 7 := hml0
  have hown : s.vm.findClass "com/example/sidewire/sidewire/protocol/PacketHeader" = some m.cls := findClass_of_methodNamed Bd.named
  have hnm := (name_of_methodNamed Bd.named Bd.method).1
  have hlk : meth.locks = false := BodyLoose.notSynchronized Bd
  have X0 : Stand p l e ({ frames := 2, cells := 8, slots := 148, locals := 24 } : Room) (s.setVm s.vm) m #[(.ref a0), (.int p1), (.int p2), (.int p3), (.int p4), (.int p5), (.int p6)] below meth c s₁ [] 0 0 := Stand.of_body Bd
  have e0 : s₁.heap = h0 := by rw [← hh, Bd.state]; rfl
  have N0 := Fr.nil n0
  have sq0 : h0.size ≤ h0.size := Nat.le_refl _
  have hS0 : s.Since s.vm h0.size := (State.WarmedH.refl s).since _
  have hk0 : h0.size ≤ h0.size := Nat.le_refl _
  have hSt : ∀ d ∈ Bundle.stringAtoms, d.before aZ Z = true := by
    intro d hd
    simp only [Bundle.stringAtoms, List.mem_cons, List.not_mem_nil, or_false] at hd
    rcases hd with rfl | rfl | rfl | rfl | rfl | rfl | rfl
    · exact (hw _ (List.mem_of_getElem? (i := 19) rfl))
    · exact (hw _ (List.mem_of_getElem? (i := 20) rfl))
    · exact (hw _ (List.mem_of_getElem? (i := 21) rfl))
    · exact (hw _ (List.mem_of_getElem? (i := 22) rfl))
    · exact (hw _ (List.mem_of_getElem? (i := 23) rfl))
    · exact (hw _ (List.mem_of_getElem? (i := 24) rfl))
    · exact (hw _ (List.mem_of_getElem? (i := 25) rfl))
  have k0 : Keep h0 h0 [a0] := Keep.refl _ _
  change GoW p e below s ({ frames := 2, cells := 8, slots := 148, locals := 24 } : Room).cells ({ frames := 2, cells := 8, slots := 148, locals := 24 } : Room).slots (QphN Z a0 p1 p2 p3 p4 p5 p6 h0 n0) (s₁.setTop (entryFrame m #[(.ref a0), (.int p1), (.int p2), (.int p3), (.int p4), (.int p5), (.int p6)] 7))
  rw [ef_phN m a0 p1 p2 p3 p4 p5 p6]
  show GoW _ _ _ _ _ _ _ (s₁.setTop (mkF m 0 #[.val (.ref a0), .val (.int p1), .val (.int p2), .val (.int p3), .val (.int p4), .val (.int p5), .val (.int p6)] []))
  refine GoW.step (fun _ k => XS.aloadN X0.here hx rfl (hb hby d2_0) rfl rfl  k) ?_
  show GoW _ _ _ _ _ _ _ (s₁.setTop (mkF m 1 #[.val (.ref a0), .val (.int p1), .val (.int p2), .val (.int p3), .val (.int p4), .val (.int p5), .val (.int p6)] [(.ref a0)]))
  obtain ⟨_, _, ⟨T1, L1, k1, n1⟩, -, X1, ⟨Lc1, hQ1, l1, y1, z1⟩, st1⟩ := X0.specialBack hx (y := (⟨"java/lang/Record", "<init>", "()V"⟩ : MethodName)) rfl hown (mvT hZ (hw _ (List.mem_of_getElem? (i := 10) rfl))) (mvT hZ (hw _ (List.mem_of_getElem? (i := 11) rfl))) (mvT hZ (hw _ (List.mem_of_getElem? (i := 14) rfl))) (by decide) (backOf (W := 0) (rm3 l Z aZ hw [] a0 h0 n0 Z0 ) hZ (hw _ (List.mem_of_getElem? (i := 14) rfl)) (hw _ (List.mem_of_getElem? (i := 13) rfl)) (by decide) (by decide)) (g := (mkF m 1 #[.val (.ref a0), .val (.int p1), .val (.int p2), .val (.int p3), .val (.int p4), .val (.int p5), .val (.int p6)] [(.ref a0)])) rfl (by rw [hml]; rfl) (Steps.refl _) (a := a0) (argsL := []) (rest := []) (lenOf pd_0 rfl) rfl (by show 2 * 0 + _ ≤ _; exact Nat.le_of_eq rfl) (hb hby d2_1) (fun _ _ => ⟨rfl, e0, (by decide : 0 + 0 ≤ _), (by decide : 0 + 0 ≤ _)⟩)
  dsimp only [Pt.U, Pt.locs, Pt.cells, Pt.slots] at X1 l1 y1 z1 st1 hQ1
  subst l1 y1 z1
  obtain ⟨rfl, Nq1, e1⟩ := hQ1
  have N1 := Fr.app N0 Nq1
  refine GoW.tr st1 ?_
  show GoW _ _ _ _ _ _ _ (T1.setTop (mkF m 4 #[.val (.ref a0), .val (.int p1), .val (.int p2), .val (.int p3), .val (.int p4), .val (.int p5), .val (.int p6)] []))
  refine GoW.step (fun _ k => XS.iloadN X1.here hx rfl (hb hby d2_4) rfl  k) ?_
  show GoW _ _ _ _ _ _ _ (T1.setTop (mkF m 5 #[.val (.ref a0), .val (.int p1), .val (.int p2), .val (.int p3), .val (.int p4), .val (.int p5), .val (.int p6)] [(.int p1)]))
  refine GoW.step (fun _ k => XS.bipush X1.here hx rfl (hb hby d2_5) k) ?_
  show GoW _ _ _ _ _ _ _ (T1.setTop (mkF m 7 #[.val (.ref a0), .val (.int p1), .val (.int p2), .val (.int p3), .val (.int p4), .val (.int p5), .val (.int p6)] [(.int (11 : Int32)), (.int p1)]))
  have hc7 : ¬ (p1 < (11 : Int32)) := h11
  refine GoW.step (fun _ k => XS.icmpYes X1.here hx rfl (pc0 := 7) (pc' := 24) rfl (hb hby d2_7) rfl (flt hc7).2.1 (by decide) (by decide) k) ?_
  show GoW _ _ _ _ _ _ _ (T1.setTop (mkF m 24 #[.val (.ref a0), .val (.int p1), .val (.int p2), .val (.int p3), .val (.int p4), .val (.int p5), .val (.int p6)] []))
  obtain ⟨b2, T2, h2, k2, X2, e2, E2, hS2, hk2a, hZ, hown, st2⟩ := ldcS X1 hx hZ hown (hw _ (List.mem_of_getElem? (i := 18) rfl)) hSt e1 hS0 hk0 (g := (mkF m 24 #[.val (.ref a0), .val (.int p1), .val (.int p2), .val (.int p3), .val (.int p4), .val (.int p5), .val (.int p6)] [])) rfl (hb hby d2_24) (n := 20) (by decide) (by decide) (by decide) (by decide)
  refine GoW.step st2 ?_
  have z3 : n0 ≤ h2.size := Nat.le_trans Z0 E2.1
  have sqz3 : h0.size ≤ h2.size := Nat.le_trans sq0 E2.1
  have hk5 := Nat.le_trans hk0 E2.1
  have k4 : Keep h0 h2 [a0] := k0.ext E2
  show GoW _ _ _ _ _ _ _ (T2.setTop (mkF m 26 #[.val (.ref a0), .val (.int p1), .val (.int p2), .val (.int p3), .val (.int p4), .val (.int p5), .val (.int p6)] [(.ref b2)]))
  refine GoW.step (fun _ k => XS.iloadN X2.here hx rfl (hb hby d2_26) rfl  k) ?_
  show GoW _ _ _ _ _ _ _ (T2.setTop (mkF m 27 #[.val (.ref a0), .val (.int p1), .val (.int p2), .val (.int p3), .val (.int p4), .val (.int p5), .val (.int p6)] [(.int p3), (.ref b2)]))
  refine GoW.step (fun _ k => XS.sipush X2.here hx rfl (hb hby d2_27) k) ?_
  show GoW _ _ _ _ _ _ _ (T2.setTop (mkF m 30 #[.val (.ref a0), .val (.int p1), .val (.int p2), .val (.int p3), .val (.int p4), .val (.int p5), .val (.int p6)] [(.int (255 : Int32)), (.int p3), (.ref b2)]))
  have pq6 : ¬ p3 < 0 := g3.1
  have pq7 : ¬ (255 : Int32) < p3 := g3.2
  obtain ⟨_, _, ⟨T8, L8, k8, n8⟩, -, X8, ⟨Lc8, hQ8, l8, y8, z8⟩, st8⟩ := Jvm.LawKit.callS X2 hx (y := (⟨"com/example/sidewire/sidewire/protocol/PacketHeader", "requireRange", "(Ljava/lang/String;II)V"⟩ : MethodName)) hown (mvT hZ (hw _ (List.mem_of_getElem? (i := 26) rfl))) (mvT hZ (hw _ (List.mem_of_getElem? (i := 27) rfl))) (mvT hZ (hw _ (List.mem_of_getElem? (i := 6) rfl))) (mvT hZ (hw _ (List.mem_of_getElem? (i := 28) rfl))) (by decide) (backOf (W := 0) (rm5 l Z aZ hw [] b2 p3 (255 : Int32) h2 n0 z3 pq6 pq7) hZ (hw _ (List.mem_of_getElem? (i := 28) rfl)) (hw _ (List.mem_of_getElem? (i := 6) rfl)) (by decide) (by decide)) (g := (mkF m 30 #[.val (.ref a0), .val (.int p1), .val (.int p2), .val (.int p3), .val (.int p4), .val (.int p5), .val (.int p6)] [(.int (255 : Int32)), (.int p3), (.ref b2)])) rfl (by rw [hml]; rfl) (argsL := [(.ref b2), (.int p3), (.int (255 : Int32))]) (rest := []) (lenOf pd_1 rfl) rfl (by show 2 * 0 + _ ≤ _; exact Nat.le_of_eq rfl) (hb hby d2_30) (fun _ _ => ⟨rfl, e2, (by decide : 2 + 0 ≤ _), (by decide : 24 + 0 ≤ _)⟩)
  dsimp only [Pt.U, Pt.locs, Pt.cells, Pt.slots] at X8 l8 y8 z8 st8 hQ8
  subst l8 y8 z8
  obtain ⟨rfl, Nq8, e8⟩ := hQ8
  have N8 := Fr.app N1 Nq8
  refine GoW.step st8 ?_
  show GoW _ _ _ _ _ _ _ (T8.setTop (mkF m 33 #[.val (.ref a0), .val (.int p1), .val (.int p2), .val (.int p3), .val (.int p4), .val (.int p5), .val (.int p6)] []))
  obtain ⟨b9, T9, h9, k9, X9, e9, E9, hS9, hk9a, hZ, hown, st9⟩ := ldcS X8 hx hZ hown (hw _ (List.mem_of_getElem? (i := 29) rfl)) hSt e8 hS2 hk2a (g := (mkF m 33 #[.val (.ref a0), .val (.int p1), .val (.int p2), .val (.int p3), .val (.int p4), .val (.int p5), .val (.int p6)] [])) rfl (hb hby d2_33) (n := 44) (by decide) (by decide) (by decide) (by decide)
  refine GoW.step st9 ?_
  have z10 : n0 ≤ h9.size := Nat.le_trans z3 E9.1
  have sqz10 : h0.size ≤ h9.size := Nat.le_trans sqz3 E9.1
  have hk12 := Nat.le_trans hk2a E9.1
  have k11 : Keep h0 h9 [a0] := k4.ext E9
  show GoW _ _ _ _ _ _ _ (T9.setTop (mkF m 35 #[.val (.ref a0), .val (.int p1), .val (.int p2), .val (.int p3), .val (.int p4), .val (.int p5), .val (.int p6)] [(.ref b9)]))
  refine GoW.step (fun _ k => XS.iload X9.here hx rfl (hb hby d2_35) rfl  k) ?_
  show GoW _ _ _ _ _ _ _ (T9.setTop (mkF m 37 #[.val (.ref a0), .val (.int p1), .val (.int p2), .val (.int p3), .val (.int p4), .val (.int p5), .val (.int p6)] [(.int p4), (.ref b9)]))
  refine GoW.step (fun _ k => XS.sipush X9.here hx rfl (hb hby d2_37) k) ?_
  show GoW _ _ _ _ _ _ _ (T9.setTop (mkF m 40 #[.val (.ref a0), .val (.int p1), .val (.int p2), .val (.int p3), .val (.int p4), .val (.int p5), .val (.int p6)] [(.int (255 : Int32)), (.int p4), (.ref b9)]))
  have pq13 : ¬ p4 < 0 := g4.1
  have pq14 : ¬ (255 : Int32) < p4 := g4.2
  obtain ⟨_, _, ⟨T15, L15, k15, n15⟩, -, X15, ⟨Lc15, hQ15, l15, y15, z15⟩, st15⟩ := Jvm.LawKit.callS X9 hx (y := (⟨"com/example/sidewire/sidewire/protocol/PacketHeader", "requireRange", "(Ljava/lang/String;II)V"⟩ : MethodName)) hown (mvT hZ (hw _ (List.mem_of_getElem? (i := 26) rfl))) (mvT hZ (hw _ (List.mem_of_getElem? (i := 27) rfl))) (mvT hZ (hw _ (List.mem_of_getElem? (i := 6) rfl))) (mvT hZ (hw _ (List.mem_of_getElem? (i := 28) rfl))) (by decide) (backOf (W := 0) (rm5 l Z aZ hw [] b9 p4 (255 : Int32) h9 n0 z10 pq13 pq14) hZ (hw _ (List.mem_of_getElem? (i := 28) rfl)) (hw _ (List.mem_of_getElem? (i := 6) rfl)) (by decide) (by decide)) (g := (mkF m 40 #[.val (.ref a0), .val (.int p1), .val (.int p2), .val (.int p3), .val (.int p4), .val (.int p5), .val (.int p6)] [(.int (255 : Int32)), (.int p4), (.ref b9)])) rfl (by rw [hml]; rfl) (argsL := [(.ref b9), (.int p4), (.int (255 : Int32))]) (rest := []) (lenOf pd_1 rfl) rfl (by show 2 * 0 + _ ≤ _; exact Nat.le_of_eq rfl) (hb hby d2_40) (fun _ _ => ⟨rfl, e9, (by decide : 4 + 0 ≤ _), (by decide : 72 + 0 ≤ _)⟩)
  dsimp only [Pt.U, Pt.locs, Pt.cells, Pt.slots] at X15 l15 y15 z15 st15 hQ15
  subst l15 y15 z15
  obtain ⟨rfl, Nq15, e15⟩ := hQ15
  have N15 := Fr.app N8 Nq15
  refine GoW.step st15 ?_
  show GoW _ _ _ _ _ _ _ (T15.setTop (mkF m 43 #[.val (.ref a0), .val (.int p1), .val (.int p2), .val (.int p3), .val (.int p4), .val (.int p5), .val (.int p6)] []))
  obtain ⟨b16, T16, h16, k16, X16, e16, E16, hS16, hk16a, hZ, hown, st16⟩ := ldcS X15 hx hZ hown (hw _ (List.mem_of_getElem? (i := 30) rfl)) hSt e15 hS9 hk9a (g := (mkF m 43 #[.val (.ref a0), .val (.int p1), .val (.int p2), .val (.int p3), .val (.int p4), .val (.int p5), .val (.int p6)] [])) rfl (hb hby d2_43) (n := 28) (by decide) (by decide) (by decide) (by decide)
  refine GoW.step st16 ?_
  have z17 : n0 ≤ h16.size := Nat.le_trans z10 E16.1
  have sqz17 : h0.size ≤ h16.size := Nat.le_trans sqz10 E16.1
  have hk19 := Nat.le_trans hk9a E16.1
  have k18 : Keep h0 h16 [a0] := k11.ext E16
  show GoW _ _ _ _ _ _ _ (T16.setTop (mkF m 45 #[.val (.ref a0), .val (.int p1), .val (.int p2), .val (.int p3), .val (.int p4), .val (.int p5), .val (.int p6)] [(.ref b16)]))
  refine GoW.step (fun _ k => XS.iload X16.here hx rfl (hb hby d2_45) rfl  k) ?_
  show GoW _ _ _ _ _ _ _ (T16.setTop (mkF m 47 #[.val (.ref a0), .val (.int p1), .val (.int p2), .val (.int p3), .val (.int p4), .val (.int p5), .val (.int p6)] [(.int p5), (.ref b16)]))
  refine GoW.step (fun _ k => XS.sipush X16.here hx rfl (hb hby d2_47) k) ?_
  show GoW _ _ _ _ _ _ _ (T16.setTop (mkF m 50 #[.val (.ref a0), .val (.int p1), .val (.int p2), .val (.int p3), .val (.int p4), .val (.int p5), .val (.int p6)] [(.int (255 : Int32)), (.int p5), (.ref b16)]))
  have pq20 : ¬ p5 < 0 := g5.1
  have pq21 : ¬ (255 : Int32) < p5 := g5.2
  obtain ⟨_, _, ⟨T22, L22, k22, n22⟩, -, X22, ⟨Lc22, hQ22, l22, y22, z22⟩, st22⟩ := Jvm.LawKit.callS X16 hx (y := (⟨"com/example/sidewire/sidewire/protocol/PacketHeader", "requireRange", "(Ljava/lang/String;II)V"⟩ : MethodName)) hown (mvT hZ (hw _ (List.mem_of_getElem? (i := 26) rfl))) (mvT hZ (hw _ (List.mem_of_getElem? (i := 27) rfl))) (mvT hZ (hw _ (List.mem_of_getElem? (i := 6) rfl))) (mvT hZ (hw _ (List.mem_of_getElem? (i := 28) rfl))) (by decide) (backOf (W := 0) (rm5 l Z aZ hw [] b16 p5 (255 : Int32) h16 n0 z17 pq20 pq21) hZ (hw _ (List.mem_of_getElem? (i := 28) rfl)) (hw _ (List.mem_of_getElem? (i := 6) rfl)) (by decide) (by decide)) (g := (mkF m 50 #[.val (.ref a0), .val (.int p1), .val (.int p2), .val (.int p3), .val (.int p4), .val (.int p5), .val (.int p6)] [(.int (255 : Int32)), (.int p5), (.ref b16)])) rfl (by rw [hml]; rfl) (argsL := [(.ref b16), (.int p5), (.int (255 : Int32))]) (rest := []) (lenOf pd_1 rfl) rfl (by show 2 * 0 + _ ≤ _; exact Nat.le_of_eq rfl) (hb hby d2_50) (fun _ _ => ⟨rfl, e16, (by decide : 6 + 0 ≤ _), (by decide : 104 + 0 ≤ _)⟩)
  dsimp only [Pt.U, Pt.locs, Pt.cells, Pt.slots] at X22 l22 y22 z22 st22 hQ22
  subst l22 y22 z22
  obtain ⟨rfl, Nq22, e22⟩ := hQ22
  have N22 := Fr.app N15 Nq22
  refine GoW.step st22 ?_
  show GoW _ _ _ _ _ _ _ (T22.setTop (mkF m 53 #[.val (.ref a0), .val (.int p1), .val (.int p2), .val (.int p3), .val (.int p4), .val (.int p5), .val (.int p6)] []))
  obtain ⟨b23, T23, h23, k23, X23, e23, E23, hS23, hk23a, hZ, hown, st23⟩ := ldcS X22 hx hZ hown (hw _ (List.mem_of_getElem? (i := 31) rfl)) hSt e22 hS16 hk16a (g := (mkF m 53 #[.val (.ref a0), .val (.int p1), .val (.int p2), .val (.int p3), .val (.int p4), .val (.int p5), .val (.int p6)] [])) rfl (hb hby d2_53) (n := 40) (by decide) (by decide) (by decide) (by decide)
  refine GoW.step st23 ?_
  have z24 : n0 ≤ h23.size := Nat.le_trans z17 E23.1
  have sqz24 : h0.size ≤ h23.size := Nat.le_trans sqz17 E23.1
  have hk26 := Nat.le_trans hk16a E23.1
  have k25 : Keep h0 h23 [a0] := k18.ext E23
  show GoW _ _ _ _ _ _ _ (T23.setTop (mkF m 55 #[.val (.ref a0), .val (.int p1), .val (.int p2), .val (.int p3), .val (.int p4), .val (.int p5), .val (.int p6)] [(.ref b23)]))
  refine GoW.step (fun _ k => XS.iload X23.here hx rfl (hb hby d2_55) rfl  k) ?_
  show GoW _ _ _ _ _ _ _ (T23.setTop (mkF m 57 #[.val (.ref a0), .val (.int p1), .val (.int p2), .val (.int p3), .val (.int p4), .val (.int p5), .val (.int p6)] [(.int p6), (.ref b23)]))
  refine GoW.step (X23.ldcInt hx hown (mvT hZ (hw _ (List.mem_of_getElem? (i := 32) rfl))) (g := (mkF m 57 #[.val (.ref a0), .val (.int p1), .val (.int p2), .val (.int p3), .val (.int p4), .val (.int p5), .val (.int p6)] [(.int p6), (.ref b23)])) rfl (hb hby d2_57)) ?_
  show GoW _ _ _ _ _ _ _ (T23.setTop (mkF m 59 #[.val (.ref a0), .val (.int p1), .val (.int p2), .val (.int p3), .val (.int p4), .val (.int p5), .val (.int p6)] [(.int (65535 : Int32)), (.int p6), (.ref b23)]))
  have pq27 : ¬ p6 < 0 := g6.1
  have pq28 : ¬ (65535 : Int32) < p6 := g6.2
  obtain ⟨_, _, ⟨T29, L29, k29, n29⟩, -, X29, ⟨Lc29, hQ29, l29, y29, z29⟩, st29⟩ := Jvm.LawKit.callS X23 hx (y := (⟨"com/example/sidewire/sidewire/protocol/PacketHeader", "requireRange", "(Ljava/lang/String;II)V"⟩ : MethodName)) hown (mvT hZ (hw _ (List.mem_of_getElem? (i := 26) rfl))) (mvT hZ (hw _ (List.mem_of_getElem? (i := 27) rfl))) (mvT hZ (hw _ (List.mem_of_getElem? (i := 6) rfl))) (mvT hZ (hw _ (List.mem_of_getElem? (i := 28) rfl))) (by decide) (backOf (W := 0) (rm5 l Z aZ hw [] b23 p6 (65535 : Int32) h23 n0 z24 pq27 pq28) hZ (hw _ (List.mem_of_getElem? (i := 28) rfl)) (hw _ (List.mem_of_getElem? (i := 6) rfl)) (by decide) (by decide)) (g := (mkF m 59 #[.val (.ref a0), .val (.int p1), .val (.int p2), .val (.int p3), .val (.int p4), .val (.int p5), .val (.int p6)] [(.int (65535 : Int32)), (.int p6), (.ref b23)])) rfl (by rw [hml]; rfl) (argsL := [(.ref b23), (.int p6), (.int (65535 : Int32))]) (rest := []) (lenOf pd_1 rfl) rfl (by show 2 * 0 + _ ≤ _; exact Nat.le_of_eq rfl) (hb hby d2_59) (fun _ _ => ⟨rfl, e23, (by decide : 8 + 0 ≤ _), (by decide : 148 + 0 ≤ _)⟩)
  dsimp only [Pt.U, Pt.locs, Pt.cells, Pt.slots] at X29 l29 y29 z29 st29 hQ29
  subst l29 y29 z29
  obtain ⟨rfl, Nq29, e29⟩ := hQ29
  have N29 := Fr.app N22 Nq29
  refine GoW.step st29 ?_
  show GoW _ _ _ _ _ _ _ (T29.setTop (mkF m 62 #[.val (.ref a0), .val (.int p1), .val (.int p2), .val (.int p3), .val (.int p4), .val (.int p5), .val (.int p6)] []))
  refine GoW.step (fun _ k => XS.iloadN X29.here hx rfl (hb hby d2_62) rfl  k) ?_
  show GoW _ _ _ _ _ _ _ (T29.setTop (mkF m 63 #[.val (.ref a0), .val (.int p1), .val (.int p2), .val (.int p3), .val (.int p4), .val (.int p5), .val (.int p6)] [(.int p3)]))
  obtain ⟨_, _, ⟨T30, L30, k30, n30⟩, -, X30, ⟨Lc30, hQ30, l30, y30, z30⟩, st30⟩ := Jvm.LawKit.callS X29 hx (y := (⟨"com/example/sidewire/sidewire/protocol/PacketHeader", "marksReply", "(I)Z"⟩ : MethodName)) hown (mvT hZ (hw _ (List.mem_of_getElem? (i := 33) rfl))) (mvT hZ (hw _ (List.mem_of_getElem? (i := 34) rfl))) (mvT hZ (hw _ (List.mem_of_getElem? (i := 6) rfl))) (mvT hZ (hw _ (List.mem_of_getElem? (i := 35) rfl))) (by decide) (backOf (W := 0) (rm6 l Z aZ hw [] p3 h23 n0 z24 ) hZ (hw _ (List.mem_of_getElem? (i := 35) rfl)) (hw _ (List.mem_of_getElem? (i := 6) rfl)) (by decide) (by decide)) (g := (mkF m 63 #[.val (.ref a0), .val (.int p1), .val (.int p2), .val (.int p3), .val (.int p4), .val (.int p5), .val (.int p6)] [(.int p3)])) rfl (by rw [hml]; rfl) (argsL := [(.int p3)]) (rest := []) (lenOf pd_2 rfl) rfl (by show 2 * 0 + _ ≤ _; exact Nat.le_of_eq rfl) (hb hby d2_63) (fun _ _ => ⟨rfl, e29, (by decide : 8 + 0 ≤ _), (by decide : 148 + 0 ≤ _)⟩)
  dsimp only [Pt.U, Pt.locs, Pt.cells, Pt.slots] at X30 l30 y30 z30 st30 hQ30
  subst l30 y30 z30
  obtain ⟨rfl, Nq30, e30⟩ := hQ30
  have N30 := Fr.app N29 Nq30
  refine GoW.step st30 ?_
  show GoW _ _ _ _ _ _ _ (T30.setTop (mkF m 66 #[.val (.ref a0), .val (.int p1), .val (.int p2), .val (.int p3), .val (.int p4), .val (.int p5), .val (.int p6)] [(.int (if (p3 &&& (128 : Int32)) = 0 then (0 : Int32) else 1))]))
  have hc66 : (if (p3 &&& (128 : Int32)) = 0 then (0 : Int32) else 1) = (0 : Int32) := own_mr0 hr
  refine GoW.step (fun _ k => XS.ifYes X30.here hx rfl (pc0 := 66) (pc' := 89) rfl (hb hby d2_66) rfl ((if0 _ _).trans (teq hc66).1) (by decide) (by decide) k) ?_
  show GoW _ _ _ _ _ _ _ (T30.setTop (mkF m 89 #[.val (.ref a0), .val (.int p1), .val (.int p2), .val (.int p3), .val (.int p4), .val (.int p5), .val (.int p6)] []))
  refine GoW.step (fun _ k => XS.iloadN X30.here hx rfl (hb hby d2_89) rfl  k) ?_
  show GoW _ _ _ _ _ _ _ (T30.setTop (mkF m 90 #[.val (.ref a0), .val (.int p1), .val (.int p2), .val (.int p3), .val (.int p4), .val (.int p5), .val (.int p6)] [(.int p3)]))
  obtain ⟨_, _, ⟨T31, L31, k31, n31⟩, -, X31, ⟨Lc31, hQ31, l31, y31, z31⟩, st31⟩ := Jvm.LawKit.callS X30 hx (y := (⟨"com/example/sidewire/sidewire/protocol/PacketHeader", "marksReply", "(I)Z"⟩ : MethodName)) hown (mvT hZ (hw _ (List.mem_of_getElem? (i := 33) rfl))) (mvT hZ (hw _ (List.mem_of_getElem? (i := 34) rfl))) (mvT hZ (hw _ (List.mem_of_getElem? (i := 6) rfl))) (mvT hZ (hw _ (List.mem_of_getElem? (i := 35) rfl))) (by decide) (backOf (W := 0) (rm6 l Z aZ hw [] p3 h23 n0 z24 ) hZ (hw _ (List.mem_of_getElem? (i := 35) rfl)) (hw _ (List.mem_of_getElem? (i := 6) rfl)) (by decide) (by decide)) (g := (mkF m 90 #[.val (.ref a0), .val (.int p1), .val (.int p2), .val (.int p3), .val (.int p4), .val (.int p5), .val (.int p6)] [(.int p3)])) rfl (by rw [hml]; rfl) (argsL := [(.int p3)]) (rest := []) (lenOf pd_2 rfl) rfl (by show 2 * 0 + _ ≤ _; exact Nat.le_of_eq rfl) (hb hby d2_90) (fun _ _ => ⟨rfl, e30, (by decide : 8 + 0 ≤ _), (by decide : 148 + 0 ≤ _)⟩)
  dsimp only [Pt.U, Pt.locs, Pt.cells, Pt.slots] at X31 l31 y31 z31 st31 hQ31
  subst l31 y31 z31
  obtain ⟨rfl, Nq31, e31⟩ := hQ31
  have N31 := Fr.app N30 Nq31
  refine GoW.step st31 ?_
  show GoW _ _ _ _ _ _ _ (T31.setTop (mkF m 93 #[.val (.ref a0), .val (.int p1), .val (.int p2), .val (.int p3), .val (.int p4), .val (.int p5), .val (.int p6)] [(.int (if (p3 &&& (128 : Int32)) = 0 then (0 : Int32) else 1))]))
  have hc93 : (if (p3 &&& (128 : Int32)) = 0 then (0 : Int32) else 1) = (0 : Int32) := own_mr0 hr
  refine GoW.step (fun _ k => XS.ifNo X31.here hx rfl (hb hby d2_93) rfl ((if0 _ _).trans (teq hc93).2) k) ?_
  show GoW _ _ _ _ _ _ _ (T31.setTop (mkF m 96 #[.val (.ref a0), .val (.int p1), .val (.int p2), .val (.int p3), .val (.int p4), .val (.int p5), .val (.int p6)] []))
  refine GoW.step (fun _ k => XS.iload X31.here hx rfl (hb hby d2_96) rfl  k) ?_
  show GoW _ _ _ _ _ _ _ (T31.setTop (mkF m 98 #[.val (.ref a0), .val (.int p1), .val (.int p2), .val (.int p3), .val (.int p4), .val (.int p5), .val (.int p6)] [(.int p6)]))
  have hc98 : p6 = (0 : Int32) := h6
  refine GoW.step (fun _ k => XS.ifYes X31.here hx rfl (pc0 := 98) (pc' := 111) rfl (hb hby d2_98) rfl ((if0 _ _).trans (teq hc98).1) (by decide) (by decide) k) ?_
  show GoW _ _ _ _ _ _ _ (T31.setTop (mkF m 111 #[.val (.ref a0), .val (.int p1), .val (.int p2), .val (.int p3), .val (.int p4), .val (.int p5), .val (.int p6)] []))
  refine GoW.step (fun _ k => XS.aloadN X31.here hx rfl (hb hby d2_111) rfl rfl  k) ?_
  show GoW _ _ _ _ _ _ _ (T31.setTop (mkF m 112 #[.val (.ref a0), .val (.int p1), .val (.int p2), .val (.int p3), .val (.int p4), .val (.int p5), .val (.int p6)] [(.ref a0)]))
  refine GoW.step (fun _ k => XS.iloadN X31.here hx rfl (hb hby d2_112) rfl  k) ?_
  show GoW _ _ _ _ _ _ _ (T31.setTop (mkF m 113 #[.val (.ref a0), .val (.int p1), .val (.int p2), .val (.int p3), .val (.int p4), .val (.int p5), .val (.int p6)] [(.int p1), (.ref a0)]))
  have f32 : Exa Z h23 a0 "com/example/sidewire/sidewire/protocol/PacketHeader" := ((((E_0.ext E2).ext E9).ext E16).ext E23)
  have f33 : Fld Z h23 a0 "com/example/sidewire/sidewire/protocol/PacketHeader" "length" "I" (.int (0 : Int32)) := ((((F_1.ext E2).ext E9).ext E16).ext E23)
  obtain ⟨T34, h34, X34, e34, W34, st34⟩ := putF X31 hx hZ hown (host := "") (Or.inl (hw _ (List.mem_of_getElem? (i := 36) rfl))) Via.refl e31 f33 f32 (Or.inr ⟨(hw _ (List.mem_of_getElem? (i := 37) rfl)), rfl, hnm⟩) (hw _ (List.mem_of_getElem? (i := 5) rfl)) (ty := .int) (v := (.int p1)) (by decide) rfl rfl (g := (mkF m 113 #[.val (.ref a0), .val (.int p1), .val (.int p2), .val (.int p3), .val (.int p4), .val (.int p5), .val (.int p6)] [(.int p1), (.ref a0)])) rfl rfl (hb hby d2_113)
  refine GoW.step st34 ?_
  have N34 := Fr.snoc X34 N31 g_7
  have z35 : n0 ≤ h34.size := Nat.le_trans z24 (Keep.of_wr W34).1
  have sqz35 : h0.size ≤ h34.size := Nat.le_trans sqz24 (Keep.of_wr W34).1
  have hk37 := Nat.le_trans hk23a (Keep.of_wr W34).1
  have k36 : Keep h0 h34 [a0] := k25.wr W34 (Or.inl (List.mem_of_getElem? (i := 0) rfl))
  have f38 : Fld Z h34 a0 "com/example/sidewire/sidewire/protocol/PacketHeader" "length" "I" (.int p1) := f33.same W34
  show GoW _ _ _ _ _ _ _ (T34.setTop (mkF m 116 #[.val (.ref a0), .val (.int p1), .val (.int p2), .val (.int p3), .val (.int p4), .val (.int p5), .val (.int p6)] []))
  refine GoW.step (fun _ k => XS.aloadN X34.here hx rfl (hb hby d2_116) rfl rfl  k) ?_
  show GoW _ _ _ _ _ _ _ (T34.setTop (mkF m 117 #[.val (.ref a0), .val (.int p1), .val (.int p2), .val (.int p3), .val (.int p4), .val (.int p5), .val (.int p6)] [(.ref a0)]))
  refine GoW.step (fun _ k => XS.iloadN X34.here hx rfl (hb hby d2_117) rfl  k) ?_
  show GoW _ _ _ _ _ _ _ (T34.setTop (mkF m 118 #[.val (.ref a0), .val (.int p1), .val (.int p2), .val (.int p3), .val (.int p4), .val (.int p5), .val (.int p6)] [(.int p2), (.ref a0)]))
  have f39 : Exa Z h34 a0 "com/example/sidewire/sidewire/protocol/PacketHeader" := (f32.wr W34)
  have f40 : Fld Z h34 a0 "com/example/sidewire/sidewire/protocol/PacketHeader" "id" "I" (.int (0 : Int32)) := (((((F_2.ext E2).ext E9).ext E16).ext E23).other W34 (Or.inr (slot_ne (Or.inr (hw _ (List.mem_of_getElem? (i := 39) rfl))) (Or.inr (hw _ (List.mem_of_getElem? (i := 37) rfl))) (by decide) (t := .int) (t' := .int) (by decide) (by decide))))
  obtain ⟨T41, h41, X41, e41, W41, st41⟩ := putF X34 hx hZ hown (host := "") (Or.inl (hw _ (List.mem_of_getElem? (i := 38) rfl))) Via.refl e34 f40 f39 (Or.inr ⟨(hw _ (List.mem_of_getElem? (i := 39) rfl)), rfl, hnm⟩) (hw _ (List.mem_of_getElem? (i := 5) rfl)) (ty := .int) (v := (.int p2)) (by decide) rfl rfl (g := (mkF m 118 #[.val (.ref a0), .val (.int p1), .val (.int p2), .val (.int p3), .val (.int p4), .val (.int p5), .val (.int p6)] [(.int p2), (.ref a0)])) rfl rfl (hb hby d2_118)
  refine GoW.step st41 ?_
  have N41 := Fr.snoc X41 N34 g_7
  have z42 : n0 ≤ h41.size := Nat.le_trans z35 (Keep.of_wr W41).1
  have sqz42 : h0.size ≤ h41.size := Nat.le_trans sqz35 (Keep.of_wr W41).1
  have hk44 := Nat.le_trans hk37 (Keep.of_wr W41).1
  have k43 : Keep h0 h41 [a0] := k36.wr W41 (Or.inl (List.mem_of_getElem? (i := 0) rfl))
  have f45 : Fld Z h41 a0 "com/example/sidewire/sidewire/protocol/PacketHeader" "id" "I" (.int p2) := f40.same W41
  show GoW _ _ _ _ _ _ _ (T41.setTop (mkF m 121 #[.val (.ref a0), .val (.int p1), .val (.int p2), .val (.int p3), .val (.int p4), .val (.int p5), .val (.int p6)] []))
  refine GoW.step (fun _ k => XS.aloadN X41.here hx rfl (hb hby d2_121) rfl rfl  k) ?_
  show GoW _ _ _ _ _ _ _ (T41.setTop (mkF m 122 #[.val (.ref a0), .val (.int p1), .val (.int p2), .val (.int p3), .val (.int p4), .val (.int p5), .val (.int p6)] [(.ref a0)]))
  refine GoW.step (fun _ k => XS.iloadN X41.here hx rfl (hb hby d2_122) rfl  k) ?_
  show GoW _ _ _ _ _ _ _ (T41.setTop (mkF m 123 #[.val (.ref a0), .val (.int p1), .val (.int p2), .val (.int p3), .val (.int p4), .val (.int p5), .val (.int p6)] [(.int p3), (.ref a0)]))
  have f46 : Exa Z h41 a0 "com/example/sidewire/sidewire/protocol/PacketHeader" := (f39.wr W41)
  have f47 : Fld Z h41 a0 "com/example/sidewire/sidewire/protocol/PacketHeader" "flags" "I" (.int (0 : Int32)) := ((((((F_3.ext E2).ext E9).ext E16).ext E23).other W34 (Or.inr (slot_ne (Or.inr (hw _ (List.mem_of_getElem? (i := 41) rfl))) (Or.inr (hw _ (List.mem_of_getElem? (i := 37) rfl))) (by decide) (t := .int) (t' := .int) (by decide) (by decide)))).other W41 (Or.inr (slot_ne (Or.inr (hw _ (List.mem_of_getElem? (i := 41) rfl))) (Or.inr (hw _ (List.mem_of_getElem? (i := 39) rfl))) (by decide) (t := .int) (t' := .int) (by decide) (by decide))))
  obtain ⟨T48, h48, X48, e48, W48, st48⟩ := putF X41 hx hZ hown (host := "") (Or.inl (hw _ (List.mem_of_getElem? (i := 40) rfl))) Via.refl e41 f47 f46 (Or.inr ⟨(hw _ (List.mem_of_getElem? (i := 41) rfl)), rfl, hnm⟩) (hw _ (List.mem_of_getElem? (i := 5) rfl)) (ty := .int) (v := (.int p3)) (by decide) rfl rfl (g := (mkF m 123 #[.val (.ref a0), .val (.int p1), .val (.int p2), .val (.int p3), .val (.int p4), .val (.int p5), .val (.int p6)] [(.int p3), (.ref a0)])) rfl rfl (hb hby d2_123)
  refine GoW.step st48 ?_
  have N48 := Fr.snoc X48 N41 g_7
  have z49 : n0 ≤ h48.size := Nat.le_trans z42 (Keep.of_wr W48).1
  have sqz49 : h0.size ≤ h48.size := Nat.le_trans sqz42 (Keep.of_wr W48).1
  have hk51 := Nat.le_trans hk44 (Keep.of_wr W48).1
  have k50 : Keep h0 h48 [a0] := k43.wr W48 (Or.inl (List.mem_of_getElem? (i := 0) rfl))
  have f52 : Fld Z h48 a0 "com/example/sidewire/sidewire/protocol/PacketHeader" "flags" "I" (.int p3) := f47.same W48
  show GoW _ _ _ _ _ _ _ (T48.setTop (mkF m 126 #[.val (.ref a0), .val (.int p1), .val (.int p2), .val (.int p3), .val (.int p4), .val (.int p5), .val (.int p6)] []))
  refine GoW.step (fun _ k => XS.aloadN X48.here hx rfl (hb hby d2_126) rfl rfl  k) ?_
  show GoW _ _ _ _ _ _ _ (T48.setTop (mkF m 127 #[.val (.ref a0), .val (.int p1), .val (.int p2), .val (.int p3), .val (.int p4), .val (.int p5), .val (.int p6)] [(.ref a0)]))
  refine GoW.step (fun _ k => XS.iload X48.here hx rfl (hb hby d2_127) rfl  k) ?_
  show GoW _ _ _ _ _ _ _ (T48.setTop (mkF m 129 #[.val (.ref a0), .val (.int p1), .val (.int p2), .val (.int p3), .val (.int p4), .val (.int p5), .val (.int p6)] [(.int p4), (.ref a0)]))
  have f53 : Exa Z h48 a0 "com/example/sidewire/sidewire/protocol/PacketHeader" := (f46.wr W48)
  have f54 : Fld Z h48 a0 "com/example/sidewire/sidewire/protocol/PacketHeader" "commandSet" "I" (.int (0 : Int32)) := (((((((F_4.ext E2).ext E9).ext E16).ext E23).other W34 (Or.inr (slot_ne (Or.inr (hw _ (List.mem_of_getElem? (i := 43) rfl))) (Or.inr (hw _ (List.mem_of_getElem? (i := 37) rfl))) (by decide) (t := .int) (t' := .int) (by decide) (by decide)))).other W41 (Or.inr (slot_ne (Or.inr (hw _ (List.mem_of_getElem? (i := 43) rfl))) (Or.inr (hw _ (List.mem_of_getElem? (i := 39) rfl))) (by decide) (t := .int) (t' := .int) (by decide) (by decide)))).other W48 (Or.inr (slot_ne (Or.inr (hw _ (List.mem_of_getElem? (i := 43) rfl))) (Or.inr (hw _ (List.mem_of_getElem? (i := 41) rfl))) (by decide) (t := .int) (t' := .int) (by decide) (by decide))))
  obtain ⟨T55, h55, X55, e55, W55, st55⟩ := putF X48 hx hZ hown (host := "") (Or.inl (hw _ (List.mem_of_getElem? (i := 42) rfl))) Via.refl e48 f54 f53 (Or.inr ⟨(hw _ (List.mem_of_getElem? (i := 43) rfl)), rfl, hnm⟩) (hw _ (List.mem_of_getElem? (i := 5) rfl)) (ty := .int) (v := (.int p4)) (by decide) rfl rfl (g := (mkF m 129 #[.val (.ref a0), .val (.int p1), .val (.int p2), .val (.int p3), .val (.int p4), .val (.int p5), .val (.int p6)] [(.int p4), (.ref a0)])) rfl rfl (hb hby d2_129)
  refine GoW.step st55 ?_
  have N55 := Fr.snoc X55 N48 g_7
  have z56 : n0 ≤ h55.size := Nat.le_trans z49 (Keep.of_wr W55).1
  have sqz56 : h0.size ≤ h55.size := Nat.le_trans sqz49 (Keep.of_wr W55).1
  have hk58 := Nat.le_trans hk51 (Keep.of_wr W55).1
  have k57 : Keep h0 h55 [a0] := k50.wr W55 (Or.inl (List.mem_of_getElem? (i := 0) rfl))
  have f59 : Fld Z h55 a0 "com/example/sidewire/sidewire/protocol/PacketHeader" "commandSet" "I" (.int p4) := f54.same W55
  show GoW _ _ _ _ _ _ _ (T55.setTop (mkF m 132 #[.val (.ref a0), .val (.int p1), .val (.int p2), .val (.int p3), .val (.int p4), .val (.int p5), .val (.int p6)] []))
  refine GoW.step (fun _ k => XS.aloadN X55.here hx rfl (hb hby d2_132) rfl rfl  k) ?_
  show GoW _ _ _ _ _ _ _ (T55.setTop (mkF m 133 #[.val (.ref a0), .val (.int p1), .val (.int p2), .val (.int p3), .val (.int p4), .val (.int p5), .val (.int p6)] [(.ref a0)]))
  refine GoW.step (fun _ k => XS.iload X55.here hx rfl (hb hby d2_133) rfl  k) ?_
  show GoW _ _ _ _ _ _ _ (T55.setTop (mkF m 135 #[.val (.ref a0), .val (.int p1), .val (.int p2), .val (.int p3), .val (.int p4), .val (.int p5), .val (.int p6)] [(.int p5), (.ref a0)]))
  have f60 : Exa Z h55 a0 "com/example/sidewire/sidewire/protocol/PacketHeader" := (f53.wr W55)
  have f61 : Fld Z h55 a0 "com/example/sidewire/sidewire/protocol/PacketHeader" "command" "I" (.int (0 : Int32)) := ((((((((F_5.ext E2).ext E9).ext E16).ext E23).other W34 (Or.inr (slot_ne (Or.inr (hw _ (List.mem_of_getElem? (i := 45) rfl))) (Or.inr (hw _ (List.mem_of_getElem? (i := 37) rfl))) (by decide) (t := .int) (t' := .int) (by decide) (by decide)))).other W41 (Or.inr (slot_ne (Or.inr (hw _ (List.mem_of_getElem? (i := 45) rfl))) (Or.inr (hw _ (List.mem_of_getElem? (i := 39) rfl))) (by decide) (t := .int) (t' := .int) (by decide) (by decide)))).other W48 (Or.inr (slot_ne (Or.inr (hw _ (List.mem_of_getElem? (i := 45) rfl))) (Or.inr (hw _ (List.mem_of_getElem? (i := 41) rfl))) (by decide) (t := .int) (t' := .int) (by decide) (by decide)))).other W55 (Or.inr (slot_ne (Or.inr (hw _ (List.mem_of_getElem? (i := 45) rfl))) (Or.inr (hw _ (List.mem_of_getElem? (i := 43) rfl))) (by decide) (t := .int) (t' := .int) (by decide) (by decide))))
  obtain ⟨T62, h62, X62, e62, W62, st62⟩ := putF X55 hx hZ hown (host := "") (Or.inl (hw _ (List.mem_of_getElem? (i := 44) rfl))) Via.refl e55 f61 f60 (Or.inr ⟨(hw _ (List.mem_of_getElem? (i := 45) rfl)), rfl, hnm⟩) (hw _ (List.mem_of_getElem? (i := 5) rfl)) (ty := .int) (v := (.int p5)) (by decide) rfl rfl (g := (mkF m 135 #[.val (.ref a0), .val (.int p1), .val (.int p2), .val (.int p3), .val (.int p4), .val (.int p5), .val (.int p6)] [(.int p5), (.ref a0)])) rfl rfl (hb hby d2_135)
  refine GoW.step st62 ?_
  have N62 := Fr.snoc X62 N55 g_7
  have z63 : n0 ≤ h62.size := Nat.le_trans z56 (Keep.of_wr W62).1
  have sqz63 : h0.size ≤ h62.size := Nat.le_trans sqz56 (Keep.of_wr W62).1
  have hk65 := Nat.le_trans hk58 (Keep.of_wr W62).1
  have k64 : Keep h0 h62 [a0] := k57.wr W62 (Or.inl (List.mem_of_getElem? (i := 0) rfl))
  have f66 : Fld Z h62 a0 "com/example/sidewire/sidewire/protocol/PacketHeader" "command" "I" (.int p5) := f61.same W62
  show GoW _ _ _ _ _ _ _ (T62.setTop (mkF m 138 #[.val (.ref a0), .val (.int p1), .val (.int p2), .val (.int p3), .val (.int p4), .val (.int p5), .val (.int p6)] []))
  refine GoW.step (fun _ k => XS.aloadN X62.here hx rfl (hb hby d2_138) rfl rfl  k) ?_
  show GoW _ _ _ _ _ _ _ (T62.setTop (mkF m 139 #[.val (.ref a0), .val (.int p1), .val (.int p2), .val (.int p3), .val (.int p4), .val (.int p5), .val (.int p6)] [(.ref a0)]))
  refine GoW.step (fun _ k => XS.iload X62.here hx rfl (hb hby d2_139) rfl  k) ?_
  show GoW _ _ _ _ _ _ _ (T62.setTop (mkF m 141 #[.val (.ref a0), .val (.int p1), .val (.int p2), .val (.int p3), .val (.int p4), .val (.int p5), .val (.int p6)] [(.int p6), (.ref a0)]))
  have f67 : Exa Z h62 a0 "com/example/sidewire/sidewire/protocol/PacketHeader" := (f60.wr W62)
  have f68 : Fld Z h62 a0 "com/example/sidewire/sidewire/protocol/PacketHeader" "errorCode" "I" (.int (0 : Int32)) := (((((((((F_6.ext E2).ext E9).ext E16).ext E23).other W34 (Or.inr (slot_ne (Or.inr (hw _ (List.mem_of_getElem? (i := 47) rfl))) (Or.inr (hw _ (List.mem_of_getElem? (i := 37) rfl))) (by decide) (t := .int) (t' := .int) (by decide) (by decide)))).other W41 (Or.inr (slot_ne (Or.inr (hw _ (List.mem_of_getElem? (i := 47) rfl))) (Or.inr (hw _ (List.mem_of_getElem? (i := 39) rfl))) (by decide) (t := .int) (t' := .int) (by decide) (by decide)))).other W48 (Or.inr (slot_ne (Or.inr (hw _ (List.mem_of_getElem? (i := 47) rfl))) (Or.inr (hw _ (List.mem_of_getElem? (i := 41) rfl))) (by decide) (t := .int) (t' := .int) (by decide) (by decide)))).other W55 (Or.inr (slot_ne (Or.inr (hw _ (List.mem_of_getElem? (i := 47) rfl))) (Or.inr (hw _ (List.mem_of_getElem? (i := 43) rfl))) (by decide) (t := .int) (t' := .int) (by decide) (by decide)))).other W62 (Or.inr (slot_ne (Or.inr (hw _ (List.mem_of_getElem? (i := 47) rfl))) (Or.inr (hw _ (List.mem_of_getElem? (i := 45) rfl))) (by decide) (t := .int) (t' := .int) (by decide) (by decide))))
  obtain ⟨T69, h69, X69, e69, W69, st69⟩ := putF X62 hx hZ hown (host := "") (Or.inl (hw _ (List.mem_of_getElem? (i := 46) rfl))) Via.refl e62 f68 f67 (Or.inr ⟨(hw _ (List.mem_of_getElem? (i := 47) rfl)), rfl, hnm⟩) (hw _ (List.mem_of_getElem? (i := 5) rfl)) (ty := .int) (v := (.int p6)) (by decide) rfl rfl (g := (mkF m 141 #[.val (.ref a0), .val (.int p1), .val (.int p2), .val (.int p3), .val (.int p4), .val (.int p5), .val (.int p6)] [(.int p6), (.ref a0)])) rfl rfl (hb hby d2_141)
  refine GoW.step st69 ?_
  have N69 := Fr.snoc X69 N62 g_7
  have z70 : n0 ≤ h69.size := Nat.le_trans z63 (Keep.of_wr W69).1
  have sqz70 : h0.size ≤ h69.size := Nat.le_trans sqz63 (Keep.of_wr W69).1
  have hk72 := Nat.le_trans hk65 (Keep.of_wr W69).1
  have k71 : Keep h0 h69 [a0] := k64.wr W69 (Or.inl (List.mem_of_getElem? (i := 0) rfl))
  have f73 : Fld Z h69 a0 "com/example/sidewire/sidewire/protocol/PacketHeader" "errorCode" "I" (.int p6) := f68.same W69
  show GoW _ _ _ _ _ _ _ (T69.setTop (mkF m 144 #[.val (.ref a0), .val (.int p1), .val (.int p2), .val (.int p3), .val (.int p4), .val (.int p5), .val (.int p6)] []))
  have f74 : Exa Z h69 a0 "com/example/sidewire/sidewire/protocol/PacketHeader" := (f67.wr W69)
  have f75 : Fld Z h69 a0 "com/example/sidewire/sidewire/protocol/PacketHeader" "commandSet" "I" (.int p4) := ((f59.other W62 (Or.inr (slot_ne (Or.inr (hw _ (List.mem_of_getElem? (i := 43) rfl))) (Or.inr (hw _ (List.mem_of_getElem? (i := 45) rfl))) (by decide) (t := .int) (t' := .int) (by decide) (by decide)))).other W69 (Or.inr (slot_ne (Or.inr (hw _ (List.mem_of_getElem? (i := 43) rfl))) (Or.inr (hw _ (List.mem_of_getElem? (i := 47) rfl))) (by decide) (t := .int) (t' := .int) (by decide) (by decide))))
  have f76 : Fld Z h69 a0 "com/example/sidewire/sidewire/protocol/PacketHeader" "command" "I" (.int p5) := (f66.other W69 (Or.inr (slot_ne (Or.inr (hw _ (List.mem_of_getElem? (i := 45) rfl))) (Or.inr (hw _ (List.mem_of_getElem? (i := 47) rfl))) (by decide) (t := .int) (t' := .int) (by decide) (by decide))))
  refine GoW.retV X69 hS23 (by rw [e69]; exact hk72) hx Bd.returns hlk (hb hby d2_144) ?_ (by decide) (by decide)
  rw [e69]
  exact ⟨(rfl), N69, k71, f74, f75, f76⟩
theorem d8_0 : decode prog_37_method_18_code 0 = .ok (.aload_n 0, 1) := by decide +kernel
theorem d8_1 : decode prog_37_method_18_code 1 = .ok (.getfield 48, 3) := by decide +kernel
theorem d8_4 : decode prog_37_method_18_code 4 = .ok (.ireturn, 1) := by decide +kernel
theorem ef_8 (m : MethodId) (a0 : Addr) : entryFrame m #[(.ref a0)] 1 = mkF m 0 #[.val (.ref a0)] [] := by first | (simp [entryFrame, mkF, argsToLocals, Value.category]; done) | rfl
def Q8 (Z : State) (a0 : Addr) (w : Int32) (h0 : Heap) (n0 : Nat) (v : Option Value) (h : Heap) (L : List Loc) : Prop := (v = some (.int w)) ∧ (Fr n0 L) ∧ (h = h0)
set_option maxRecDepth 65536 in
set_option maxHeartbeats 40000000 in
theorem rm8 (l : Launch) (Z : State) (aZ : Array Value) (hw : ∀ d ∈ tables_1, d.before aZ Z = true) (ws : List Jvm.Cond) (a0 : Addr) (w : Int32) (h0 : Heap) (n0 : Nat) (Z0 : n0 ≤ h0.size) (F_0 : Fld Z h0 a0 "com/example/sidewire/sidewire/protocol/PacketHeader" "commandSet" "I" (.int w)) :
    MetFree l (⟨"com/example/sidewire/sidewire/protocol/PacketHeader", "commandSet", "()I"⟩ : MethodName) (head1 (Jvm.Cond.code (⟨"com/example/sidewire/sidewire/protocol/PacketHeader", "commandSet", "()I"⟩ : MethodName) prog_37_method_18_code 1 (some .int) :: ws) ({ frames := 0, cells := 0, slots := 0, locals := 0 } : Room)) (fun a U => a = #[(.ref a0)] ∧ Z.Warmed39 U.vm ∧ U.heap = h0) (fun _ _ _ _ _ => True) (fun _ U o U' => ∃ v L, o = .returned v ∧ Q8 Z a0 w h0 n0 v U'.heap L ∧ FrameEnd U o U' L ({ frames := 0, cells := 0, slots := 0, locals := 0 } : Room).cells ({ frames := 0, cells := 0, slots := 0, locals := 0 } : Room).slots) := by
  refine MetFree.of_bodySF (plainFor_of_name pn_5) hisR ?_
  intro p e s m args below meth c s₁ Bd hml0 hP hK
  obtain ⟨rfl, hZ, hh⟩ := hP
  have hx := Bd.exec
  have hby := Bd.bytes
  have hml : c.maxLocals = 1 := hml0
  have hown : s.vm.findClass "com/example/sidewire/sidewire/protocol/PacketHeader" = some m.cls := findClass_of_methodNamed Bd.named
  have hnm := (name_of_methodNamed Bd.named Bd.method).1
  have hlk : meth.locks = false := BodyLoose.notSynchronized Bd
  have X0 : Stand p l e ({ frames := 0, cells := 0, slots := 0, locals := 0 } : Room) s m #[(.ref a0)] below meth c s₁ [] 0 0 := Stand.of_body Bd
  have e0 : s₁.heap = h0 := by rw [← hh, Bd.state]; rfl
  have N0 := Fr.nil n0
  have sq0 : h0.size ≤ h0.size := Nat.le_refl _
  change Go p e below s ({ frames := 0, cells := 0, slots := 0, locals := 0 } : Room).cells ({ frames := 0, cells := 0, slots := 0, locals := 0 } : Room).slots (Q8 Z a0 w h0 n0) (s₁.setTop (entryFrame m #[(.ref a0)] 1))
  rw [ef_8 m a0]
  show Go _ _ _ _ _ _ _ (s₁.setTop (mkF m 0 #[.val (.ref a0)] []))
  refine Go.step (fun _ k => XS.aloadN X0.here hx rfl (hb hby d8_0) rfl rfl  k) ?_
  show Go _ _ _ _ _ _ _ (s₁.setTop (mkF m 1 #[.val (.ref a0)] [(.ref a0)]))
  obtain ⟨T1, X1, e1, st1⟩ := getF X0 hx hZ hown (host := "") (Or.inl (hw _ (List.mem_of_getElem? (i := 42) rfl))) Via.refl e0 F_0 (g := (mkF m 1 #[.val (.ref a0)] [(.ref a0)])) rfl rfl (hb hby d8_1)
  refine Go.step st1 ?_
  show Go _ _ _ _ _ _ _ (T1.setTop (mkF m 4 #[.val (.ref a0)] [(.int w)]))
  refine Go.retI X1 hx Bd.returns hlk (hb hby d8_4) ?_ (by decide) (by decide)
  rw [e1]
  exact ⟨(rfl), N0, rfl⟩
theorem d9_0 : decode prog_37_method_19_code 0 = .ok (.aload_n 0, 1) := by decide +kernel
theorem d9_1 : decode prog_37_method_19_code 1 = .ok (.getfield 51, 3) := by decide +kernel
theorem d9_4 : decode prog_37_method_19_code 4 = .ok (.ireturn, 1) := by decide +kernel
theorem ef_9 (m : MethodId) (a0 : Addr) : entryFrame m #[(.ref a0)] 1 = mkF m 0 #[.val (.ref a0)] [] := by first | (simp [entryFrame, mkF, argsToLocals, Value.category]; done) | rfl
def Q9 (Z : State) (a0 : Addr) (w : Int32) (h0 : Heap) (n0 : Nat) (v : Option Value) (h : Heap) (L : List Loc) : Prop := (v = some (.int w)) ∧ (Fr n0 L) ∧ (h = h0)
set_option maxRecDepth 65536 in
set_option maxHeartbeats 40000000 in
theorem rm9 (l : Launch) (Z : State) (aZ : Array Value) (hw : ∀ d ∈ tables_1, d.before aZ Z = true) (ws : List Jvm.Cond) (a0 : Addr) (w : Int32) (h0 : Heap) (n0 : Nat) (Z0 : n0 ≤ h0.size) (F_0 : Fld Z h0 a0 "com/example/sidewire/sidewire/protocol/PacketHeader" "command" "I" (.int w)) :
    MetFree l (⟨"com/example/sidewire/sidewire/protocol/PacketHeader", "command", "()I"⟩ : MethodName) (head1 (Jvm.Cond.code (⟨"com/example/sidewire/sidewire/protocol/PacketHeader", "command", "()I"⟩ : MethodName) prog_37_method_19_code 1 (some .int) :: ws) ({ frames := 0, cells := 0, slots := 0, locals := 0 } : Room)) (fun a U => a = #[(.ref a0)] ∧ Z.Warmed39 U.vm ∧ U.heap = h0) (fun _ _ _ _ _ => True) (fun _ U o U' => ∃ v L, o = .returned v ∧ Q9 Z a0 w h0 n0 v U'.heap L ∧ FrameEnd U o U' L ({ frames := 0, cells := 0, slots := 0, locals := 0 } : Room).cells ({ frames := 0, cells := 0, slots := 0, locals := 0 } : Room).slots) := by
  refine MetFree.of_bodySF (plainFor_of_name pn_5) hisR ?_
  intro p e s m args below meth c s₁ Bd hml0 hP hK
  obtain ⟨rfl, hZ, hh⟩ := hP
  have hx := Bd.exec
  have hby := Bd.bytes
  have hml : c.maxLocals = 1 := hml0
  have hown : s.vm.findClass "com/example/sidewire/sidewire/protocol/PacketHeader" = some m.cls := findClass_of_methodNamed Bd.named
  have hnm := (name_of_methodNamed Bd.named Bd.method).1
  have hlk : meth.locks = false := BodyLoose.notSynchronized Bd
  have X0 : Stand p l e ({ frames := 0, cells := 0, slots := 0, locals := 0 } : Room) s m #[(.ref a0)] below meth c s₁ [] 0 0 := Stand.of_body Bd
  have e0 : s₁.heap = h0 := by rw [← hh, Bd.state]; rfl
  have N0 := Fr.nil n0
  have sq0 : h0.size ≤ h0.size := Nat.le_refl _
  change Go p e below s ({ frames := 0, cells := 0, slots := 0, locals := 0 } : Room).cells ({ frames := 0, cells := 0, slots := 0, locals := 0 } : Room).slots (Q9 Z a0 w h0 n0) (s₁.setTop (entryFrame m #[(.ref a0)] 1))
  rw [ef_9 m a0]
  show Go _ _ _ _ _ _ _ (s₁.setTop (mkF m 0 #[.val (.ref a0)] []))
  refine Go.step (fun _ k => XS.aloadN X0.here hx rfl (hb hby d9_0) rfl rfl  k) ?_
  show Go _ _ _ _ _ _ _ (s₁.setTop (mkF m 1 #[.val (.ref a0)] [(.ref a0)]))
  obtain ⟨T1, X1, e1, st1⟩ := getF X0 hx hZ hown (host := "") (Or.inl (hw _ (List.mem_of_getElem? (i := 44) rfl))) Via.refl e0 F_0 (g := (mkF m 1 #[.val (.ref a0)] [(.ref a0)])) rfl rfl (hb hby d9_1)
  refine Go.step st1 ?_
  show Go _ _ _ _ _ _ _ (T1.setTop (mkF m 4 #[.val (.ref a0)] [(.int w)]))
  refine Go.retI X1 hx Bd.returns hlk (hb hby d9_4) ?_ (by decide) (by decide)
  rw [e1]
  exact ⟨(rfl), N0, rfl⟩
theorem pn_6 : plainName "com/example/sidewire/sidewire/protocol/MonitorProtocol" = true := by first | (simp [plainName, overriddenIn]; done) | decide +kernel
theorem pd_3 : parseMethodDescriptor "()I" = some ⟨[], some .int⟩ := by decide +kernel
theorem d7_0 : decode prog_34_method_7_code 0 = .ok (.aload_n 0, 1) := by decide +kernel
theorem d7_1 : decode prog_34_method_7_code 1 = .ok (.invokevirtual 136, 3) := by decide +kernel
theorem d7_4 : decode prog_34_method_7_code 4 = .ok (.sipush 199, 3) := by decide +kernel
theorem d7_7 : decode prog_34_method_7_code 7 = .ok (.if_icmp .ne 15, 3) := by decide +kernel
theorem d7_10 : decode prog_34_method_7_code 10 = .ok (.aload_n 0, 1) := by decide +kernel
theorem d7_11 : decode prog_34_method_7_code 11 = .ok (.invokevirtual 139, 3) := by decide +kernel
theorem d7_14 : decode prog_34_method_7_code 14 = .ok (.iconst 1, 1) := by decide +kernel
theorem d7_15 : decode prog_34_method_7_code 15 = .ok (.if_icmp .ne 7, 3) := by decide +kernel
theorem d7_18 : decode prog_34_method_7_code 18 = .ok (.iconst 1, 1) := by decide +kernel
theorem d7_19 : decode prog_34_method_7_code 19 = .ok (.goto 4, 3) := by decide +kernel
theorem d7_22 : decode prog_34_method_7_code 22 = .ok (.iconst 0, 1) := by decide +kernel
theorem d7_23 : decode prog_34_method_7_code 23 = .ok (.ireturn, 1) := by decide +kernel
theorem ef_7 (m : MethodId) (a0 : Addr) : entryFrame m #[(.ref a0)] 1 = mkF m 0 #[.val (.ref a0)] [] := by first | (simp [entryFrame, mkF, argsToLocals, Value.category]; done) | rfl
def Q7 (Z : State) (a0 : Addr) (w1 : Int32) (w2 : Int32) (h0 : Heap) (n0 : Nat) (v : Option Value) (h : Heap) (L : List Loc) : Prop := (v = some (.int (if w1 = (199 : Int32) ∧ w2 = (1 : Int32) then (1 : Int32) else 0))) ∧ (Fr n0 L) ∧ (h = h0)
set_option maxRecDepth 65536 in
set_option maxHeartbeats 40000000 in
theorem rm7 (l : Launch) (Z : State) (aZ : Array Value) (hw : ∀ d ∈ tables_1, d.before aZ Z = true) (ws : List Jvm.Cond) (a0 : Addr) (w1 : Int32) (w2 : Int32) (h0 : Heap) (n0 : Nat) (Z0 : n0 ≤ h0.size) (E_0 : Exa Z h0 a0 "com/example/sidewire/sidewire/protocol/PacketHeader") (F_1 : Fld Z h0 a0 "com/example/sidewire/sidewire/protocol/PacketHeader" "commandSet" "I" (.int w1)) (F_2 : Fld Z h0 a0 "com/example/sidewire/sidewire/protocol/PacketHeader" "command" "I" (.int w2)) :
    MetFree l (⟨"com/example/sidewire/sidewire/protocol/MonitorProtocol", "isMonitorCommand", "(Lcom/example/sidewire/sidewire/protocol/PacketHeader;)Z"⟩ : MethodName) (head1 (Jvm.Cond.code (⟨"com/example/sidewire/sidewire/protocol/MonitorProtocol", "isMonitorCommand", "(Lcom/example/sidewire/sidewire/protocol/PacketHeader;)Z"⟩ : MethodName) prog_34_method_7_code 1 (some .boolean) :: ws) ({ frames := 1, cells := 0, slots := 0, locals := 12 } : Room)) (fun a U => a = #[(.ref a0)] ∧ Z.Warmed39 U.vm ∧ U.heap = h0) (fun _ _ _ _ _ => True) (fun _ U o U' => ∃ v L, o = .returned v ∧ Q7 Z a0 w1 w2 h0 n0 v U'.heap L ∧ FrameEnd U o U' L ({ frames := 1, cells := 0, slots := 0, locals := 12 } : Room).cells ({ frames := 1, cells := 0, slots := 0, locals := 12 } : Room).slots) := by
  refine MetFree.of_bodySF (plainFor_of_name pn_6) hisR ?_
  intro p e s m args below meth c s₁ Bd hml0 hP hK
  obtain ⟨rfl, hZ, hh⟩ := hP
  have hx := Bd.exec
  have hby := Bd.bytes
  have hml : c.maxLocals = 1 := hml0
  have hown : s.vm.findClass "com/example/sidewire/sidewire/protocol/MonitorProtocol" = some m.cls := findClass_of_methodNamed Bd.named
  have hnm := (name_of_methodNamed Bd.named Bd.method).1
  have hlk : meth.locks = false := BodyLoose.notSynchronized Bd
  have X0 : Stand p l e ({ frames := 1, cells := 0, slots := 0, locals := 12 } : Room) s m #[(.ref a0)] below meth c s₁ [] 0 0 := Stand.of_body Bd
  have e0 : s₁.heap = h0 := by rw [← hh, Bd.state]; rfl
  have N0 := Fr.nil n0
  have sq0 : h0.size ≤ h0.size := Nat.le_refl _
  change Go p e below s ({ frames := 1, cells := 0, slots := 0, locals := 12 } : Room).cells ({ frames := 1, cells := 0, slots := 0, locals := 12 } : Room).slots (Q7 Z a0 w1 w2 h0 n0) (s₁.setTop (entryFrame m #[(.ref a0)] 1))
  rw [ef_7 m a0]
  show Go _ _ _ _ _ _ _ (s₁.setTop (mkF m 0 #[.val (.ref a0)] []))
  refine Go.step (fun _ k => XS.aloadN X0.here hx rfl (hb hby d7_0) rfl rfl  k) ?_
  show Go _ _ _ _ _ _ _ (s₁.setTop (mkF m 1 #[.val (.ref a0)] [(.ref a0)]))
  obtain ⟨cq1, kq1, q1a, q1b, q1c⟩ := isOf hZ e0 E_0
  obtain ⟨_, _, ⟨T1, L1, k1, n1⟩, -, X1, ⟨Lc1, hQ1, l1, y1, z1⟩, st1⟩ := X0.virtualBack hx (y := (⟨"com/example/sidewire/sidewire/protocol/PacketHeader", "commandSet", "()I"⟩ : MethodName)) (z := (⟨"com/example/sidewire/sidewire/protocol/PacketHeader", "commandSet", "()I"⟩ : MethodName)) hown (mvT hZ (hw _ (List.mem_of_getElem? (i := 52) rfl))) (mvT hZ (hw _ (List.mem_of_getElem? (i := 53) rfl))) (notFace_of_selects (args := #[]) (mvT hZ (hw _ (List.mem_of_getElem? (i := 55) rfl)))) (mvT hZ (hw _ (List.mem_of_getElem? (i := 55) rfl))) (mvT hZ (hw _ (List.mem_of_getElem? (i := 54) rfl))) (by decide) (backOf (W := 0) (rm8 l Z aZ hw [] a0 w1 h0 n0 Z0 F_1) hZ (hw _ (List.mem_of_getElem? (i := 56) rfl)) (hw _ (List.mem_of_getElem? (i := 6) rfl)) (by decide) (by decide)) q1a q1c (g := (mkF m 1 #[.val (.ref a0)] [(.ref a0)])) rfl (by rw [hml]; rfl) (Steps.refl _) (argsL := []) (rest := []) (lenOf pd_3 rfl) rfl (by show 2 * 0 + _ ≤ _; exact Nat.le_of_eq rfl) (hb hby d7_1) (fun _ _ => ⟨rfl, e0, (by decide : 0 + 0 ≤ _), (by decide : 0 + 0 ≤ _)⟩)
  dsimp only [Pt.U, Pt.locs, Pt.cells, Pt.slots] at X1 l1 y1 z1 st1 hQ1
  subst l1 y1 z1
  obtain ⟨rfl, Nq1, e1⟩ := hQ1
  have N1 := Fr.app N0 Nq1
  refine Go.tr st1 ?_
  show Go _ _ _ _ _ _ _ (T1.setTop (mkF m 4 #[.val (.ref a0)] [(.int w1)]))
  refine Go.step (fun _ k => XS.sipush X1.here hx rfl (hb hby d7_4) k) ?_
  show Go _ _ _ _ _ _ _ (T1.setTop (mkF m 7 #[.val (.ref a0)] [(.int (199 : Int32)), (.int w1)]))
  by_cases hc7 : w1 = (199 : Int32)
  · skip
    refine Go.step (fun _ k => XS.icmpNo X1.here hx rfl (hb hby d7_7) rfl (teq hc7).2 k) ?_
    show Go _ _ _ _ _ _ _ (T1.setTop (mkF m 10 #[.val (.ref a0)] []))
    refine Go.step (fun _ k => XS.aloadN X1.here hx rfl (hb hby d7_10) rfl rfl  k) ?_
    show Go _ _ _ _ _ _ _ (T1.setTop (mkF m 11 #[.val (.ref a0)] [(.ref a0)]))
    obtain ⟨cq2, kq2, q2a, q2b, q2c⟩ := isOf hZ e1 E_0
    obtain ⟨_, _, ⟨T2, L2, k2, n2⟩, -, X2, ⟨Lc2, hQ2, l2, y2, z2⟩, st2⟩ := X1.virtualBack hx (y := (⟨"com/example/sidewire/sidewire/protocol/PacketHeader", "command", "()I"⟩ : MethodName)) (z := (⟨"com/example/sidewire/sidewire/protocol/PacketHeader", "command", "()I"⟩ : MethodName)) hown (mvT hZ (hw _ (List.mem_of_getElem? (i := 58) rfl))) (mvT hZ (hw _ (List.mem_of_getElem? (i := 59) rfl))) (notFace_of_selects (args := #[]) (mvT hZ (hw _ (List.mem_of_getElem? (i := 61) rfl)))) (mvT hZ (hw _ (List.mem_of_getElem? (i := 61) rfl))) (mvT hZ (hw _ (List.mem_of_getElem? (i := 60) rfl))) (by decide) (backOf (W := 0) (rm9 l Z aZ hw [] a0 w2 h0 n0 Z0 F_2) hZ (hw _ (List.mem_of_getElem? (i := 62) rfl)) (hw _ (List.mem_of_getElem? (i := 6) rfl)) (by decide) (by decide)) q2a q2c (g := (mkF m 11 #[.val (.ref a0)] [(.ref a0)])) rfl (by rw [hml]; rfl) (Steps.refl _) (argsL := []) (rest := []) (lenOf pd_3 rfl) rfl (by show 2 * 0 + _ ≤ _; exact Nat.le_of_eq rfl) (hb hby d7_11) (fun _ _ => ⟨rfl, e1, (by decide : 0 + 0 ≤ _), (by decide : 0 + 0 ≤ _)⟩)
    dsimp only [Pt.U, Pt.locs, Pt.cells, Pt.slots] at X2 l2 y2 z2 st2 hQ2
    subst l2 y2 z2
    obtain ⟨rfl, Nq2, e2⟩ := hQ2
    have N2 := Fr.app N1 Nq2
    refine Go.tr st2 ?_
    show Go _ _ _ _ _ _ _ (T2.setTop (mkF m 14 #[.val (.ref a0)] [(.int w2)]))
    refine Go.step (fun _ k => XS.iconst X2.here hx rfl (hb hby d7_14) k) ?_
    show Go _ _ _ _ _ _ _ (T2.setTop (mkF m 15 #[.val (.ref a0)] [(.int (1 : Int32)), (.int w2)]))
    by_cases hc15 : w2 = (1 : Int32)
    · skip
      refine Go.step (fun _ k => XS.icmpNo X2.here hx rfl (hb hby d7_15) rfl (teq hc15).2 k) ?_
      show Go _ _ _ _ _ _ _ (T2.setTop (mkF m 18 #[.val (.ref a0)] []))
      refine Go.step (fun _ k => XS.iconst X2.here hx rfl (hb hby d7_18) k) ?_
      show Go _ _ _ _ _ _ _ (T2.setTop (mkF m 19 #[.val (.ref a0)] [(.int (1 : Int32))]))
      refine Go.step (fun _ k => XS.goto X2.here hx rfl (pc0 := 19) (pc' := 23) rfl (hb hby d7_19) (by decide) (by decide) k) ?_
      show Go _ _ _ _ _ _ _ (T2.setTop (mkF m 23 #[.val (.ref a0)] [(.int (1 : Int32))]))
      refine Go.retN X2 hx (t := .boolean) Bd.returns (by simp) hlk (hb hby d7_23) ?_ (by decide) (by decide)
      rw [e2]
      exact ⟨(by first | rfl | (simp_all [own_nb1, own_nb0]; done)), N2, rfl⟩
    · skip
      refine Go.step (fun _ k => XS.icmpYes X2.here hx rfl (pc0 := 15) (pc' := 22) rfl (hb hby d7_15) rfl (feq hc15).2 (by decide) (by decide) k) ?_
      show Go _ _ _ _ _ _ _ (T2.setTop (mkF m 22 #[.val (.ref a0)] []))
      refine Go.step (fun _ k => XS.iconst X2.here hx rfl (hb hby d7_22) k) ?_
      show Go _ _ _ _ _ _ _ (T2.setTop (mkF m 23 #[.val (.ref a0)] [(.int (0 : Int32))]))
      refine Go.retN X2 hx (t := .boolean) Bd.returns (by simp) hlk (hb hby d7_23) ?_ (by decide) (by decide)
      rw [e2]
      exact ⟨(by first | rfl | (simp_all [own_nb1, own_nb0]; done)), N2, rfl⟩
  · skip
    refine Go.step (fun _ k => XS.icmpYes X1.here hx rfl (pc0 := 7) (pc' := 22) rfl (hb hby d7_7) rfl (feq hc7).2 (by decide) (by decide) k) ?_
    show Go _ _ _ _ _ _ _ (T1.setTop (mkF m 22 #[.val (.ref a0)] []))
    refine Go.step (fun _ k => XS.iconst X1.here hx rfl (hb hby d7_22) k) ?_
    show Go _ _ _ _ _ _ _ (T1.setTop (mkF m 23 #[.val (.ref a0)] [(.int (0 : Int32))]))
    refine Go.retN X1 hx (t := .boolean) Bd.returns (by simp) hlk (hb hby d7_23) ?_ (by decide) (by decide)
    rw [e1]
    exact ⟨(by first | rfl | (simp_all [own_nb1, own_nb0]; done)), N1, rfl⟩
theorem pn_7 : plainName "com/example/sidewire/sidewire/protocol/MonitorProtocolIsMonitorCommandPinLaw" = true := by first | (simp [plainName, overriddenIn]; done) | decide +kernel
theorem pd_4 : parseMethodDescriptor "(II)I" = some ⟨[.int, .int], some .int⟩ := by decide +kernel
theorem pd_5 : parseMethodDescriptor "(IIIIII)V" = some ⟨[.int, .int, .int, .int, .int, .int], none⟩ := by decide +kernel
theorem pd_6 : parseMethodDescriptor "(Lcom/example/sidewire/sidewire/protocol/PacketHeader;)Z" = some ⟨[(.object "com/example/sidewire/sidewire/protocol/PacketHeader")], some .boolean⟩ := by decide +kernel
theorem ef_0 (m : MethodId) (qs : Int32) (qc : Int32) (qf : Int32) (qe : Int32) (qlen : Int32) (qid : Int32) : entryFrame m #[(.int qs), (.int qc), (.int qf), (.int qe), (.int qlen), (.int qid)] maxLocals = mkF m 0 #[.val (.int qs), .val (.int qc), .val (.int qf), .val (.int qe), .val (.int qlen), .val (.int qid), .unset, .unset, .unset, .unset, .unset, .unset, .unset] [] := by first | (simp [entryFrame, mkF, argsToLocals, Value.category, maxLocals]; done) | rfl
def Q0 (Z : State) (qs : Int32) (qc : Int32) (qf : Int32) (qe : Int32) (qlen : Int32) (qid : Int32) (h0 : Heap) (n0 : Nat) (v : Option Value) (h : Heap) (L : List Loc) : Prop := (v = some (.int 1)) ∧ (Fr n0 L)
set_option maxRecDepth 65536 in
set_option maxHeartbeats 40000000 in
theorem rm0 (l : Launch) (Z : State) (aZ : Array Value) (hw : ∀ d ∈ tables_1, d.before aZ Z = true) (ws : List Jvm.Cond) (qs : Int32) (qc : Int32) (qf : Int32) (qe : Int32) (qlen : Int32) (qid : Int32) (h0 : Heap) (n0 : Nat) (Z0 : n0 ≤ h0.size)  :
    MetFree l x (head1 (Jvm.Cond.code x code maxLocals ret :: ws) room_1) (fun a U => a = #[(.int qs), (.int qc), (.int qf), (.int qe), (.int qlen), (.int qid)] ∧ Z.Warmed39 U.vm ∧ U.heap = h0) (fun _ _ _ _ _ => True) (fun _ U o U' => ∃ v L, o = .returned v ∧ Q0 Z qs qc qf qe qlen qid h0 n0 v U'.heap L ∧ ReturnedEndW U o U' L 9 154) := by
  refine MetFree.of_bodySF (plainFor_of_name pn_7) hisR ?_
  intro p e s m args below meth c s₁ Bd hml0 hP hK
  obtain ⟨rfl, hZ, hh⟩ := hP
  have hx := Bd.exec
  have hby := Bd.bytes
  have hml : c.maxLocals = 13 := hml0
  have hown : s.vm.findClass "com/example/sidewire/sidewire/protocol/MonitorProtocolIsMonitorCommandPinLaw" = some m.cls := findClass_of_methodNamed Bd.named
  have hnm := (name_of_methodNamed Bd.named Bd.method).1
  have hlk : meth.locks = false := BodyLoose.notSynchronized Bd
  have X0 : Stand p l e room_1 (s.setVm s.vm) m #[(.int qs), (.int qc), (.int qf), (.int qe), (.int qlen), (.int qid)] below meth c s₁ [] 0 0 := Stand.of_body Bd
  have e0 : s₁.heap = h0 := by rw [← hh, Bd.state]; rfl
  have N0 := Fr.nil n0
  have sq0 : h0.size ≤ h0.size := Nat.le_refl _
  have hS0 : s.Since s.vm h0.size := (State.WarmedH.refl s).since _
  have hk0 : h0.size ≤ h0.size := Nat.le_refl _
  have hSt : ∀ d ∈ Bundle.stringAtoms, d.before aZ Z = true := by
    intro d hd
    simp only [Bundle.stringAtoms, List.mem_cons, List.not_mem_nil, or_false] at hd
    rcases hd with rfl | rfl | rfl | rfl | rfl | rfl | rfl
    · exact (hw _ (List.mem_of_getElem? (i := 19) rfl))
    · exact (hw _ (List.mem_of_getElem? (i := 20) rfl))
    · exact (hw _ (List.mem_of_getElem? (i := 21) rfl))
    · exact (hw _ (List.mem_of_getElem? (i := 22) rfl))
    · exact (hw _ (List.mem_of_getElem? (i := 23) rfl))
    · exact (hw _ (List.mem_of_getElem? (i := 24) rfl))
    · exact (hw _ (List.mem_of_getElem? (i := 25) rfl))
  change GoW p e below s 9 154 (Q0 Z qs qc qf qe qlen qid h0 n0) (s₁.setTop (entryFrame m #[(.int qs), (.int qc), (.int qf), (.int qe), (.int qlen), (.int qid)] maxLocals))
  rw [ef_0 m qs qc qf qe qlen qid]
  show GoW _ _ _ _ _ _ _ (s₁.setTop (mkF m 0 #[.val (.int qs), .val (.int qc), .val (.int qf), .val (.int qe), .val (.int qlen), .val (.int qid), .unset, .unset, .unset, .unset, .unset, .unset, .unset] []))
  refine GoW.step (fun _ k => XS.iloadN X0.here hx rfl (hb hby at_0) rfl  k) ?_
  show GoW _ _ _ _ _ _ _ (s₁.setTop (mkF m 1 #[.val (.int qs), .val (.int qc), .val (.int qf), .val (.int qe), .val (.int qlen), .val (.int qid), .unset, .unset, .unset, .unset, .unset, .unset, .unset] [(.int qf)]))
  refine GoW.step (fun _ k => XS.iconst X0.here hx rfl (hb hby at_1) k) ?_
  show GoW _ _ _ _ _ _ _ (s₁.setTop (mkF m 2 #[.val (.int qs), .val (.int qc), .val (.int qf), .val (.int qe), .val (.int qlen), .val (.int qid), .unset, .unset, .unset, .unset, .unset, .unset, .unset] [(.int (1 : Int32)), (.int qf)]))
  refine GoW.step (fun _ k => XS.iand X0.here hx rfl (hb hby at_2) rfl k) ?_
  show GoW _ _ _ _ _ _ _ (s₁.setTop (mkF m 3 #[.val (.int qs), .val (.int qc), .val (.int qf), .val (.int qe), .val (.int qlen), .val (.int qid), .unset, .unset, .unset, .unset, .unset, .unset, .unset] [(.int (qf &&& (1 : Int32)))]))
  by_cases hc3 : (qf &&& (1 : Int32)) = (0 : Int32)
  · skip
    refine GoW.step (fun _ k => XS.ifYes X0.here hx rfl (pc0 := 3) (pc' := 10) rfl (hb hby at_3) rfl ((if0 _ _).trans (teq hc3).1) (by decide) (by decide) k) ?_
    show GoW _ _ _ _ _ _ _ (s₁.setTop (mkF m 10 #[.val (.int qs), .val (.int qc), .val (.int qf), .val (.int qe), .val (.int qlen), .val (.int qid), .unset, .unset, .unset, .unset, .unset, .unset, .unset] []))
    refine GoW.step (fun _ k => XS.iconst X0.here hx rfl (hb hby at_10) k) ?_
    show GoW _ _ _ _ _ _ _ (s₁.setTop (mkF m 11 #[.val (.int qs), .val (.int qc), .val (.int qf), .val (.int qe), .val (.int qlen), .val (.int qid), .unset, .unset, .unset, .unset, .unset, .unset, .unset] [(.int (0 : Int32))]))
    refine GoW.step (fun _ k => XS.istore X0.here hx rfl (hb hby at_11) rfl (l' := #[.val (.int qs), .val (.int qc), .val (.int qf), .val (.int qe), .val (.int qlen), .val (.int qid), .val (.int (0 : Int32)), .unset, .unset, .unset, .unset, .unset, .unset]) rfl k) ?_
    show GoW _ _ _ _ _ _ _ (s₁.setTop (mkF m 13 #[.val (.int qs), .val (.int qc), .val (.int qf), .val (.int qe), .val (.int qlen), .val (.int qid), .val (.int (0 : Int32)), .unset, .unset, .unset, .unset, .unset, .unset] []))
    refine GoW.step (fun _ k => XS.iloadN X0.here hx rfl (hb hby at_13) rfl  k) ?_
    show GoW _ _ _ _ _ _ _ (s₁.setTop (mkF m 14 #[.val (.int qs), .val (.int qc), .val (.int qf), .val (.int qe), .val (.int qlen), .val (.int qid), .val (.int (0 : Int32)), .unset, .unset, .unset, .unset, .unset, .unset] [(.int qf)]))
    refine GoW.step (fun _ k => XS.iconst X0.here hx rfl (hb hby at_14) k) ?_
    show GoW _ _ _ _ _ _ _ (s₁.setTop (mkF m 15 #[.val (.int qs), .val (.int qc), .val (.int qf), .val (.int qe), .val (.int qlen), .val (.int qid), .val (.int (0 : Int32)), .unset, .unset, .unset, .unset, .unset, .unset] [(.int (1 : Int32)), (.int qf)]))
    refine GoW.step (fun _ k => XS.iushr X0.here hx rfl (hb hby at_15) rfl k) ?_
    show GoW _ _ _ _ _ _ _ (s₁.setTop (mkF m 16 #[.val (.int qs), .val (.int qc), .val (.int qf), .val (.int qe), .val (.int qlen), .val (.int qid), .val (.int (0 : Int32)), .unset, .unset, .unset, .unset, .unset, .unset] [(.int ((Int32.toUInt32 qf >>> ((1 : Int32) &&& 31).toUInt32).toInt32))]))
    refine GoW.step (fun _ k => XS.sipush X0.here hx rfl (hb hby at_16) k) ?_
    show GoW _ _ _ _ _ _ _ (s₁.setTop (mkF m 19 #[.val (.int qs), .val (.int qc), .val (.int qf), .val (.int qe), .val (.int qlen), .val (.int qid), .val (.int (0 : Int32)), .unset, .unset, .unset, .unset, .unset, .unset] [(.int (255 : Int32)), (.int ((Int32.toUInt32 qf >>> ((1 : Int32) &&& 31).toUInt32).toInt32))]))
    refine GoW.step (fun _ k => XS.iand X0.here hx rfl (hb hby at_19) rfl k) ?_
    show GoW _ _ _ _ _ _ _ (s₁.setTop (mkF m 20 #[.val (.int qs), .val (.int qc), .val (.int qf), .val (.int qe), .val (.int qlen), .val (.int qid), .val (.int (0 : Int32)), .unset, .unset, .unset, .unset, .unset, .unset] [(.int (((Int32.toUInt32 qf >>> ((1 : Int32) &&& 31).toUInt32).toInt32) &&& (255 : Int32)))]))
    obtain ⟨fl, q_fl⟩ : ∃ z : Int32, z = (((Int32.toUInt32 qf >>> ((1 : Int32) &&& 31).toUInt32).toInt32) &&& (255 : Int32)) := ⟨_, rfl⟩
    rw [← q_fl]
    have hfl := own_255 (Int32.toUInt32 qf >>> ((1 : Int32) &&& 31).toUInt32).toInt32
    rw [← q_fl] at hfl
    have hf2 := own_fl fl hfl
    show GoW _ _ _ _ _ _ _ (s₁.setTop (mkF m 20 #[.val (.int qs), .val (.int qc), .val (.int qf), .val (.int qe), .val (.int qlen), .val (.int qid), .val (.int (0 : Int32)), .unset, .unset, .unset, .unset, .unset, .unset] [(.int fl)]))
    refine GoW.step (fun _ k => XS.istore X0.here hx rfl (hb hby at_20) rfl (l' := #[.val (.int qs), .val (.int qc), .val (.int qf), .val (.int qe), .val (.int qlen), .val (.int qid), .val (.int (0 : Int32)), .val (.int fl), .unset, .unset, .unset, .unset, .unset]) rfl k) ?_
    show GoW _ _ _ _ _ _ _ (s₁.setTop (mkF m 22 #[.val (.int qs), .val (.int qc), .val (.int qf), .val (.int qe), .val (.int qlen), .val (.int qid), .val (.int (0 : Int32)), .val (.int fl), .unset, .unset, .unset, .unset, .unset] []))
    refine GoW.step (fun _ k => XS.bipush X0.here hx rfl (hb hby at_22) k) ?_
    show GoW _ _ _ _ _ _ _ (s₁.setTop (mkF m 24 #[.val (.int qs), .val (.int qc), .val (.int qf), .val (.int qe), .val (.int qlen), .val (.int qid), .val (.int (0 : Int32)), .val (.int fl), .unset, .unset, .unset, .unset, .unset] [(.int (11 : Int32))]))
    refine GoW.step (fun _ k => XS.iload X0.here hx rfl (hb hby at_24) rfl  k) ?_
    show GoW _ _ _ _ _ _ _ (s₁.setTop (mkF m 26 #[.val (.int qs), .val (.int qc), .val (.int qf), .val (.int qe), .val (.int qlen), .val (.int qid), .val (.int (0 : Int32)), .val (.int fl), .unset, .unset, .unset, .unset, .unset] [(.int qlen), (.int (11 : Int32))]))
    obtain ⟨_, _, ⟨T1, L1, k1, n1⟩, -, X1, ⟨Lc1, hQ1, l1, y1, z1⟩, st1⟩ := Jvm.LawKit.callS X0 hx (y := (⟨"java/lang/Math", "max", "(II)I"⟩ : MethodName)) hown (mvT hZ (hw _ (List.mem_of_getElem? (i := 0) rfl))) (mvT hZ (hw _ (List.mem_of_getElem? (i := 1) rfl))) (mvT hZ (hw _ (List.mem_of_getElem? (i := 2) rfl))) (mvT hZ (hw _ (List.mem_of_getElem? (i := 3) rfl))) (by decide) (backOf (W := 0) (rm1 l Z aZ hw [] (11 : Int32) qlen h0 n0 Z0 ) hZ (hw _ (List.mem_of_getElem? (i := 3) rfl)) (hw _ (List.mem_of_getElem? (i := 2) rfl)) (by decide) (by decide)) (g := (mkF m 26 #[.val (.int qs), .val (.int qc), .val (.int qf), .val (.int qe), .val (.int qlen), .val (.int qid), .val (.int (0 : Int32)), .val (.int fl), .unset, .unset, .unset, .unset, .unset] [(.int qlen), (.int (11 : Int32))])) rfl (by rw [hml]; rfl) (argsL := [(.int (11 : Int32)), (.int qlen)]) (rest := []) (lenOf pd_4 rfl) rfl (by show 2 * 0 + _ ≤ _; exact Nat.le_of_eq rfl) (hb hby at_26) (fun _ _ => ⟨rfl, e0, (by decide : 0 + 0 ≤ _), (by decide : 0 + 0 ≤ _)⟩)
    dsimp only [Pt.U, Pt.locs, Pt.cells, Pt.slots] at X1 l1 y1 z1 st1 hQ1
    subst l1 y1 z1
    obtain ⟨rfl, Nq1, e1⟩ := hQ1
    have N1 := Fr.app N0 Nq1
    refine GoW.step st1 ?_
    show GoW _ _ _ _ _ _ _ (T1.setTop (mkF m 29 #[.val (.int qs), .val (.int qc), .val (.int qf), .val (.int qe), .val (.int qlen), .val (.int qid), .val (.int (0 : Int32)), .val (.int fl), .unset, .unset, .unset, .unset, .unset] [(.int (if (11 : Int32) < qlen then qlen else (11 : Int32)))]))
    obtain ⟨ln, q_ln⟩ : ∃ z : Int32, z = (if (11 : Int32) < qlen then qlen else (11 : Int32)) := ⟨_, rfl⟩
    rw [← q_ln]
    have hln := own_ln qlen
    rw [← q_ln] at hln
    show GoW _ _ _ _ _ _ _ (T1.setTop (mkF m 29 #[.val (.int qs), .val (.int qc), .val (.int qf), .val (.int qe), .val (.int qlen), .val (.int qid), .val (.int (0 : Int32)), .val (.int fl), .unset, .unset, .unset, .unset, .unset] [(.int ln)]))
    refine GoW.step (fun _ k => XS.istore X1.here hx rfl (hb hby at_29) rfl (l' := #[.val (.int qs), .val (.int qc), .val (.int qf), .val (.int qe), .val (.int qlen), .val (.int qid), .val (.int (0 : Int32)), .val (.int fl), .val (.int ln), .unset, .unset, .unset, .unset]) rfl k) ?_
    show GoW _ _ _ _ _ _ _ (T1.setTop (mkF m 31 #[.val (.int qs), .val (.int qc), .val (.int qf), .val (.int qe), .val (.int qlen), .val (.int qid), .val (.int (0 : Int32)), .val (.int fl), .val (.int ln), .unset, .unset, .unset, .unset] []))
    refine GoW.step (fun _ k => XS.iload X1.here hx rfl (hb hby at_31) rfl  k) ?_
    show GoW _ _ _ _ _ _ _ (T1.setTop (mkF m 33 #[.val (.int qs), .val (.int qc), .val (.int qf), .val (.int qe), .val (.int qlen), .val (.int qid), .val (.int (0 : Int32)), .val (.int fl), .val (.int ln), .unset, .unset, .unset, .unset] [(.int (0 : Int32))]))
    have hc33 : (0 : Int32) = (0 : Int32) := by decide
    refine GoW.step (fun _ k => XS.ifYes X1.here hx rfl (pc0 := 33) (pc' := 67) rfl (hb hby at_33) rfl ((if0 _ _).trans (teq hc33).1) (by decide) (by decide) k) ?_
    have J86_2 : ∀ (cs : Int32) (vm2 : Vm) (kk2 : Nat) (TJ2 : State) (locs2 : List Loc) (X2 : Stand p l e room_1 (s.setVm vm2) m #[(.int qs), (.int qc), (.int qf), (.int qe), (.int qlen), (.int qid)] below meth c TJ2 locs2 0 0) (e2 : TJ2.heap = h0) (N2 : Fr n0 locs2) (hS2 : s.Since vm2 kk2) (hk2 : kk2 ≤ h0.size) (hZ : Z.Warmed39 vm2) (hown : vm2.findClass "com/example/sidewire/sidewire/protocol/MonitorProtocolIsMonitorCommandPinLaw" = some m.cls) (hcs : 0 ≤ cs.toInt ∧ cs.toInt ≤ 255), GoW p e below s 9 154 (Q0 Z qs qc qf qe qlen qid h0 n0) (TJ2.setTop (mkF m 86 #[.val (.int qs), .val (.int qc), .val (.int qf), .val (.int qe), .val (.int qlen), .val (.int qid), .val (.int (0 : Int32)), .val (.int fl), .val (.int ln), .unset, .unset, .unset, .unset] [(.int cs)])) := by
      intro cs vm2 kk2 TJ2 locs2 X2 e2 N2 hS2 hk2 hZ hown hcs
      show GoW _ _ _ _ _ _ _ (TJ2.setTop (mkF m 86 #[.val (.int qs), .val (.int qc), .val (.int qf), .val (.int qe), .val (.int qlen), .val (.int qid), .val (.int (0 : Int32)), .val (.int fl), .val (.int ln), .unset, .unset, .unset, .unset] [(.int cs)]))
      refine GoW.step (fun _ k => XS.istore X2.here hx rfl (hb hby at_86) rfl (l' := #[.val (.int qs), .val (.int qc), .val (.int qf), .val (.int qe), .val (.int qlen), .val (.int qid), .val (.int (0 : Int32)), .val (.int fl), .val (.int ln), .unset, .unset, .val (.int cs), .unset]) rfl k) ?_
      have J105_3 : ∀ (cmd : Int32) (vm3 : Vm) (kk3 : Nat) (TJ3 : State) (locs3 : List Loc) (X3 : Stand p l e room_1 (s.setVm vm3) m #[(.int qs), (.int qc), (.int qf), (.int qe), (.int qlen), (.int qid)] below meth c TJ3 locs3 0 0) (e3 : TJ3.heap = h0) (N3 : Fr n0 locs3) (hS3 : s.Since vm3 kk3) (hk3 : kk3 ≤ h0.size) (hZ : Z.Warmed39 vm3) (hown : vm3.findClass "com/example/sidewire/sidewire/protocol/MonitorProtocolIsMonitorCommandPinLaw" = some m.cls) (hcmd : 0 ≤ cmd.toInt ∧ cmd.toInt ≤ 255), GoW p e below s 9 154 (Q0 Z qs qc qf qe qlen qid h0 n0) (TJ3.setTop (mkF m 105 #[.val (.int qs), .val (.int qc), .val (.int qf), .val (.int qe), .val (.int qlen), .val (.int qid), .val (.int (0 : Int32)), .val (.int fl), .val (.int ln), .unset, .unset, .val (.int cs), .unset] [(.int cmd)])) := by
        intro cmd vm3 kk3 TJ3 locs3 X3 e3 N3 hS3 hk3 hZ hown hcmd
        show GoW _ _ _ _ _ _ _ (TJ3.setTop (mkF m 105 #[.val (.int qs), .val (.int qc), .val (.int qf), .val (.int qe), .val (.int qlen), .val (.int qid), .val (.int (0 : Int32)), .val (.int fl), .val (.int ln), .unset, .unset, .val (.int cs), .unset] [(.int cmd)]))
        refine GoW.step (fun _ k => XS.istore X3.here hx rfl (hb hby at_105) rfl (l' := #[.val (.int qs), .val (.int qc), .val (.int qf), .val (.int qe), .val (.int qlen), .val (.int qid), .val (.int (0 : Int32)), .val (.int fl), .val (.int ln), .unset, .unset, .val (.int cs), .val (.int cmd)]) rfl k) ?_
        show GoW _ _ _ _ _ _ _ (TJ3.setTop (mkF m 107 #[.val (.int qs), .val (.int qc), .val (.int qf), .val (.int qe), .val (.int qlen), .val (.int qid), .val (.int (0 : Int32)), .val (.int fl), .val (.int ln), .unset, .unset, .val (.int cs), .val (.int cmd)] []))
        obtain ⟨T4, h4, X4, e4, E4, A4, D4, -, st4⟩ := newO X3 hx hZ hown (hw _ (List.mem_of_getElem? (i := 4) rfl)) (hw _ (List.mem_of_getElem? (i := 5) rfl)) (hw _ (List.mem_of_getElem? (i := 6) rfl)) e3 (g := (mkF m 107 #[.val (.int qs), .val (.int qc), .val (.int qf), .val (.int qe), .val (.int qlen), .val (.int qid), .val (.int (0 : Int32)), .val (.int fl), .val (.int ln), .unset, .unset, .val (.int cs), .val (.int cmd)] [])) rfl (hb hby at_107) (by decide) (by decide)
        obtain ⟨b4, g4⟩ : ∃ z, z = h0.size := ⟨_, rfl⟩
        rw [← g4] at A4 D4 st4
        refine GoW.step st4 ?_
        have gn4 : n0 ≤ b4 := Nat.le_trans Z0 (Nat.le_of_eq g4.symm)
        have sz4 : h0.size ≤ b4 := Nat.le_trans sq0 (Nat.le_of_eq g4.symm)
        have z5 : n0 ≤ h4.size := Nat.le_trans Z0 E4.1
        have sqz5 : h0.size ≤ h4.size := Nat.le_trans sq0 E4.1
        have hk7 := Nat.le_trans hk3 E4.1
        have f8 : Fld Z h4 b4 "com/example/sidewire/sidewire/protocol/PacketHeader" "length" "I" (.int (0 : Int32)) := D4 (Or.inr (hw _ (List.mem_of_getElem? (i := 37) rfl))) (ty := .int) (by decide)
        have f9 : Fld Z h4 b4 "com/example/sidewire/sidewire/protocol/PacketHeader" "id" "I" (.int (0 : Int32)) := D4 (Or.inr (hw _ (List.mem_of_getElem? (i := 39) rfl))) (ty := .int) (by decide)
        have f10 : Fld Z h4 b4 "com/example/sidewire/sidewire/protocol/PacketHeader" "flags" "I" (.int (0 : Int32)) := D4 (Or.inr (hw _ (List.mem_of_getElem? (i := 41) rfl))) (ty := .int) (by decide)
        have f11 : Fld Z h4 b4 "com/example/sidewire/sidewire/protocol/PacketHeader" "commandSet" "I" (.int (0 : Int32)) := D4 (Or.inr (hw _ (List.mem_of_getElem? (i := 43) rfl))) (ty := .int) (by decide)
        have f12 : Fld Z h4 b4 "com/example/sidewire/sidewire/protocol/PacketHeader" "command" "I" (.int (0 : Int32)) := D4 (Or.inr (hw _ (List.mem_of_getElem? (i := 45) rfl))) (ty := .int) (by decide)
        have f13 : Fld Z h4 b4 "com/example/sidewire/sidewire/protocol/PacketHeader" "errorCode" "I" (.int (0 : Int32)) := D4 (Or.inr (hw _ (List.mem_of_getElem? (i := 47) rfl))) (ty := .int) (by decide)
        show GoW _ _ _ _ _ _ _ (T4.setTop (mkF m 110 #[.val (.int qs), .val (.int qc), .val (.int qf), .val (.int qe), .val (.int qlen), .val (.int qid), .val (.int (0 : Int32)), .val (.int fl), .val (.int ln), .unset, .unset, .val (.int cs), .val (.int cmd)] [(.ref b4)]))
        refine GoW.step (fun _ k => XS.dup X4.here hx rfl (hb hby at_110) rfl rfl k) ?_
        show GoW _ _ _ _ _ _ _ (T4.setTop (mkF m 111 #[.val (.int qs), .val (.int qc), .val (.int qf), .val (.int qe), .val (.int qlen), .val (.int qid), .val (.int (0 : Int32)), .val (.int fl), .val (.int ln), .unset, .unset, .val (.int cs), .val (.int cmd)] [(.ref b4), (.ref b4)]))
        refine GoW.step (fun _ k => XS.iload X4.here hx rfl (hb hby at_111) rfl  k) ?_
        show GoW _ _ _ _ _ _ _ (T4.setTop (mkF m 113 #[.val (.int qs), .val (.int qc), .val (.int qf), .val (.int qe), .val (.int qlen), .val (.int qid), .val (.int (0 : Int32)), .val (.int fl), .val (.int ln), .unset, .unset, .val (.int cs), .val (.int cmd)] [(.int ln), (.ref b4), (.ref b4)]))
        refine GoW.step (fun _ k => XS.iload X4.here hx rfl (hb hby at_113) rfl  k) ?_
        show GoW _ _ _ _ _ _ _ (T4.setTop (mkF m 115 #[.val (.int qs), .val (.int qc), .val (.int qf), .val (.int qe), .val (.int qlen), .val (.int qid), .val (.int (0 : Int32)), .val (.int fl), .val (.int ln), .unset, .unset, .val (.int cs), .val (.int cmd)] [(.int qid), (.int ln), (.ref b4), (.ref b4)]))
        refine GoW.step (fun _ k => XS.iload X4.here hx rfl (hb hby at_115) rfl  k) ?_
        show GoW _ _ _ _ _ _ _ (T4.setTop (mkF m 117 #[.val (.int qs), .val (.int qc), .val (.int qf), .val (.int qe), .val (.int qlen), .val (.int qid), .val (.int (0 : Int32)), .val (.int fl), .val (.int ln), .unset, .unset, .val (.int cs), .val (.int cmd)] [(.int fl), (.int qid), (.int ln), (.ref b4), (.ref b4)]))
        refine GoW.step (fun _ k => XS.bipush X4.here hx rfl (hb hby at_117) k) ?_
        show GoW _ _ _ _ _ _ _ (T4.setTop (mkF m 119 #[.val (.int qs), .val (.int qc), .val (.int qf), .val (.int qe), .val (.int qlen), .val (.int qid), .val (.int (0 : Int32)), .val (.int fl), .val (.int ln), .unset, .unset, .val (.int cs), .val (.int cmd)] [(.int (127 : Int32)), (.int fl), (.int qid), (.int ln), (.ref b4), (.ref b4)]))
        refine GoW.step (fun _ k => XS.iand X4.here hx rfl (hb hby at_119) rfl k) ?_
        show GoW _ _ _ _ _ _ _ (T4.setTop (mkF m 120 #[.val (.int qs), .val (.int qc), .val (.int qf), .val (.int qe), .val (.int qlen), .val (.int qid), .val (.int (0 : Int32)), .val (.int fl), .val (.int ln), .unset, .unset, .val (.int cs), .val (.int cmd)] [(.int (fl &&& (127 : Int32))), (.int qid), (.int ln), (.ref b4), (.ref b4)]))
        refine GoW.step (fun _ k => XS.iload X4.here hx rfl (hb hby at_120) rfl  k) ?_
        show GoW _ _ _ _ _ _ _ (T4.setTop (mkF m 122 #[.val (.int qs), .val (.int qc), .val (.int qf), .val (.int qe), .val (.int qlen), .val (.int qid), .val (.int (0 : Int32)), .val (.int fl), .val (.int ln), .unset, .unset, .val (.int cs), .val (.int cmd)] [(.int cs), (.int (fl &&& (127 : Int32))), (.int qid), (.int ln), (.ref b4), (.ref b4)]))
        refine GoW.step (fun _ k => XS.iload X4.here hx rfl (hb hby at_122) rfl  k) ?_
        show GoW _ _ _ _ _ _ _ (T4.setTop (mkF m 124 #[.val (.int qs), .val (.int qc), .val (.int qf), .val (.int qe), .val (.int qlen), .val (.int qid), .val (.int (0 : Int32)), .val (.int fl), .val (.int ln), .unset, .unset, .val (.int cs), .val (.int cmd)] [(.int cmd), (.int cs), (.int (fl &&& (127 : Int32))), (.int qid), (.int ln), (.ref b4), (.ref b4)]))
        refine GoW.step (fun _ k => XS.iconst X4.here hx rfl (hb hby at_124) k) ?_
        show GoW _ _ _ _ _ _ _ (T4.setTop (mkF m 125 #[.val (.int qs), .val (.int qc), .val (.int qf), .val (.int qe), .val (.int qlen), .val (.int qid), .val (.int (0 : Int32)), .val (.int fl), .val (.int ln), .unset, .unset, .val (.int cs), .val (.int cmd)] [(.int (0 : Int32)), (.int cmd), (.int cs), (.int (fl &&& (127 : Int32))), (.int qid), (.int ln), (.ref b4), (.ref b4)]))
        have pq14 : ¬ ln < 11 := hln
        have pq15 : ¬ (fl &&& (127 : Int32)) < 0 ∧ ¬ (255 : Int32) < (fl &&& (127 : Int32)) := own_r255 ⟨hf2.2.1, hf2.2.2.1⟩
        have pq16 : ¬ cs < 0 ∧ ¬ (255 : Int32) < cs := own_r255 hcs
        have pq17 : ¬ cmd < 0 ∧ ¬ (255 : Int32) < cmd := own_r255 hcmd
        have pq18 : ¬ (0 : Int32) < 0 ∧ ¬ (65535 : Int32) < (0 : Int32) := (by decide)
        have pq19 : ((fl &&& (127 : Int32)) &&& (128 : Int32)) = 0 := hf2.2.2.2
        have pq20 : (0 : Int32) = 0 := rfl
        obtain ⟨_, _, ⟨T21, L21, k21, n21⟩, -, X21, hS21b, hgr21, ⟨Lc21, hQ21, l21, y21, z21⟩, st21⟩ := X4.specialBackS hx (y := (⟨"com/example/sidewire/sidewire/protocol/PacketHeader", "<init>", "(IIIIII)V"⟩ : MethodName)) rfl hown (mvT hZ (hw _ (List.mem_of_getElem? (i := 7) rfl))) (mvT hZ (hw _ (List.mem_of_getElem? (i := 8) rfl))) (mvT hZ (hw _ (List.mem_of_getElem? (i := 9) rfl))) (by decide) (backOfS (W := 1) (rmphN l Z aZ hw [] b4 ln qid (fl &&& (127 : Int32)) cs cmd (0 : Int32) h4 n0 z5 A4 f8 f9 f10 f11 f12 f13 gn4 pq14 pq15 pq16 pq17 pq18 pq19 pq20) hZ (hw _ (List.mem_of_getElem? (i := 9) rfl)) (hw _ (List.mem_of_getElem? (i := 6) rfl)) (by decide) (by decide)) (g := (mkF m 125 #[.val (.int qs), .val (.int qc), .val (.int qf), .val (.int qe), .val (.int qlen), .val (.int qid), .val (.int (0 : Int32)), .val (.int fl), .val (.int ln), .unset, .unset, .val (.int cs), .val (.int cmd)] [(.int (0 : Int32)), (.int cmd), (.int cs), (.int (fl &&& (127 : Int32))), (.int qid), (.int ln), (.ref b4), (.ref b4)])) rfl (by rw [hml]; rfl) (Steps.refl _) (a := b4) (argsL := [(.int ln), (.int qid), (.int (fl &&& (127 : Int32))), (.int cs), (.int cmd), (.int (0 : Int32))]) (rest := [(.ref b4)]) (lenOf pd_5 rfl) rfl (by show 2 * 0 + _ ≤ _; exact Nat.le_of_eq rfl) (hb hby at_125) (fun _ _ => ⟨rfl, e4, (by decide : 1 + 8 ≤ _), (by decide : 6 + 148 ≤ _)⟩)
        have hS21 := foldS hS3 (by rw [e4]; exact hk7) hS21b hgr21
        have hown : T21.vm.findClass "com/example/sidewire/sidewire/protocol/MonitorProtocolIsMonitorCommandPinLaw" = some m.cls := by rw [hS21b.1.alike.findClass]; exact hown
        have hZ := State.Warmed39.trans (t := s.setVm _) hZ hS21b.1
        have hk21z : T21.heap.size ≤ T21.heap.size := Nat.le_refl _
        dsimp only [Pt.U, Pt.locs, Pt.cells, Pt.slots] at X21 l21 y21 z21 st21 hQ21
        subst l21 y21 z21
        have X21 : Stand p l e room_1 (s.setVm T21.vm) m #[(.int qs), (.int qc), (.int qf), (.int qe), (.int qlen), (.int qid)] below meth c T21 _ _ _ := X21
        obtain ⟨rfl, Nq21, K21, c21_0, c21_1, c21_2⟩ := hQ21
        have N21 := Fr.app N3 Nq21
        refine GoW.tr st21 ?_
        have z22 : n0 ≤ T21.heap.size := Nat.le_trans z5 K21.1
        have sqz22 : h0.size ≤ T21.heap.size := Nat.le_trans sqz5 K21.1
        have hk24 := Nat.le_trans hk7 K21.1
        show GoW _ _ _ _ _ _ _ (T21.setTop (mkF m 128 #[.val (.int qs), .val (.int qc), .val (.int qf), .val (.int qe), .val (.int qlen), .val (.int qid), .val (.int (0 : Int32)), .val (.int fl), .val (.int ln), .unset, .unset, .val (.int cs), .val (.int cmd)] [(.ref b4)]))
        refine GoW.step (fun _ k => XS.astore X21.here hx rfl (hb hby at_128) rfl rfl (l' := #[.val (.int qs), .val (.int qc), .val (.int qf), .val (.int qe), .val (.int qlen), .val (.int qid), .val (.int (0 : Int32)), .val (.int fl), .val (.int ln), .val (.ref b4), .unset, .val (.int cs), .val (.int cmd)]) rfl k) ?_
        show GoW _ _ _ _ _ _ _ (T21.setTop (mkF m 130 #[.val (.int qs), .val (.int qc), .val (.int qf), .val (.int qe), .val (.int qlen), .val (.int qid), .val (.int (0 : Int32)), .val (.int fl), .val (.int ln), .val (.ref b4), .unset, .val (.int cs), .val (.int cmd)] []))
        refine GoW.step (fun _ k => XS.iload X21.here hx rfl (hb hby at_130) rfl  k) ?_
        show GoW _ _ _ _ _ _ _ (T21.setTop (mkF m 132 #[.val (.int qs), .val (.int qc), .val (.int qf), .val (.int qe), .val (.int qlen), .val (.int qid), .val (.int (0 : Int32)), .val (.int fl), .val (.int ln), .val (.ref b4), .unset, .val (.int cs), .val (.int cmd)] [(.int cs)]))
        refine GoW.step (fun _ k => XS.sipush X21.here hx rfl (hb hby at_132) k) ?_
        show GoW _ _ _ _ _ _ _ (T21.setTop (mkF m 135 #[.val (.int qs), .val (.int qc), .val (.int qf), .val (.int qe), .val (.int qlen), .val (.int qid), .val (.int (0 : Int32)), .val (.int fl), .val (.int ln), .val (.ref b4), .unset, .val (.int cs), .val (.int cmd)] [(.int (199 : Int32)), (.int cs)]))
        by_cases hc135 : cs = (199 : Int32)
        · skip
          refine GoW.step (fun _ k => XS.icmpNo X21.here hx rfl (hb hby at_135) rfl (teq hc135).2 k) ?_
          show GoW _ _ _ _ _ _ _ (T21.setTop (mkF m 138 #[.val (.int qs), .val (.int qc), .val (.int qf), .val (.int qe), .val (.int qlen), .val (.int qid), .val (.int (0 : Int32)), .val (.int fl), .val (.int ln), .val (.ref b4), .unset, .val (.int cs), .val (.int cmd)] []))
          refine GoW.step (fun _ k => XS.iload X21.here hx rfl (hb hby at_138) rfl  k) ?_
          show GoW _ _ _ _ _ _ _ (T21.setTop (mkF m 140 #[.val (.int qs), .val (.int qc), .val (.int qf), .val (.int qe), .val (.int qlen), .val (.int qid), .val (.int (0 : Int32)), .val (.int fl), .val (.int ln), .val (.ref b4), .unset, .val (.int cs), .val (.int cmd)] [(.int cmd)]))
          refine GoW.step (fun _ k => XS.iconst X21.here hx rfl (hb hby at_140) k) ?_
          show GoW _ _ _ _ _ _ _ (T21.setTop (mkF m 141 #[.val (.int qs), .val (.int qc), .val (.int qf), .val (.int qe), .val (.int qlen), .val (.int qid), .val (.int (0 : Int32)), .val (.int fl), .val (.int ln), .val (.ref b4), .unset, .val (.int cs), .val (.int cmd)] [(.int (1 : Int32)), (.int cmd)]))
          by_cases hc141 : cmd = (1 : Int32)
          · skip
            refine GoW.step (fun _ k => XS.icmpNo X21.here hx rfl (hb hby at_141) rfl (teq hc141).2 k) ?_
            show GoW _ _ _ _ _ _ _ (T21.setTop (mkF m 144 #[.val (.int qs), .val (.int qc), .val (.int qf), .val (.int qe), .val (.int qlen), .val (.int qid), .val (.int (0 : Int32)), .val (.int fl), .val (.int ln), .val (.ref b4), .unset, .val (.int cs), .val (.int cmd)] []))
            refine GoW.step (fun _ k => XS.iconst X21.here hx rfl (hb hby at_144) k) ?_
            show GoW _ _ _ _ _ _ _ (T21.setTop (mkF m 145 #[.val (.int qs), .val (.int qc), .val (.int qf), .val (.int qe), .val (.int qlen), .val (.int qid), .val (.int (0 : Int32)), .val (.int fl), .val (.int ln), .val (.ref b4), .unset, .val (.int cs), .val (.int cmd)] [(.int (1 : Int32))]))
            refine GoW.step (fun _ k => XS.goto X21.here hx rfl (pc0 := 145) (pc' := 149) rfl (hb hby at_145) (by decide) (by decide) k) ?_
            show GoW _ _ _ _ _ _ _ (T21.setTop (mkF m 149 #[.val (.int qs), .val (.int qc), .val (.int qf), .val (.int qe), .val (.int qlen), .val (.int qid), .val (.int (0 : Int32)), .val (.int fl), .val (.int ln), .val (.ref b4), .unset, .val (.int cs), .val (.int cmd)] [(.int (1 : Int32))]))
            refine GoW.step (fun _ k => XS.istore X21.here hx rfl (hb hby at_149) rfl (l' := #[.val (.int qs), .val (.int qc), .val (.int qf), .val (.int qe), .val (.int qlen), .val (.int qid), .val (.int (0 : Int32)), .val (.int fl), .val (.int ln), .val (.ref b4), .val (.int (1 : Int32)), .val (.int cs), .val (.int cmd)]) rfl k) ?_
            show GoW _ _ _ _ _ _ _ (T21.setTop (mkF m 151 #[.val (.int qs), .val (.int qc), .val (.int qf), .val (.int qe), .val (.int qlen), .val (.int qid), .val (.int (0 : Int32)), .val (.int fl), .val (.int ln), .val (.ref b4), .val (.int (1 : Int32)), .val (.int cs), .val (.int cmd)] []))
            refine GoW.step (fun _ k => XS.aload X21.here hx rfl (hb hby at_151) rfl rfl  k) ?_
            show GoW _ _ _ _ _ _ _ (T21.setTop (mkF m 153 #[.val (.int qs), .val (.int qc), .val (.int qf), .val (.int qe), .val (.int qlen), .val (.int qid), .val (.int (0 : Int32)), .val (.int fl), .val (.int ln), .val (.ref b4), .val (.int (1 : Int32)), .val (.int cs), .val (.int cmd)] [(.ref b4)]))
            obtain ⟨_, _, ⟨T25, L25, k25, n25⟩, -, X25, ⟨Lc25, hQ25, l25, y25, z25⟩, st25⟩ := Jvm.LawKit.callS X21 hx (y := (⟨"com/example/sidewire/sidewire/protocol/MonitorProtocol", "isMonitorCommand", "(Lcom/example/sidewire/sidewire/protocol/PacketHeader;)Z"⟩ : MethodName)) hown (mvT hZ (hw _ (List.mem_of_getElem? (i := 48) rfl))) (mvT hZ (hw _ (List.mem_of_getElem? (i := 49) rfl))) (mvT hZ (hw _ (List.mem_of_getElem? (i := 50) rfl))) (mvT hZ (hw _ (List.mem_of_getElem? (i := 51) rfl))) (by decide) (backOf (W := 0) (rm7 l Z aZ hw [] b4 cs cmd T21.heap n0 z22 c21_0 c21_1 c21_2) hZ (hw _ (List.mem_of_getElem? (i := 51) rfl)) (hw _ (List.mem_of_getElem? (i := 50) rfl)) (by decide) (by decide)) (g := (mkF m 153 #[.val (.int qs), .val (.int qc), .val (.int qf), .val (.int qe), .val (.int qlen), .val (.int qid), .val (.int (0 : Int32)), .val (.int fl), .val (.int ln), .val (.ref b4), .val (.int (1 : Int32)), .val (.int cs), .val (.int cmd)] [(.ref b4)])) rfl (by rw [hml]; rfl) (argsL := [(.ref b4)]) (rest := []) (lenOf pd_6 rfl) rfl (by show 2 * 0 + _ ≤ _; exact Nat.le_of_eq rfl) (hb hby at_153) (fun _ _ => ⟨rfl, rfl, (by decide : 9 + 0 ≤ _), (by decide : 154 + 0 ≤ _)⟩)
            dsimp only [Pt.U, Pt.locs, Pt.cells, Pt.slots] at X25 l25 y25 z25 st25 hQ25
            subst l25 y25 z25
            obtain ⟨rfl, Nq25, e25⟩ := hQ25
            have N25 := Fr.app N21 Nq25
            refine GoW.step st25 ?_
            show GoW _ _ _ _ _ _ _ (T25.setTop (mkF m 156 #[.val (.int qs), .val (.int qc), .val (.int qf), .val (.int qe), .val (.int qlen), .val (.int qid), .val (.int (0 : Int32)), .val (.int fl), .val (.int ln), .val (.ref b4), .val (.int (1 : Int32)), .val (.int cs), .val (.int cmd)] [(.int (if cs = (199 : Int32) ∧ cmd = (1 : Int32) then (1 : Int32) else 0))]))
            refine GoW.step (fun _ k => XS.iload X25.here hx rfl (hb hby at_156) rfl  k) ?_
            show GoW _ _ _ _ _ _ _ (T25.setTop (mkF m 158 #[.val (.int qs), .val (.int qc), .val (.int qf), .val (.int qe), .val (.int qlen), .val (.int qid), .val (.int (0 : Int32)), .val (.int fl), .val (.int ln), .val (.ref b4), .val (.int (1 : Int32)), .val (.int cs), .val (.int cmd)] [(.int (1 : Int32)), (.int (if cs = (199 : Int32) ∧ cmd = (1 : Int32) then (1 : Int32) else 0))]))
            have hc158 : (if cs = (199 : Int32) ∧ cmd = (1 : Int32) then (1 : Int32) else 0) = (1 : Int32) := by simp [hc135, hc141]
            refine GoW.step (fun _ k => XS.icmpNo X25.here hx rfl (hb hby at_158) rfl (teq hc158).2 k) ?_
            show GoW _ _ _ _ _ _ _ (T25.setTop (mkF m 161 #[.val (.int qs), .val (.int qc), .val (.int qf), .val (.int qe), .val (.int qlen), .val (.int qid), .val (.int (0 : Int32)), .val (.int fl), .val (.int ln), .val (.ref b4), .val (.int (1 : Int32)), .val (.int cs), .val (.int cmd)] []))
            refine GoW.step (fun _ k => XS.iconst X25.here hx rfl (hb hby at_161) k) ?_
            show GoW _ _ _ _ _ _ _ (T25.setTop (mkF m 162 #[.val (.int qs), .val (.int qc), .val (.int qf), .val (.int qe), .val (.int qlen), .val (.int qid), .val (.int (0 : Int32)), .val (.int fl), .val (.int ln), .val (.ref b4), .val (.int (1 : Int32)), .val (.int cs), .val (.int cmd)] [(.int (1 : Int32))]))
            refine GoW.step (fun _ k => XS.goto X25.here hx rfl (pc0 := 162) (pc' := 166) rfl (hb hby at_162) (by decide) (by decide) k) ?_
            show GoW _ _ _ _ _ _ _ (T25.setTop (mkF m 166 #[.val (.int qs), .val (.int qc), .val (.int qf), .val (.int qe), .val (.int qlen), .val (.int qid), .val (.int (0 : Int32)), .val (.int fl), .val (.int ln), .val (.ref b4), .val (.int (1 : Int32)), .val (.int cs), .val (.int cmd)] [(.int (1 : Int32))]))
            refine GoW.retN X25 hS21 (by rw [e25]; exact hk21z) hx (t := .boolean) Bd.returns (by simp) hlk (hb hby at_166) ?_ (by decide) (by decide)
            rw [e25]
            exact ⟨(by first | rfl | (simp_all [own_nb1, own_nb0]; done)), N25⟩
          · skip
            refine GoW.step (fun _ k => XS.icmpYes X21.here hx rfl (pc0 := 141) (pc' := 148) rfl (hb hby at_141) rfl (feq hc141).2 (by decide) (by decide) k) ?_
            show GoW _ _ _ _ _ _ _ (T21.setTop (mkF m 148 #[.val (.int qs), .val (.int qc), .val (.int qf), .val (.int qe), .val (.int qlen), .val (.int qid), .val (.int (0 : Int32)), .val (.int fl), .val (.int ln), .val (.ref b4), .unset, .val (.int cs), .val (.int cmd)] []))
            refine GoW.step (fun _ k => XS.iconst X21.here hx rfl (hb hby at_148) k) ?_
            show GoW _ _ _ _ _ _ _ (T21.setTop (mkF m 149 #[.val (.int qs), .val (.int qc), .val (.int qf), .val (.int qe), .val (.int qlen), .val (.int qid), .val (.int (0 : Int32)), .val (.int fl), .val (.int ln), .val (.ref b4), .unset, .val (.int cs), .val (.int cmd)] [(.int (0 : Int32))]))
            refine GoW.step (fun _ k => XS.istore X21.here hx rfl (hb hby at_149) rfl (l' := #[.val (.int qs), .val (.int qc), .val (.int qf), .val (.int qe), .val (.int qlen), .val (.int qid), .val (.int (0 : Int32)), .val (.int fl), .val (.int ln), .val (.ref b4), .val (.int (0 : Int32)), .val (.int cs), .val (.int cmd)]) rfl k) ?_
            show GoW _ _ _ _ _ _ _ (T21.setTop (mkF m 151 #[.val (.int qs), .val (.int qc), .val (.int qf), .val (.int qe), .val (.int qlen), .val (.int qid), .val (.int (0 : Int32)), .val (.int fl), .val (.int ln), .val (.ref b4), .val (.int (0 : Int32)), .val (.int cs), .val (.int cmd)] []))
            refine GoW.step (fun _ k => XS.aload X21.here hx rfl (hb hby at_151) rfl rfl  k) ?_
            show GoW _ _ _ _ _ _ _ (T21.setTop (mkF m 153 #[.val (.int qs), .val (.int qc), .val (.int qf), .val (.int qe), .val (.int qlen), .val (.int qid), .val (.int (0 : Int32)), .val (.int fl), .val (.int ln), .val (.ref b4), .val (.int (0 : Int32)), .val (.int cs), .val (.int cmd)] [(.ref b4)]))
            obtain ⟨_, _, ⟨T26, L26, k26, n26⟩, -, X26, ⟨Lc26, hQ26, l26, y26, z26⟩, st26⟩ := Jvm.LawKit.callS X21 hx (y := (⟨"com/example/sidewire/sidewire/protocol/MonitorProtocol", "isMonitorCommand", "(Lcom/example/sidewire/sidewire/protocol/PacketHeader;)Z"⟩ : MethodName)) hown (mvT hZ (hw _ (List.mem_of_getElem? (i := 48) rfl))) (mvT hZ (hw _ (List.mem_of_getElem? (i := 49) rfl))) (mvT hZ (hw _ (List.mem_of_getElem? (i := 50) rfl))) (mvT hZ (hw _ (List.mem_of_getElem? (i := 51) rfl))) (by decide) (backOf (W := 0) (rm7 l Z aZ hw [] b4 cs cmd T21.heap n0 z22 c21_0 c21_1 c21_2) hZ (hw _ (List.mem_of_getElem? (i := 51) rfl)) (hw _ (List.mem_of_getElem? (i := 50) rfl)) (by decide) (by decide)) (g := (mkF m 153 #[.val (.int qs), .val (.int qc), .val (.int qf), .val (.int qe), .val (.int qlen), .val (.int qid), .val (.int (0 : Int32)), .val (.int fl), .val (.int ln), .val (.ref b4), .val (.int (0 : Int32)), .val (.int cs), .val (.int cmd)] [(.ref b4)])) rfl (by rw [hml]; rfl) (argsL := [(.ref b4)]) (rest := []) (lenOf pd_6 rfl) rfl (by show 2 * 0 + _ ≤ _; exact Nat.le_of_eq rfl) (hb hby at_153) (fun _ _ => ⟨rfl, rfl, (by decide : 9 + 0 ≤ _), (by decide : 154 + 0 ≤ _)⟩)
            dsimp only [Pt.U, Pt.locs, Pt.cells, Pt.slots] at X26 l26 y26 z26 st26 hQ26
            subst l26 y26 z26
            obtain ⟨rfl, Nq26, e26⟩ := hQ26
            have N26 := Fr.app N21 Nq26
            refine GoW.step st26 ?_
            show GoW _ _ _ _ _ _ _ (T26.setTop (mkF m 156 #[.val (.int qs), .val (.int qc), .val (.int qf), .val (.int qe), .val (.int qlen), .val (.int qid), .val (.int (0 : Int32)), .val (.int fl), .val (.int ln), .val (.ref b4), .val (.int (0 : Int32)), .val (.int cs), .val (.int cmd)] [(.int (if cs = (199 : Int32) ∧ cmd = (1 : Int32) then (1 : Int32) else 0))]))
            refine GoW.step (fun _ k => XS.iload X26.here hx rfl (hb hby at_156) rfl  k) ?_
            show GoW _ _ _ _ _ _ _ (T26.setTop (mkF m 158 #[.val (.int qs), .val (.int qc), .val (.int qf), .val (.int qe), .val (.int qlen), .val (.int qid), .val (.int (0 : Int32)), .val (.int fl), .val (.int ln), .val (.ref b4), .val (.int (0 : Int32)), .val (.int cs), .val (.int cmd)] [(.int (0 : Int32)), (.int (if cs = (199 : Int32) ∧ cmd = (1 : Int32) then (1 : Int32) else 0))]))
            have hc158 : (if cs = (199 : Int32) ∧ cmd = (1 : Int32) then (1 : Int32) else 0) = (0 : Int32) := by simp [hc135, hc141]
            refine GoW.step (fun _ k => XS.icmpNo X26.here hx rfl (hb hby at_158) rfl (teq hc158).2 k) ?_
            show GoW _ _ _ _ _ _ _ (T26.setTop (mkF m 161 #[.val (.int qs), .val (.int qc), .val (.int qf), .val (.int qe), .val (.int qlen), .val (.int qid), .val (.int (0 : Int32)), .val (.int fl), .val (.int ln), .val (.ref b4), .val (.int (0 : Int32)), .val (.int cs), .val (.int cmd)] []))
            refine GoW.step (fun _ k => XS.iconst X26.here hx rfl (hb hby at_161) k) ?_
            show GoW _ _ _ _ _ _ _ (T26.setTop (mkF m 162 #[.val (.int qs), .val (.int qc), .val (.int qf), .val (.int qe), .val (.int qlen), .val (.int qid), .val (.int (0 : Int32)), .val (.int fl), .val (.int ln), .val (.ref b4), .val (.int (0 : Int32)), .val (.int cs), .val (.int cmd)] [(.int (1 : Int32))]))
            refine GoW.step (fun _ k => XS.goto X26.here hx rfl (pc0 := 162) (pc' := 166) rfl (hb hby at_162) (by decide) (by decide) k) ?_
            show GoW _ _ _ _ _ _ _ (T26.setTop (mkF m 166 #[.val (.int qs), .val (.int qc), .val (.int qf), .val (.int qe), .val (.int qlen), .val (.int qid), .val (.int (0 : Int32)), .val (.int fl), .val (.int ln), .val (.ref b4), .val (.int (0 : Int32)), .val (.int cs), .val (.int cmd)] [(.int (1 : Int32))]))
            refine GoW.retN X26 hS21 (by rw [e26]; exact hk21z) hx (t := .boolean) Bd.returns (by simp) hlk (hb hby at_166) ?_ (by decide) (by decide)
            rw [e26]
            exact ⟨(by first | rfl | (simp_all [own_nb1, own_nb0]; done)), N26⟩
        · skip
          refine GoW.step (fun _ k => XS.icmpYes X21.here hx rfl (pc0 := 135) (pc' := 148) rfl (hb hby at_135) rfl (feq hc135).2 (by decide) (by decide) k) ?_
          show GoW _ _ _ _ _ _ _ (T21.setTop (mkF m 148 #[.val (.int qs), .val (.int qc), .val (.int qf), .val (.int qe), .val (.int qlen), .val (.int qid), .val (.int (0 : Int32)), .val (.int fl), .val (.int ln), .val (.ref b4), .unset, .val (.int cs), .val (.int cmd)] []))
          refine GoW.step (fun _ k => XS.iconst X21.here hx rfl (hb hby at_148) k) ?_
          show GoW _ _ _ _ _ _ _ (T21.setTop (mkF m 149 #[.val (.int qs), .val (.int qc), .val (.int qf), .val (.int qe), .val (.int qlen), .val (.int qid), .val (.int (0 : Int32)), .val (.int fl), .val (.int ln), .val (.ref b4), .unset, .val (.int cs), .val (.int cmd)] [(.int (0 : Int32))]))
          refine GoW.step (fun _ k => XS.istore X21.here hx rfl (hb hby at_149) rfl (l' := #[.val (.int qs), .val (.int qc), .val (.int qf), .val (.int qe), .val (.int qlen), .val (.int qid), .val (.int (0 : Int32)), .val (.int fl), .val (.int ln), .val (.ref b4), .val (.int (0 : Int32)), .val (.int cs), .val (.int cmd)]) rfl k) ?_
          show GoW _ _ _ _ _ _ _ (T21.setTop (mkF m 151 #[.val (.int qs), .val (.int qc), .val (.int qf), .val (.int qe), .val (.int qlen), .val (.int qid), .val (.int (0 : Int32)), .val (.int fl), .val (.int ln), .val (.ref b4), .val (.int (0 : Int32)), .val (.int cs), .val (.int cmd)] []))
          refine GoW.step (fun _ k => XS.aload X21.here hx rfl (hb hby at_151) rfl rfl  k) ?_
          show GoW _ _ _ _ _ _ _ (T21.setTop (mkF m 153 #[.val (.int qs), .val (.int qc), .val (.int qf), .val (.int qe), .val (.int qlen), .val (.int qid), .val (.int (0 : Int32)), .val (.int fl), .val (.int ln), .val (.ref b4), .val (.int (0 : Int32)), .val (.int cs), .val (.int cmd)] [(.ref b4)]))
          obtain ⟨_, _, ⟨T27, L27, k27, n27⟩, -, X27, ⟨Lc27, hQ27, l27, y27, z27⟩, st27⟩ := Jvm.LawKit.callS X21 hx (y := (⟨"com/example/sidewire/sidewire/protocol/MonitorProtocol", "isMonitorCommand", "(Lcom/example/sidewire/sidewire/protocol/PacketHeader;)Z"⟩ : MethodName)) hown (mvT hZ (hw _ (List.mem_of_getElem? (i := 48) rfl))) (mvT hZ (hw _ (List.mem_of_getElem? (i := 49) rfl))) (mvT hZ (hw _ (List.mem_of_getElem? (i := 50) rfl))) (mvT hZ (hw _ (List.mem_of_getElem? (i := 51) rfl))) (by decide) (backOf (W := 0) (rm7 l Z aZ hw [] b4 cs cmd T21.heap n0 z22 c21_0 c21_1 c21_2) hZ (hw _ (List.mem_of_getElem? (i := 51) rfl)) (hw _ (List.mem_of_getElem? (i := 50) rfl)) (by decide) (by decide)) (g := (mkF m 153 #[.val (.int qs), .val (.int qc), .val (.int qf), .val (.int qe), .val (.int qlen), .val (.int qid), .val (.int (0 : Int32)), .val (.int fl), .val (.int ln), .val (.ref b4), .val (.int (0 : Int32)), .val (.int cs), .val (.int cmd)] [(.ref b4)])) rfl (by rw [hml]; rfl) (argsL := [(.ref b4)]) (rest := []) (lenOf pd_6 rfl) rfl (by show 2 * 0 + _ ≤ _; exact Nat.le_of_eq rfl) (hb hby at_153) (fun _ _ => ⟨rfl, rfl, (by decide : 9 + 0 ≤ _), (by decide : 154 + 0 ≤ _)⟩)
          dsimp only [Pt.U, Pt.locs, Pt.cells, Pt.slots] at X27 l27 y27 z27 st27 hQ27
          subst l27 y27 z27
          obtain ⟨rfl, Nq27, e27⟩ := hQ27
          have N27 := Fr.app N21 Nq27
          refine GoW.step st27 ?_
          show GoW _ _ _ _ _ _ _ (T27.setTop (mkF m 156 #[.val (.int qs), .val (.int qc), .val (.int qf), .val (.int qe), .val (.int qlen), .val (.int qid), .val (.int (0 : Int32)), .val (.int fl), .val (.int ln), .val (.ref b4), .val (.int (0 : Int32)), .val (.int cs), .val (.int cmd)] [(.int (if cs = (199 : Int32) ∧ cmd = (1 : Int32) then (1 : Int32) else 0))]))
          refine GoW.step (fun _ k => XS.iload X27.here hx rfl (hb hby at_156) rfl  k) ?_
          show GoW _ _ _ _ _ _ _ (T27.setTop (mkF m 158 #[.val (.int qs), .val (.int qc), .val (.int qf), .val (.int qe), .val (.int qlen), .val (.int qid), .val (.int (0 : Int32)), .val (.int fl), .val (.int ln), .val (.ref b4), .val (.int (0 : Int32)), .val (.int cs), .val (.int cmd)] [(.int (0 : Int32)), (.int (if cs = (199 : Int32) ∧ cmd = (1 : Int32) then (1 : Int32) else 0))]))
          have hc158 : (if cs = (199 : Int32) ∧ cmd = (1 : Int32) then (1 : Int32) else 0) = (0 : Int32) := by simp [hc135]
          refine GoW.step (fun _ k => XS.icmpNo X27.here hx rfl (hb hby at_158) rfl (teq hc158).2 k) ?_
          show GoW _ _ _ _ _ _ _ (T27.setTop (mkF m 161 #[.val (.int qs), .val (.int qc), .val (.int qf), .val (.int qe), .val (.int qlen), .val (.int qid), .val (.int (0 : Int32)), .val (.int fl), .val (.int ln), .val (.ref b4), .val (.int (0 : Int32)), .val (.int cs), .val (.int cmd)] []))
          refine GoW.step (fun _ k => XS.iconst X27.here hx rfl (hb hby at_161) k) ?_
          show GoW _ _ _ _ _ _ _ (T27.setTop (mkF m 162 #[.val (.int qs), .val (.int qc), .val (.int qf), .val (.int qe), .val (.int qlen), .val (.int qid), .val (.int (0 : Int32)), .val (.int fl), .val (.int ln), .val (.ref b4), .val (.int (0 : Int32)), .val (.int cs), .val (.int cmd)] [(.int (1 : Int32))]))
          refine GoW.step (fun _ k => XS.goto X27.here hx rfl (pc0 := 162) (pc' := 166) rfl (hb hby at_162) (by decide) (by decide) k) ?_
          show GoW _ _ _ _ _ _ _ (T27.setTop (mkF m 166 #[.val (.int qs), .val (.int qc), .val (.int qf), .val (.int qe), .val (.int qlen), .val (.int qid), .val (.int (0 : Int32)), .val (.int fl), .val (.int ln), .val (.ref b4), .val (.int (0 : Int32)), .val (.int cs), .val (.int cmd)] [(.int (1 : Int32))]))
          refine GoW.retN X27 hS21 (by rw [e27]; exact hk21z) hx (t := .boolean) Bd.returns (by simp) hlk (hb hby at_166) ?_ (by decide) (by decide)
          rw [e27]
          exact ⟨(by first | rfl | (simp_all [own_nb1, own_nb0]; done)), N27⟩
      show GoW _ _ _ _ _ _ _ (TJ2.setTop (mkF m 88 #[.val (.int qs), .val (.int qc), .val (.int qf), .val (.int qe), .val (.int qlen), .val (.int qid), .val (.int (0 : Int32)), .val (.int fl), .val (.int ln), .unset, .unset, .val (.int cs), .unset] []))
      refine GoW.step (fun _ k => XS.iloadN X2.here hx rfl (hb hby at_88) rfl  k) ?_
      show GoW _ _ _ _ _ _ _ (TJ2.setTop (mkF m 89 #[.val (.int qs), .val (.int qc), .val (.int qf), .val (.int qe), .val (.int qlen), .val (.int qid), .val (.int (0 : Int32)), .val (.int fl), .val (.int ln), .unset, .unset, .val (.int cs), .unset] [(.int qc)]))
      refine GoW.step (fun _ k => XS.iconst X2.here hx rfl (hb hby at_89) k) ?_
      show GoW _ _ _ _ _ _ _ (TJ2.setTop (mkF m 90 #[.val (.int qs), .val (.int qc), .val (.int qf), .val (.int qe), .val (.int qlen), .val (.int qid), .val (.int (0 : Int32)), .val (.int fl), .val (.int ln), .unset, .unset, .val (.int cs), .unset] [(.int (1 : Int32)), (.int qc)]))
      refine GoW.step (fun _ k => XS.iand X2.here hx rfl (hb hby at_90) rfl k) ?_
      show GoW _ _ _ _ _ _ _ (TJ2.setTop (mkF m 91 #[.val (.int qs), .val (.int qc), .val (.int qf), .val (.int qe), .val (.int qlen), .val (.int qid), .val (.int (0 : Int32)), .val (.int fl), .val (.int ln), .unset, .unset, .val (.int cs), .unset] [(.int (qc &&& (1 : Int32)))]))
      by_cases hc91 : (qc &&& (1 : Int32)) = (0 : Int32)
      · skip
        refine GoW.step (fun _ k => XS.ifYes X2.here hx rfl (pc0 := 91) (pc' := 98) rfl (hb hby at_91) rfl ((if0 _ _).trans (teq hc91).1) (by decide) (by decide) k) ?_
        show GoW _ _ _ _ _ _ _ (TJ2.setTop (mkF m 98 #[.val (.int qs), .val (.int qc), .val (.int qf), .val (.int qe), .val (.int qlen), .val (.int qid), .val (.int (0 : Int32)), .val (.int fl), .val (.int ln), .unset, .unset, .val (.int cs), .unset] []))
        refine GoW.step (fun _ k => XS.iloadN X2.here hx rfl (hb hby at_98) rfl  k) ?_
        show GoW _ _ _ _ _ _ _ (TJ2.setTop (mkF m 99 #[.val (.int qs), .val (.int qc), .val (.int qf), .val (.int qe), .val (.int qlen), .val (.int qid), .val (.int (0 : Int32)), .val (.int fl), .val (.int ln), .unset, .unset, .val (.int cs), .unset] [(.int qc)]))
        refine GoW.step (fun _ k => XS.iconst X2.here hx rfl (hb hby at_99) k) ?_
        show GoW _ _ _ _ _ _ _ (TJ2.setTop (mkF m 100 #[.val (.int qs), .val (.int qc), .val (.int qf), .val (.int qe), .val (.int qlen), .val (.int qid), .val (.int (0 : Int32)), .val (.int fl), .val (.int ln), .unset, .unset, .val (.int cs), .unset] [(.int (1 : Int32)), (.int qc)]))
        refine GoW.step (fun _ k => XS.iushr X2.here hx rfl (hb hby at_100) rfl k) ?_
        show GoW _ _ _ _ _ _ _ (TJ2.setTop (mkF m 101 #[.val (.int qs), .val (.int qc), .val (.int qf), .val (.int qe), .val (.int qlen), .val (.int qid), .val (.int (0 : Int32)), .val (.int fl), .val (.int ln), .unset, .unset, .val (.int cs), .unset] [(.int ((Int32.toUInt32 qc >>> ((1 : Int32) &&& 31).toUInt32).toInt32))]))
        refine GoW.step (fun _ k => XS.sipush X2.here hx rfl (hb hby at_101) k) ?_
        show GoW _ _ _ _ _ _ _ (TJ2.setTop (mkF m 104 #[.val (.int qs), .val (.int qc), .val (.int qf), .val (.int qe), .val (.int qlen), .val (.int qid), .val (.int (0 : Int32)), .val (.int fl), .val (.int ln), .unset, .unset, .val (.int cs), .unset] [(.int (255 : Int32)), (.int ((Int32.toUInt32 qc >>> ((1 : Int32) &&& 31).toUInt32).toInt32))]))
        refine GoW.step (fun _ k => XS.iand X2.here hx rfl (hb hby at_104) rfl k) ?_
        exact J105_3 _ _ _ _ _ X2 e2 N2 hS2 hk2 hZ hown (own_255 _)
      · skip
        refine GoW.step (fun _ k => XS.ifNo X2.here hx rfl (hb hby at_91) rfl ((if0 _ _).trans (feq hc91).1) k) ?_
        show GoW _ _ _ _ _ _ _ (TJ2.setTop (mkF m 94 #[.val (.int qs), .val (.int qc), .val (.int qf), .val (.int qe), .val (.int qlen), .val (.int qid), .val (.int (0 : Int32)), .val (.int fl), .val (.int ln), .unset, .unset, .val (.int cs), .unset] []))
        refine GoW.step (fun _ k => XS.iconst X2.here hx rfl (hb hby at_94) k) ?_
        show GoW _ _ _ _ _ _ _ (TJ2.setTop (mkF m 95 #[.val (.int qs), .val (.int qc), .val (.int qf), .val (.int qe), .val (.int qlen), .val (.int qid), .val (.int (0 : Int32)), .val (.int fl), .val (.int ln), .unset, .unset, .val (.int cs), .unset] [(.int (1 : Int32))]))
        refine GoW.step (fun _ k => XS.goto X2.here hx rfl (pc0 := 95) (pc' := 105) rfl (hb hby at_95) (by decide) (by decide) k) ?_
        exact J105_3 _ _ _ _ _ X2 e2 N2 hS2 hk2 hZ hown (by decide)
    show GoW _ _ _ _ _ _ _ (T1.setTop (mkF m 67 #[.val (.int qs), .val (.int qc), .val (.int qf), .val (.int qe), .val (.int qlen), .val (.int qid), .val (.int (0 : Int32)), .val (.int fl), .val (.int ln), .unset, .unset, .unset, .unset] []))
    refine GoW.step (fun _ k => XS.iloadN X1.here hx rfl (hb hby at_67) rfl  k) ?_
    show GoW _ _ _ _ _ _ _ (T1.setTop (mkF m 68 #[.val (.int qs), .val (.int qc), .val (.int qf), .val (.int qe), .val (.int qlen), .val (.int qid), .val (.int (0 : Int32)), .val (.int fl), .val (.int ln), .unset, .unset, .unset, .unset] [(.int qs)]))
    refine GoW.step (fun _ k => XS.iconst X1.here hx rfl (hb hby at_68) k) ?_
    show GoW _ _ _ _ _ _ _ (T1.setTop (mkF m 69 #[.val (.int qs), .val (.int qc), .val (.int qf), .val (.int qe), .val (.int qlen), .val (.int qid), .val (.int (0 : Int32)), .val (.int fl), .val (.int ln), .unset, .unset, .unset, .unset] [(.int (1 : Int32)), (.int qs)]))
    refine GoW.step (fun _ k => XS.iand X1.here hx rfl (hb hby at_69) rfl k) ?_
    show GoW _ _ _ _ _ _ _ (T1.setTop (mkF m 70 #[.val (.int qs), .val (.int qc), .val (.int qf), .val (.int qe), .val (.int qlen), .val (.int qid), .val (.int (0 : Int32)), .val (.int fl), .val (.int ln), .unset, .unset, .unset, .unset] [(.int (qs &&& (1 : Int32)))]))
    by_cases hc70 : (qs &&& (1 : Int32)) = (0 : Int32)
    · skip
      refine GoW.step (fun _ k => XS.ifYes X1.here hx rfl (pc0 := 70) (pc' := 79) rfl (hb hby at_70) rfl ((if0 _ _).trans (teq hc70).1) (by decide) (by decide) k) ?_
      show GoW _ _ _ _ _ _ _ (T1.setTop (mkF m 79 #[.val (.int qs), .val (.int qc), .val (.int qf), .val (.int qe), .val (.int qlen), .val (.int qid), .val (.int (0 : Int32)), .val (.int fl), .val (.int ln), .unset, .unset, .unset, .unset] []))
      refine GoW.step (fun _ k => XS.iloadN X1.here hx rfl (hb hby at_79) rfl  k) ?_
      show GoW _ _ _ _ _ _ _ (T1.setTop (mkF m 80 #[.val (.int qs), .val (.int qc), .val (.int qf), .val (.int qe), .val (.int qlen), .val (.int qid), .val (.int (0 : Int32)), .val (.int fl), .val (.int ln), .unset, .unset, .unset, .unset] [(.int qs)]))
      refine GoW.step (fun _ k => XS.iconst X1.here hx rfl (hb hby at_80) k) ?_
      show GoW _ _ _ _ _ _ _ (T1.setTop (mkF m 81 #[.val (.int qs), .val (.int qc), .val (.int qf), .val (.int qe), .val (.int qlen), .val (.int qid), .val (.int (0 : Int32)), .val (.int fl), .val (.int ln), .unset, .unset, .unset, .unset] [(.int (1 : Int32)), (.int qs)]))
      refine GoW.step (fun _ k => XS.iushr X1.here hx rfl (hb hby at_81) rfl k) ?_
      show GoW _ _ _ _ _ _ _ (T1.setTop (mkF m 82 #[.val (.int qs), .val (.int qc), .val (.int qf), .val (.int qe), .val (.int qlen), .val (.int qid), .val (.int (0 : Int32)), .val (.int fl), .val (.int ln), .unset, .unset, .unset, .unset] [(.int ((Int32.toUInt32 qs >>> ((1 : Int32) &&& 31).toUInt32).toInt32))]))
      refine GoW.step (fun _ k => XS.sipush X1.here hx rfl (hb hby at_82) k) ?_
      show GoW _ _ _ _ _ _ _ (T1.setTop (mkF m 85 #[.val (.int qs), .val (.int qc), .val (.int qf), .val (.int qe), .val (.int qlen), .val (.int qid), .val (.int (0 : Int32)), .val (.int fl), .val (.int ln), .unset, .unset, .unset, .unset] [(.int (255 : Int32)), (.int ((Int32.toUInt32 qs >>> ((1 : Int32) &&& 31).toUInt32).toInt32))]))
      refine GoW.step (fun _ k => XS.iand X1.here hx rfl (hb hby at_85) rfl k) ?_
      exact J86_2 _ _ _ _ _ X1 e1 N1 hS0 hk0 hZ hown (own_255 _)
    · skip
      refine GoW.step (fun _ k => XS.ifNo X1.here hx rfl (hb hby at_70) rfl ((if0 _ _).trans (feq hc70).1) k) ?_
      show GoW _ _ _ _ _ _ _ (T1.setTop (mkF m 73 #[.val (.int qs), .val (.int qc), .val (.int qf), .val (.int qe), .val (.int qlen), .val (.int qid), .val (.int (0 : Int32)), .val (.int fl), .val (.int ln), .unset, .unset, .unset, .unset] []))
      refine GoW.step (fun _ k => XS.sipush X1.here hx rfl (hb hby at_73) k) ?_
      show GoW _ _ _ _ _ _ _ (T1.setTop (mkF m 76 #[.val (.int qs), .val (.int qc), .val (.int qf), .val (.int qe), .val (.int qlen), .val (.int qid), .val (.int (0 : Int32)), .val (.int fl), .val (.int ln), .unset, .unset, .unset, .unset] [(.int (199 : Int32))]))
      refine GoW.step (fun _ k => XS.goto X1.here hx rfl (pc0 := 76) (pc' := 86) rfl (hb hby at_76) (by decide) (by decide) k) ?_
      exact J86_2 _ _ _ _ _ X1 e1 N1 hS0 hk0 hZ hown (by decide)
  · skip
    refine GoW.step (fun _ k => XS.ifNo X0.here hx rfl (hb hby at_3) rfl ((if0 _ _).trans (feq hc3).1) k) ?_
    show GoW _ _ _ _ _ _ _ (s₁.setTop (mkF m 6 #[.val (.int qs), .val (.int qc), .val (.int qf), .val (.int qe), .val (.int qlen), .val (.int qid), .unset, .unset, .unset, .unset, .unset, .unset, .unset] []))
    refine GoW.step (fun _ k => XS.iconst X0.here hx rfl (hb hby at_6) k) ?_
    show GoW _ _ _ _ _ _ _ (s₁.setTop (mkF m 7 #[.val (.int qs), .val (.int qc), .val (.int qf), .val (.int qe), .val (.int qlen), .val (.int qid), .unset, .unset, .unset, .unset, .unset, .unset, .unset] [(.int (1 : Int32))]))
    refine GoW.step (fun _ k => XS.goto X0.here hx rfl (pc0 := 7) (pc' := 11) rfl (hb hby at_7) (by decide) (by decide) k) ?_
    show GoW _ _ _ _ _ _ _ (s₁.setTop (mkF m 11 #[.val (.int qs), .val (.int qc), .val (.int qf), .val (.int qe), .val (.int qlen), .val (.int qid), .unset, .unset, .unset, .unset, .unset, .unset, .unset] [(.int (1 : Int32))]))
    refine GoW.step (fun _ k => XS.istore X0.here hx rfl (hb hby at_11) rfl (l' := #[.val (.int qs), .val (.int qc), .val (.int qf), .val (.int qe), .val (.int qlen), .val (.int qid), .val (.int (1 : Int32)), .unset, .unset, .unset, .unset, .unset, .unset]) rfl k) ?_
    show GoW _ _ _ _ _ _ _ (s₁.setTop (mkF m 13 #[.val (.int qs), .val (.int qc), .val (.int qf), .val (.int qe), .val (.int qlen), .val (.int qid), .val (.int (1 : Int32)), .unset, .unset, .unset, .unset, .unset, .unset] []))
    refine GoW.step (fun _ k => XS.iloadN X0.here hx rfl (hb hby at_13) rfl  k) ?_
    show GoW _ _ _ _ _ _ _ (s₁.setTop (mkF m 14 #[.val (.int qs), .val (.int qc), .val (.int qf), .val (.int qe), .val (.int qlen), .val (.int qid), .val (.int (1 : Int32)), .unset, .unset, .unset, .unset, .unset, .unset] [(.int qf)]))
    refine GoW.step (fun _ k => XS.iconst X0.here hx rfl (hb hby at_14) k) ?_
    show GoW _ _ _ _ _ _ _ (s₁.setTop (mkF m 15 #[.val (.int qs), .val (.int qc), .val (.int qf), .val (.int qe), .val (.int qlen), .val (.int qid), .val (.int (1 : Int32)), .unset, .unset, .unset, .unset, .unset, .unset] [(.int (1 : Int32)), (.int qf)]))
    refine GoW.step (fun _ k => XS.iushr X0.here hx rfl (hb hby at_15) rfl k) ?_
    show GoW _ _ _ _ _ _ _ (s₁.setTop (mkF m 16 #[.val (.int qs), .val (.int qc), .val (.int qf), .val (.int qe), .val (.int qlen), .val (.int qid), .val (.int (1 : Int32)), .unset, .unset, .unset, .unset, .unset, .unset] [(.int ((Int32.toUInt32 qf >>> ((1 : Int32) &&& 31).toUInt32).toInt32))]))
    refine GoW.step (fun _ k => XS.sipush X0.here hx rfl (hb hby at_16) k) ?_
    show GoW _ _ _ _ _ _ _ (s₁.setTop (mkF m 19 #[.val (.int qs), .val (.int qc), .val (.int qf), .val (.int qe), .val (.int qlen), .val (.int qid), .val (.int (1 : Int32)), .unset, .unset, .unset, .unset, .unset, .unset] [(.int (255 : Int32)), (.int ((Int32.toUInt32 qf >>> ((1 : Int32) &&& 31).toUInt32).toInt32))]))
    refine GoW.step (fun _ k => XS.iand X0.here hx rfl (hb hby at_19) rfl k) ?_
    show GoW _ _ _ _ _ _ _ (s₁.setTop (mkF m 20 #[.val (.int qs), .val (.int qc), .val (.int qf), .val (.int qe), .val (.int qlen), .val (.int qid), .val (.int (1 : Int32)), .unset, .unset, .unset, .unset, .unset, .unset] [(.int (((Int32.toUInt32 qf >>> ((1 : Int32) &&& 31).toUInt32).toInt32) &&& (255 : Int32)))]))
    obtain ⟨fl, q_fl⟩ : ∃ z : Int32, z = (((Int32.toUInt32 qf >>> ((1 : Int32) &&& 31).toUInt32).toInt32) &&& (255 : Int32)) := ⟨_, rfl⟩
    rw [← q_fl]
    have hfl := own_255 (Int32.toUInt32 qf >>> ((1 : Int32) &&& 31).toUInt32).toInt32
    rw [← q_fl] at hfl
    have hf2 := own_fl fl hfl
    show GoW _ _ _ _ _ _ _ (s₁.setTop (mkF m 20 #[.val (.int qs), .val (.int qc), .val (.int qf), .val (.int qe), .val (.int qlen), .val (.int qid), .val (.int (1 : Int32)), .unset, .unset, .unset, .unset, .unset, .unset] [(.int fl)]))
    refine GoW.step (fun _ k => XS.istore X0.here hx rfl (hb hby at_20) rfl (l' := #[.val (.int qs), .val (.int qc), .val (.int qf), .val (.int qe), .val (.int qlen), .val (.int qid), .val (.int (1 : Int32)), .val (.int fl), .unset, .unset, .unset, .unset, .unset]) rfl k) ?_
    show GoW _ _ _ _ _ _ _ (s₁.setTop (mkF m 22 #[.val (.int qs), .val (.int qc), .val (.int qf), .val (.int qe), .val (.int qlen), .val (.int qid), .val (.int (1 : Int32)), .val (.int fl), .unset, .unset, .unset, .unset, .unset] []))
    refine GoW.step (fun _ k => XS.bipush X0.here hx rfl (hb hby at_22) k) ?_
    show GoW _ _ _ _ _ _ _ (s₁.setTop (mkF m 24 #[.val (.int qs), .val (.int qc), .val (.int qf), .val (.int qe), .val (.int qlen), .val (.int qid), .val (.int (1 : Int32)), .val (.int fl), .unset, .unset, .unset, .unset, .unset] [(.int (11 : Int32))]))
    refine GoW.step (fun _ k => XS.iload X0.here hx rfl (hb hby at_24) rfl  k) ?_
    show GoW _ _ _ _ _ _ _ (s₁.setTop (mkF m 26 #[.val (.int qs), .val (.int qc), .val (.int qf), .val (.int qe), .val (.int qlen), .val (.int qid), .val (.int (1 : Int32)), .val (.int fl), .unset, .unset, .unset, .unset, .unset] [(.int qlen), (.int (11 : Int32))]))
    obtain ⟨_, _, ⟨T28, L28, k28, n28⟩, -, X28, ⟨Lc28, hQ28, l28, y28, z28⟩, st28⟩ := Jvm.LawKit.callS X0 hx (y := (⟨"java/lang/Math", "max", "(II)I"⟩ : MethodName)) hown (mvT hZ (hw _ (List.mem_of_getElem? (i := 0) rfl))) (mvT hZ (hw _ (List.mem_of_getElem? (i := 1) rfl))) (mvT hZ (hw _ (List.mem_of_getElem? (i := 2) rfl))) (mvT hZ (hw _ (List.mem_of_getElem? (i := 3) rfl))) (by decide) (backOf (W := 0) (rm1 l Z aZ hw [] (11 : Int32) qlen h0 n0 Z0 ) hZ (hw _ (List.mem_of_getElem? (i := 3) rfl)) (hw _ (List.mem_of_getElem? (i := 2) rfl)) (by decide) (by decide)) (g := (mkF m 26 #[.val (.int qs), .val (.int qc), .val (.int qf), .val (.int qe), .val (.int qlen), .val (.int qid), .val (.int (1 : Int32)), .val (.int fl), .unset, .unset, .unset, .unset, .unset] [(.int qlen), (.int (11 : Int32))])) rfl (by rw [hml]; rfl) (argsL := [(.int (11 : Int32)), (.int qlen)]) (rest := []) (lenOf pd_4 rfl) rfl (by show 2 * 0 + _ ≤ _; exact Nat.le_of_eq rfl) (hb hby at_26) (fun _ _ => ⟨rfl, e0, (by decide : 0 + 0 ≤ _), (by decide : 0 + 0 ≤ _)⟩)
    dsimp only [Pt.U, Pt.locs, Pt.cells, Pt.slots] at X28 l28 y28 z28 st28 hQ28
    subst l28 y28 z28
    obtain ⟨rfl, Nq28, e28⟩ := hQ28
    have N28 := Fr.app N0 Nq28
    refine GoW.step st28 ?_
    show GoW _ _ _ _ _ _ _ (T28.setTop (mkF m 29 #[.val (.int qs), .val (.int qc), .val (.int qf), .val (.int qe), .val (.int qlen), .val (.int qid), .val (.int (1 : Int32)), .val (.int fl), .unset, .unset, .unset, .unset, .unset] [(.int (if (11 : Int32) < qlen then qlen else (11 : Int32)))]))
    obtain ⟨ln, q_ln⟩ : ∃ z : Int32, z = (if (11 : Int32) < qlen then qlen else (11 : Int32)) := ⟨_, rfl⟩
    rw [← q_ln]
    have hln := own_ln qlen
    rw [← q_ln] at hln
    show GoW _ _ _ _ _ _ _ (T28.setTop (mkF m 29 #[.val (.int qs), .val (.int qc), .val (.int qf), .val (.int qe), .val (.int qlen), .val (.int qid), .val (.int (1 : Int32)), .val (.int fl), .unset, .unset, .unset, .unset, .unset] [(.int ln)]))
    refine GoW.step (fun _ k => XS.istore X28.here hx rfl (hb hby at_29) rfl (l' := #[.val (.int qs), .val (.int qc), .val (.int qf), .val (.int qe), .val (.int qlen), .val (.int qid), .val (.int (1 : Int32)), .val (.int fl), .val (.int ln), .unset, .unset, .unset, .unset]) rfl k) ?_
    show GoW _ _ _ _ _ _ _ (T28.setTop (mkF m 31 #[.val (.int qs), .val (.int qc), .val (.int qf), .val (.int qe), .val (.int qlen), .val (.int qid), .val (.int (1 : Int32)), .val (.int fl), .val (.int ln), .unset, .unset, .unset, .unset] []))
    refine GoW.step (fun _ k => XS.iload X28.here hx rfl (hb hby at_31) rfl  k) ?_
    show GoW _ _ _ _ _ _ _ (T28.setTop (mkF m 33 #[.val (.int qs), .val (.int qc), .val (.int qf), .val (.int qe), .val (.int qlen), .val (.int qid), .val (.int (1 : Int32)), .val (.int fl), .val (.int ln), .unset, .unset, .unset, .unset] [(.int (1 : Int32))]))
    have hc33 : ¬ ((1 : Int32) = (0 : Int32)) := by decide
    refine GoW.step (fun _ k => XS.ifNo X28.here hx rfl (hb hby at_33) rfl ((if0 _ _).trans (feq hc33).1) k) ?_
    show GoW _ _ _ _ _ _ _ (T28.setTop (mkF m 36 #[.val (.int qs), .val (.int qc), .val (.int qf), .val (.int qe), .val (.int qlen), .val (.int qid), .val (.int (1 : Int32)), .val (.int fl), .val (.int ln), .unset, .unset, .unset, .unset] []))
    obtain ⟨T29, h29, X29, e29, E29, A29, D29, -, st29⟩ := newO X28 hx hZ hown (hw _ (List.mem_of_getElem? (i := 4) rfl)) (hw _ (List.mem_of_getElem? (i := 5) rfl)) (hw _ (List.mem_of_getElem? (i := 6) rfl)) e28 (g := (mkF m 36 #[.val (.int qs), .val (.int qc), .val (.int qf), .val (.int qe), .val (.int qlen), .val (.int qid), .val (.int (1 : Int32)), .val (.int fl), .val (.int ln), .unset, .unset, .unset, .unset] [])) rfl (hb hby at_36) (by decide) (by decide)
    obtain ⟨b29, g29⟩ : ∃ z, z = h0.size := ⟨_, rfl⟩
    rw [← g29] at A29 D29 st29
    refine GoW.step st29 ?_
    have gn29 : n0 ≤ b29 := Nat.le_trans Z0 (Nat.le_of_eq g29.symm)
    have sz29 : h0.size ≤ b29 := Nat.le_trans sq0 (Nat.le_of_eq g29.symm)
    have z30 : n0 ≤ h29.size := Nat.le_trans Z0 E29.1
    have sqz30 : h0.size ≤ h29.size := Nat.le_trans sq0 E29.1
    have hk32 := Nat.le_trans hk0 E29.1
    have f33 : Fld Z h29 b29 "com/example/sidewire/sidewire/protocol/PacketHeader" "length" "I" (.int (0 : Int32)) := D29 (Or.inr (hw _ (List.mem_of_getElem? (i := 37) rfl))) (ty := .int) (by decide)
    have f34 : Fld Z h29 b29 "com/example/sidewire/sidewire/protocol/PacketHeader" "id" "I" (.int (0 : Int32)) := D29 (Or.inr (hw _ (List.mem_of_getElem? (i := 39) rfl))) (ty := .int) (by decide)
    have f35 : Fld Z h29 b29 "com/example/sidewire/sidewire/protocol/PacketHeader" "flags" "I" (.int (0 : Int32)) := D29 (Or.inr (hw _ (List.mem_of_getElem? (i := 41) rfl))) (ty := .int) (by decide)
    have f36 : Fld Z h29 b29 "com/example/sidewire/sidewire/protocol/PacketHeader" "commandSet" "I" (.int (0 : Int32)) := D29 (Or.inr (hw _ (List.mem_of_getElem? (i := 43) rfl))) (ty := .int) (by decide)
    have f37 : Fld Z h29 b29 "com/example/sidewire/sidewire/protocol/PacketHeader" "command" "I" (.int (0 : Int32)) := D29 (Or.inr (hw _ (List.mem_of_getElem? (i := 45) rfl))) (ty := .int) (by decide)
    have f38 : Fld Z h29 b29 "com/example/sidewire/sidewire/protocol/PacketHeader" "errorCode" "I" (.int (0 : Int32)) := D29 (Or.inr (hw _ (List.mem_of_getElem? (i := 47) rfl))) (ty := .int) (by decide)
    show GoW _ _ _ _ _ _ _ (T29.setTop (mkF m 39 #[.val (.int qs), .val (.int qc), .val (.int qf), .val (.int qe), .val (.int qlen), .val (.int qid), .val (.int (1 : Int32)), .val (.int fl), .val (.int ln), .unset, .unset, .unset, .unset] [(.ref b29)]))
    refine GoW.step (fun _ k => XS.dup X29.here hx rfl (hb hby at_39) rfl rfl k) ?_
    show GoW _ _ _ _ _ _ _ (T29.setTop (mkF m 40 #[.val (.int qs), .val (.int qc), .val (.int qf), .val (.int qe), .val (.int qlen), .val (.int qid), .val (.int (1 : Int32)), .val (.int fl), .val (.int ln), .unset, .unset, .unset, .unset] [(.ref b29), (.ref b29)]))
    refine GoW.step (fun _ k => XS.iload X29.here hx rfl (hb hby at_40) rfl  k) ?_
    show GoW _ _ _ _ _ _ _ (T29.setTop (mkF m 42 #[.val (.int qs), .val (.int qc), .val (.int qf), .val (.int qe), .val (.int qlen), .val (.int qid), .val (.int (1 : Int32)), .val (.int fl), .val (.int ln), .unset, .unset, .unset, .unset] [(.int ln), (.ref b29), (.ref b29)]))
    refine GoW.step (fun _ k => XS.iload X29.here hx rfl (hb hby at_42) rfl  k) ?_
    show GoW _ _ _ _ _ _ _ (T29.setTop (mkF m 44 #[.val (.int qs), .val (.int qc), .val (.int qf), .val (.int qe), .val (.int qlen), .val (.int qid), .val (.int (1 : Int32)), .val (.int fl), .val (.int ln), .unset, .unset, .unset, .unset] [(.int qid), (.int ln), (.ref b29), (.ref b29)]))
    refine GoW.step (fun _ k => XS.iload X29.here hx rfl (hb hby at_44) rfl  k) ?_
    show GoW _ _ _ _ _ _ _ (T29.setTop (mkF m 46 #[.val (.int qs), .val (.int qc), .val (.int qf), .val (.int qe), .val (.int qlen), .val (.int qid), .val (.int (1 : Int32)), .val (.int fl), .val (.int ln), .unset, .unset, .unset, .unset] [(.int fl), (.int qid), (.int ln), (.ref b29), (.ref b29)]))
    refine GoW.step (fun _ k => XS.sipush X29.here hx rfl (hb hby at_46) k) ?_
    show GoW _ _ _ _ _ _ _ (T29.setTop (mkF m 49 #[.val (.int qs), .val (.int qc), .val (.int qf), .val (.int qe), .val (.int qlen), .val (.int qid), .val (.int (1 : Int32)), .val (.int fl), .val (.int ln), .unset, .unset, .unset, .unset] [(.int (128 : Int32)), (.int fl), (.int qid), (.int ln), (.ref b29), (.ref b29)]))
    refine GoW.step (fun _ k => XS.ior X29.here hx rfl (hb hby at_49) rfl k) ?_
    show GoW _ _ _ _ _ _ _ (T29.setTop (mkF m 50 #[.val (.int qs), .val (.int qc), .val (.int qf), .val (.int qe), .val (.int qlen), .val (.int qid), .val (.int (1 : Int32)), .val (.int fl), .val (.int ln), .unset, .unset, .unset, .unset] [(.int (fl ||| (128 : Int32))), (.int qid), (.int ln), (.ref b29), (.ref b29)]))
    refine GoW.step (fun _ k => XS.iconst X29.here hx rfl (hb hby at_50) k) ?_
    show GoW _ _ _ _ _ _ _ (T29.setTop (mkF m 51 #[.val (.int qs), .val (.int qc), .val (.int qf), .val (.int qe), .val (.int qlen), .val (.int qid), .val (.int (1 : Int32)), .val (.int fl), .val (.int ln), .unset, .unset, .unset, .unset] [(.int (0 : Int32)), (.int (fl ||| (128 : Int32))), (.int qid), (.int ln), (.ref b29), (.ref b29)]))
    refine GoW.step (fun _ k => XS.iconst X29.here hx rfl (hb hby at_51) k) ?_
    show GoW _ _ _ _ _ _ _ (T29.setTop (mkF m 52 #[.val (.int qs), .val (.int qc), .val (.int qf), .val (.int qe), .val (.int qlen), .val (.int qid), .val (.int (1 : Int32)), .val (.int fl), .val (.int ln), .unset, .unset, .unset, .unset] [(.int (0 : Int32)), (.int (0 : Int32)), (.int (fl ||| (128 : Int32))), (.int qid), (.int ln), (.ref b29), (.ref b29)]))
    refine GoW.step (fun _ k => XS.iloadN X29.here hx rfl (hb hby at_52) rfl  k) ?_
    show GoW _ _ _ _ _ _ _ (T29.setTop (mkF m 53 #[.val (.int qs), .val (.int qc), .val (.int qf), .val (.int qe), .val (.int qlen), .val (.int qid), .val (.int (1 : Int32)), .val (.int fl), .val (.int ln), .unset, .unset, .unset, .unset] [(.int qe), (.int (0 : Int32)), (.int (0 : Int32)), (.int (fl ||| (128 : Int32))), (.int qid), (.int ln), (.ref b29), (.ref b29)]))
    refine GoW.step (X29.ldcInt hx hown (mvT hZ (hw _ (List.mem_of_getElem? (i := 57) rfl))) (g := (mkF m 53 #[.val (.int qs), .val (.int qc), .val (.int qf), .val (.int qe), .val (.int qlen), .val (.int qid), .val (.int (1 : Int32)), .val (.int fl), .val (.int ln), .unset, .unset, .unset, .unset] [(.int qe), (.int (0 : Int32)), (.int (0 : Int32)), (.int (fl ||| (128 : Int32))), (.int qid), (.int ln), (.ref b29), (.ref b29)])) rfl (hb hby at_53)) ?_
    show GoW _ _ _ _ _ _ _ (T29.setTop (mkF m 55 #[.val (.int qs), .val (.int qc), .val (.int qf), .val (.int qe), .val (.int qlen), .val (.int qid), .val (.int (1 : Int32)), .val (.int fl), .val (.int ln), .unset, .unset, .unset, .unset] [(.int (65535 : Int32)), (.int qe), (.int (0 : Int32)), (.int (0 : Int32)), (.int (fl ||| (128 : Int32))), (.int qid), (.int ln), (.ref b29), (.ref b29)]))
    refine GoW.step (fun _ k => XS.iand X29.here hx rfl (hb hby at_55) rfl k) ?_
    show GoW _ _ _ _ _ _ _ (T29.setTop (mkF m 56 #[.val (.int qs), .val (.int qc), .val (.int qf), .val (.int qe), .val (.int qlen), .val (.int qid), .val (.int (1 : Int32)), .val (.int fl), .val (.int ln), .unset, .unset, .unset, .unset] [(.int (qe &&& (65535 : Int32))), (.int (0 : Int32)), (.int (0 : Int32)), (.int (fl ||| (128 : Int32))), (.int qid), (.int ln), (.ref b29), (.ref b29)]))
    have pq39 : ¬ ln < 11 := hln
    have pq40 : ¬ (fl ||| (128 : Int32)) < 0 ∧ ¬ (255 : Int32) < (fl ||| (128 : Int32)) := own_r255 ⟨hf2.1.1, hf2.1.2.1⟩
    have pq41 : ¬ (0 : Int32) < 0 ∧ ¬ (255 : Int32) < (0 : Int32) := (by decide)
    have pq42 : ¬ (0 : Int32) < 0 ∧ ¬ (255 : Int32) < (0 : Int32) := (by decide)
    have pq43 : ¬ (qe &&& (65535 : Int32)) < 0 ∧ ¬ (65535 : Int32) < (qe &&& (65535 : Int32)) := own_e16 _
    have pq44 : ¬ ((fl ||| (128 : Int32)) &&& (128 : Int32)) = 0 := hf2.1.2.2
    have pq45 : (0 : Int32) = 0 := rfl
    have pq46 : (0 : Int32) = 0 := rfl
    obtain ⟨_, _, ⟨T47, L47, k47, n47⟩, -, X47, hS47b, hgr47, ⟨Lc47, hQ47, l47, y47, z47⟩, st47⟩ := X29.specialBackS hx (y := (⟨"com/example/sidewire/sidewire/protocol/PacketHeader", "<init>", "(IIIIII)V"⟩ : MethodName)) rfl hown (mvT hZ (hw _ (List.mem_of_getElem? (i := 7) rfl))) (mvT hZ (hw _ (List.mem_of_getElem? (i := 8) rfl))) (mvT hZ (hw _ (List.mem_of_getElem? (i := 9) rfl))) (by decide) (backOfS (W := 1) (rmphR l Z aZ hw [] b29 ln qid (fl ||| (128 : Int32)) (0 : Int32) (0 : Int32) (qe &&& (65535 : Int32)) h29 n0 z30 A29 f33 f34 f35 f36 f37 f38 gn29 pq39 pq40 pq41 pq42 pq43 pq44 pq45 pq46) hZ (hw _ (List.mem_of_getElem? (i := 9) rfl)) (hw _ (List.mem_of_getElem? (i := 6) rfl)) (by decide) (by decide)) (g := (mkF m 56 #[.val (.int qs), .val (.int qc), .val (.int qf), .val (.int qe), .val (.int qlen), .val (.int qid), .val (.int (1 : Int32)), .val (.int fl), .val (.int ln), .unset, .unset, .unset, .unset] [(.int (qe &&& (65535 : Int32))), (.int (0 : Int32)), (.int (0 : Int32)), (.int (fl ||| (128 : Int32))), (.int qid), (.int ln), (.ref b29), (.ref b29)])) rfl (by rw [hml]; rfl) (Steps.refl _) (a := b29) (argsL := [(.int ln), (.int qid), (.int (fl ||| (128 : Int32))), (.int (0 : Int32)), (.int (0 : Int32)), (.int (qe &&& (65535 : Int32)))]) (rest := [(.ref b29)]) (lenOf pd_5 rfl) rfl (by show 2 * 0 + _ ≤ _; exact Nat.le_of_eq rfl) (hb hby at_56) (fun _ _ => ⟨rfl, e29, (by decide : 1 + 8 ≤ _), (by decide : 6 + 148 ≤ _)⟩)
    have hS47 := foldS hS0 (by rw [e29]; exact hk32) hS47b hgr47
    have hown : T47.vm.findClass "com/example/sidewire/sidewire/protocol/MonitorProtocolIsMonitorCommandPinLaw" = some m.cls := by rw [hS47b.1.alike.findClass]; exact hown
    have hZ := State.Warmed39.trans (t := s.setVm _) hZ hS47b.1
    have hk47z : T47.heap.size ≤ T47.heap.size := Nat.le_refl _
    dsimp only [Pt.U, Pt.locs, Pt.cells, Pt.slots] at X47 l47 y47 z47 st47 hQ47
    subst l47 y47 z47
    have X47 : Stand p l e room_1 (s.setVm T47.vm) m #[(.int qs), (.int qc), (.int qf), (.int qe), (.int qlen), (.int qid)] below meth c T47 _ _ _ := X47
    obtain ⟨rfl, Nq47, K47, c47_0, c47_1, c47_2⟩ := hQ47
    have N47 := Fr.app N28 Nq47
    refine GoW.tr st47 ?_
    have z48 : n0 ≤ T47.heap.size := Nat.le_trans z30 K47.1
    have sqz48 : h0.size ≤ T47.heap.size := Nat.le_trans sqz30 K47.1
    have hk50 := Nat.le_trans hk32 K47.1
    show GoW _ _ _ _ _ _ _ (T47.setTop (mkF m 59 #[.val (.int qs), .val (.int qc), .val (.int qf), .val (.int qe), .val (.int qlen), .val (.int qid), .val (.int (1 : Int32)), .val (.int fl), .val (.int ln), .unset, .unset, .unset, .unset] [(.ref b29)]))
    refine GoW.step (fun _ k => XS.astore X47.here hx rfl (hb hby at_59) rfl rfl (l' := #[.val (.int qs), .val (.int qc), .val (.int qf), .val (.int qe), .val (.int qlen), .val (.int qid), .val (.int (1 : Int32)), .val (.int fl), .val (.int ln), .val (.ref b29), .unset, .unset, .unset]) rfl k) ?_
    show GoW _ _ _ _ _ _ _ (T47.setTop (mkF m 61 #[.val (.int qs), .val (.int qc), .val (.int qf), .val (.int qe), .val (.int qlen), .val (.int qid), .val (.int (1 : Int32)), .val (.int fl), .val (.int ln), .val (.ref b29), .unset, .unset, .unset] []))
    refine GoW.step (fun _ k => XS.iconst X47.here hx rfl (hb hby at_61) k) ?_
    show GoW _ _ _ _ _ _ _ (T47.setTop (mkF m 62 #[.val (.int qs), .val (.int qc), .val (.int qf), .val (.int qe), .val (.int qlen), .val (.int qid), .val (.int (1 : Int32)), .val (.int fl), .val (.int ln), .val (.ref b29), .unset, .unset, .unset] [(.int (0 : Int32))]))
    refine GoW.step (fun _ k => XS.istore X47.here hx rfl (hb hby at_62) rfl (l' := #[.val (.int qs), .val (.int qc), .val (.int qf), .val (.int qe), .val (.int qlen), .val (.int qid), .val (.int (1 : Int32)), .val (.int fl), .val (.int ln), .val (.ref b29), .val (.int (0 : Int32)), .unset, .unset]) rfl k) ?_
    show GoW _ _ _ _ _ _ _ (T47.setTop (mkF m 64 #[.val (.int qs), .val (.int qc), .val (.int qf), .val (.int qe), .val (.int qlen), .val (.int qid), .val (.int (1 : Int32)), .val (.int fl), .val (.int ln), .val (.ref b29), .val (.int (0 : Int32)), .unset, .unset] []))
    refine GoW.step (fun _ k => XS.goto X47.here hx rfl (pc0 := 64) (pc' := 151) rfl (hb hby at_64) (by decide) (by decide) k) ?_
    show GoW _ _ _ _ _ _ _ (T47.setTop (mkF m 151 #[.val (.int qs), .val (.int qc), .val (.int qf), .val (.int qe), .val (.int qlen), .val (.int qid), .val (.int (1 : Int32)), .val (.int fl), .val (.int ln), .val (.ref b29), .val (.int (0 : Int32)), .unset, .unset] []))
    refine GoW.step (fun _ k => XS.aload X47.here hx rfl (hb hby at_151) rfl rfl  k) ?_
    show GoW _ _ _ _ _ _ _ (T47.setTop (mkF m 153 #[.val (.int qs), .val (.int qc), .val (.int qf), .val (.int qe), .val (.int qlen), .val (.int qid), .val (.int (1 : Int32)), .val (.int fl), .val (.int ln), .val (.ref b29), .val (.int (0 : Int32)), .unset, .unset] [(.ref b29)]))
    obtain ⟨_, _, ⟨T51, L51, k51, n51⟩, -, X51, ⟨Lc51, hQ51, l51, y51, z51⟩, st51⟩ := Jvm.LawKit.callS X47 hx (y := (⟨"com/example/sidewire/sidewire/protocol/MonitorProtocol", "isMonitorCommand", "(Lcom/example/sidewire/sidewire/protocol/PacketHeader;)Z"⟩ : MethodName)) hown (mvT hZ (hw _ (List.mem_of_getElem? (i := 48) rfl))) (mvT hZ (hw _ (List.mem_of_getElem? (i := 49) rfl))) (mvT hZ (hw _ (List.mem_of_getElem? (i := 50) rfl))) (mvT hZ (hw _ (List.mem_of_getElem? (i := 51) rfl))) (by decide) (backOf (W := 0) (rm7 l Z aZ hw [] b29 (0 : Int32) (0 : Int32) T47.heap n0 z48 c47_0 c47_1 c47_2) hZ (hw _ (List.mem_of_getElem? (i := 51) rfl)) (hw _ (List.mem_of_getElem? (i := 50) rfl)) (by decide) (by decide)) (g := (mkF m 153 #[.val (.int qs), .val (.int qc), .val (.int qf), .val (.int qe), .val (.int qlen), .val (.int qid), .val (.int (1 : Int32)), .val (.int fl), .val (.int ln), .val (.ref b29), .val (.int (0 : Int32)), .unset, .unset] [(.ref b29)])) rfl (by rw [hml]; rfl) (argsL := [(.ref b29)]) (rest := []) (lenOf pd_6 rfl) rfl (by show 2 * 0 + _ ≤ _; exact Nat.le_of_eq rfl) (hb hby at_153) (fun _ _ => ⟨rfl, rfl, (by decide : 9 + 0 ≤ _), (by decide : 154 + 0 ≤ _)⟩)
    dsimp only [Pt.U, Pt.locs, Pt.cells, Pt.slots] at X51 l51 y51 z51 st51 hQ51
    subst l51 y51 z51
    obtain ⟨rfl, Nq51, e51⟩ := hQ51
    have N51 := Fr.app N47 Nq51
    refine GoW.step st51 ?_
    show GoW _ _ _ _ _ _ _ (T51.setTop (mkF m 156 #[.val (.int qs), .val (.int qc), .val (.int qf), .val (.int qe), .val (.int qlen), .val (.int qid), .val (.int (1 : Int32)), .val (.int fl), .val (.int ln), .val (.ref b29), .val (.int (0 : Int32)), .unset, .unset] [(.int (if (0 : Int32) = (199 : Int32) ∧ (0 : Int32) = (1 : Int32) then (1 : Int32) else 0))]))
    refine GoW.step (fun _ k => XS.iload X51.here hx rfl (hb hby at_156) rfl  k) ?_
    show GoW _ _ _ _ _ _ _ (T51.setTop (mkF m 158 #[.val (.int qs), .val (.int qc), .val (.int qf), .val (.int qe), .val (.int qlen), .val (.int qid), .val (.int (1 : Int32)), .val (.int fl), .val (.int ln), .val (.ref b29), .val (.int (0 : Int32)), .unset, .unset] [(.int (0 : Int32)), (.int (if (0 : Int32) = (199 : Int32) ∧ (0 : Int32) = (1 : Int32) then (1 : Int32) else 0))]))
    have hc158 : (if (0 : Int32) = (199 : Int32) ∧ (0 : Int32) = (1 : Int32) then (1 : Int32) else 0) = (0 : Int32) := by simp
    refine GoW.step (fun _ k => XS.icmpNo X51.here hx rfl (hb hby at_158) rfl (teq hc158).2 k) ?_
    show GoW _ _ _ _ _ _ _ (T51.setTop (mkF m 161 #[.val (.int qs), .val (.int qc), .val (.int qf), .val (.int qe), .val (.int qlen), .val (.int qid), .val (.int (1 : Int32)), .val (.int fl), .val (.int ln), .val (.ref b29), .val (.int (0 : Int32)), .unset, .unset] []))
    refine GoW.step (fun _ k => XS.iconst X51.here hx rfl (hb hby at_161) k) ?_
    show GoW _ _ _ _ _ _ _ (T51.setTop (mkF m 162 #[.val (.int qs), .val (.int qc), .val (.int qf), .val (.int qe), .val (.int qlen), .val (.int qid), .val (.int (1 : Int32)), .val (.int fl), .val (.int ln), .val (.ref b29), .val (.int (0 : Int32)), .unset, .unset] [(.int (1 : Int32))]))
    refine GoW.step (fun _ k => XS.goto X51.here hx rfl (pc0 := 162) (pc' := 166) rfl (hb hby at_162) (by decide) (by decide) k) ?_
    show GoW _ _ _ _ _ _ _ (T51.setTop (mkF m 166 #[.val (.int qs), .val (.int qc), .val (.int qf), .val (.int qe), .val (.int qlen), .val (.int qid), .val (.int (1 : Int32)), .val (.int fl), .val (.int ln), .val (.ref b29), .val (.int (0 : Int32)), .unset, .unset] [(.int (1 : Int32))]))
    refine GoW.retN X51 hS47 (by rw [e51]; exact hk47z) hx (t := .boolean) Bd.returns (by simp) hlk (hb hby at_166) ?_ (by decide) (by decide)
    rw [e51]
    exact ⟨(by first | rfl | (simp_all [own_nb1, own_nb0]; done)), N51⟩
set_option maxRecDepth 65536 in
set_option maxHeartbeats 40000000 in
theorem comes_1 {Post : Tables → Env → Array Value → State → Outcome → State → Prop} (hpost : ∀ tb e args s v u, (limb_1_1.after args s (.returned v) u = true ∧ limb_1_2.after args s (.returned v) u = true ∧ True) → ReturnedEndW s (.returned v) u (Jvm.fieldLocs frame_1_writes args s ++ Jvm.arrayLocs frame_1_arrays args s ++ Jvm.staticLocs frame_1_statics s) 24 4224 → Post tb e args s (.returned v) u) :
    ArmFor flags0 classFile x code maxLocals ret World_1 tables_1 room_1 Calls_1 rest_1 Pre_1 Post := by
  intro l hfl _ _ p e ha hc hk s m args below hf hA hF happ hP
  obtain ⟨hcalls, hrest, hpre⟩ := hP
  obtain ⟨-, -, -, hnamed, -, -, -, hat⟩ := (Spec.applies_iff hf).mp happ
  obtain ⟨hg, hn⟩ := and_e (Cond.before_iff.mp (show (Jvm.Cond.and given_1 narrow_1).before args s = true from hpre))
  obtain ⟨g0, r0⟩ := and_e hg
  obtain ⟨a0, r1⟩ := and_e r0
  obtain ⟨a1, r2⟩ := and_e r1
  obtain ⟨a2, r3⟩ := and_e r2
  obtain ⟨a3, r4⟩ := and_e r3
  obtain ⟨a4, r5⟩ := and_e r4
  have a5 := r5
  obtain ⟨w0, w1, w2, w3, w4, w5, rfl⟩ : ∃ w0 w1 w2 w3 w4 w5 : Value, args = #[w0, w1, w2, w3, w4, w5] := by
    have hs : args.size = 6 := by simpa [Cond.value, given_1] using g0
    obtain ⟨L⟩ := args
    match L, hs with
    | [w0, w1, w2, w3, w4, w5], _ => exact ⟨w0, w1, w2, w3, w4, w5, rfl⟩
  have hw := fun d (hd : d ∈ tables_1) => atoms_spec (ws := Jvm.Cond.code x code maxLocals ret :: tables_1) hat d (List.mem_cons_of_mem _ hd)
  have hfit : Fit s := fun {y c} hc i hi => by
    obtain ⟨ha, rfl⟩ := Array.getElem?_eq_some_iff.mp hc
    have q := List.all_eq_true.mp ((Array.all_eq_true_iff_forall_mem.mp hF) _ (Array.getElem_mem ha)) i (List.mem_range.mpr hi)
    simpa [Array.getElem?_eq_getElem hi] using q
  obtain ⟨i0, ei0⟩ := is_v a0
  obtain rfl : w0 = (.int i0) := Option.some.inj ei0
  obtain ⟨i1, ei1⟩ := is_v a1
  obtain rfl : w1 = (.int i1) := Option.some.inj ei1
  obtain ⟨i2, ei2⟩ := is_v a2
  obtain rfl : w2 = (.int i2) := Option.some.inj ei2
  obtain ⟨i3, ei3⟩ := is_v a3
  obtain rfl : w3 = (.int i3) := Option.some.inj ei3
  obtain ⟨i4, ei4⟩ := is_v a4
  obtain rfl : w4 = (.int i4) := Option.some.inj ei4
  obtain ⟨i5, ei5⟩ := is_v a5
  obtain rfl : w5 = (.int i5) := Option.some.inj ei5
  obtain ⟨n, o, h1, h2, h3, _, L, rfl, ⟨rfl, N⟩, hq⟩ := rm0 l s _ hw tables_1 i0 i1 i2 i3 i4 i5  s.heap s.heap.size (Nat.le_refl _)  p e ha hc hk s m _ below hf ((Spec.applies_iff_loose hf).mp happ).1 ⟨rfl, State.Warmed39.refl s, rfl⟩ trivial
  refine ⟨n, _, h1, h2, h3, hpost _ _ _ _ _ _ ⟨Cond.after_iff.mpr rfl, Cond.after_iff.mpr (eq_i res_at (Term.int_eval (1)) rfl), trivial⟩ ⟨hq.1, hq.2.1, hq.2.2.1, (hq.2.2.2.sift fun y hy => Or.inr (N y hy)).mono (by decide) (by decide)⟩⟩
theorem main_1_1 : Claimed_1_1 := comes_1 fun _ _ _ _ _ _ h hF => ⟨h.1, hF⟩
theorem main_1_2 : Claimed_1_2 := comes_1 fun _ _ _ _ _ _ h hF => ⟨h.2.1, hF⟩
end Jvm.Pilot.@@N@@
namespace Jvm.Pilot.@@N@@
open Jvm Jvm.ClassFile Sem Op Lib Jvm.Free Jvm.Stand Jvm.Pilot.@@N@@.Jvm.D
/-! MADE BY PROGRAM (witnessworld.py) out of the Statement's table words and the real class files: 17 classes; the members and pool entries that the words name. The judged class is class 1, her method 1. -/
namespace start1
open Jvm.ClassFile
def u (s : String) : CpInfo := .utf8 (stringToUtf16 s)
/-- a pool by its gaps: so many unusable entries, then the entry; so many at the end -/
def gap : Nat → List CpInfo → List CpInfo
  | 0, r => r
  | n + 1, r => .unusable :: gap n r
def poolList (es : List (Nat × CpInfo)) (last : Nat) : List CpInfo := es.foldr (fun e r => gap e.1 (e.2 :: r)) (gap last [])
def pool (es : List (Nat × CpInfo)) (last : Nat) : Array CpInfo := ⟨poolList es last⟩
def fileOf (pool : Array CpInfo) (this : Nat) (attrs : Array Attribute := #[]) (ms : Array MethodInfo := #[]) (fl : Nat := 33) (sup : Nat := 0) (ifs : Array Nat := #[]) (fds : Array FieldInfo := #[]) : ClassFile where
  minorVersion := 0
  majorVersion := 65
  constantPool := pool
  accessFlags := fl
  thisClass := this
  superClass := sup
  interfaces := ifs
  fields := fds
  methods := ms
  attributes := attrs
def plain (name : String) (sup : Option ClassId) : Class where
  name := name
  kind := .ordinary
  loader := none
  accessFlags := 33
  super := sup
  interfaces := #[]
  cf := none
  fields := #[]
  methods := #[]
  instanceTypes := #[]
  staticTypes := #[]
  resolved := #[]
  callSites := []
  init := .initialized
  statics := none
  mirror := none

def pool0 : Array CpInfo := pool [(5, u "<init>"), (0, u "()V"), (1, .class_ 10), (1, u "java/lang/Object")] 113

def k0c0 : Code := { maxStack := 0, maxLocals := 1, code := object_method_1_code, exceptionTable := #[], attributes := #[] }
def k0m0 : Method := { name := "<init>", desc := "()V", sig := { parameters := [], returnType := none }, accessFlags := 1, code := some k0c0 }
/-- java/lang/Object -/
def k0 : Class := { plain "java/lang/Object" none with
  accessFlags := 33
  interfaces := #[]
  cf := some (fileOf pool0 8 #[] #[{ accessFlags := 1, nameIndex := 5, descriptorIndex := 6, attributes := #[] }] 33 0 #[] #[])
  fields := #[]
  methods := #[k0m0]
  instanceTypes := #[]
  staticTypes := #[]
  resolved := Array.replicate 124 none
  statics := none }

def pool1 : Array CpInfo := pool [(2, .class_ 4), (1, u "java/lang/Object"), (0, u "<init>"), (0, u "()V"), (0, .methodref 8 9), (0, .class_ 10), (0, .nameAndType 11 12), (0, u "java/lang/Math"), (0, u "max"), (0, u "(II)I"), (0, .class_ 14), (0, u "com/example/sidewire/sidewire/protocol/PacketHeader"), (0, .integer 65535), (0, .methodref 13 17), (0, .nameAndType 5 18), (0, u "(IIIIII)V"), (0, .methodref 20 21), (0, .class_ 22), (0, .nameAndType 23 24), (0, u "com/example/sidewire/sidewire/protocol/MonitorProtocol"), (0, u "isMonitorCommand"), (0, u "(Lcom/example/sidewire/sidewire/protocol/PacketHeader;)Z"), (0, .class_ 26), (0, u "com/example/sidewire/sidewire/protocol/MonitorProtocolIsMonitorCommandPinLaw"), (2, u "law"), (0, u "(IIIIII)Z")] 3

def k1m0 : Method := { name := "<init>", desc := "()V", sig := { parameters := [], returnType := none }, accessFlags := 2, code := none }
def k1c1 : Code := { maxStack := 9, maxLocals := 13, code := code, exceptionTable := #[], attributes := #[] }
def k1m1 : Method := { name := "law", desc := "(IIIIII)Z", sig := { parameters := [.int, .int, .int, .int, .int, .int], returnType := some .boolean }, accessFlags := 9, code := some k1c1 }
/-- com/example/sidewire/sidewire/protocol/MonitorProtocolIsMonitorCommandPinLaw -/
def k1 : Class := { plain "com/example/sidewire/sidewire/protocol/MonitorProtocolIsMonitorCommandPinLaw" (some 0) with
  accessFlags := 49
  interfaces := #[]
  cf := some (fileOf pool1 25 #[] #[{ accessFlags := 2, nameIndex := 5, descriptorIndex := 6, attributes := #[] }, { accessFlags := 9, nameIndex := 29, descriptorIndex := 30, attributes := #[] }] 49 2 #[] #[])
  fields := #[]
  methods := #[k1m0, k1m1]
  instanceTypes := #[]
  staticTypes := #[]
  resolved := Array.replicate 34 none
  statics := none }

def pool2 : Array CpInfo := pool [(1, .class_ 2), (0, u "java/lang/Math"), (1, .class_ 6), (1, u "java/lang/Object"), (0, u "<init>"), (0, u "()V"), (89, .class_ 100), (1, u "java/lang/Math$RandomNumberGeneratorHolder"), (71, u "negativeZeroFloatBits"), (0, u "J"), (2, u "negativeZeroDoubleBits"), (21, u "max"), (46, u "$assertionsDisabled"), (0, u "Z"), (88, u "(II)I"), (2, u "twoToTheDoubleScaleDown"), (0, u "D"), (4, u "twoToTheDoubleScaleUp"), (9, u "E"), (3, u "PI"), (2, u "TAU"), (2, u "DEGREES_TO_RADIANS"), (0, u "RADIANS_TO_DEGREES")] 94

def k2m0 : Method := { name := "<init>", desc := "()V", sig := { parameters := [], returnType := none }, accessFlags := 2, code := none }
def k2c1 : Code := { maxStack := 2, maxLocals := 2, code := jdk_29_method_65_code, exceptionTable := #[], attributes := #[] }
def k2m1 : Method := { name := "max", desc := "(II)I", sig := { parameters := [.int, .int], returnType := some .int }, accessFlags := 9, code := some k2c1 }
/-- java/lang/Math -/
def k2 : Class := { plain "java/lang/Math" (some 0) with
  accessFlags := 49
  interfaces := #[]
  cf := some (fileOf pool2 1 #[.nestMembers #[98]] #[{ accessFlags := 2, nameIndex := 7, descriptorIndex := 8, attributes := #[] }, { accessFlags := 9, nameIndex := 198, descriptorIndex := 335, attributes := #[] }] 49 4 #[] #[{ accessFlags := 25, nameIndex := 354, descriptorIndex := 339, attributes := #[] }, { accessFlags := 25, nameIndex := 358, descriptorIndex := 339, attributes := #[] }, { accessFlags := 25, nameIndex := 361, descriptorIndex := 339, attributes := #[] }, { accessFlags := 26, nameIndex := 364, descriptorIndex := 339, attributes := #[] }, { accessFlags := 26, nameIndex := 365, descriptorIndex := 339, attributes := #[] }, { accessFlags := 26, nameIndex := 172, descriptorIndex := 173, attributes := #[] }, { accessFlags := 26, nameIndex := 176, descriptorIndex := 173, attributes := #[] }, { accessFlags := 8, nameIndex := 344, descriptorIndex := 339, attributes := #[] }, { accessFlags := 8, nameIndex := 338, descriptorIndex := 339, attributes := #[] }, { accessFlags := 4120, nameIndex := 245, descriptorIndex := 246, attributes := #[] }])
  fields := #[{ name := "E", type := .double, accessFlags := 25, slot := 0, constantValue := 0 }, { name := "PI", type := .double, accessFlags := 25, slot := 1, constantValue := 0 }, { name := "TAU", type := .double, accessFlags := 25, slot := 2, constantValue := 0 }, { name := "DEGREES_TO_RADIANS", type := .double, accessFlags := 26, slot := 3, constantValue := 0 }, { name := "RADIANS_TO_DEGREES", type := .double, accessFlags := 26, slot := 4, constantValue := 0 }, { name := "negativeZeroFloatBits", type := .long, accessFlags := 26, slot := 5, constantValue := 0 }, { name := "negativeZeroDoubleBits", type := .long, accessFlags := 26, slot := 6, constantValue := 0 }, { name := "twoToTheDoubleScaleUp", type := .double, accessFlags := 8, slot := 7, constantValue := 0 }, { name := "twoToTheDoubleScaleDown", type := .double, accessFlags := 8, slot := 8, constantValue := 0 }, { name := "$assertionsDisabled", type := .boolean, accessFlags := 4120, slot := 9, constantValue := 0 }]
  methods := #[k2m0, k2m1]
  instanceTypes := #[]
  staticTypes := #[.double, .double, .double, .double, .double, .long, .long, .double, .double, .boolean]
  resolved := Array.replicate 460 none
  statics := none }

def pool3 : Array CpInfo := pool [(1, .methodref 2 3), (0, .class_ 4), (0, .nameAndType 5 6), (0, u "java/lang/Object"), (0, u "<init>"), (0, u "()V"), (0, .class_ 8), (0, u "java/lang/Record")] 13

def k3c0 : Code := { maxStack := 1, maxLocals := 1, code := jdk_30_method_1_code, exceptionTable := #[], attributes := #[] }
def k3m0 : Method := { name := "<init>", desc := "()V", sig := { parameters := [], returnType := none }, accessFlags := 4, code := some k3c0 }
/-- java/lang/Record -/
def k3 : Class := { plain "java/lang/Record" (some 0) with
  accessFlags := 1057
  interfaces := #[]
  cf := some (fileOf pool3 7 #[] #[{ accessFlags := 4, nameIndex := 5, descriptorIndex := 6, attributes := #[] }] 1057 2 #[] #[])
  fields := #[]
  methods := #[k3m0]
  instanceTypes := #[]
  staticTypes := #[]
  resolved := Array.replicate 22 none
  statics := none }

def pool4 : Array CpInfo := pool [(1, .methodref 2 3), (0, .class_ 4), (0, .nameAndType 5 6), (0, u "java/lang/Record"), (0, u "<init>"), (0, u "()V"), (0, .class_ 8), (0, u "com/example/sidewire/sidewire/protocol/PacketHeader"), (9, .string 19), (0, u "flags"), (0, .methodref 7 21), (0, .nameAndType 22 23), (0, u "requireRange"), (0, u "(Ljava/lang/String;II)V"), (0, .string 25), (0, u "command set"), (0, .string 27), (0, u "command"), (0, .string 29), (0, u "error code"), (0, .integer 65535), (0, .methodref 7 32), (0, .nameAndType 33 34), (0, u "marksReply"), (0, u "(I)Z"), (4, .fieldref 7 40), (0, .nameAndType 41 42), (0, u "length"), (0, u "I"), (0, .fieldref 7 44), (0, .nameAndType 45 42), (0, u "id"), (0, .fieldref 7 47), (0, .nameAndType 19 42), (0, .fieldref 7 49), (0, .nameAndType 50 42), (0, u "commandSet"), (0, .fieldref 7 52), (0, .nameAndType 27 42), (0, .fieldref 7 54), (0, .nameAndType 55 42), (0, u "errorCode"), (8, u "(IIIIII)V"), (5, u "()I"), (91, u "SIZE"), (2, u "REPLY_FLAG"), (1, u "ID_OFFSET"), (1, u "FLAGS_OFFSET"), (1, u "MAX_U1"), (1, u "MAX_U2")] 54

def k4c0 : Code := { maxStack := 3, maxLocals := 7, code := prog_37_method_1_code, exceptionTable := #[], attributes := #[] }
def k4m0 : Method := { name := "<init>", desc := "(IIIIII)V", sig := { parameters := [.int, .int, .int, .int, .int, .int], returnType := none }, accessFlags := 1, code := some k4c0 }
def k4c1 : Code := { maxStack := 2, maxLocals := 1, code := prog_37_method_9_code, exceptionTable := #[], attributes := #[] }
def k4m1 : Method := { name := "marksReply", desc := "(I)Z", sig := { parameters := [.int], returnType := some .boolean }, accessFlags := 10, code := some k4c1 }
def k4c2 : Code := { maxStack := 5, maxLocals := 3, code := prog_37_method_11_code, exceptionTable := #[], attributes := #[] }
def k4m2 : Method := { name := "requireRange", desc := "(Ljava/lang/String;II)V", sig := { parameters := [(.object "java/lang/String"), .int, .int], returnType := none }, accessFlags := 10, code := some k4c2 }
def k4c3 : Code := { maxStack := 1, maxLocals := 1, code := prog_37_method_18_code, exceptionTable := #[], attributes := #[] }
def k4m3 : Method := { name := "commandSet", desc := "()I", sig := { parameters := [], returnType := some .int }, accessFlags := 1, code := some k4c3 }
def k4c4 : Code := { maxStack := 1, maxLocals := 1, code := prog_37_method_19_code, exceptionTable := #[], attributes := #[] }
def k4m4 : Method := { name := "command", desc := "()I", sig := { parameters := [], returnType := some .int }, accessFlags := 1, code := some k4c4 }
/-- com/example/sidewire/sidewire/protocol/PacketHeader -/
def k4 : Class := { plain "com/example/sidewire/sidewire/protocol/PacketHeader" (some 3) with
  accessFlags := 49
  interfaces := #[]
  cf := some (fileOf pool4 7 #[] #[{ accessFlags := 1, nameIndex := 5, descriptorIndex := 64, attributes := #[] }, { accessFlags := 10, nameIndex := 33, descriptorIndex := 34, attributes := #[] }, { accessFlags := 10, nameIndex := 22, descriptorIndex := 23, attributes := #[] }, { accessFlags := 1, nameIndex := 50, descriptorIndex := 70, attributes := #[] }, { accessFlags := 1, nameIndex := 27, descriptorIndex := 70, attributes := #[] }] 49 2 #[] #[{ accessFlags := 18, nameIndex := 41, descriptorIndex := 42, attributes := #[] }, { accessFlags := 18, nameIndex := 45, descriptorIndex := 42, attributes := #[] }, { accessFlags := 18, nameIndex := 19, descriptorIndex := 42, attributes := #[] }, { accessFlags := 18, nameIndex := 50, descriptorIndex := 42, attributes := #[] }, { accessFlags := 18, nameIndex := 27, descriptorIndex := 42, attributes := #[] }, { accessFlags := 18, nameIndex := 55, descriptorIndex := 42, attributes := #[] }, { accessFlags := 25, nameIndex := 162, descriptorIndex := 42, attributes := #[] }, { accessFlags := 25, nameIndex := 165, descriptorIndex := 42, attributes := #[] }, { accessFlags := 26, nameIndex := 167, descriptorIndex := 42, attributes := #[] }, { accessFlags := 26, nameIndex := 169, descriptorIndex := 42, attributes := #[] }, { accessFlags := 26, nameIndex := 171, descriptorIndex := 42, attributes := #[] }, { accessFlags := 26, nameIndex := 173, descriptorIndex := 42, attributes := #[] }])
  fields := #[{ name := "length", type := .int, accessFlags := 18, slot := 0, constantValue := 0 }, { name := "id", type := .int, accessFlags := 18, slot := 1, constantValue := 0 }, { name := "flags", type := .int, accessFlags := 18, slot := 2, constantValue := 0 }, { name := "commandSet", type := .int, accessFlags := 18, slot := 3, constantValue := 0 }, { name := "command", type := .int, accessFlags := 18, slot := 4, constantValue := 0 }, { name := "errorCode", type := .int, accessFlags := 18, slot := 5, constantValue := 0 }, { name := "SIZE", type := .int, accessFlags := 25, slot := 0, constantValue := 0 }, { name := "REPLY_FLAG", type := .int, accessFlags := 25, slot := 1, constantValue := 0 }, { name := "ID_OFFSET", type := .int, accessFlags := 26, slot := 2, constantValue := 0 }, { name := "FLAGS_OFFSET", type := .int, accessFlags := 26, slot := 3, constantValue := 0 }, { name := "MAX_U1", type := .int, accessFlags := 26, slot := 4, constantValue := 0 }, { name := "MAX_U2", type := .int, accessFlags := 26, slot := 5, constantValue := 0 }]
  methods := #[k4m0, k4m1, k4m2, k4m3, k4m4]
  instanceTypes := #[.int, .int, .int, .int, .int, .int]
  staticTypes := #[.int, .int, .int, .int, .int, .int]
  resolved := Array.replicate 228 none
  statics := none }

def pool5 : Array CpInfo := pool [(1, .class_ 2), (0, u "java/io/Serializable"), (0, .class_ 4), (0, u "java/lang/Object")] 2

/-- java/io/Serializable -/
def k5 : Class := { plain "java/io/Serializable" (some 0) with
  accessFlags := 1537
  interfaces := #[]
  cf := some (fileOf pool5 1 #[] #[] 1537 3 #[] #[])
  fields := #[]
  methods := #[]
  instanceTypes := #[]
  staticTypes := #[]
  resolved := Array.replicate 7 none
  statics := none }

def pool6 : Array CpInfo := pool [(1, .class_ 2), (0, u "java/lang/Comparable"), (0, .class_ 4), (0, u "java/lang/Object")] 7

/-- java/lang/Comparable -/
def k6 : Class := { plain "java/lang/Comparable" (some 0) with
  accessFlags := 1537
  interfaces := #[]
  cf := some (fileOf pool6 1 #[] #[] 1537 3 #[] #[])
  fields := #[]
  methods := #[]
  instanceTypes := #[]
  staticTypes := #[]
  resolved := Array.replicate 12 none
  statics := none }

def pool7 : Array CpInfo := pool [(2, .class_ 4), (1, u "java/lang/CharSequence"), (42, .class_ 48), (0, u "java/lang/CharSequence$1CodePointIterator"), (10, .class_ 60), (0, u "java/lang/CharSequence$1CharIterator"), (5, .class_ 67), (0, u "java/lang/Object")] 63

/-- java/lang/CharSequence -/
def k7 : Class := { plain "java/lang/CharSequence" (some 0) with
  accessFlags := 1537
  interfaces := #[]
  cf := some (fileOf pool7 2 #[.nestMembers #[47, 59]] #[] 1537 66 #[] #[])
  fields := #[]
  methods := #[]
  instanceTypes := #[]
  staticTypes := #[]
  resolved := Array.replicate 131 none
  statics := none }

def pool8 : Array CpInfo := pool [(1, .class_ 2), (0, u "java/lang/constant/Constable"), (0, .class_ 4), (0, u "java/lang/Object")] 6

/-- java/lang/constant/Constable -/
def k8 : Class := { plain "java/lang/constant/Constable" (some 0) with
  accessFlags := 1537
  interfaces := #[]
  cf := some (fileOf pool8 1 #[] #[] 1537 3 #[] #[])
  fields := #[]
  methods := #[]
  instanceTypes := #[]
  staticTypes := #[]
  resolved := Array.replicate 11 none
  statics := none }

def pool9 : Array CpInfo := pool [(1, .class_ 2), (0, u "java/lang/constant/ConstantDesc"), (0, .class_ 4), (0, u "java/lang/Object")] 32

/-- java/lang/constant/ConstantDesc -/
def k9 : Class := { plain "java/lang/constant/ConstantDesc" (some 0) with
  accessFlags := 1537
  interfaces := #[]
  cf := some (fileOf pool9 1 #[] #[] 1537 3 #[] #[])
  fields := #[]
  methods := #[]
  instanceTypes := #[]
  staticTypes := #[]
  resolved := Array.replicate 37 none
  statics := none }

def pool10 : Array CpInfo := pool [(2, .class_ 4), (1, u "java/lang/Object"), (0, u "<init>"), (0, u "()V"), (3, .class_ 12), (1, u "java/lang/String"), (0, u "value"), (0, u "[B"), (2, u "coder"), (0, u "B"), (2, u "hash"), (0, u "I"), (2, u "hashIsZero"), (0, u "Z"), (13, u "COMPACT_STRINGS"), (534, .class_ 576), (0, u "java/lang/CharSequence"), (22, u "CASE_INSENSITIVE_ORDER"), (0, u "Ljava/util/Comparator;"), (500, u "serialPersistentFields"), (0, u "[Ljava/io/ObjectStreamField;"), (0, .class_ 1104), (0, u "java/lang/String$CaseInsensitiveComparator"), (1, .class_ 1107), (0, u "java/io/Serializable"), (0, .class_ 1109), (0, u "java/lang/Comparable"), (0, .class_ 1111), (0, u "java/lang/constant/Constable"), (0, .class_ 1113), (0, u "java/lang/constant/ConstantDesc"), (2, u "serialVersionUID"), (0, u "J"), (3, u "REPL"), (0, u "C"), (2, u "LATIN1"), (1, u "UTF16")] 323

def k10m0 : Method := { name := "<init>", desc := "()V", sig := { parameters := [], returnType := none }, accessFlags := 1, code := none }
/-- java/lang/String -/
def k10 : Class := { plain "java/lang/String" (some 0) with
  accessFlags := 49
  interfaces := #[5, 6, 7, 8, 9]
  cf := some (fileOf pool10 10 #[.nestMembers #[1103]] #[{ accessFlags := 1, nameIndex := 5, descriptorIndex := 6, attributes := #[] }] 49 2 #[1106, 1108, 575, 1110, 1112] #[{ accessFlags := 18, nameIndex := 13, descriptorIndex := 14, attributes := #[] }, { accessFlags := 18, nameIndex := 17, descriptorIndex := 18, attributes := #[] }, { accessFlags := 2, nameIndex := 21, descriptorIndex := 22, attributes := #[] }, { accessFlags := 2, nameIndex := 25, descriptorIndex := 26, attributes := #[] }, { accessFlags := 26, nameIndex := 1116, descriptorIndex := 1117, attributes := #[] }, { accessFlags := 24, nameIndex := 40, descriptorIndex := 26, attributes := #[] }, { accessFlags := 26, nameIndex := 1101, descriptorIndex := 1102, attributes := #[] }, { accessFlags := 26, nameIndex := 1121, descriptorIndex := 1122, attributes := #[] }, { accessFlags := 25, nameIndex := 599, descriptorIndex := 600, attributes := #[] }, { accessFlags := 24, nameIndex := 1125, descriptorIndex := 18, attributes := #[] }, { accessFlags := 24, nameIndex := 1127, descriptorIndex := 18, attributes := #[] }])
  fields := #[{ name := "value", type := (.array .byte), accessFlags := 18, slot := 0, constantValue := 0 }, { name := "coder", type := .byte, accessFlags := 18, slot := 1, constantValue := 0 }, { name := "hash", type := .int, accessFlags := 2, slot := 2, constantValue := 0 }, { name := "hashIsZero", type := .boolean, accessFlags := 2, slot := 3, constantValue := 0 }, { name := "serialVersionUID", type := .long, accessFlags := 26, slot := 0, constantValue := 0 }, { name := "COMPACT_STRINGS", type := .boolean, accessFlags := 24, slot := 1, constantValue := 0 }, { name := "serialPersistentFields", type := (.array (.object "java/io/ObjectStreamField")), accessFlags := 26, slot := 2, constantValue := 0 }, { name := "REPL", type := .char, accessFlags := 26, slot := 3, constantValue := 0 }, { name := "CASE_INSENSITIVE_ORDER", type := (.object "java/util/Comparator"), accessFlags := 25, slot := 4, constantValue := 0 }, { name := "LATIN1", type := .byte, accessFlags := 24, slot := 5, constantValue := 0 }, { name := "UTF16", type := .byte, accessFlags := 24, slot := 6, constantValue := 0 }]
  methods := #[k10m0]
  instanceTypes := #[(.array .byte), .byte, .int, .boolean]
  staticTypes := #[.long, .boolean, (.array (.object "java/io/ObjectStreamField")), .char, (.object "java/util/Comparator"), .byte, .byte]
  resolved := Array.replicate 1451 none
  statics := none }

def pool11 : Array CpInfo := pool [(2, .class_ 4), (1, u "java/lang/Object"), (0, u "<init>"), (0, u "()V"), (0, .class_ 8), (0, u "com/example/sidewire/sidewire/protocol/MonitorProtocol"), (4, u "HELLO"), (0, u "I"), (23, u "command"), (31, u "DEBUGGER_GONE"), (3, u "()I"), (13, .class_ 90), (1, u "com/example/sidewire/sidewire/protocol/PacketHeader"), (45, .methodref 88 137), (0, .nameAndType 138 74), (0, u "commandSet"), (0, .methodref 88 140), (0, .nameAndType 38 74), (56, u "FAIL"), (2, u "COMMAND_SET"), (2, u "COMMAND"), (1, u "VERSION"), (0, u "THREAD_STATUS_PERIOD_MILLIS"), (14, u "isMonitorCommand"), (0, u "(Lcom/example/sidewire/sidewire/protocol/PacketHeader;)Z")] 21

def k11m0 : Method := { name := "<init>", desc := "()V", sig := { parameters := [], returnType := none }, accessFlags := 2, code := none }
def k11c1 : Code := { maxStack := 2, maxLocals := 1, code := prog_34_method_7_code, exceptionTable := #[], attributes := #[] }
def k11m1 : Method := { name := "isMonitorCommand", desc := "(Lcom/example/sidewire/sidewire/protocol/PacketHeader;)Z", sig := { parameters := [(.object "com/example/sidewire/sidewire/protocol/PacketHeader")], returnType := some .boolean }, accessFlags := 9, code := some k11c1 }
/-- com/example/sidewire/sidewire/protocol/MonitorProtocol -/
def k11 : Class := { plain "com/example/sidewire/sidewire/protocol/MonitorProtocol" (some 0) with
  accessFlags := 33
  interfaces := #[]
  cf := some (fileOf pool11 7 #[] #[{ accessFlags := 2, nameIndex := 5, descriptorIndex := 6, attributes := #[] }, { accessFlags := 9, nameIndex := 221, descriptorIndex := 222, attributes := #[] }] 33 2 #[] #[{ accessFlags := 25, nameIndex := 200, descriptorIndex := 14, attributes := #[] }, { accessFlags := 25, nameIndex := 203, descriptorIndex := 14, attributes := #[] }, { accessFlags := 25, nameIndex := 205, descriptorIndex := 14, attributes := #[] }, { accessFlags := 25, nameIndex := 13, descriptorIndex := 14, attributes := #[] }, { accessFlags := 25, nameIndex := 70, descriptorIndex := 14, attributes := #[] }, { accessFlags := 25, nameIndex := 197, descriptorIndex := 14, attributes := #[] }, { accessFlags := 25, nameIndex := 206, descriptorIndex := 14, attributes := #[] }])
  fields := #[{ name := "COMMAND_SET", type := .int, accessFlags := 25, slot := 0, constantValue := 0 }, { name := "COMMAND", type := .int, accessFlags := 25, slot := 1, constantValue := 0 }, { name := "VERSION", type := .int, accessFlags := 25, slot := 2, constantValue := 0 }, { name := "HELLO", type := .int, accessFlags := 25, slot := 3, constantValue := 0 }, { name := "DEBUGGER_GONE", type := .int, accessFlags := 25, slot := 4, constantValue := 0 }, { name := "FAIL", type := .int, accessFlags := 25, slot := 5, constantValue := 0 }, { name := "THREAD_STATUS_PERIOD_MILLIS", type := .int, accessFlags := 25, slot := 6, constantValue := 0 }]
  methods := #[k11m0, k11m1]
  instanceTypes := #[]
  staticTypes := #[.int, .int, .int, .int, .int, .int, .int]
  resolved := Array.replicate 244 none
  statics := none }

def pool12 : Array CpInfo := pool [(1, u "java/lang/Cloneable"), (0, .class_ 1), (0, u "java/lang/Object"), (0, .class_ 3)] 3

/-- java/lang/Cloneable -/
def k12 : Class := { plain "java/lang/Cloneable" (some 0) with
  accessFlags := 1537
  interfaces := #[]
  cf := some (fileOf pool12 2 #[] #[] 1537 4 #[] #[])
  fields := #[]
  methods := #[]
  instanceTypes := #[]
  staticTypes := #[]
  resolved := Array.replicate 8 none
  statics := none }

/-- the primitive byte -/
def k13 : Class := { plain "byte" none with kind := .primitive 'B', accessFlags := 0x411 }
/-- [B -/
def k14 : Class := { plain "[B" (some 0) with kind := .array 13 .byte, interfaces := #[12, 5], accessFlags := 1041 }

/-- the primitive int -/
def k15 : Class := { plain "int" none with kind := .primitive 'I', accessFlags := 0x411 }
/-- [I -/
def k16 : Class := { plain "[I" (some 0) with kind := .array 15 .int, interfaces := #[12, 5], accessFlags := 1041 }

def heap : Heap := #[]
def classes : Array Class := #[k0, k1, k2, k3, k4, k5, k6, k7, k8, k9, k10, k11, k12, k13, k14, k15, k16]
def interned : List (Array UInt16 × Addr) := []
def slotsUsed : Nat := 0
def theMethod : MethodId := ⟨1, 1⟩
def args0 : Array Value := #[.int 5, .int 3, .int 1, .int 1, .int 1, .int 3]
def aboutOver (below : List Frame) : State where
  vm := { classes := classes, interned := interned.toArray }
  heap := heap
  slotsUsed := slotsUsed
  threads := #[{ frames := .invoking theMethod args0 :: below }]
def below0 : List Frame := [.native { method := ⟨0, 0⟩, args := #[] }]
def about1 : State := aboutOver below0
def p0 : Program := .bare "" "" ""
def e0 : Env := launch0.env 0 0 0
theorem w_frames : about1.frames = Frame.invoking theMethod args0 :: below0 := rfl
set_option maxRecDepth 65536 in
theorem w_args : argsFit about1.vm theMethod args0 = true := by decide +kernel
set_option maxRecDepth 65536 in
theorem w_heap : heapFits about1 = true := by decide +kernel
set_option maxRecDepth 65536 in
theorem w_runnable : about1.curStatus? = some .runnable := by decide +kernel
set_option maxRecDepth 65536 in
theorem w_alone : about1.alone = true := by decide +kernel
set_option maxRecDepth 65536 in
theorem w_named : about1.methodNamed? x = some theMethod := by decide +kernel
set_option maxRecDepth 65536 in
theorem w_hears : about1.hears theMethod below0 = true := by decide +kernel
set_option maxRecDepth 65536 in
theorem w_ripe : about1.ripe theMethod args0 below0 = true := by decide +kernel
theorem w_running : about1.status = .running := rfl
set_option maxRecDepth 65536 in
theorem w_room : about1.hasRoom e0.platform room_1 = true :=
  launch0.hasRoom_least _ room_1 (by decide +kernel) (by decide +kernel) (by decide +kernel) (by decide +kernel) (by decide +kernel) (by decide +kernel)
theorem allAtoms_all (ts : List Jvm.Cond) (a : Array Jvm.Value) (st : Jvm.State) : (allAtoms ts).before a st = ts.all (fun c => c.before a st) := by
  induction ts with
  | nil => rfl
  | cons c t ih =>
    show (Jvm.Cond.and c (allAtoms t)).before a st = _
    rw [Jvm.Cond.before_and, ih, List.all_cons]
def words1 : List Jvm.Cond := Jvm.Cond.code x code maxLocals ret :: tables_1
/-- a 'code' word, met by the world's own term for the bytes: nothing is compared byte by byte -/
theorem code_word {y : MethodName} {bytes : ByteArray} {mx : Nat} {rt : Option FieldType} {a : Array Value} {s : State} {m : MethodId} {meth : Method} {c : Code} (h1 : s.methodNamed? y = some m) (h2 : s.vm.method? m = some meth) (h3 : meth.code = some c) (h4 : c.code = bytes)
    (h5 : (c.maxLocals == mx && c.exceptionTable.isEmpty && decide (c.maxStack ≤ mostOperands) && decide (meth.sig.returnType = rt) && !meth.locks && decide (parseMethodDescriptor y.desc = some meth.sig)) = true) : (Jvm.Cond.code y bytes mx rt).before a s = true := by
  simp only [Bool.and_eq_true, beq_iff_eq, Bool.not_eq_true', decide_eq_true_eq] at h5
  obtain ⟨⟨⟨⟨⟨g1, g2⟩, g3⟩, g4⟩, g5⟩, g6⟩ := h5
  simp [Cond.before, Cond.holds, Cond.value, h1, h2, h3, h4, g1, g2, g3, g4, g5, g6]
def isCode : Jvm.Cond → Bool
  | .code _ _ _ _ => true
  | _ => false
theorem all_split {L : List Jvm.Cond} {P : Jvm.Cond → Bool} (h1 : L.all (fun c => isCode c || P c) = true) (h2 : ∀ c ∈ L.filter isCode, P c = true) : L.all P = true := by
  refine List.all_eq_true.mpr fun c hc => ?_
  have h := List.all_eq_true.mp h1 c hc
  rcases Bool.eq_false_or_eq_true (isCode c) with hi | hi
  · exact h2 c (List.mem_filter.mpr ⟨hc, hi⟩)
  · simpa [hi] using h
set_option maxRecDepth 65536 in
theorem w_c0 : (Jvm.Cond.code x code maxLocals ret).before args0 about1 = true := code_word (m := ⟨1, 1⟩) (meth := k1m1) (c := k1c1) (by decide +kernel) rfl rfl rfl (by decide +kernel)
set_option maxRecDepth 65536 in
theorem w_c1 : (Jvm.Cond.code ({ cls := "java/lang/Math", name := "max", desc := "(II)I" } : Jvm.MethodName) jdk_29_method_65_code (2 : Nat) (Option.some Jvm.ClassFile.FieldType.int)).before args0 about1 = true := code_word (m := ⟨2, 1⟩) (meth := k2m1) (c := k2c1) (by decide +kernel) rfl rfl rfl (by decide +kernel)
set_option maxRecDepth 65536 in
theorem w_c2 : (Jvm.Cond.code ({ cls := "com/example/sidewire/sidewire/protocol/PacketHeader", name := "<init>", desc := "(IIIIII)V" } : Jvm.MethodName) prog_37_method_1_code (7 : Nat) (Option.none : Option Jvm.ClassFile.FieldType)).before args0 about1 = true := code_word (m := ⟨4, 0⟩) (meth := k4m0) (c := k4c0) (by decide +kernel) rfl rfl rfl (by decide +kernel)
set_option maxRecDepth 65536 in
theorem w_c3 : (Jvm.Cond.code ({ cls := "java/lang/Record", name := "<init>", desc := "()V" } : Jvm.MethodName) jdk_30_method_1_code (1 : Nat) (Option.none : Option Jvm.ClassFile.FieldType)).before args0 about1 = true := code_word (m := ⟨3, 0⟩) (meth := k3m0) (c := k3c0) (by decide +kernel) rfl rfl rfl (by decide +kernel)
set_option maxRecDepth 65536 in
theorem w_c4 : (Jvm.Cond.code ({ cls := "java/lang/Object", name := "<init>", desc := "()V" } : Jvm.MethodName) object_method_1_code (1 : Nat) (Option.none : Option Jvm.ClassFile.FieldType)).before args0 about1 = true := code_word (m := ⟨0, 0⟩) (meth := k0m0) (c := k0c0) (by decide +kernel) rfl rfl rfl (by decide +kernel)
set_option maxRecDepth 65536 in
theorem w_c5 : (Jvm.Cond.code ({ cls := "com/example/sidewire/sidewire/protocol/PacketHeader", name := "requireRange", desc := "(Ljava/lang/String;II)V" } : Jvm.MethodName) prog_37_method_11_code (3 : Nat) (Option.none : Option Jvm.ClassFile.FieldType)).before args0 about1 = true := code_word (m := ⟨4, 2⟩) (meth := k4m2) (c := k4c2) (by decide +kernel) rfl rfl rfl (by decide +kernel)
set_option maxRecDepth 65536 in
theorem w_c6 : (Jvm.Cond.code ({ cls := "com/example/sidewire/sidewire/protocol/PacketHeader", name := "marksReply", desc := "(I)Z" } : Jvm.MethodName) prog_37_method_9_code (1 : Nat) (Option.some Jvm.ClassFile.FieldType.boolean)).before args0 about1 = true := code_word (m := ⟨4, 1⟩) (meth := k4m1) (c := k4c1) (by decide +kernel) rfl rfl rfl (by decide +kernel)
set_option maxRecDepth 65536 in
theorem w_c7 : (Jvm.Cond.code ({ cls := "com/example/sidewire/sidewire/protocol/MonitorProtocol", name := "isMonitorCommand", desc := "(Lcom/example/sidewire/sidewire/protocol/PacketHeader;)Z" } : Jvm.MethodName) prog_34_method_7_code (1 : Nat) (Option.some Jvm.ClassFile.FieldType.boolean)).before args0 about1 = true := code_word (m := ⟨11, 1⟩) (meth := k11m1) (c := k11c1) (by decide +kernel) rfl rfl rfl (by decide +kernel)
set_option maxRecDepth 65536 in
theorem w_c8 : (Jvm.Cond.code ({ cls := "com/example/sidewire/sidewire/protocol/PacketHeader", name := "commandSet", desc := "()I" } : Jvm.MethodName) prog_37_method_18_code (1 : Nat) (Option.some Jvm.ClassFile.FieldType.int)).before args0 about1 = true := code_word (m := ⟨4, 3⟩) (meth := k4m3) (c := k4c3) (by decide +kernel) rfl rfl rfl (by decide +kernel)
set_option maxRecDepth 65536 in
theorem w_c9 : (Jvm.Cond.code ({ cls := "com/example/sidewire/sidewire/protocol/PacketHeader", name := "command", desc := "()I" } : Jvm.MethodName) prog_37_method_19_code (1 : Nat) (Option.some Jvm.ClassFile.FieldType.int)).before args0 about1 = true := code_word (m := ⟨4, 4⟩) (meth := k4m4) (c := k4c4) (by decide +kernel) rfl rfl rfl (by decide +kernel)
def codes1 : List Jvm.Cond := [Jvm.Cond.code x code maxLocals ret, Jvm.Cond.code ({ cls := "java/lang/Math", name := "max", desc := "(II)I" } : Jvm.MethodName) jdk_29_method_65_code (2 : Nat) (Option.some Jvm.ClassFile.FieldType.int), Jvm.Cond.code ({ cls := "com/example/sidewire/sidewire/protocol/PacketHeader", name := "<init>", desc := "(IIIIII)V" } : Jvm.MethodName) prog_37_method_1_code (7 : Nat) (Option.none : Option Jvm.ClassFile.FieldType), Jvm.Cond.code ({ cls := "java/lang/Record", name := "<init>", desc := "()V" } : Jvm.MethodName) jdk_30_method_1_code (1 : Nat) (Option.none : Option Jvm.ClassFile.FieldType), Jvm.Cond.code ({ cls := "java/lang/Object", name := "<init>", desc := "()V" } : Jvm.MethodName) object_method_1_code (1 : Nat) (Option.none : Option Jvm.ClassFile.FieldType), Jvm.Cond.code ({ cls := "com/example/sidewire/sidewire/protocol/PacketHeader", name := "requireRange", desc := "(Ljava/lang/String;II)V" } : Jvm.MethodName) prog_37_method_11_code (3 : Nat) (Option.none : Option Jvm.ClassFile.FieldType), Jvm.Cond.code ({ cls := "com/example/sidewire/sidewire/protocol/PacketHeader", name := "marksReply", desc := "(I)Z" } : Jvm.MethodName) prog_37_method_9_code (1 : Nat) (Option.some Jvm.ClassFile.FieldType.boolean), Jvm.Cond.code ({ cls := "com/example/sidewire/sidewire/protocol/MonitorProtocol", name := "isMonitorCommand", desc := "(Lcom/example/sidewire/sidewire/protocol/PacketHeader;)Z" } : Jvm.MethodName) prog_34_method_7_code (1 : Nat) (Option.some Jvm.ClassFile.FieldType.boolean), Jvm.Cond.code ({ cls := "com/example/sidewire/sidewire/protocol/PacketHeader", name := "commandSet", desc := "()I" } : Jvm.MethodName) prog_37_method_18_code (1 : Nat) (Option.some Jvm.ClassFile.FieldType.int), Jvm.Cond.code ({ cls := "com/example/sidewire/sidewire/protocol/PacketHeader", name := "command", desc := "()I" } : Jvm.MethodName) prog_37_method_19_code (1 : Nat) (Option.some Jvm.ClassFile.FieldType.int)]
set_option maxRecDepth 65536 in
theorem codes_eq : words1.filter isCode = codes1 := rfl
theorem w_codes : ∀ c ∈ words1.filter isCode, c.before args0 about1 = true := by
  rw [codes_eq]
  intro c hc
  simp only [codes1, List.mem_cons, List.not_mem_nil, or_false] at hc
  rcases hc with rfl | rfl | rfl | rfl | rfl | rfl | rfl | rfl | rfl | rfl
  · exact w_c0
  · exact w_c1
  · exact w_c2
  · exact w_c3
  · exact w_c4
  · exact w_c5
  · exact w_c6
  · exact w_c7
  · exact w_c8
  · exact w_c9
set_option maxRecDepth 65536 in
theorem w_t1 : (words1.take 24).all (fun c => isCode c || c.before args0 about1) = true := by decide +kernel
set_option maxRecDepth 65536 in
theorem w_t2 : ((words1.drop 24).take 24).all (fun c => isCode c || c.before args0 about1) = true := by decide +kernel
set_option maxRecDepth 65536 in
theorem w_t3 : ((words1.drop 24).drop 24).all (fun c => isCode c || c.before args0 about1) = true := by decide +kernel
theorem w_tables : (allAtoms (Jvm.Cond.code x code maxLocals ret :: tables_1)).before args0 about1 = true := by
  rw [allAtoms_all]
  show words1.all (fun c => c.before args0 about1) = true
  refine all_split ?_ w_codes
  rw [← List.take_append_drop 24 words1, List.all_append, w_t1, ← List.take_append_drop 24 (words1.drop 24), List.all_append, w_t2, w_t3]
  rfl
set_option maxRecDepth 65536 in
theorem w_case : (Jvm.Cond.and given_1 narrow_1).before args0 about1 = true := by decide +kernel
theorem w_applies : (headSpec (Jvm.Cond.code x code maxLocals ret :: tables_1) room_1).applies x e0.platform about1 = true :=
  (Spec.applies_iff w_frames).mpr ⟨w_running, w_runnable, w_alone, w_named, w_hears, w_ripe, w_room, w_tables⟩
theorem atStart : AtStart classFile x code maxLocals ret World_1 tables_1 room_1 Calls_1 rest_1 Pre_1 launch0 p0 e0 about1 theMethod args0 below0 :=
  ⟨lists_1, trivial, launch0.admits_env _ _ _, launch0.least_env, fairChoices_fair.cas, fairChoices_fair.clock, w_frames, w_args, w_heap, w_applies, trivial, trivial, w_case⟩
end start1
theorem witness_1 : WitnessClaimed_1 := ⟨start1.p0, start1.e0, start1.about1, start1.theMethod, start1.args0, start1.below0, start1.atStart⟩
end Jvm.Pilot.@@N@@
