import JvmDerived
import JvmDerived.Pilot.@@N@@Statement
import JvmDerived.Pilot.@@N@@Code
set_option linter.unusedVariables false
set_option linter.unusedSimpArgs false
namespace Jvm.Pilot.@@N@@
open Jvm Jvm.ClassFile Sem Op Lib Jvm.Free Jvm.Stand Jvm.LawKit Jvm.RoadKit Bundle Jvm.Pilot.@@N@@.Jvm.D
section Own
variable {p : Program} {l : Launch} {e : Env} {R : Room} {s : State} {m : MethodId} {args : Array Value} {below : List Frame} {meth : Method} {c : Code} {T : State} {locs : List Loc} {cells slots : Nat} {C N : Nat} {Q : Option Value → Heap → List Loc → Prop} {S S' : State} {Z : State} {h h' : Heap}
/-- from the state S the invocation ends in a return, and Q holds there -/
def Go (p : Program) (e : Env) (below : List Frame) (s : State) (C N : Nat) (Q : Option Value → Heap → List Loc → Prop) (S : State) : Prop :=
  ∃ s₂ o, Steps p.tables e below S s₂ ∧ s₂.status = .running ∧ Ended s₂ below o ∧ ∃ v L, o = .returned v ∧ Q v s₂.heap L ∧ FrameEnd s o s₂ L C N
theorem Go.step (st : ∀ t, Steps p.tables e below S' t → Steps p.tables e below S t) (G : Go p e below s C N Q S') : Go p e below s C N Q S := by
  obtain ⟨s₂, o, h, r⟩ := G
  exact ⟨s₂, o, st _ h, r⟩
theorem Go.tr (st : Steps p.tables e below S S') (G : Go p e below s C N Q S') : Go p e below s C N Q S := by
  obtain ⟨s₂, o, h, r⟩ := G
  exact ⟨s₂, o, st.trans h, r⟩
theorem Go.out (X : Stand p l e R s m args below meth c T locs cells slots) {v : Option Value} {g : JFrame} (hv : meth.sig.returnType = none → v = none) (hlk : meth.locks = false)
    (hst : ∀ fs, (∀ (f : JFrame) (acts : List Action), f.method = m → f.locked = none → f.entered = [] → (doReturn e (T.setTop f) acts v).1 = T.setFrames fs) → Steps p.tables e below (T.setTop g) (T.setFrames fs))
    (hQ : Q v T.heap locs) (hc : cells ≤ C) (hn : slots ≤ N) : Go p e below s C N Q (T.setTop g) := by
  obtain ⟨fs, hr, hrun, hended, hW, hsame⟩ := X.leave (v := v) hv hlk
  exact ⟨_, _, hst fs hr, hrun, hended, _, _, rfl, hQ, ⟨_, rfl⟩, hW, hsame.mono hc hn⟩
theorem Go.retV (X : Stand p l e R s m args below meth c T locs cells slots) (hx : p.tables.exec = Jvm.exec) {pc : Nat} {Ls : Array Slot} (hret : meth.sig.returnType = none) (hlk : meth.locks = false) (hd : decode c.code pc = .ok (.return_, 1))
    (hQ : Q none T.heap locs) (hc : cells ≤ C) (hn : slots ≤ N) : Go p e below s C N Q (T.setTop (mkF m pc Ls [])) :=
  Go.out X (fun _ => rfl) hlk (fun fs hr => X.returnOut hx hret hd hr) hQ hc hn
theorem Go.retI (X : Stand p l e R s m args below meth c T locs cells slots) (hx : p.tables.exec = Jvm.exec) {pc : Nat} {Ls : Array Slot} {z : Int32} {rest : List Value} (hret : meth.sig.returnType = some .int) (hlk : meth.locks = false) (hd : decode c.code pc = .ok (.ireturn, 1))
    (hQ : Q (some (.int z)) T.heap locs) (hc : cells ≤ C) (hn : slots ≤ N) : Go p e below s C N Q (T.setTop (mkF m pc Ls (.int z :: rest))) :=
  Go.out X (fun h => by rw [hret] at h; cases h) hlk (fun fs hr => retOut X hx hret rfl (Or.inl ⟨rfl, Or.inl rfl, z, rfl⟩) hd hr) hQ hc hn
theorem Go.retN (X : Stand p l e R s m args below meth c T locs cells slots) (hx : p.tables.exec = Jvm.exec) {pc : Nat} {Ls : Array Slot} {z : Int32} {t : FieldType} {rest : List Value} (hret : meth.sig.returnType = some t) (ht : t = .boolean ∨ t = .byte ∨ t = .char ∨ t = .short) (hlk : meth.locks = false) (hd : decode c.code pc = .ok (.ireturn, 1))
    (hQ : Q (some (.int (nar t z))) T.heap locs) (hc : cells ≤ C) (hn : slots ≤ N) : Go p e below s C N Q (T.setTop (mkF m pc Ls (.int z :: rest))) :=
  Go.out X (fun h => by rw [hret] at h; cases h) hlk (fun fs hr => Jvm.RoadKit.retN X hx hret ht hd hr) hQ hc hn
theorem Go.retJ (X : Stand p l e R s m args below meth c T locs cells slots) (hx : p.tables.exec = Jvm.exec) {pc : Nat} {Ls : Array Slot} {z : Int64} {rest : List Value} (hret : meth.sig.returnType = some .long) (hlk : meth.locks = false) (hd : decode c.code pc = .ok (.lreturn, 1))
    (hQ : Q (some (.long z)) T.heap locs) (hc : cells ≤ C) (hn : slots ≤ N) : Go p e below s C N Q (T.setTop (mkF m pc Ls (.long z :: rest))) :=
  Go.out X (fun h => by rw [hret] at h; cases h) hlk (fun fs hr => retOut X hx hret rfl (Or.inr (Or.inl ⟨rfl, rfl, z, rfl⟩)) hd hr) hQ hc hn
theorem Go.retA (X : Stand p l e R s m args below meth c T locs cells slots) (hx : p.tables.exec = Jvm.exec) {pc : Nat} {Ls : Array Slot} {w : Value} {t : FieldType} {rest : List Value} (hret : meth.sig.returnType = some t) (ht : t.isReference = true) (hw : w.isRef = true) (hlk : meth.locks = false) (hd : decode c.code pc = .ok (.areturn, 1))
    (hQ : Q (some w) T.heap locs) (hc : cells ≤ C) (hn : slots ≤ N) : Go p e below s C N Q (T.setTop (mkF m pc Ls (w :: rest))) :=
  Go.out X (fun h => by rw [hret] at h; cases h) hlk (fun fs hr => retOut X hx hret (by rcases ref_cases hw with rfl | ⟨a, rfl⟩ <;> cases t <;> first | rfl | cases ht) (Or.inr (Or.inr (Or.inr (Or.inr ⟨rfl, ht, hw⟩)))) hd hr) hQ hc hn
/-- an array of ints, bytes ..: z places, the j-th holds f j -/
def Ai (Z : State) (h : Heap) (a : Addr) (ty : FieldType) (z : Int32) (f : Int32 → Int32) : Prop :=
  ∃ c : Cell, Arr Z h a c ty ∧ c.slots.size = z.toNatClampNeg ∧ ¬ z < 0 ∧ ∀ j : Int32, ¬ j < 0 → j < z → c.slots[j.toNatClampNeg]? = some (.int (f j))
theorem own_inb {cl : Cell} {z j : Int32} (S : cl.slots.size = z.toNatClampNeg) (h0 : ¬ j < 0) (h1 : j < z) : ¬ (j < 0 ∨ cl.slots.size ≤ j.toNatClampNeg) := inb_of S ⟨h0, h1⟩
theorem Ai.lt {a : Addr} {ty : FieldType} {z : Int32} {f : Int32 → Int32} (F : Ai Z h a ty z f) : a < h.size := by obtain ⟨c, A, -⟩ := F; exact A.lt
theorem Ai.nn {a : Addr} {ty : FieldType} {z : Int32} {f : Int32 → Int32} (F : Ai Z h a ty z f) : ¬ z < 0 := by obtain ⟨c, -, -, q, -⟩ := F; exact q
theorem Ai.ext {a : Addr} {ty : FieldType} {z : Int32} {f : Int32 → Int32} (F : Ai Z h a ty z f) (E : Ext h h') : Ai Z h' a ty z f := by obtain ⟨c, A, r⟩ := F; exact ⟨c, A.ext E, r⟩
theorem Ai.other {a b : Addr} {sl : Nat} {v : Value} {ty : FieldType} {z : Int32} {f : Int32 → Int32} (F : Ai Z h b ty z f) (W : Wr h h' a sl v) (q : b ≠ a) : Ai Z h' b ty z f := by obtain ⟨c, A, r⟩ := F; exact ⟨c, A.other W q, r⟩
theorem Ai.keep {a : Addr} {ws : List Addr} {ty : FieldType} {z : Int32} {f : Int32 → Int32} (F : Ai Z h a ty z f) (K : Keep h h' ws) (q : a ∉ ws) : Ai Z h' a ty z f := by obtain ⟨c, A, r⟩ := F; exact ⟨c, ⟨K.2.1 a c A.1 q, A.2⟩, r⟩
theorem Ai.new {a : Addr} {k : ClassId} {ty : FieldType} {z : Int32} (A : Arr Z h a (newA k ty z) ty) (q : ¬ z < 0) (hd : defaultValue ty = .int 0) : Ai Z h a ty z (fun _ => 0) :=
  ⟨_, A, sz_new _ _ _, q, fun j h0 h1 => by rw [get_new (sz_new k ty z ▸ own_inb (sz_new k ty z) h0 h1), hd]⟩
theorem Ai.eqf {a : Addr} {ty : FieldType} {z : Int32} {f g : Int32 → Int32} (F : Ai Z h a ty z f) (q : ∀ j : Int32, ¬ j < 0 → j < z → f j = g j) : Ai Z h a ty z g := by
  obtain ⟨c, A, S, n, H⟩ := F; exact ⟨c, A, S, n, fun j h0 h1 => by rw [← q j h0 h1]; exact H j h0 h1⟩
theorem Ai.set {a : Addr} {ty : FieldType} {z j x : Int32} {f : Int32 → Int32} (F : Ai Z h a ty z f) (h0 : ¬ j < 0) (h1 : j < z) (W : Wr h h' a j.toNatClampNeg (.int x)) : Ai Z h' a ty z (fun i => if i = j then x else f i) := by
  obtain ⟨c, A, S, n, H⟩ := F
  refine ⟨_, A.same W, by rw [sz_set]; exact S, n, fun i g0 g1 => ?_⟩
  by_cases e : i = j
  · rw [get_hit (own_inb S h0 h1) e]; simp [e]
  · rw [get_miss h0 g0 e, H i g0 g1]; simp [e]
theorem Ai.len (X : Stand p l e R s m args below meth c T locs cells slots) (hx : p.tables.exec = Jvm.exec) (hZ : Z.Warmed39 s.vm) (eT : T.heap = h) {a : Addr} {ty : FieldType} {z : Int32} {f : Int32 → Int32} (F : Ai Z h a ty z f)
    {g : JFrame} (hg : g.method = m) {rest : List Value} (hs : g.stack = .ref a :: rest) (hd : decode c.code g.pc = .ok (.arraylength, 1)) : ∀ target, Steps p.tables e below (T.setTop { g with pc := g.pc + 1, stack := .int z :: rest }) target → Steps p.tables e below (T.setTop g) target := by
  obtain ⟨cl, A, S, n, H⟩ := F
  intro t k
  refine X.arraylength hx (by rw [eT]; exact A.1) (State.isArrayOf_alike hZ.alike A.2.1) hg hs hd _ ?_
  rw [len_of S n]; exact k
theorem Ai.iaload (X : Stand p l e R s m args below meth c T locs cells slots) (hx : p.tables.exec = Jvm.exec) (hZ : Z.Warmed39 s.vm) (eT : T.heap = h) {a : Addr} {z j : Int32} {f : Int32 → Int32} (F : Ai Z h a .int z f) (h0 : ¬ j < 0) (h1 : j < z)
    {g : JFrame} (hg : g.method = m) {rest : List Value} (hs : g.stack = .int j :: .ref a :: rest) (hd : decode c.code g.pc = .ok (.iaload, 1)) : ∀ target, Steps p.tables e below (T.setTop { g with pc := g.pc + 1, stack := .int (f j) :: rest }) target → Steps p.tables e below (T.setTop g) target := by
  obtain ⟨cl, A, S, n, H⟩ := F
  exact X.iaload hx (by rw [eT]; exact A.1) (State.isArrayOf_alike hZ.alike A.2.1) A.2.2 (own_inb S h0 h1) (H j h0 h1) hg hs hd
theorem Ai.baload (X : Stand p l e R s m args below meth c T locs cells slots) (hx : p.tables.exec = Jvm.exec) (hZ : Z.Warmed39 s.vm) (eT : T.heap = h) {a : Addr} {z j : Int32} {f : Int32 → Int32} (F : Ai Z h a .byte z f) (h0 : ¬ j < 0) (h1 : j < z)
    {g : JFrame} (hg : g.method = m) {rest : List Value} (hs : g.stack = .int j :: .ref a :: rest) (hd : decode c.code g.pc = .ok (.baload, 1)) : ∀ target, Steps p.tables e below (T.setTop { g with pc := g.pc + 1, stack := .int (f j) :: rest }) target → Steps p.tables e below (T.setTop g) target := by
  obtain ⟨cl, A, S, n, H⟩ := F
  exact X.baloadBytes hx (by rw [eT]; exact A.1) (State.isArrayOf_alike hZ.alike A.2.1) A.2.2 (own_inb S h0 h1) (H j h0 h1) hg hs hd
theorem Ai.stI (X : Stand p l e R s m args below meth c T locs cells slots) (hx : p.tables.exec = Jvm.exec) (hZ : Z.Warmed39 s.vm) (eT : T.heap = h) {a : Addr} {z j x : Int32} {f : Int32 → Int32} (F : Ai Z h a .int z f) (h0 : ¬ j < 0) (h1 : j < z)
    {g : JFrame} (hg : g.method = m) {rest : List Value} (hs : g.stack = .int x :: .int j :: .ref a :: rest) (hd : decode c.code g.pc = .ok (.iastore, 1)) :
    ∃ T' h', Stand p l e R s m args below meth c T' (locs ++ [⟨a, j.toNatClampNeg⟩]) cells slots ∧ T'.heap = h' ∧ Wr h h' a j.toNatClampNeg (.int x) ∧ Ai Z h' a .int z (fun i => if i = j then x else f i) ∧ ∀ target, Steps p.tables e below (T'.setTop { g with pc := g.pc + 1, stack := rest }) target → Steps p.tables e below (T.setTop g) target := by
  obtain ⟨cl, A, S, n, H⟩ := F
  obtain ⟨T', h', X', e', W, st⟩ := Jvm.RoadKit.stI X hx hZ eT A (own_inb S h0 h1) hg hs hd
  exact ⟨T', h', X', e', W, Ai.set ⟨cl, A, S, n, H⟩ h0 h1 W, st⟩
theorem Ai.stB (X : Stand p l e R s m args below meth c T locs cells slots) (hx : p.tables.exec = Jvm.exec) (hZ : Z.Warmed39 s.vm) (eT : T.heap = h) {a : Addr} {z j x : Int32} {f : Int32 → Int32} (F : Ai Z h a .byte z f) (h0 : ¬ j < 0) (h1 : j < z)
    {g : JFrame} (hg : g.method = m) {rest : List Value} (hs : g.stack = .int x :: .int j :: .ref a :: rest) (hd : decode c.code g.pc = .ok (.bastore, 1)) :
    ∃ T' h', Stand p l e R s m args below meth c T' (locs ++ [⟨a, j.toNatClampNeg⟩]) cells slots ∧ T'.heap = h' ∧ Wr h h' a j.toNatClampNeg (.int (nar .byte x)) ∧ Ai Z h' a .byte z (fun i => if i = j then nar .byte x else f i) ∧ ∀ target, Steps p.tables e below (T'.setTop { g with pc := g.pc + 1, stack := rest }) target → Steps p.tables e below (T.setTop g) target := by
  obtain ⟨cl, A, S, n, H⟩ := F
  obtain ⟨T', h', X', e', W, st⟩ := Jvm.RoadKit.stB X hx hZ eT A (own_inb S h0 h1) hg hs hd
  exact ⟨T', h', X', e', W, Ai.set ⟨cl, A, S, n, H⟩ h0 h1 W, st⟩
end Own
theorem narrow_ref {t : FieldType} {v : Value} (hv : v.isRef = true) (ht : t.isReference = true) : narrow t v = v := by rcases ref_cases hv with rfl | ⟨a, rfl⟩ <;> cases t <;> first | rfl | cases ht
theorem fits_refV {t : FieldType} {v : Value} (hv : v.isRef = true) (ht : t.isReference = true) : fits t v = true := by rcases ref_cases hv with rfl | ⟨a, rfl⟩ <;> cases t <;> first | rfl | cases ht
theorem own_iincW {tb : Tables} [Ours tb] {e : Env} {below : List Frame} {T target : State} {m : MethodId} {c : Code} {g : JFrame} (h : At T m c below) (hx : tb.exec = Jvm.exec) (hg : g.method = m) {k : Nat} {cst : Int} {x : Int32} {l' : Array Slot} (hd : decode c.code g.pc = .ok (.iinc k cst, 6)) (hl : g.locals[k]? = some (.val (.int x))) (hl' : storeLocals g.locals k (.int (x + Int32.ofInt cst)) = some l')
    (hr : Steps tb e below (T.setTop { g with pc := g.pc + 6, locals := l' }) target) : Steps tb e below (T.setTop g) target := by
  subst hg
  jvm_step h [h.top, hx, hd, hl, hl']
  exact hr

section Own
variable {p : Program} {l : Launch} {e : Env} {R : Room} {s : State} {m : MethodId} {args : Array Value} {below : List Frame} {meth : Method} {c : Code} {T : State} {locs : List Loc} {cells slots : Nat} {Z : State} {h h' : Heap} {a b : Addr} {z j : Int32} {f : Int32 → Int64} {u : Int32 → Value} {K : String}
/-- an array of longs -/
def Al (Z : State) (h : Heap) (a : Addr) (z : Int32) (f : Int32 → Int64) : Prop :=
  ∃ c : Cell, Arr Z h a c .long ∧ c.slots.size = z.toNatClampNeg ∧ ¬ z < 0 ∧ ∀ j : Int32, ¬ j < 0 → j < z → c.slots[j.toNatClampNeg]? = some (.long (f j))
theorem Al.lt (F : Al Z h a z f) : a < h.size := by obtain ⟨c, A, -⟩ := F; exact A.lt
theorem Al.ext (F : Al Z h a z f) (E : Ext h h') : Al Z h' a z f := by obtain ⟨c, A, r⟩ := F; exact ⟨c, A.ext E, r⟩
theorem Al.other {sl : Nat} {v : Value} (F : Al Z h b z f) (W : Wr h h' a sl v) (q : b ≠ a) : Al Z h' b z f := by obtain ⟨c, A, r⟩ := F; exact ⟨c, A.other W q, r⟩
theorem Al.keep {ws : List Addr} (F : Al Z h a z f) (K : Keep h h' ws) (q : a ∉ ws) : Al Z h' a z f := by obtain ⟨c, A, r⟩ := F; exact ⟨c, ⟨K.2.1 a c A.1 q, A.2⟩, r⟩
theorem Al.new {k : ClassId} (A : Arr Z h a (newA k .long z) .long) (q : ¬ z < 0) : Al Z h a z (fun _ => 0) :=
  ⟨_, A, sz_new _ _ _, q, fun j h0 h1 => by rw [get_new (sz_new k .long z ▸ own_inb (sz_new k .long z) h0 h1)]; rfl⟩
theorem Al.laload (X : Stand p l e R s m args below meth c T locs cells slots) (hx : p.tables.exec = Jvm.exec) (hZ : Z.Warmed39 s.vm) (eT : T.heap = h) (F : Al Z h a z f) (h0 : ¬ j < 0) (h1 : j < z)
    {g : JFrame} (hg : g.method = m) {rest : List Value} (hs : g.stack = .int j :: .ref a :: rest) (hd : decode c.code g.pc = .ok (.laload, 1)) : ∀ target, Steps p.tables e below (T.setTop { g with pc := g.pc + 1, stack := .long (f j) :: rest }) target → Steps p.tables e below (T.setTop g) target := by
  obtain ⟨cl, A, S, n, H⟩ := F
  exact X.laload hx (by rw [eT]; exact A.1) (State.isArrayOf_alike hZ.alike A.2.1) A.2.2 (own_inb S h0 h1) (H j h0 h1) hg hs hd
theorem Al.stJ {x : Int64} (X : Stand p l e R s m args below meth c T locs cells slots) (hx : p.tables.exec = Jvm.exec) (hZ : Z.Warmed39 s.vm) (eT : T.heap = h) (F : Al Z h a z f) (h0 : ¬ j < 0) (h1 : j < z)
    {g : JFrame} (hg : g.method = m) {rest : List Value} (hs : g.stack = .long x :: .int j :: .ref a :: rest) (hd : decode c.code g.pc = .ok (.lastore, 1)) :
    ∃ T' h', Stand p l e R s m args below meth c T' (locs ++ [⟨a, j.toNatClampNeg⟩]) cells slots ∧ T'.heap = h' ∧ Wr h h' a j.toNatClampNeg (.long x) ∧ Al Z h' a z (fun i => if i = j then x else f i) ∧ ∀ target, Steps p.tables e below (T'.setTop { g with pc := g.pc + 1, stack := rest }) target → Steps p.tables e below (T.setTop g) target := by
  obtain ⟨cl, A, S, n, H⟩ := F
  obtain ⟨T', h', X', e', W, st⟩ := Jvm.RoadKit.stJ X hx hZ eT A (own_inb S h0 h1) hg hs hd
  refine ⟨T', h', X', e', W, ⟨_, A.same W, by rw [sz_set]; exact S, n, fun i g0 g1 => ?_⟩, st⟩
  by_cases e : i = j
  · rw [get_hit (own_inb S h0 h1) e]; simp [e]
  · rw [get_miss h0 g0 e, H i g0 g1]; simp [e]
/-- an array of references, made over the class K -/
def Ar (Z : State) (h : Heap) (a : Addr) (K : String) (z : Int32) (u : Int32 → Value) : Prop :=
  ∃ c : Cell, Arr Z h a c (.object K) ∧ Ovr Z c.cls K ∧ c.slots.size = z.toNatClampNeg ∧ ¬ z < 0 ∧ ∀ j : Int32, ¬ j < 0 → j < z → c.slots[j.toNatClampNeg]? = some (u j)
theorem Ar.lt (F : Ar Z h a K z u) : a < h.size := by obtain ⟨c, A, -⟩ := F; exact A.lt
theorem Ar.ext (F : Ar Z h a K z u) (E : Ext h h') : Ar Z h' a K z u := by obtain ⟨c, A, r⟩ := F; exact ⟨c, A.ext E, r⟩
theorem Ar.other {sl : Nat} {v : Value} (F : Ar Z h b K z u) (W : Wr h h' a sl v) (q : b ≠ a) : Ar Z h' b K z u := by obtain ⟨c, A, r⟩ := F; exact ⟨c, A.other W q, r⟩
theorem Ar.keep {ws : List Addr} (F : Ar Z h a K z u) (Kp : Keep h h' ws) (q : a ∉ ws) : Ar Z h' a K z u := by obtain ⟨c, A, r⟩ := F; exact ⟨c, ⟨Kp.2.1 a c A.1 q, A.2⟩, r⟩
theorem Ar.new {k : ClassId} (A : Arr Z h a (newA k (.object K) z) (.object K)) (O : Ovr Z k K) (q : ¬ z < 0) : Ar Z h a K z (fun _ => Value.null) :=
  ⟨_, A, O, sz_new _ _ _, q, fun j h0 h1 => by rw [get_new (sz_new k (.object K) z ▸ own_inb (sz_new k (.object K) z) h0 h1)]; rfl⟩
theorem Ar.aaload (X : Stand p l e R s m args below meth c T locs cells slots) (hx : p.tables.exec = Jvm.exec) (hZ : Z.Warmed39 s.vm) (eT : T.heap = h) (F : Ar Z h a K z u) (h0 : ¬ j < 0) (h1 : j < z)
    {g : JFrame} (hg : g.method = m) {rest : List Value} (hs : g.stack = .int j :: .ref a :: rest) (hd : decode c.code g.pc = .ok (.aaload, 1)) : ∀ target, Steps p.tables e below (T.setTop { g with pc := g.pc + 1, stack := u j :: rest }) target → Steps p.tables e below (T.setTop g) target := by
  obtain ⟨cl, A, O, S, n, H⟩ := F
  exact X.aaload hx (by rw [eT]; exact A.1) (State.isArrayOf_alike hZ.alike A.2.1) rfl A.2.2 (own_inb S h0 h1) (H j h0 h1) hg hs hd
theorem Ar.stR {y : Addr} (X : Stand p l e R s m args below meth c T locs cells slots) (hx : p.tables.exec = Jvm.exec) (hZ : Z.Warmed39 s.vm) (eT : T.heap = h) (F : Ar Z h a K z u) (h0 : ¬ j < 0) (h1 : j < z) (I : Ins Z h y K true)
    {g : JFrame} (hg : g.method = m) {rest : List Value} (hs : g.stack = .ref y :: .int j :: .ref a :: rest) (hd : decode c.code g.pc = .ok (.aastore, 1)) :
    ∃ T' h', Stand p l e R s m args below meth c T' (locs ++ [⟨a, j.toNatClampNeg⟩]) cells slots ∧ T'.heap = h' ∧ Wr h h' a j.toNatClampNeg (.ref y) ∧ Ar Z h' a K z (fun i => if i = j then .ref y else u i) ∧ ∀ target, Steps p.tables e below (T'.setTop { g with pc := g.pc + 1, stack := rest }) target → Steps p.tables e below (T.setTop g) target := by
  obtain ⟨cl, A, O, S, n, H⟩ := F
  obtain ⟨T', h', X', e', W, st⟩ := Jvm.RoadKit.stR X hx hZ eT A (own_inb S h0 h1) rfl (Sto.of A O I) hg hs hd
  refine ⟨T', h', X', e', W, ⟨_, A.same W, O, by rw [sz_set]; exact S, n, fun i g0 g1 => ?_⟩, st⟩
  by_cases e : i = j
  · rw [get_hit (own_inb S h0 h1) e]; simp [e]
  · rw [get_miss h0 g0 e, H i g0 g1]; simp [e]
theorem own_a0 {Z : State} {args : Array Value} {t : Term} {a : Addr} (hf : Fit Z) (ev : t.eval args Z none [] Z = some (.ref a)) (h1 : (Cond.arrayOf t (.object "java/lang/Object")).value args Z none Z [] = some true) (h2 : (Cond.eq (.length t) (.int 0)).value args Z none Z [] = some true) : Ai Z Z.heap a (.object "java/lang/Object") 0 (fun _ => 0) := by
  obtain ⟨c, A⟩ := Arr.start ev h1
  have ha : Z.arrayAt? a = some c := A.fin (Vm.Alike.refl _)
  refine ⟨c, A, ?_, by decide, fun j q r => absurd r q⟩
  by_cases hl : c.slots.size < 2 ^ 31
  · have q := len_f (o := none) (first := Z) (idx := []) ev ha hl
    have e0 : (Term.int 0).eval args Z none [] Z = some (.int 0) := Term.int_eval 0
    have r : c.slots.size.toInt32 = 0 := by simpa [Cond.value, q, e0] using h2
    have t1 := len_toInt hl
    rw [r] at t1
    have t2 : (0 : Int32).toInt = 0 := by decide
    have t3 : (0 : Int32).toNatClampNeg = 0 := by decide
    omega
  · have q : (Term.length t).eval args Z none [] Z = none := by simp [Term.eval, ev, ha, hl]
    simp [Cond.value, q] at h2
end Own

theorem own_nb1 : nar .boolean 1 = 1 := by decide
theorem own_nb0 : nar .boolean 0 = 0 := by decide
theorem own_lirr {a : Int32} : ¬ a < a := by rw [Int32.lt_iff_toInt_lt]; omega
theorem own_lasym {a b : Int32} (h : a < b) : ¬ b < a := by rw [Int32.lt_iff_toInt_lt] at *; omega
theorem own_lneg {a b : Int32} (h0 : ¬ a < 0) (h : a < b) : ¬ b < 0 := by rw [Int32.lt_iff_toInt_lt] at *; omega
theorem own_clamp {z : Int32} {n : Nat} (h : z.toInt ≤ n) : z.toNatClampNeg ≤ n := by
  show z.toInt.toNat ≤ n
  omega
theorem own_i_0 : (0 : Int32).toInt = 0 := by decide
theorem own_i_1 : (1 : Int32).toInt = 1 := by decide
theorem own_i_2 : (2 : Int32).toInt = 2 := by decide
theorem own_i_3 : (3 : Int32).toInt = 3 := by decide
theorem own_i_4 : (4 : Int32).toInt = 4 := by decide
theorem d13_0 : decode jdk_29_method_65_code 0 = .ok (.iload_n 0, 1) := by decide +kernel
theorem d13_1 : decode jdk_29_method_65_code 1 = .ok (.iload_n 1, 1) := by decide +kernel
theorem d13_2 : decode jdk_29_method_65_code 2 = .ok (.if_icmp .lt 7, 3) := by decide +kernel
theorem d13_5 : decode jdk_29_method_65_code 5 = .ok (.iload_n 0, 1) := by decide +kernel
theorem d13_6 : decode jdk_29_method_65_code 6 = .ok (.goto 4, 3) := by decide +kernel
theorem d13_9 : decode jdk_29_method_65_code 9 = .ok (.iload_n 1, 1) := by decide +kernel
theorem d13_10 : decode jdk_29_method_65_code 10 = .ok (.ireturn, 1) := by decide +kernel
theorem ef_13 (m : MethodId) (p0 : Int32) (p1 : Int32) : entryFrame m #[(.int p0), (.int p1)] 2 = mkF m 0 #[.val (.int p0), .val (.int p1)] [] := by first | (simp [entryFrame, mkF, argsToLocals, Value.category]; done) | rfl
def Q13 (Z : State) (p0 : Int32) (p1 : Int32) (h0 : Heap) (n0 : Nat) (v : Option Value) (h : Heap) (L : List Loc) : Prop := (v = some (.int (if p0 < p1 then p1 else p0))) ∧ (Fr n0 L) ∧ (h = h0)
set_option maxRecDepth 65536 in
set_option maxHeartbeats 40000000 in
theorem rm13 (l : Launch) (Z : State) (aZ : Array Value) (hw : ∀ d ∈ tables_1, d.before aZ Z = true) (ws : List Jvm.Cond) (p0 : Int32) (p1 : Int32) (h0 : Heap) (n0 : Nat) (Z0 : n0 ≤ h0.size)  :
    MetFree l (⟨"java/lang/Math", "max", "(II)I"⟩ : MethodName) (head1 (Jvm.Cond.code (⟨"java/lang/Math", "max", "(II)I"⟩ : MethodName) jdk_29_method_65_code 2 (some .int) :: ws) ({ frames := 0, cells := 0, slots := 0, locals := 0 } : Room)) (fun a U => a = #[(.int p0), (.int p1)] ∧ Z.Warmed39 U.vm ∧ U.heap = h0) (fun _ _ _ _ _ => True) (fun _ U o U' => ∃ v L, o = .returned v ∧ Q13 Z p0 p1 h0 n0 v U'.heap L ∧ FrameEnd U o U' L ({ frames := 0, cells := 0, slots := 0, locals := 0 } : Room).cells ({ frames := 0, cells := 0, slots := 0, locals := 0 } : Room).slots) := by
  refine MetFree.of_bodySF (Jvm.Free.JP.mathPlain rfl (by decide +kernel)) hisR ?_
  intro p e s m args below meth c s₁ Bd hml0 hP hK
  obtain ⟨rfl, hZ, hh⟩ := hP
  have hx := Bd.exec
  have hby := Bd.bytes
  have hml : c.maxLocals = 2 := hml0
  have hown : s.vm.findClass "java/lang/Math" = some m.cls := findClass_of_methodNamed Bd.named
  have hnm := (name_of_methodNamed Bd.named Bd.method).1
  have hlk : meth.locks = false := BodyLoose.notSynchronized Bd
  have X0 : Stand p l e ({ frames := 0, cells := 0, slots := 0, locals := 0 } : Room) s m #[(.int p0), (.int p1)] below meth c s₁ [] 0 0 := Stand.of_body Bd
  have e0 : s₁.heap = h0 := by rw [← hh, Bd.state]; rfl
  have N0 := Fr.nil n0
  have sq0 : h0.size ≤ h0.size := Nat.le_refl _
  change Go p e below s ({ frames := 0, cells := 0, slots := 0, locals := 0 } : Room).cells ({ frames := 0, cells := 0, slots := 0, locals := 0 } : Room).slots (Q13 Z p0 p1 h0 n0) (s₁.setTop (entryFrame m #[(.int p0), (.int p1)] 2))
  rw [ef_13 m p0 p1]
  show Go _ _ _ _ _ _ _ (s₁.setTop (mkF m 0 #[.val (.int p0), .val (.int p1)] []))
  refine Go.step (fun _ k => XS.iloadN X0.here hx rfl (hb hby d13_0) rfl  k) ?_
  show Go _ _ _ _ _ _ _ (s₁.setTop (mkF m 1 #[.val (.int p0), .val (.int p1)] [(.int p0)]))
  refine Go.step (fun _ k => XS.iloadN X0.here hx rfl (hb hby d13_1) rfl  k) ?_
  show Go _ _ _ _ _ _ _ (s₁.setTop (mkF m 2 #[.val (.int p0), .val (.int p1)] [(.int p1), (.int p0)]))
  by_cases hc2 : p0 < p1
  · skip
    refine Go.step (fun _ k => XS.icmpYes X0.here hx rfl (pc0 := 2) (pc' := 9) rfl (hb hby d13_2) rfl (tlt hc2).1 (by decide) (by decide) k) ?_
    show Go _ _ _ _ _ _ _ (s₁.setTop (mkF m 9 #[.val (.int p0), .val (.int p1)] []))
    refine Go.step (fun _ k => XS.iloadN X0.here hx rfl (hb hby d13_9) rfl  k) ?_
    show Go _ _ _ _ _ _ _ (s₁.setTop (mkF m 10 #[.val (.int p0), .val (.int p1)] [(.int p1)]))
    refine Go.retI X0 hx Bd.returns hlk (hb hby d13_10) ?_ (by decide) (by decide)
    rw [e0]
    exact ⟨(by first | rfl | rw [if_pos hc2] | rw [if_neg hc2]), N0, rfl⟩
  · skip
    refine Go.step (fun _ k => XS.icmpNo X0.here hx rfl (hb hby d13_2) rfl (flt hc2).1 k) ?_
    show Go _ _ _ _ _ _ _ (s₁.setTop (mkF m 5 #[.val (.int p0), .val (.int p1)] []))
    refine Go.step (fun _ k => XS.iloadN X0.here hx rfl (hb hby d13_5) rfl  k) ?_
    show Go _ _ _ _ _ _ _ (s₁.setTop (mkF m 6 #[.val (.int p0), .val (.int p1)] [(.int p0)]))
    refine Go.step (fun _ k => XS.goto X0.here hx rfl (pc0 := 6) (pc' := 10) rfl (hb hby d13_6) (by decide) (by decide) k) ?_
    show Go _ _ _ _ _ _ _ (s₁.setTop (mkF m 10 #[.val (.int p0), .val (.int p1)] [(.int p0)]))
    refine Go.retI X0 hx Bd.returns hlk (hb hby d13_10) ?_ (by decide) (by decide)
    rw [e0]
    exact ⟨(by first | rfl | rw [if_pos hc2] | rw [if_neg hc2]), N0, rfl⟩
theorem pn_5 : plainName "java/util/AbstractCollection" = true := by first | (simp [plainName, overriddenIn]; done) | decide +kernel
theorem d5_0 : decode jdk_22_method_1_code 0 = .ok (.aload_n 0, 1) := by decide +kernel
theorem d5_1 : decode jdk_22_method_1_code 1 = .ok (.invokespecial 1, 3) := by decide +kernel
theorem d5_4 : decode jdk_22_method_1_code 4 = .ok (.return_, 1) := by decide +kernel
theorem ef_5 (m : MethodId) (a0 : Addr) : entryFrame m #[(.ref a0)] 1 = mkF m 0 #[.val (.ref a0)] [] := by first | (simp [entryFrame, mkF, argsToLocals, Value.category]; done) | rfl
def Q5 (Z : State) (a0 : Addr) (h0 : Heap) (n0 : Nat) (v : Option Value) (h : Heap) (L : List Loc) : Prop := (v = none) ∧ (Fr n0 L) ∧ (h = h0)
set_option maxRecDepth 65536 in
set_option maxHeartbeats 40000000 in
theorem rm5 (l : Launch) (Z : State) (aZ : Array Value) (hw : ∀ d ∈ tables_1, d.before aZ Z = true) (ws : List Jvm.Cond) (a0 : Addr) (h0 : Heap) (n0 : Nat) (Z0 : n0 ≤ h0.size)  :
    MetFree l (⟨"java/util/AbstractCollection", "<init>", "()V"⟩ : MethodName) (head1 (Jvm.Cond.code (⟨"java/util/AbstractCollection", "<init>", "()V"⟩ : MethodName) jdk_22_method_1_code 1 none :: ws) ({ frames := 1, cells := 0, slots := 0, locals := 12 } : Room)) (fun a U => a = #[(.ref a0)] ∧ Z.Warmed39 U.vm ∧ U.heap = h0) (fun _ _ _ _ _ => True) (fun _ U o U' => ∃ v L, o = .returned v ∧ Q5 Z a0 h0 n0 v U'.heap L ∧ FrameEnd U o U' L ({ frames := 1, cells := 0, slots := 0, locals := 12 } : Room).cells ({ frames := 1, cells := 0, slots := 0, locals := 12 } : Room).slots) := by
  refine MetFree.of_bodySF (plainFor_of_name pn_5) hisR ?_
  intro p e s m args below meth c s₁ Bd hml0 hP hK
  obtain ⟨rfl, hZ, hh⟩ := hP
  have hx := Bd.exec
  have hby := Bd.bytes
  have hml : c.maxLocals = 1 := hml0
  have hown : s.vm.findClass "java/util/AbstractCollection" = some m.cls := findClass_of_methodNamed Bd.named
  have hnm := (name_of_methodNamed Bd.named Bd.method).1
  have hlk : meth.locks = false := BodyLoose.notSynchronized Bd
  have X0 : Stand p l e ({ frames := 1, cells := 0, slots := 0, locals := 12 } : Room) s m #[(.ref a0)] below meth c s₁ [] 0 0 := Stand.of_body Bd
  have e0 : s₁.heap = h0 := by rw [← hh, Bd.state]; rfl
  have N0 := Fr.nil n0
  have sq0 : h0.size ≤ h0.size := Nat.le_refl _
  change Go p e below s ({ frames := 1, cells := 0, slots := 0, locals := 12 } : Room).cells ({ frames := 1, cells := 0, slots := 0, locals := 12 } : Room).slots (Q5 Z a0 h0 n0) (s₁.setTop (entryFrame m #[(.ref a0)] 1))
  rw [ef_5 m a0]
  show Go _ _ _ _ _ _ _ (s₁.setTop (mkF m 0 #[.val (.ref a0)] []))
  refine Go.step (fun _ k => XS.aloadN X0.here hx rfl (hb hby d5_0) rfl rfl  k) ?_
  show Go _ _ _ _ _ _ _ (s₁.setTop (mkF m 1 #[.val (.ref a0)] [(.ref a0)]))
  obtain ⟨T1, X1, e1, st1⟩ := initO X0 hx hZ hown (hw _ (List.mem_of_getElem? (i := 28) rfl)) (hw _ (List.mem_of_getElem? (i := 8) rfl)) (hw _ (List.mem_of_getElem? (i := 9) rfl)) e0 (g := (mkF m 1 #[.val (.ref a0)] [(.ref a0)])) rfl (by rw [hml]; rfl) rfl (hb hby d5_1) (by decide) (W := 0) (by show 2 * 0 + _ ≤ _; exact Nat.le_of_eq rfl) (by decide)
  refine Go.step st1 ?_
  show Go _ _ _ _ _ _ _ (T1.setTop (mkF m 4 #[.val (.ref a0)] []))
  refine Go.retV X1 hx Bd.returns hlk (hb hby d5_4) ?_ (by decide) (by decide)
  rw [e1]
  exact ⟨(rfl), N0, rfl⟩
theorem pn_6 : plainName "java/util/AbstractList" = true := by first | (simp [plainName, overriddenIn]; done) | decide +kernel
theorem pd_0 : parseMethodDescriptor "()V" = some ⟨[], none⟩ := by decide +kernel
theorem d4_0 : decode jdk_39_method_1_code 0 = .ok (.aload_n 0, 1) := by decide +kernel
theorem d4_1 : decode jdk_39_method_1_code 1 = .ok (.invokespecial 1, 3) := by decide +kernel
theorem d4_4 : decode jdk_39_method_1_code 4 = .ok (.aload_n 0, 1) := by decide +kernel
theorem d4_5 : decode jdk_39_method_1_code 5 = .ok (.iconst 0, 1) := by decide +kernel
theorem d4_6 : decode jdk_39_method_1_code 6 = .ok (.putfield 7, 3) := by decide +kernel
theorem d4_9 : decode jdk_39_method_1_code 9 = .ok (.return_, 1) := by decide +kernel
theorem ef_4 (m : MethodId) (a0 : Addr) : entryFrame m #[(.ref a0)] 1 = mkF m 0 #[.val (.ref a0)] [] := by first | (simp [entryFrame, mkF, argsToLocals, Value.category]; done) | rfl
def Q4 (Z : State) (a0 : Addr) (h0 : Heap) (n0 : Nat) (v : Option Value) (h : Heap) (L : List Loc) : Prop := (v = none) ∧ (Fr n0 L) ∧ (Keep h0 h [a0]) ∧ (Exa Z h a0 "java/util/ArrayList") ∧ (Fld Z h a0 "java/util/ArrayList" "elementData" "[Ljava/lang/Object;" .null) ∧ (Fld Z h a0 "java/util/AbstractList" "modCount" "I" (.int (0 : Int32))) ∧ (Fld Z h a0 "java/util/ArrayList" "size" "I" (.int (0 : Int32)))
set_option maxRecDepth 65536 in
set_option maxHeartbeats 40000000 in
theorem rm4 (l : Launch) (Z : State) (aZ : Array Value) (hw : ∀ d ∈ tables_1, d.before aZ Z = true) (ws : List Jvm.Cond) (a0 : Addr) (h0 : Heap) (n0 : Nat) (Z0 : n0 ≤ h0.size) (E_0 : Exa Z h0 a0 "java/util/ArrayList") (F_1 : Fld Z h0 a0 "java/util/AbstractList" "modCount" "I" (.int (0 : Int32))) (F_2 : Fld Z h0 a0 "java/util/ArrayList" "elementData" "[Ljava/lang/Object;" .null) (g_3 : n0 ≤ a0) (F_4 : Fld Z h0 a0 "java/util/ArrayList" "size" "I" (.int (0 : Int32))) :
    MetFree l (⟨"java/util/AbstractList", "<init>", "()V"⟩ : MethodName) (head1 (Jvm.Cond.code (⟨"java/util/AbstractList", "<init>", "()V"⟩ : MethodName) jdk_39_method_1_code 1 none :: ws) ({ frames := 2, cells := 0, slots := 0, locals := 24 } : Room)) (fun a U => a = #[(.ref a0)] ∧ Z.Warmed39 U.vm ∧ U.heap = h0) (fun _ _ _ _ _ => True) (fun _ U o U' => ∃ v L, o = .returned v ∧ Q4 Z a0 h0 n0 v U'.heap L ∧ FrameEnd U o U' L ({ frames := 2, cells := 0, slots := 0, locals := 24 } : Room).cells ({ frames := 2, cells := 0, slots := 0, locals := 24 } : Room).slots) := by
  refine MetFree.of_bodySF (plainFor_of_name pn_6) hisR ?_
  intro p e s m args below meth c s₁ Bd hml0 hP hK
  obtain ⟨rfl, hZ, hh⟩ := hP
  have hx := Bd.exec
  have hby := Bd.bytes
  have hml : c.maxLocals = 1 := hml0
  have hown : s.vm.findClass "java/util/AbstractList" = some m.cls := findClass_of_methodNamed Bd.named
  have hnm := (name_of_methodNamed Bd.named Bd.method).1
  have hlk : meth.locks = false := BodyLoose.notSynchronized Bd
  have X0 : Stand p l e ({ frames := 2, cells := 0, slots := 0, locals := 24 } : Room) s m #[(.ref a0)] below meth c s₁ [] 0 0 := Stand.of_body Bd
  have e0 : s₁.heap = h0 := by rw [← hh, Bd.state]; rfl
  have N0 := Fr.nil n0
  have sq0 : h0.size ≤ h0.size := Nat.le_refl _
  have k0 : Keep h0 h0 [a0] := Keep.refl _ _
  change Go p e below s ({ frames := 2, cells := 0, slots := 0, locals := 24 } : Room).cells ({ frames := 2, cells := 0, slots := 0, locals := 24 } : Room).slots (Q4 Z a0 h0 n0) (s₁.setTop (entryFrame m #[(.ref a0)] 1))
  rw [ef_4 m a0]
  show Go _ _ _ _ _ _ _ (s₁.setTop (mkF m 0 #[.val (.ref a0)] []))
  refine Go.step (fun _ k => XS.aloadN X0.here hx rfl (hb hby d4_0) rfl rfl  k) ?_
  show Go _ _ _ _ _ _ _ (s₁.setTop (mkF m 1 #[.val (.ref a0)] [(.ref a0)]))
  obtain ⟨_, _, ⟨T1, L1, k1, n1⟩, -, X1, ⟨Lc1, hQ1, l1, y1, z1⟩, st1⟩ := X0.specialBack hx (y := (⟨"java/util/AbstractCollection", "<init>", "()V"⟩ : MethodName)) rfl hown (mvT hZ (hw _ (List.mem_of_getElem? (i := 22) rfl))) (mvT hZ (hw _ (List.mem_of_getElem? (i := 23) rfl))) (mvT hZ (hw _ (List.mem_of_getElem? (i := 27) rfl))) (by decide) (backOf (W := 0) (rm5 l Z aZ hw [] a0 h0 n0 Z0 ) hZ (hw _ (List.mem_of_getElem? (i := 27) rfl)) (hw _ (List.mem_of_getElem? (i := 26) rfl)) (by decide) (by decide)) (g := (mkF m 1 #[.val (.ref a0)] [(.ref a0)])) rfl (by rw [hml]; rfl) (Steps.refl _) (a := a0) (argsL := []) (rest := []) (lenOf pd_0 rfl) rfl (by show 2 * 0 + _ ≤ _; exact Nat.le_of_eq rfl) (hb hby d4_1) (fun _ _ => ⟨rfl, e0, (by decide : 0 + 0 ≤ _), (by decide : 0 + 0 ≤ _)⟩)
  dsimp only [Pt.U, Pt.locs, Pt.cells, Pt.slots] at X1 l1 y1 z1 st1 hQ1
  subst l1 y1 z1
  obtain ⟨rfl, Nq1, e1⟩ := hQ1
  have N1 := Fr.app N0 Nq1
  refine Go.tr st1 ?_
  show Go _ _ _ _ _ _ _ (T1.setTop (mkF m 4 #[.val (.ref a0)] []))
  refine Go.step (fun _ k => XS.aloadN X1.here hx rfl (hb hby d4_4) rfl rfl  k) ?_
  show Go _ _ _ _ _ _ _ (T1.setTop (mkF m 5 #[.val (.ref a0)] [(.ref a0)]))
  refine Go.step (fun _ k => XS.iconst X1.here hx rfl (hb hby d4_5) k) ?_
  show Go _ _ _ _ _ _ _ (T1.setTop (mkF m 6 #[.val (.ref a0)] [(.int (0 : Int32)), (.ref a0)]))
  obtain ⟨T2, h2, X2, e2, W2, st2⟩ := putF X1 hx hZ hown (host := "") (Or.inl (hw _ (List.mem_of_getElem? (i := 29) rfl))) Via.refl e1 F_1 E_0 (Or.inl (hw _ (List.mem_of_getElem? (i := 30) rfl))) (hw _ (List.mem_of_getElem? (i := 11) rfl)) (ty := .int) (v := (.int (0 : Int32))) (by decide) rfl rfl (g := (mkF m 6 #[.val (.ref a0)] [(.int (0 : Int32)), (.ref a0)])) rfl rfl (hb hby d4_6)
  refine Go.step st2 ?_
  have N2 := Fr.snoc X2 N1 g_3
  have z3 : n0 ≤ h2.size := Nat.le_trans Z0 (Keep.of_wr W2).1
  have sqz3 : h0.size ≤ h2.size := Nat.le_trans sq0 (Keep.of_wr W2).1
  have k4 : Keep h0 h2 [a0] := k0.wr W2 (Or.inl (List.mem_of_getElem? (i := 0) rfl))
  have f5 : Fld Z h2 a0 "java/util/AbstractList" "modCount" "I" (.int (0 : Int32)) := F_1.same W2
  show Go _ _ _ _ _ _ _ (T2.setTop (mkF m 9 #[.val (.ref a0)] []))
  have f6 : Exa Z h2 a0 "java/util/ArrayList" := (E_0.wr W2)
  have f7 : Fld Z h2 a0 "java/util/ArrayList" "elementData" "[Ljava/lang/Object;" .null := (F_2.other W2 (Or.inr (slot_ne (Or.inl (hw _ (List.mem_of_getElem? (i := 33) rfl))) (Or.inl (hw _ (List.mem_of_getElem? (i := 30) rfl))) (by decide) (t := (.array (.object "java/lang/Object"))) (t' := .int) (by decide) (by decide))))
  have f8 : Fld Z h2 a0 "java/util/ArrayList" "size" "I" (.int (0 : Int32)) := (F_4.other W2 (Or.inr (slot_ne (Or.inl (hw _ (List.mem_of_getElem? (i := 63) rfl))) (Or.inl (hw _ (List.mem_of_getElem? (i := 30) rfl))) (by decide) (t := .int) (t' := .int) (by decide) (by decide))))
  refine Go.retV X2 hx Bd.returns hlk (hb hby d4_9) ?_ (by decide) (by decide)
  rw [e2]
  exact ⟨(rfl), N2, k4, f6, f7, f5, f8⟩
theorem pn_7 : plainName "java/util/ArrayList" = true := by first | (simp [plainName, overriddenIn]; done) | decide +kernel
theorem d3_0 : decode jdk_38_method_2_code 0 = .ok (.aload_n 0, 1) := by decide +kernel
theorem d3_1 : decode jdk_38_method_2_code 1 = .ok (.invokespecial 1, 3) := by decide +kernel
theorem d3_4 : decode jdk_38_method_2_code 4 = .ok (.aload_n 0, 1) := by decide +kernel
theorem d3_5 : decode jdk_38_method_2_code 5 = .ok (.getstatic 39, 3) := by decide +kernel
theorem d3_8 : decode jdk_38_method_2_code 8 = .ok (.putfield 9, 3) := by decide +kernel
theorem d3_11 : decode jdk_38_method_2_code 11 = .ok (.return_, 1) := by decide +kernel
theorem ef_3 (m : MethodId) (a0 : Addr) : entryFrame m #[(.ref a0)] 1 = mkF m 0 #[.val (.ref a0)] [] := by first | (simp [entryFrame, mkF, argsToLocals, Value.category]; done) | rfl
def Q3 (Z : State) (a0 : Addr) (w0 : Addr) (h0 : Heap) (n0 : Nat) (v : Option Value) (h : Heap) (L : List Loc) : Prop := (v = none) ∧ (Fr n0 L) ∧ (Keep h0 h [a0]) ∧ (Exa Z h a0 "java/util/ArrayList") ∧ (Fld Z h a0 "java/util/ArrayList" "elementData" "[Ljava/lang/Object;" (.ref w0)) ∧ (Fld Z h a0 "java/util/AbstractList" "modCount" "I" (.int (0 : Int32))) ∧ (Fld Z h a0 "java/util/ArrayList" "size" "I" (.int (0 : Int32)))
set_option maxRecDepth 65536 in
set_option maxHeartbeats 40000000 in
theorem rm3 (l : Launch) (Z : State) (aZ : Array Value) (hw : ∀ d ∈ tables_1, d.before aZ Z = true) (ws : List Jvm.Cond) (a0 : Addr) (w0 : Addr) (h0 : Heap) (n0 : Nat) (Z0 : n0 ≤ h0.size) (O_0 : Old Z n0 h0) (S_1 : Sta Z Z.heap "java/util/ArrayList" "DEFAULTCAPACITY_EMPTY_ELEMENTDATA" "[Ljava/lang/Object;" (.ref w0)) (E_2 : Exa Z h0 a0 "java/util/ArrayList") (F_3 : Fld Z h0 a0 "java/util/AbstractList" "modCount" "I" (.int (0 : Int32))) (F_4 : Fld Z h0 a0 "java/util/ArrayList" "elementData" "[Ljava/lang/Object;" .null) (g_5 : n0 ≤ a0) (F_6 : Fld Z h0 a0 "java/util/ArrayList" "size" "I" (.int (0 : Int32))) :
    MetFree l (⟨"java/util/ArrayList", "<init>", "()V"⟩ : MethodName) (head1 (Jvm.Cond.code (⟨"java/util/ArrayList", "<init>", "()V"⟩ : MethodName) jdk_38_method_2_code 1 none :: ws) ({ frames := 3, cells := 0, slots := 0, locals := 36 } : Room)) (fun a U => a = #[(.ref a0)] ∧ Z.Warmed39 U.vm ∧ U.heap = h0) (fun _ _ _ _ _ => True) (fun _ U o U' => ∃ v L, o = .returned v ∧ Q3 Z a0 w0 h0 n0 v U'.heap L ∧ FrameEnd U o U' L ({ frames := 3, cells := 0, slots := 0, locals := 36 } : Room).cells ({ frames := 3, cells := 0, slots := 0, locals := 36 } : Room).slots) := by
  refine MetFree.of_bodySF (plainFor_of_name pn_7) hisR ?_
  intro p e s m args below meth c s₁ Bd hml0 hP hK
  obtain ⟨rfl, hZ, hh⟩ := hP
  have hx := Bd.exec
  have hby := Bd.bytes
  have hml : c.maxLocals = 1 := hml0
  have hown : s.vm.findClass "java/util/ArrayList" = some m.cls := findClass_of_methodNamed Bd.named
  have hnm := (name_of_methodNamed Bd.named Bd.method).1
  have hlk : meth.locks = false := BodyLoose.notSynchronized Bd
  have X0 : Stand p l e ({ frames := 3, cells := 0, slots := 0, locals := 36 } : Room) s m #[(.ref a0)] below meth c s₁ [] 0 0 := Stand.of_body Bd
  have e0 : s₁.heap = h0 := by rw [← hh, Bd.state]; rfl
  have N0 := Fr.nil n0
  have sq0 : h0.size ≤ h0.size := Nat.le_refl _
  have k0 : Keep h0 h0 [a0] := Keep.refl _ _
  change Go p e below s ({ frames := 3, cells := 0, slots := 0, locals := 36 } : Room).cells ({ frames := 3, cells := 0, slots := 0, locals := 36 } : Room).slots (Q3 Z a0 w0 h0 n0) (s₁.setTop (entryFrame m #[(.ref a0)] 1))
  rw [ef_3 m a0]
  show Go _ _ _ _ _ _ _ (s₁.setTop (mkF m 0 #[.val (.ref a0)] []))
  refine Go.step (fun _ k => XS.aloadN X0.here hx rfl (hb hby d3_0) rfl rfl  k) ?_
  show Go _ _ _ _ _ _ _ (s₁.setTop (mkF m 1 #[.val (.ref a0)] [(.ref a0)]))
  obtain ⟨_, _, ⟨T1, L1, k1, n1⟩, -, X1, ⟨Lc1, hQ1, l1, y1, z1⟩, st1⟩ := X0.specialBack hx (y := (⟨"java/util/AbstractList", "<init>", "()V"⟩ : MethodName)) rfl hown (mvT hZ (hw _ (List.mem_of_getElem? (i := 16) rfl))) (mvT hZ (hw _ (List.mem_of_getElem? (i := 17) rfl))) (mvT hZ (hw _ (List.mem_of_getElem? (i := 21) rfl))) (by decide) (backOf (W := 0) (rm4 l Z aZ hw [] a0 h0 n0 Z0 E_2 F_3 F_4 g_5 F_6) hZ (hw _ (List.mem_of_getElem? (i := 21) rfl)) (hw _ (List.mem_of_getElem? (i := 20) rfl)) (by decide) (by decide)) (g := (mkF m 1 #[.val (.ref a0)] [(.ref a0)])) rfl (by rw [hml]; rfl) (Steps.refl _) (a := a0) (argsL := []) (rest := []) (lenOf pd_0 rfl) rfl (by show 2 * 0 + _ ≤ _; exact Nat.le_of_eq rfl) (hb hby d3_1) (fun _ _ => ⟨rfl, e0, (by decide : 0 + 0 ≤ _), (by decide : 0 + 0 ≤ _)⟩)
  dsimp only [Pt.U, Pt.locs, Pt.cells, Pt.slots] at X1 l1 y1 z1 st1 hQ1
  subst l1 y1 z1
  obtain ⟨rfl, Nq1, K1, c1_0, c1_1, c1_2, c1_3⟩ := hQ1
  have N1 := Fr.app N0 Nq1
  refine Go.tr st1 ?_
  have z2 : n0 ≤ T1.heap.size := Nat.le_trans Z0 K1.1
  have sqz2 : h0.size ≤ T1.heap.size := Nat.le_trans sq0 K1.1
  have k3 : Keep h0 T1.heap [a0] := k0.trans K1 (allS (Or.inl (List.mem_of_getElem? (i := 0) rfl)) all0)
  show Go _ _ _ _ _ _ _ (T1.setTop (mkF m 4 #[.val (.ref a0)] []))
  refine Go.step (fun _ k => XS.aloadN X1.here hx rfl (hb hby d3_4) rfl rfl  k) ?_
  show Go _ _ _ _ _ _ _ (T1.setTop (mkF m 5 #[.val (.ref a0)] [(.ref a0)]))
  have f4 : Old Z n0 T1.heap := (O_0.keep K1 (allS g_5 all0))
  obtain ⟨T5, X5, e5, st5⟩ := getS2 X1 hx hZ hown (host := "") (Or.inl (hw _ (List.mem_of_getElem? (i := 31) rfl))) Via.refl rfl (S_1.ext f4.2) (g := (mkF m 5 #[.val (.ref a0)] [(.ref a0)])) rfl (hb hby d3_5)
  refine Go.step st5 ?_
  show Go _ _ _ _ _ _ _ (T5.setTop (mkF m 8 #[.val (.ref a0)] [(.ref w0), (.ref a0)]))
  obtain ⟨T6, h6, X6, e6, W6, st6⟩ := putF X5 hx hZ hown (host := "") (Or.inl (hw _ (List.mem_of_getElem? (i := 32) rfl))) Via.refl e5 c1_1 c1_0 (Or.inl (hw _ (List.mem_of_getElem? (i := 33) rfl))) (hw _ (List.mem_of_getElem? (i := 11) rfl)) (ty := (.array (.object "java/lang/Object"))) (v := (.ref w0)) (by decide) rfl rfl (g := (mkF m 8 #[.val (.ref a0)] [(.ref w0), (.ref a0)])) rfl rfl (hb hby d3_8)
  refine Go.step st6 ?_
  have N6 := Fr.snoc X6 N1 g_5
  have z7 : n0 ≤ h6.size := Nat.le_trans z2 (Keep.of_wr W6).1
  have sqz7 : h0.size ≤ h6.size := Nat.le_trans sqz2 (Keep.of_wr W6).1
  have k8 : Keep h0 h6 [a0] := k3.wr W6 (Or.inl (List.mem_of_getElem? (i := 0) rfl))
  have f9 : Fld Z h6 a0 "java/util/ArrayList" "elementData" "[Ljava/lang/Object;" (.ref w0) := c1_1.same W6
  show Go _ _ _ _ _ _ _ (T6.setTop (mkF m 11 #[.val (.ref a0)] []))
  have f10 : Exa Z h6 a0 "java/util/ArrayList" := (c1_0.wr W6)
  have f11 : Fld Z h6 a0 "java/util/AbstractList" "modCount" "I" (.int (0 : Int32)) := (c1_2.other W6 (Or.inr (slot_ne (Or.inl (hw _ (List.mem_of_getElem? (i := 30) rfl))) (Or.inl (hw _ (List.mem_of_getElem? (i := 33) rfl))) (by decide) (t := .int) (t' := (.array (.object "java/lang/Object"))) (by decide) (by decide))))
  have f12 : Fld Z h6 a0 "java/util/ArrayList" "size" "I" (.int (0 : Int32)) := (c1_3.other W6 (Or.inr (slot_ne (Or.inl (hw _ (List.mem_of_getElem? (i := 63) rfl))) (Or.inl (hw _ (List.mem_of_getElem? (i := 33) rfl))) (by decide) (t := .int) (t' := (.array (.object "java/lang/Object"))) (by decide) (by decide))))
  refine Go.retV X6 hx Bd.returns hlk (hb hby d3_11) ?_ (by decide) (by decide)
  rw [e6]
  exact ⟨(rfl), N6, k8, f10, f9, f11, f12⟩
theorem d8_0 : decode jdk_38_method_8_code 0 = .ok (.aload_n 0, 1) := by decide +kernel
theorem d8_1 : decode jdk_38_method_8_code 1 = .ok (.getfield 48, 3) := by decide +kernel
theorem d8_4 : decode jdk_38_method_8_code 4 = .ok (.ireturn, 1) := by decide +kernel
theorem ef_8 (m : MethodId) (a0 : Addr) : entryFrame m #[(.ref a0)] 1 = mkF m 0 #[.val (.ref a0)] [] := by first | (simp [entryFrame, mkF, argsToLocals, Value.category]; done) | rfl
def Q8 (Z : State) (a0 : Addr) (w : Int32) (h0 : Heap) (n0 : Nat) (v : Option Value) (h : Heap) (L : List Loc) : Prop := (v = some (.int w)) ∧ (Fr n0 L) ∧ (h = h0)
set_option maxRecDepth 65536 in
set_option maxHeartbeats 40000000 in
theorem rm8 (l : Launch) (Z : State) (aZ : Array Value) (hw : ∀ d ∈ tables_1, d.before aZ Z = true) (ws : List Jvm.Cond) (a0 : Addr) (w : Int32) (h0 : Heap) (n0 : Nat) (Z0 : n0 ≤ h0.size) (F_0 : Fld Z h0 a0 "java/util/ArrayList" "size" "I" (.int w)) :
    MetFree l (⟨"java/util/ArrayList", "size", "()I"⟩ : MethodName) (head1 (Jvm.Cond.code (⟨"java/util/ArrayList", "size", "()I"⟩ : MethodName) jdk_38_method_8_code 1 (some .int) :: ws) ({ frames := 0, cells := 0, slots := 0, locals := 0 } : Room)) (fun a U => a = #[(.ref a0)] ∧ Z.Warmed39 U.vm ∧ U.heap = h0) (fun _ _ _ _ _ => True) (fun _ U o U' => ∃ v L, o = .returned v ∧ Q8 Z a0 w h0 n0 v U'.heap L ∧ FrameEnd U o U' L ({ frames := 0, cells := 0, slots := 0, locals := 0 } : Room).cells ({ frames := 0, cells := 0, slots := 0, locals := 0 } : Room).slots) := by
  refine MetFree.of_bodySF (plainFor_of_name pn_7) hisR ?_
  intro p e s m args below meth c s₁ Bd hml0 hP hK
  obtain ⟨rfl, hZ, hh⟩ := hP
  have hx := Bd.exec
  have hby := Bd.bytes
  have hml : c.maxLocals = 1 := hml0
  have hown : s.vm.findClass "java/util/ArrayList" = some m.cls := findClass_of_methodNamed Bd.named
  have hnm := (name_of_methodNamed Bd.named Bd.method).1
  have hlk : meth.locks = false := BodyLoose.notSynchronized Bd
  have X0 : Stand p l e ({ frames := 0, cells := 0, slots := 0, locals := 0 } : Room) s m #[(.ref a0)] below meth c s₁ [] 0 0 := Stand.of_body Bd
  have e0 : s₁.heap = h0 := by rw [← hh, Bd.state]; rfl
  have N0 := Fr.nil n0
  have sq0 : h0.size ≤ h0.size := Nat.le_refl _
  change Go p e below s ({ frames := 0, cells := 0, slots := 0, locals := 0 } : Room).cells ({ frames := 0, cells := 0, slots := 0, locals := 0 } : Room).slots (Q8 Z a0 w h0 n0) (s₁.setTop (entryFrame m #[(.ref a0)] 1))
  rw [ef_8 m a0]
  show Go _ _ _ _ _ _ _ (s₁.setTop (mkF m 0 #[.val (.ref a0)] []))
  refine Go.step (fun _ k => XS.aloadN X0.here hx rfl (hb hby d8_0) rfl rfl  k) ?_
  show Go _ _ _ _ _ _ _ (s₁.setTop (mkF m 1 #[.val (.ref a0)] [(.ref a0)]))
  obtain ⟨T1, X1, e1, st1⟩ := getF X0 hx hZ hown (host := "") (Or.inl (hw _ (List.mem_of_getElem? (i := 62) rfl))) Via.refl e0 F_0 (g := (mkF m 1 #[.val (.ref a0)] [(.ref a0)])) rfl rfl (hb hby d8_1)
  refine Go.step st1 ?_
  show Go _ _ _ _ _ _ _ (T1.setTop (mkF m 4 #[.val (.ref a0)] [(.int w)]))
  refine Go.retI X1 hx Bd.returns hlk (hb hby d8_4) ?_ (by decide) (by decide)
  rw [e1]
  exact ⟨(rfl), N0, rfl⟩
theorem pn_8 : plainName "jdk/internal/util/Preconditions" = true := by first | (simp [plainName, overriddenIn]; done) | decide +kernel
theorem d16_0 : decode jdk_41_method_11_code 0 = .ok (.iload_n 0, 1) := by decide +kernel
theorem d16_1 : decode jdk_41_method_11_code 1 = .ok (.ifCond .lt 8, 3) := by decide +kernel
theorem d16_4 : decode jdk_41_method_11_code 4 = .ok (.iload_n 0, 1) := by decide +kernel
theorem d16_5 : decode jdk_41_method_11_code 5 = .ok (.iload_n 1, 1) := by decide +kernel
theorem d16_6 : decode jdk_41_method_11_code 6 = .ok (.if_icmp .lt 10, 3) := by decide +kernel
theorem d16_16 : decode jdk_41_method_11_code 16 = .ok (.iload_n 0, 1) := by decide +kernel
theorem d16_17 : decode jdk_41_method_11_code 17 = .ok (.ireturn, 1) := by decide +kernel
theorem ef_16 (m : MethodId) (p0 : Int32) (p1 : Int32) : entryFrame m #[(.int p0), (.int p1), .null] 3 = mkF m 0 #[.val (.int p0), .val (.int p1), .val .null] [] := by first | (simp [entryFrame, mkF, argsToLocals, Value.category]; done) | rfl
def Q16 (Z : State) (p0 : Int32) (p1 : Int32) (h0 : Heap) (n0 : Nat) (v : Option Value) (h : Heap) (L : List Loc) : Prop := (v = some (.int p0)) ∧ (Fr n0 L) ∧ (h = h0)
set_option maxRecDepth 65536 in
set_option maxHeartbeats 40000000 in
theorem rm16 (l : Launch) (Z : State) (aZ : Array Value) (hw : ∀ d ∈ tables_1, d.before aZ Z = true) (ws : List Jvm.Cond) (p0 : Int32) (p1 : Int32) (h0 : Heap) (n0 : Nat) (Z0 : n0 ≤ h0.size) (hi0 : ¬ p0 < 0) (hi1 : p0 < p1) :
    MetFree l (⟨"jdk/internal/util/Preconditions", "checkIndex", "(IILjava/util/function/BiFunction;)I"⟩ : MethodName) (head1 (Jvm.Cond.code (⟨"jdk/internal/util/Preconditions", "checkIndex", "(IILjava/util/function/BiFunction;)I"⟩ : MethodName) jdk_41_method_11_code 3 (some .int) :: ws) ({ frames := 0, cells := 0, slots := 0, locals := 0 } : Room)) (fun a U => a = #[(.int p0), (.int p1), .null] ∧ Z.Warmed39 U.vm ∧ U.heap = h0) (fun _ _ _ _ _ => True) (fun _ U o U' => ∃ v L, o = .returned v ∧ Q16 Z p0 p1 h0 n0 v U'.heap L ∧ FrameEnd U o U' L ({ frames := 0, cells := 0, slots := 0, locals := 0 } : Room).cells ({ frames := 0, cells := 0, slots := 0, locals := 0 } : Room).slots) := by
  refine MetFree.of_bodySF (plainFor_of_name pn_8) hisR ?_
  intro p e s m args below meth c s₁ Bd hml0 hP hK
  obtain ⟨rfl, hZ, hh⟩ := hP
  have hx := Bd.exec
  have hby := Bd.bytes
  have hml : c.maxLocals = 3 := hml0
  have hown : s.vm.findClass "jdk/internal/util/Preconditions" = some m.cls := findClass_of_methodNamed Bd.named
  have hnm := (name_of_methodNamed Bd.named Bd.method).1
  have hlk : meth.locks = false := BodyLoose.notSynchronized Bd
  have X0 : Stand p l e ({ frames := 0, cells := 0, slots := 0, locals := 0 } : Room) s m #[(.int p0), (.int p1), .null] below meth c s₁ [] 0 0 := Stand.of_body Bd
  have e0 : s₁.heap = h0 := by rw [← hh, Bd.state]; rfl
  have N0 := Fr.nil n0
  have sq0 : h0.size ≤ h0.size := Nat.le_refl _
  change Go p e below s ({ frames := 0, cells := 0, slots := 0, locals := 0 } : Room).cells ({ frames := 0, cells := 0, slots := 0, locals := 0 } : Room).slots (Q16 Z p0 p1 h0 n0) (s₁.setTop (entryFrame m #[(.int p0), (.int p1), .null] 3))
  rw [ef_16 m p0 p1]
  show Go _ _ _ _ _ _ _ (s₁.setTop (mkF m 0 #[.val (.int p0), .val (.int p1), .val .null] []))
  refine Go.step (fun _ k => XS.iloadN X0.here hx rfl (hb hby d16_0) rfl  k) ?_
  show Go _ _ _ _ _ _ _ (s₁.setTop (mkF m 1 #[.val (.int p0), .val (.int p1), .val .null] [(.int p0)]))
  have hc1 : ¬ (p0 < (0 : Int32)) := hi0
  refine Go.step (fun _ k => XS.ifNo X0.here hx rfl (hb hby d16_1) rfl ((if0 _ _).trans (flt hc1).1) k) ?_
  show Go _ _ _ _ _ _ _ (s₁.setTop (mkF m 4 #[.val (.int p0), .val (.int p1), .val .null] []))
  refine Go.step (fun _ k => XS.iloadN X0.here hx rfl (hb hby d16_4) rfl  k) ?_
  show Go _ _ _ _ _ _ _ (s₁.setTop (mkF m 5 #[.val (.int p0), .val (.int p1), .val .null] [(.int p0)]))
  refine Go.step (fun _ k => XS.iloadN X0.here hx rfl (hb hby d16_5) rfl  k) ?_
  show Go _ _ _ _ _ _ _ (s₁.setTop (mkF m 6 #[.val (.int p0), .val (.int p1), .val .null] [(.int p1), (.int p0)]))
  have hc6 : p0 < p1 := hi1
  refine Go.step (fun _ k => XS.icmpYes X0.here hx rfl (pc0 := 6) (pc' := 16) rfl (hb hby d16_6) rfl (tlt hc6).1 (by decide) (by decide) k) ?_
  show Go _ _ _ _ _ _ _ (s₁.setTop (mkF m 16 #[.val (.int p0), .val (.int p1), .val .null] []))
  refine Go.step (fun _ k => XS.iloadN X0.here hx rfl (hb hby d16_16) rfl  k) ?_
  show Go _ _ _ _ _ _ _ (s₁.setTop (mkF m 17 #[.val (.int p0), .val (.int p1), .val .null] [(.int p0)]))
  refine Go.retI X0 hx Bd.returns hlk (hb hby d16_17) ?_ (by decide) (by decide)
  rw [e0]
  exact ⟨(rfl), N0, rfl⟩
theorem pn_9 : plainName "java/util/Objects" = true := by first | (simp [plainName, overriddenIn]; done) | decide +kernel
theorem pd_1 : parseMethodDescriptor "(IILjava/util/function/BiFunction;)I" = some ⟨[.int, .int, (.object "java/util/function/BiFunction")], some .int⟩ := by decide +kernel
theorem d15_0 : decode jdk_31_method_17_code 0 = .ok (.iload_n 0, 1) := by decide +kernel
theorem d15_1 : decode jdk_31_method_17_code 1 = .ok (.iload_n 1, 1) := by decide +kernel
theorem d15_2 : decode jdk_31_method_17_code 2 = .ok (.aconst_null, 1) := by decide +kernel
theorem d15_3 : decode jdk_31_method_17_code 3 = .ok (.invokestatic 105, 3) := by decide +kernel
theorem d15_6 : decode jdk_31_method_17_code 6 = .ok (.ireturn, 1) := by decide +kernel
theorem ef_15 (m : MethodId) (p0 : Int32) (p1 : Int32) : entryFrame m #[(.int p0), (.int p1)] 2 = mkF m 0 #[.val (.int p0), .val (.int p1)] [] := by first | (simp [entryFrame, mkF, argsToLocals, Value.category]; done) | rfl
def Q15 (Z : State) (p0 : Int32) (p1 : Int32) (h0 : Heap) (n0 : Nat) (v : Option Value) (h : Heap) (L : List Loc) : Prop := (v = some (.int p0)) ∧ (Fr n0 L) ∧ (h = h0)
set_option maxRecDepth 65536 in
set_option maxHeartbeats 40000000 in
theorem rm15 (l : Launch) (Z : State) (aZ : Array Value) (hw : ∀ d ∈ tables_1, d.before aZ Z = true) (ws : List Jvm.Cond) (p0 : Int32) (p1 : Int32) (h0 : Heap) (n0 : Nat) (Z0 : n0 ≤ h0.size) (hi0 : ¬ p0 < 0) (hi1 : p0 < p1) :
    MetFree l (⟨"java/util/Objects", "checkIndex", "(II)I"⟩ : MethodName) (head1 (Jvm.Cond.code (⟨"java/util/Objects", "checkIndex", "(II)I"⟩ : MethodName) jdk_31_method_17_code 2 (some .int) :: ws) ({ frames := 1, cells := 0, slots := 0, locals := 14 } : Room)) (fun a U => a = #[(.int p0), (.int p1)] ∧ Z.Warmed39 U.vm ∧ U.heap = h0) (fun _ _ _ _ _ => True) (fun _ U o U' => ∃ v L, o = .returned v ∧ Q15 Z p0 p1 h0 n0 v U'.heap L ∧ FrameEnd U o U' L ({ frames := 1, cells := 0, slots := 0, locals := 14 } : Room).cells ({ frames := 1, cells := 0, slots := 0, locals := 14 } : Room).slots) := by
  refine MetFree.of_bodySF (plainFor_of_name pn_9) hisR ?_
  intro p e s m args below meth c s₁ Bd hml0 hP hK
  obtain ⟨rfl, hZ, hh⟩ := hP
  have hx := Bd.exec
  have hby := Bd.bytes
  have hml : c.maxLocals = 2 := hml0
  have hown : s.vm.findClass "java/util/Objects" = some m.cls := findClass_of_methodNamed Bd.named
  have hnm := (name_of_methodNamed Bd.named Bd.method).1
  have hlk : meth.locks = false := BodyLoose.notSynchronized Bd
  have X0 : Stand p l e ({ frames := 1, cells := 0, slots := 0, locals := 14 } : Room) s m #[(.int p0), (.int p1)] below meth c s₁ [] 0 0 := Stand.of_body Bd
  have e0 : s₁.heap = h0 := by rw [← hh, Bd.state]; rfl
  have N0 := Fr.nil n0
  have sq0 : h0.size ≤ h0.size := Nat.le_refl _
  change Go p e below s ({ frames := 1, cells := 0, slots := 0, locals := 14 } : Room).cells ({ frames := 1, cells := 0, slots := 0, locals := 14 } : Room).slots (Q15 Z p0 p1 h0 n0) (s₁.setTop (entryFrame m #[(.int p0), (.int p1)] 2))
  rw [ef_15 m p0 p1]
  show Go _ _ _ _ _ _ _ (s₁.setTop (mkF m 0 #[.val (.int p0), .val (.int p1)] []))
  refine Go.step (fun _ k => XS.iloadN X0.here hx rfl (hb hby d15_0) rfl  k) ?_
  show Go _ _ _ _ _ _ _ (s₁.setTop (mkF m 1 #[.val (.int p0), .val (.int p1)] [(.int p0)]))
  refine Go.step (fun _ k => XS.iloadN X0.here hx rfl (hb hby d15_1) rfl  k) ?_
  show Go _ _ _ _ _ _ _ (s₁.setTop (mkF m 2 #[.val (.int p0), .val (.int p1)] [(.int p1), (.int p0)]))
  refine Go.step (fun _ k => XS.aconstNull X0.here hx rfl (hb hby d15_2) k) ?_
  show Go _ _ _ _ _ _ _ (s₁.setTop (mkF m 3 #[.val (.int p0), .val (.int p1)] [.null, (.int p1), (.int p0)]))
  have pq1 : ¬ p0 < 0 := (by first | assumption | rfl | decide)
  have pq2 : p0 < p1 := (by first | assumption | rfl | decide)
  obtain ⟨_, _, ⟨T3, L3, k3, n3⟩, -, X3, ⟨Lc3, hQ3, l3, y3, z3⟩, st3⟩ := Jvm.LawKit.callS X0 hx (y := (⟨"jdk/internal/util/Preconditions", "checkIndex", "(IILjava/util/function/BiFunction;)I"⟩ : MethodName)) hown (mvT hZ (hw _ (List.mem_of_getElem? (i := 109) rfl))) (mvT hZ (hw _ (List.mem_of_getElem? (i := 110) rfl))) (mvT hZ (hw _ (List.mem_of_getElem? (i := 111) rfl))) (mvT hZ (hw _ (List.mem_of_getElem? (i := 112) rfl))) (by decide) (backOf (W := 0) (rm16 l Z aZ hw [] p0 p1 h0 n0 Z0 pq1 pq2) hZ (hw _ (List.mem_of_getElem? (i := 112) rfl)) (hw _ (List.mem_of_getElem? (i := 111) rfl)) (by decide) (by decide)) (g := (mkF m 3 #[.val (.int p0), .val (.int p1)] [.null, (.int p1), (.int p0)])) rfl (by rw [hml]; rfl) (argsL := [(.int p0), (.int p1), .null]) (rest := []) (lenOf pd_1 rfl) rfl (by show 2 * 0 + _ ≤ _; exact Nat.le_of_eq rfl) (hb hby d15_3) (fun _ _ => ⟨rfl, e0, (by decide : 0 + 0 ≤ _), (by decide : 0 + 0 ≤ _)⟩)
  dsimp only [Pt.U, Pt.locs, Pt.cells, Pt.slots] at X3 l3 y3 z3 st3 hQ3
  subst l3 y3 z3
  obtain ⟨rfl, Nq3, e3⟩ := hQ3
  have N3 := Fr.app N0 Nq3
  refine Go.step st3 ?_
  show Go _ _ _ _ _ _ _ (T3.setTop (mkF m 6 #[.val (.int p0), .val (.int p1)] [(.int p0)]))
  refine Go.retI X3 hx Bd.returns hlk (hb hby d15_6) ?_ (by decide) (by decide)
  rw [e3]
  exact ⟨(rfl), N3, rfl⟩
theorem d17_0 : decode jdk_38_method_18_code 0 = .ok (.aload_n 0, 1) := by decide +kernel
theorem d17_1 : decode jdk_38_method_18_code 1 = .ok (.getfield 9, 3) := by decide +kernel
theorem d17_4 : decode jdk_38_method_18_code 4 = .ok (.iload_n 1, 1) := by decide +kernel
theorem d17_5 : decode jdk_38_method_18_code 5 = .ok (.aaload, 1) := by decide +kernel
theorem d17_6 : decode jdk_38_method_18_code 6 = .ok (.areturn, 1) := by decide +kernel
theorem ef_17 (m : MethodId) (a0 : Addr) (p1 : Int32) : entryFrame m #[(.ref a0), (.int p1)] 2 = mkF m 0 #[.val (.ref a0), .val (.int p1)] [] := by first | (simp [entryFrame, mkF, argsToLocals, Value.category]; done) | rfl
def Q17 (Z : State) (a0 : Addr) (p1 : Int32) (b1 : Addr) (z1 : Int32) (u1 : Int32 → Value) (y1 : Addr) (h0 : Heap) (n0 : Nat) (v : Option Value) (h : Heap) (L : List Loc) : Prop := (v = some (.ref y1)) ∧ (Fr n0 L) ∧ (h = h0)
set_option maxRecDepth 65536 in
set_option maxHeartbeats 40000000 in
theorem rm17 (l : Launch) (Z : State) (aZ : Array Value) (hw : ∀ d ∈ tables_1, d.before aZ Z = true) (ws : List Jvm.Cond) (a0 : Addr) (p1 : Int32) (b1 : Addr) (z1 : Int32) (u1 : Int32 → Value) (y1 : Addr) (h0 : Heap) (n0 : Nat) (Z0 : n0 ≤ h0.size) (F_0 : Fld Z h0 a0 "java/util/ArrayList" "elementData" "[Ljava/lang/Object;" (.ref b1)) (A_1 : Ar Z h0 b1 "java/lang/Object" z1 u1) (hi0 : ¬ p1 < 0) (hz : p1 < z1) (hy : u1 p1 = Value.ref y1) :
    MetFree l (⟨"java/util/ArrayList", "elementData", "(I)Ljava/lang/Object;"⟩ : MethodName) (head1 (Jvm.Cond.code (⟨"java/util/ArrayList", "elementData", "(I)Ljava/lang/Object;"⟩ : MethodName) jdk_38_method_18_code 2 (some (.object "java/lang/Object")) :: ws) ({ frames := 0, cells := 0, slots := 0, locals := 0 } : Room)) (fun a U => a = #[(.ref a0), (.int p1)] ∧ Z.Warmed39 U.vm ∧ U.heap = h0) (fun _ _ _ _ _ => True) (fun _ U o U' => ∃ v L, o = .returned v ∧ Q17 Z a0 p1 b1 z1 u1 y1 h0 n0 v U'.heap L ∧ FrameEnd U o U' L ({ frames := 0, cells := 0, slots := 0, locals := 0 } : Room).cells ({ frames := 0, cells := 0, slots := 0, locals := 0 } : Room).slots) := by
  refine MetFree.of_bodySF (plainFor_of_name pn_7) hisR ?_
  intro p e s m args below meth c s₁ Bd hml0 hP hK
  obtain ⟨rfl, hZ, hh⟩ := hP
  have hx := Bd.exec
  have hby := Bd.bytes
  have hml : c.maxLocals = 2 := hml0
  have hown : s.vm.findClass "java/util/ArrayList" = some m.cls := findClass_of_methodNamed Bd.named
  have hnm := (name_of_methodNamed Bd.named Bd.method).1
  have hlk : meth.locks = false := BodyLoose.notSynchronized Bd
  have X0 : Stand p l e ({ frames := 0, cells := 0, slots := 0, locals := 0 } : Room) s m #[(.ref a0), (.int p1)] below meth c s₁ [] 0 0 := Stand.of_body Bd
  have e0 : s₁.heap = h0 := by rw [← hh, Bd.state]; rfl
  have N0 := Fr.nil n0
  have sq0 : h0.size ≤ h0.size := Nat.le_refl _
  change Go p e below s ({ frames := 0, cells := 0, slots := 0, locals := 0 } : Room).cells ({ frames := 0, cells := 0, slots := 0, locals := 0 } : Room).slots (Q17 Z a0 p1 b1 z1 u1 y1 h0 n0) (s₁.setTop (entryFrame m #[(.ref a0), (.int p1)] 2))
  rw [ef_17 m a0 p1]
  show Go _ _ _ _ _ _ _ (s₁.setTop (mkF m 0 #[.val (.ref a0), .val (.int p1)] []))
  refine Go.step (fun _ k => XS.aloadN X0.here hx rfl (hb hby d17_0) rfl rfl  k) ?_
  show Go _ _ _ _ _ _ _ (s₁.setTop (mkF m 1 #[.val (.ref a0), .val (.int p1)] [(.ref a0)]))
  obtain ⟨T1, X1, e1, st1⟩ := getF X0 hx hZ hown (host := "") (Or.inl (hw _ (List.mem_of_getElem? (i := 32) rfl))) Via.refl e0 F_0 (g := (mkF m 1 #[.val (.ref a0), .val (.int p1)] [(.ref a0)])) rfl rfl (hb hby d17_1)
  refine Go.step st1 ?_
  show Go _ _ _ _ _ _ _ (T1.setTop (mkF m 4 #[.val (.ref a0), .val (.int p1)] [(.ref b1)]))
  refine Go.step (fun _ k => XS.iloadN X1.here hx rfl (hb hby d17_4) rfl  k) ?_
  show Go _ _ _ _ _ _ _ (T1.setTop (mkF m 5 #[.val (.ref a0), .val (.int p1)] [(.int p1), (.ref b1)]))
  have lo2 : ¬ p1 < 0 := hi0
  have hi2 : p1 < z1 := hz
  refine Go.step (Ar.aaload X1 hx hZ e1 A_1 (j := p1) lo2 hi2 (g := (mkF m 5 #[.val (.ref a0), .val (.int p1)] [(.int p1), (.ref b1)])) rfl rfl (hb hby d17_5)) ?_
  have hrf : (u1 p1).isRef = true := by rw [hy]; rfl
  show Go _ _ _ _ _ _ _ (T1.setTop (mkF m 6 #[.val (.ref a0), .val (.int p1)] [(u1 p1)]))
  refine Go.retA X1 hx Bd.returns rfl (by assumption) hlk (hb hby d17_6) ?_ (by decide) (by decide)
  rw [e1]
  exact ⟨(by rw [hy]), N0, rfl⟩
theorem pd_2 : parseMethodDescriptor "(II)I" = some ⟨[.int, .int], some .int⟩ := by decide +kernel
theorem pd_3 : parseMethodDescriptor "(I)Ljava/lang/Object;" = some ⟨[.int], some (.object "java/lang/Object")⟩ := by decide +kernel
theorem d14_0 : decode jdk_38_method_20_code 0 = .ok (.iload_n 1, 1) := by decide +kernel
theorem d14_1 : decode jdk_38_method_20_code 1 = .ok (.aload_n 0, 1) := by decide +kernel
theorem d14_2 : decode jdk_38_method_20_code 2 = .ok (.getfield 48, 3) := by decide +kernel
theorem d14_5 : decode jdk_38_method_20_code 5 = .ok (.invokestatic 118, 3) := by decide +kernel
theorem d14_8 : decode jdk_38_method_20_code 8 = .ok (.pop, 1) := by decide +kernel
theorem d14_9 : decode jdk_38_method_20_code 9 = .ok (.aload_n 0, 1) := by decide +kernel
theorem d14_10 : decode jdk_38_method_20_code 10 = .ok (.iload_n 1, 1) := by decide +kernel
theorem d14_11 : decode jdk_38_method_20_code 11 = .ok (.invokevirtual 123, 3) := by decide +kernel
theorem d14_14 : decode jdk_38_method_20_code 14 = .ok (.areturn, 1) := by decide +kernel
theorem ef_14 (m : MethodId) (a0 : Addr) (p1 : Int32) : entryFrame m #[(.ref a0), (.int p1)] 2 = mkF m 0 #[.val (.ref a0), .val (.int p1)] [] := by first | (simp [entryFrame, mkF, argsToLocals, Value.category]; done) | rfl
def Q14 (Z : State) (a0 : Addr) (p1 : Int32) (b1 : Addr) (z1 : Int32) (u1 : Int32 → Value) (y1 : Addr) (w : Int32) (h0 : Heap) (n0 : Nat) (v : Option Value) (h : Heap) (L : List Loc) : Prop := (v = some (.ref y1)) ∧ (Fr n0 L) ∧ (h = h0)
set_option maxRecDepth 65536 in
set_option maxHeartbeats 40000000 in
theorem rm14 (l : Launch) (Z : State) (aZ : Array Value) (hw : ∀ d ∈ tables_1, d.before aZ Z = true) (ws : List Jvm.Cond) (a0 : Addr) (p1 : Int32) (b1 : Addr) (z1 : Int32) (u1 : Int32 → Value) (y1 : Addr) (w : Int32) (h0 : Heap) (n0 : Nat) (Z0 : n0 ≤ h0.size) (E_0 : Exa Z h0 a0 "java/util/ArrayList") (F_1 : Fld Z h0 a0 "java/util/ArrayList" "size" "I" (.int w)) (F_2 : Fld Z h0 a0 "java/util/ArrayList" "elementData" "[Ljava/lang/Object;" (.ref b1)) (A_3 : Ar Z h0 b1 "java/lang/Object" z1 u1) (hi0 : ¬ p1 < 0) (hz : p1 < z1) (hy : u1 p1 = Value.ref y1) (hi1 : p1 < w) :
    MetFree l (⟨"java/util/ArrayList", "get", "(I)Ljava/lang/Object;"⟩ : MethodName) (head1 (Jvm.Cond.code (⟨"java/util/ArrayList", "get", "(I)Ljava/lang/Object;"⟩ : MethodName) jdk_38_method_20_code 2 (some (.object "java/lang/Object")) :: ws) ({ frames := 2, cells := 0, slots := 0, locals := 27 } : Room)) (fun a U => a = #[(.ref a0), (.int p1)] ∧ Z.Warmed39 U.vm ∧ U.heap = h0) (fun _ _ _ _ _ => True) (fun _ U o U' => ∃ v L, o = .returned v ∧ Q14 Z a0 p1 b1 z1 u1 y1 w h0 n0 v U'.heap L ∧ FrameEnd U o U' L ({ frames := 2, cells := 0, slots := 0, locals := 27 } : Room).cells ({ frames := 2, cells := 0, slots := 0, locals := 27 } : Room).slots) := by
  refine MetFree.of_bodySF (plainFor_of_name pn_7) hisR ?_
  intro p e s m args below meth c s₁ Bd hml0 hP hK
  obtain ⟨rfl, hZ, hh⟩ := hP
  have hx := Bd.exec
  have hby := Bd.bytes
  have hml : c.maxLocals = 2 := hml0
  have hown : s.vm.findClass "java/util/ArrayList" = some m.cls := findClass_of_methodNamed Bd.named
  have hnm := (name_of_methodNamed Bd.named Bd.method).1
  have hlk : meth.locks = false := BodyLoose.notSynchronized Bd
  have X0 : Stand p l e ({ frames := 2, cells := 0, slots := 0, locals := 27 } : Room) s m #[(.ref a0), (.int p1)] below meth c s₁ [] 0 0 := Stand.of_body Bd
  have e0 : s₁.heap = h0 := by rw [← hh, Bd.state]; rfl
  have N0 := Fr.nil n0
  have sq0 : h0.size ≤ h0.size := Nat.le_refl _
  change Go p e below s ({ frames := 2, cells := 0, slots := 0, locals := 27 } : Room).cells ({ frames := 2, cells := 0, slots := 0, locals := 27 } : Room).slots (Q14 Z a0 p1 b1 z1 u1 y1 w h0 n0) (s₁.setTop (entryFrame m #[(.ref a0), (.int p1)] 2))
  rw [ef_14 m a0 p1]
  show Go _ _ _ _ _ _ _ (s₁.setTop (mkF m 0 #[.val (.ref a0), .val (.int p1)] []))
  refine Go.step (fun _ k => XS.iloadN X0.here hx rfl (hb hby d14_0) rfl  k) ?_
  show Go _ _ _ _ _ _ _ (s₁.setTop (mkF m 1 #[.val (.ref a0), .val (.int p1)] [(.int p1)]))
  refine Go.step (fun _ k => XS.aloadN X0.here hx rfl (hb hby d14_1) rfl rfl  k) ?_
  show Go _ _ _ _ _ _ _ (s₁.setTop (mkF m 2 #[.val (.ref a0), .val (.int p1)] [(.ref a0), (.int p1)]))
  obtain ⟨T1, X1, e1, st1⟩ := getF X0 hx hZ hown (host := "") (Or.inl (hw _ (List.mem_of_getElem? (i := 62) rfl))) Via.refl e0 F_1 (g := (mkF m 2 #[.val (.ref a0), .val (.int p1)] [(.ref a0), (.int p1)])) rfl rfl (hb hby d14_2)
  refine Go.step st1 ?_
  show Go _ _ _ _ _ _ _ (T1.setTop (mkF m 5 #[.val (.ref a0), .val (.int p1)] [(.int w), (.int p1)]))
  have pq2 : ¬ p1 < 0 := hi0
  have pq3 : p1 < w := hi1
  obtain ⟨_, _, ⟨T4, L4, k4, n4⟩, -, X4, ⟨Lc4, hQ4, l4, y4, z4⟩, st4⟩ := Jvm.LawKit.callS X1 hx (y := (⟨"java/util/Objects", "checkIndex", "(II)I"⟩ : MethodName)) hown (mvT hZ (hw _ (List.mem_of_getElem? (i := 105) rfl))) (mvT hZ (hw _ (List.mem_of_getElem? (i := 106) rfl))) (mvT hZ (hw _ (List.mem_of_getElem? (i := 107) rfl))) (mvT hZ (hw _ (List.mem_of_getElem? (i := 108) rfl))) (by decide) (backOf (W := 0) (rm15 l Z aZ hw [] p1 w h0 n0 Z0 pq2 pq3) hZ (hw _ (List.mem_of_getElem? (i := 108) rfl)) (hw _ (List.mem_of_getElem? (i := 107) rfl)) (by decide) (by decide)) (g := (mkF m 5 #[.val (.ref a0), .val (.int p1)] [(.int w), (.int p1)])) rfl (by rw [hml]; rfl) (argsL := [(.int p1), (.int w)]) (rest := []) (lenOf pd_2 rfl) rfl (by show 2 * 0 + _ ≤ _; exact Nat.le_of_eq rfl) (hb hby d14_5) (fun _ _ => ⟨rfl, e1, (by decide : 0 + 0 ≤ _), (by decide : 0 + 0 ≤ _)⟩)
  dsimp only [Pt.U, Pt.locs, Pt.cells, Pt.slots] at X4 l4 y4 z4 st4 hQ4
  subst l4 y4 z4
  obtain ⟨rfl, Nq4, e4⟩ := hQ4
  have N4 := Fr.app N0 Nq4
  refine Go.step st4 ?_
  show Go _ _ _ _ _ _ _ (T4.setTop (mkF m 8 #[.val (.ref a0), .val (.int p1)] [(.int p1)]))
  refine Go.step (fun _ k => XS.pop X4.here hx rfl (hb hby d14_8) rfl rfl k) ?_
  show Go _ _ _ _ _ _ _ (T4.setTop (mkF m 9 #[.val (.ref a0), .val (.int p1)] []))
  refine Go.step (fun _ k => XS.aloadN X4.here hx rfl (hb hby d14_9) rfl rfl  k) ?_
  show Go _ _ _ _ _ _ _ (T4.setTop (mkF m 10 #[.val (.ref a0), .val (.int p1)] [(.ref a0)]))
  refine Go.step (fun _ k => XS.iloadN X4.here hx rfl (hb hby d14_10) rfl  k) ?_
  show Go _ _ _ _ _ _ _ (T4.setTop (mkF m 11 #[.val (.ref a0), .val (.int p1)] [(.int p1), (.ref a0)]))
  have pq5 : ¬ p1 < 0 := hi0
  have pq6 : p1 < z1 := hz
  have pq7 : u1 p1 = Value.ref y1 := hy
  obtain ⟨cq8, kq8, q8a, q8b, q8c⟩ := isOf hZ e4 E_0
  obtain ⟨_, _, ⟨T8, L8, k8, n8⟩, -, X8, ⟨Lc8, hQ8, l8, y8, z8⟩, st8⟩ := X4.virtualBack hx (y := (⟨"java/util/ArrayList", "elementData", "(I)Ljava/lang/Object;"⟩ : MethodName)) (z := (⟨"java/util/ArrayList", "elementData", "(I)Ljava/lang/Object;"⟩ : MethodName)) hown (mvT hZ (hw _ (List.mem_of_getElem? (i := 113) rfl))) (mvT hZ (hw _ (List.mem_of_getElem? (i := 114) rfl))) (notFace_of_selects (args := #[]) (mvT hZ (hw _ (List.mem_of_getElem? (i := 116) rfl)))) (mvT hZ (hw _ (List.mem_of_getElem? (i := 116) rfl))) (mvT hZ (hw _ (List.mem_of_getElem? (i := 115) rfl))) (by decide) (backOf (W := 0) (rm17 l Z aZ hw [] a0 p1 b1 z1 u1 y1 h0 n0 Z0 F_2 A_3 pq5 pq6 pq7) hZ (hw _ (List.mem_of_getElem? (i := 117) rfl)) (hw _ (List.mem_of_getElem? (i := 12) rfl)) (by decide) (by decide)) q8a q8c (g := (mkF m 11 #[.val (.ref a0), .val (.int p1)] [(.int p1), (.ref a0)])) rfl (by rw [hml]; rfl) (Steps.refl _) (argsL := [(.int p1)]) (rest := []) (lenOf pd_3 rfl) rfl (by show 2 * 0 + _ ≤ _; exact Nat.le_of_eq rfl) (hb hby d14_11) (fun _ _ => ⟨rfl, e4, (by decide : 0 + 0 ≤ _), (by decide : 0 + 0 ≤ _)⟩)
  dsimp only [Pt.U, Pt.locs, Pt.cells, Pt.slots] at X8 l8 y8 z8 st8 hQ8
  subst l8 y8 z8
  obtain ⟨rfl, Nq8, e8⟩ := hQ8
  have N8 := Fr.app N4 Nq8
  refine Go.tr st8 ?_
  show Go _ _ _ _ _ _ _ (T8.setTop (mkF m 14 #[.val (.ref a0), .val (.int p1)] [(.ref y1)]))
  refine Go.retA X8 hx Bd.returns rfl rfl hlk (hb hby d14_14) ?_ (by decide) (by decide)
  rw [e8]
  exact ⟨(rfl), N8, rfl⟩
theorem d12_0 : decode jdk_38_method_6_code 0 = .ok (.aload_n 0, 1) := by decide +kernel
theorem d12_1 : decode jdk_38_method_6_code 1 = .ok (.getfield 9, 3) := by decide +kernel
theorem d12_4 : decode jdk_38_method_6_code 4 = .ok (.arraylength, 1) := by decide +kernel
theorem d12_5 : decode jdk_38_method_6_code 5 = .ok (.istore_n 2, 1) := by decide +kernel
theorem d12_6 : decode jdk_38_method_6_code 6 = .ok (.iload_n 2, 1) := by decide +kernel
theorem d12_7 : decode jdk_38_method_6_code 7 = .ok (.ifCond .gt 13, 3) := by decide +kernel
theorem d12_10 : decode jdk_38_method_6_code 10 = .ok (.aload_n 0, 1) := by decide +kernel
theorem d12_11 : decode jdk_38_method_6_code 11 = .ok (.getfield 9, 3) := by decide +kernel
theorem d12_14 : decode jdk_38_method_6_code 14 = .ok (.getstatic 39, 3) := by decide +kernel
theorem d12_17 : decode jdk_38_method_6_code 17 = .ok (.if_acmp .eq 28, 3) := by decide +kernel
theorem d12_45 : decode jdk_38_method_6_code 45 = .ok (.aload_n 0, 1) := by decide +kernel
theorem d12_46 : decode jdk_38_method_6_code 46 = .ok (.bipush 10, 2) := by decide +kernel
theorem d12_48 : decode jdk_38_method_6_code 48 = .ok (.iload_n 1, 1) := by decide +kernel
theorem d12_49 : decode jdk_38_method_6_code 49 = .ok (.invokestatic 79, 3) := by decide +kernel
theorem d12_52 : decode jdk_38_method_6_code 52 = .ok (.anewarray 7, 3) := by decide +kernel
theorem d12_55 : decode jdk_38_method_6_code 55 = .ok (.dup_x1, 1) := by decide +kernel
theorem d12_56 : decode jdk_38_method_6_code 56 = .ok (.putfield 9, 3) := by decide +kernel
theorem d12_59 : decode jdk_38_method_6_code 59 = .ok (.areturn, 1) := by decide +kernel
theorem ef_12 (m : MethodId) (a0 : Addr) (p1 : Int32) : entryFrame m #[(.ref a0), (.int p1)] 4 = mkF m 0 #[.val (.ref a0), .val (.int p1), .unset, .unset] [] := by first | (simp [entryFrame, mkF, argsToLocals, Value.category]; done) | rfl
def Q12 (Z : State) (a0 : Addr) (p1 : Int32) (w0 : Addr) (wm : Int32) (h0 : Heap) (n0 : Nat) (v : Option Value) (h : Heap) (L : List Loc) : Prop := ∃ (b : Addr), (v = some (.ref b)) ∧ (Fr n0 L) ∧ (Keep h0 h [a0]) ∧ (h0.size ≤ b) ∧ (Exa Z h a0 "java/util/ArrayList") ∧ (Fld Z h a0 "java/util/ArrayList" "elementData" "[Ljava/lang/Object;" (.ref b)) ∧ (Fld Z h a0 "java/util/ArrayList" "size" "I" (.int (0 : Int32))) ∧ (Fld Z h a0 "java/util/AbstractList" "modCount" "I" (.int wm)) ∧ (Ar Z h b "java/lang/Object" (10 : Int32) (fun _ => Value.null))
set_option maxRecDepth 65536 in
set_option maxHeartbeats 40000000 in
theorem rm12 (l : Launch) (Z : State) (aZ : Array Value) (hw : ∀ d ∈ tables_1, d.before aZ Z = true) (ws : List Jvm.Cond) (a0 : Addr) (p1 : Int32) (w0 : Addr) (wm : Int32) (h0 : Heap) (n0 : Nat) (Z0 : n0 ≤ h0.size) (O_0 : Old Z n0 h0) (S_1 : Sta Z Z.heap "java/util/ArrayList" "DEFAULTCAPACITY_EMPTY_ELEMENTDATA" "[Ljava/lang/Object;" (.ref w0)) (A_2 : Ai Z Z.heap w0 (.object "java/lang/Object") 0 (fun _ => 0)) (E_3 : Exa Z h0 a0 "java/util/ArrayList") (F_4 : Fld Z h0 a0 "java/util/ArrayList" "elementData" "[Ljava/lang/Object;" (.ref w0)) (F_5 : Fld Z h0 a0 "java/util/ArrayList" "size" "I" (.int (0 : Int32))) (F_6 : Fld Z h0 a0 "java/util/AbstractList" "modCount" "I" (.int wm)) (g_7 : n0 ≤ a0) (hp1 : p1 = (1 : Int32)) :
    MetFree l (⟨"java/util/ArrayList", "grow", "(I)[Ljava/lang/Object;"⟩ : MethodName) (head1 (Jvm.Cond.code (⟨"java/util/ArrayList", "grow", "(I)[Ljava/lang/Object;"⟩ : MethodName) jdk_38_method_6_code 4 (some (.array (.object "java/lang/Object"))) :: ws) ({ frames := 1, cells := 1, slots := 10, locals := 14 } : Room)) (fun a U => a = #[(.ref a0), (.int p1)] ∧ Z.Warmed39 U.vm ∧ U.heap = h0) (fun _ _ _ _ _ => True) (fun _ U o U' => ∃ v L, o = .returned v ∧ Q12 Z a0 p1 w0 wm h0 n0 v U'.heap L ∧ FrameEnd U o U' L ({ frames := 1, cells := 1, slots := 10, locals := 14 } : Room).cells ({ frames := 1, cells := 1, slots := 10, locals := 14 } : Room).slots) := by
  refine MetFree.of_bodySF (plainFor_of_name pn_7) hisR ?_
  intro p e s m args below meth c s₁ Bd hml0 hP hK
  obtain ⟨rfl, hZ, hh⟩ := hP
  have hx := Bd.exec
  have hby := Bd.bytes
  have hml : c.maxLocals = 4 := hml0
  have hown : s.vm.findClass "java/util/ArrayList" = some m.cls := findClass_of_methodNamed Bd.named
  have hnm := (name_of_methodNamed Bd.named Bd.method).1
  have hlk : meth.locks = false := BodyLoose.notSynchronized Bd
  have X0 : Stand p l e ({ frames := 1, cells := 1, slots := 10, locals := 14 } : Room) s m #[(.ref a0), (.int p1)] below meth c s₁ [] 0 0 := Stand.of_body Bd
  have e0 : s₁.heap = h0 := by rw [← hh, Bd.state]; rfl
  have N0 := Fr.nil n0
  have sq0 : h0.size ≤ h0.size := Nat.le_refl _
  have k0 : Keep h0 h0 [a0] := Keep.refl _ _
  change Go p e below s ({ frames := 1, cells := 1, slots := 10, locals := 14 } : Room).cells ({ frames := 1, cells := 1, slots := 10, locals := 14 } : Room).slots (Q12 Z a0 p1 w0 wm h0 n0) (s₁.setTop (entryFrame m #[(.ref a0), (.int p1)] 4))
  rw [ef_12 m a0 p1]
  subst hp1
  show Go _ _ _ _ _ _ _ (s₁.setTop (mkF m 0 #[.val (.ref a0), .val (.int (1 : Int32)), .unset, .unset] []))
  refine Go.step (fun _ k => XS.aloadN X0.here hx rfl (hb hby d12_0) rfl rfl  k) ?_
  show Go _ _ _ _ _ _ _ (s₁.setTop (mkF m 1 #[.val (.ref a0), .val (.int (1 : Int32)), .unset, .unset] [(.ref a0)]))
  obtain ⟨T1, X1, e1, st1⟩ := getF X0 hx hZ hown (host := "") (Or.inl (hw _ (List.mem_of_getElem? (i := 32) rfl))) Via.refl e0 F_4 (g := (mkF m 1 #[.val (.ref a0), .val (.int (1 : Int32)), .unset, .unset] [(.ref a0)])) rfl rfl (hb hby d12_1)
  refine Go.step st1 ?_
  show Go _ _ _ _ _ _ _ (T1.setTop (mkF m 4 #[.val (.ref a0), .val (.int (1 : Int32)), .unset, .unset] [(.ref w0)]))
  refine Go.step (Ai.len X1 hx hZ e1 (Ai.ext A_2 O_0.2) (g := (mkF m 4 #[.val (.ref a0), .val (.int (1 : Int32)), .unset, .unset] [(.ref w0)])) rfl rfl (hb hby d12_4)) ?_
  show Go _ _ _ _ _ _ _ (T1.setTop (mkF m 5 #[.val (.ref a0), .val (.int (1 : Int32)), .unset, .unset] [(.int (0 : Int32))]))
  refine Go.step (fun _ k => XS.istoreN X1.here hx rfl (hb hby d12_5) rfl (l' := #[.val (.ref a0), .val (.int (1 : Int32)), .val (.int (0 : Int32)), .unset]) rfl k) ?_
  show Go _ _ _ _ _ _ _ (T1.setTop (mkF m 6 #[.val (.ref a0), .val (.int (1 : Int32)), .val (.int (0 : Int32)), .unset] []))
  refine Go.step (fun _ k => XS.iloadN X1.here hx rfl (hb hby d12_6) rfl  k) ?_
  show Go _ _ _ _ _ _ _ (T1.setTop (mkF m 7 #[.val (.ref a0), .val (.int (1 : Int32)), .val (.int (0 : Int32)), .unset] [(.int (0 : Int32))]))
  have hc7 : ¬ ((0 : Int32) < (0 : Int32)) := by decide
  refine Go.step (fun _ k => XS.ifNo X1.here hx rfl (hb hby d12_7) rfl ((if0 _ _).trans (flt hc7).2.2.1) k) ?_
  show Go _ _ _ _ _ _ _ (T1.setTop (mkF m 10 #[.val (.ref a0), .val (.int (1 : Int32)), .val (.int (0 : Int32)), .unset] []))
  refine Go.step (fun _ k => XS.aloadN X1.here hx rfl (hb hby d12_10) rfl rfl  k) ?_
  show Go _ _ _ _ _ _ _ (T1.setTop (mkF m 11 #[.val (.ref a0), .val (.int (1 : Int32)), .val (.int (0 : Int32)), .unset] [(.ref a0)]))
  obtain ⟨T2, X2, e2, st2⟩ := getF X1 hx hZ hown (host := "") (Or.inl (hw _ (List.mem_of_getElem? (i := 32) rfl))) Via.refl e1 F_4 (g := (mkF m 11 #[.val (.ref a0), .val (.int (1 : Int32)), .val (.int (0 : Int32)), .unset] [(.ref a0)])) rfl rfl (hb hby d12_11)
  refine Go.step st2 ?_
  show Go _ _ _ _ _ _ _ (T2.setTop (mkF m 14 #[.val (.ref a0), .val (.int (1 : Int32)), .val (.int (0 : Int32)), .unset] [(.ref w0)]))
  obtain ⟨T3, X3, e3, st3⟩ := getS2 X2 hx hZ hown (host := "") (Or.inl (hw _ (List.mem_of_getElem? (i := 31) rfl))) Via.refl e2 (S_1.ext O_0.2) (g := (mkF m 14 #[.val (.ref a0), .val (.int (1 : Int32)), .val (.int (0 : Int32)), .unset] [(.ref w0)])) rfl (hb hby d12_14)
  refine Go.step st3 ?_
  show Go _ _ _ _ _ _ _ (T3.setTop (mkF m 17 #[.val (.ref a0), .val (.int (1 : Int32)), .val (.int (0 : Int32)), .unset] [(.ref w0), (.ref w0)]))
  refine Go.step (fun _ k => Jvm.RoadKit.acmp (g := (mkF m 17 #[.val (.ref a0), .val (.int (1 : Int32)), .val (.int (0 : Int32)), .unset] [(.ref w0), (.ref w0)])) X3 hx rfl rfl rfl (pc0 := 17) (pc' := 45) (same := true) rfl (hb hby d12_17) rfl (decide_eq_true rfl) (by decide) (by decide) k) ?_
  show Go _ _ _ _ _ _ _ (T3.setTop (mkF m 45 #[.val (.ref a0), .val (.int (1 : Int32)), .val (.int (0 : Int32)), .unset] []))
  refine Go.step (fun _ k => XS.aloadN X3.here hx rfl (hb hby d12_45) rfl rfl  k) ?_
  show Go _ _ _ _ _ _ _ (T3.setTop (mkF m 46 #[.val (.ref a0), .val (.int (1 : Int32)), .val (.int (0 : Int32)), .unset] [(.ref a0)]))
  refine Go.step (fun _ k => XS.bipush X3.here hx rfl (hb hby d12_46) k) ?_
  show Go _ _ _ _ _ _ _ (T3.setTop (mkF m 48 #[.val (.ref a0), .val (.int (1 : Int32)), .val (.int (0 : Int32)), .unset] [(.int (10 : Int32)), (.ref a0)]))
  refine Go.step (fun _ k => XS.iloadN X3.here hx rfl (hb hby d12_48) rfl  k) ?_
  show Go _ _ _ _ _ _ _ (T3.setTop (mkF m 49 #[.val (.ref a0), .val (.int (1 : Int32)), .val (.int (0 : Int32)), .unset] [(.int (1 : Int32)), (.int (10 : Int32)), (.ref a0)]))
  obtain ⟨_, _, ⟨T4, L4, k4, n4⟩, -, X4, ⟨Lc4, hQ4, l4, y4, z4⟩, st4⟩ := Jvm.LawKit.callS X3 hx (y := (⟨"java/lang/Math", "max", "(II)I"⟩ : MethodName)) hown (mvT hZ (hw _ (List.mem_of_getElem? (i := 90) rfl))) (mvT hZ (hw _ (List.mem_of_getElem? (i := 91) rfl))) (mvT hZ (hw _ (List.mem_of_getElem? (i := 92) rfl))) (mvT hZ (hw _ (List.mem_of_getElem? (i := 93) rfl))) (by decide) (backOf (W := 1) (rm13 l Z aZ hw [] (10 : Int32) (1 : Int32) h0 n0 Z0 ) hZ (hw _ (List.mem_of_getElem? (i := 93) rfl)) (hw _ (List.mem_of_getElem? (i := 92) rfl)) (by decide) (by decide)) (g := (mkF m 49 #[.val (.ref a0), .val (.int (1 : Int32)), .val (.int (0 : Int32)), .unset] [(.int (1 : Int32)), (.int (10 : Int32)), (.ref a0)])) rfl (by rw [hml]; rfl) (argsL := [(.int (10 : Int32)), (.int (1 : Int32))]) (rest := [(.ref a0)]) (lenOf pd_2 rfl) rfl (by show 2 * 0 + _ ≤ _; exact Nat.le_of_eq rfl) (hb hby d12_49) (fun _ _ => ⟨rfl, e3, (by decide : 0 + 0 ≤ _), (by decide : 0 + 0 ≤ _)⟩)
  dsimp only [Pt.U, Pt.locs, Pt.cells, Pt.slots] at X4 l4 y4 z4 st4 hQ4
  subst l4 y4 z4
  obtain ⟨rfl, Nq4, e4⟩ := hQ4
  have N4 := Fr.app N0 Nq4
  refine Go.step st4 ?_
  show Go _ _ _ _ _ _ _ (T4.setTop (mkF m 52 #[.val (.ref a0), .val (.int (1 : Int32)), .val (.int (0 : Int32)), .unset] [(.int (if (10 : Int32) < (1 : Int32) then (1 : Int32) else (10 : Int32))), (.ref a0)]))
  have sv5 : (if (10 : Int32) < (1 : Int32) then (1 : Int32) else (10 : Int32)) = (10 : Int32) := if_neg (by decide)
  rw [sv5]
  show Go _ _ _ _ _ _ _ (T4.setTop (mkF m 52 #[.val (.ref a0), .val (.int (1 : Int32)), .val (.int (0 : Int32)), .unset] [(.int (10 : Int32)), (.ref a0)]))
  obtain ⟨T6, h6, k6, X6, e6, E6, A6, O6, st6⟩ := newR X4 hx hZ hown (hw _ (List.mem_of_getElem? (i := 94) rfl)) (hw _ (List.mem_of_getElem? (i := 95) rfl)) e4 (g := (mkF m 52 #[.val (.ref a0), .val (.int (1 : Int32)), .val (.int (0 : Int32)), .unset] [(.int (10 : Int32)), (.ref a0)])) rfl (hb hby d12_52) rfl (by decide) (cap := 10) (by decide) (by decide) (by decide) (by decide)
  obtain ⟨b6, g6⟩ : ∃ z, z = h0.size := ⟨_, rfl⟩
  rw [← g6] at A6 st6
  refine Go.step st6 ?_
  have gn6 : n0 ≤ b6 := Nat.le_trans Z0 (Nat.le_of_eq g6.symm)
  have sz6 : h0.size ≤ b6 := Nat.le_trans sq0 (Nat.le_of_eq g6.symm)
  have ne7 : a0 ≠ b6 := Nat.ne_of_lt (Nat.lt_of_lt_of_le E_3.lt (Nat.le_of_eq g6.symm))
  have z8 : n0 ≤ h6.size := Nat.le_trans Z0 E6.1
  have sqz8 : h0.size ≤ h6.size := Nat.le_trans sq0 E6.1
  have k9 : Keep h0 h6 [a0] := k0.ext E6
  have f10 : Ar Z h6 b6 "java/lang/Object" (10 : Int32) (fun _ => Value.null) := Ar.new A6 O6 (by decide)
  show Go _ _ _ _ _ _ _ (T6.setTop (mkF m 55 #[.val (.ref a0), .val (.int (1 : Int32)), .val (.int (0 : Int32)), .unset] [(.ref b6), (.ref a0)]))
  refine Go.step (fun _ k => XS.dupX1 X6.here hx rfl (hb hby d12_55) rfl rfl rfl k) ?_
  show Go _ _ _ _ _ _ _ (T6.setTop (mkF m 56 #[.val (.ref a0), .val (.int (1 : Int32)), .val (.int (0 : Int32)), .unset] [(.ref b6), (.ref a0), (.ref b6)]))
  have f11 : Exa Z h6 a0 "java/util/ArrayList" := (E_3.ext E6)
  have f12 : Fld Z h6 a0 "java/util/ArrayList" "elementData" "[Ljava/lang/Object;" (.ref w0) := (F_4.ext E6)
  obtain ⟨T13, h13, X13, e13, W13, st13⟩ := putF X6 hx hZ hown (host := "") (Or.inl (hw _ (List.mem_of_getElem? (i := 32) rfl))) Via.refl e6 f12 f11 (Or.inl (hw _ (List.mem_of_getElem? (i := 33) rfl))) (hw _ (List.mem_of_getElem? (i := 11) rfl)) (ty := (.array (.object "java/lang/Object"))) (v := (.ref b6)) (by decide) rfl rfl (g := (mkF m 56 #[.val (.ref a0), .val (.int (1 : Int32)), .val (.int (0 : Int32)), .unset] [(.ref b6), (.ref a0), (.ref b6)])) rfl rfl (hb hby d12_56)
  refine Go.step st13 ?_
  have N13 := Fr.snoc X13 N4 g_7
  have z14 : n0 ≤ h13.size := Nat.le_trans z8 (Keep.of_wr W13).1
  have sqz14 : h0.size ≤ h13.size := Nat.le_trans sqz8 (Keep.of_wr W13).1
  have k15 : Keep h0 h13 [a0] := k9.wr W13 (Or.inl (List.mem_of_getElem? (i := 0) rfl))
  have f16 : Fld Z h13 a0 "java/util/ArrayList" "elementData" "[Ljava/lang/Object;" (.ref b6) := f12.same W13
  show Go _ _ _ _ _ _ _ (T13.setTop (mkF m 59 #[.val (.ref a0), .val (.int (1 : Int32)), .val (.int (0 : Int32)), .unset] [(.ref b6)]))
  have f17 : Exa Z h13 a0 "java/util/ArrayList" := (f11.wr W13)
  have f18 : Fld Z h13 a0 "java/util/ArrayList" "size" "I" (.int (0 : Int32)) := ((F_5.ext E6).other W13 (Or.inr (slot_ne (Or.inl (hw _ (List.mem_of_getElem? (i := 63) rfl))) (Or.inl (hw _ (List.mem_of_getElem? (i := 33) rfl))) (by decide) (t := .int) (t' := (.array (.object "java/lang/Object"))) (by decide) (by decide))))
  have f19 : Fld Z h13 a0 "java/util/AbstractList" "modCount" "I" (.int wm) := ((F_6.ext E6).other W13 (Or.inr (slot_ne (Or.inl (hw _ (List.mem_of_getElem? (i := 30) rfl))) (Or.inl (hw _ (List.mem_of_getElem? (i := 33) rfl))) (by decide) (t := .int) (t' := (.array (.object "java/lang/Object"))) (by decide) (by decide))))
  have f20 : Ar Z h13 b6 "java/lang/Object" (10 : Int32) (fun _ => Value.null) := (f10.other W13 (Ne.symm ne7))
  refine Go.retA X13 hx Bd.returns rfl rfl hlk (hb hby d12_59) ?_ (by decide) (by decide)
  rw [e13]
  exact ⟨b6, (rfl), N13, k15, sz6, f17, f16, f18, f19, f20⟩
theorem pd_4 : parseMethodDescriptor "(I)[Ljava/lang/Object;" = some ⟨[.int], some (.array (.object "java/lang/Object"))⟩ := by decide +kernel
theorem d11_0 : decode jdk_38_method_7_code 0 = .ok (.aload_n 0, 1) := by decide +kernel
theorem d11_1 : decode jdk_38_method_7_code 1 = .ok (.aload_n 0, 1) := by decide +kernel
theorem d11_2 : decode jdk_38_method_7_code 2 = .ok (.getfield 48, 3) := by decide +kernel
theorem d11_5 : decode jdk_38_method_7_code 5 = .ok (.iconst 1, 1) := by decide +kernel
theorem d11_6 : decode jdk_38_method_7_code 6 = .ok (.iadd, 1) := by decide +kernel
theorem d11_7 : decode jdk_38_method_7_code 7 = .ok (.invokevirtual 69, 3) := by decide +kernel
theorem d11_10 : decode jdk_38_method_7_code 10 = .ok (.areturn, 1) := by decide +kernel
theorem ef_11 (m : MethodId) (a0 : Addr) : entryFrame m #[(.ref a0)] 1 = mkF m 0 #[.val (.ref a0)] [] := by first | (simp [entryFrame, mkF, argsToLocals, Value.category]; done) | rfl
def Q11 (Z : State) (a0 : Addr) (w0 : Addr) (wm : Int32) (h0 : Heap) (n0 : Nat) (v : Option Value) (h : Heap) (L : List Loc) : Prop := ∃ (b : Addr), (v = some (.ref b)) ∧ (Fr n0 L) ∧ (Keep h0 h [a0]) ∧ (h0.size ≤ b) ∧ (Exa Z h a0 "java/util/ArrayList") ∧ (Fld Z h a0 "java/util/ArrayList" "elementData" "[Ljava/lang/Object;" (.ref b)) ∧ (Fld Z h a0 "java/util/ArrayList" "size" "I" (.int (0 : Int32))) ∧ (Fld Z h a0 "java/util/AbstractList" "modCount" "I" (.int wm)) ∧ (Ar Z h b "java/lang/Object" (10 : Int32) (fun _ => Value.null))
set_option maxRecDepth 65536 in
set_option maxHeartbeats 40000000 in
theorem rm11 (l : Launch) (Z : State) (aZ : Array Value) (hw : ∀ d ∈ tables_1, d.before aZ Z = true) (ws : List Jvm.Cond) (a0 : Addr) (w0 : Addr) (wm : Int32) (h0 : Heap) (n0 : Nat) (Z0 : n0 ≤ h0.size) (O_0 : Old Z n0 h0) (S_1 : Sta Z Z.heap "java/util/ArrayList" "DEFAULTCAPACITY_EMPTY_ELEMENTDATA" "[Ljava/lang/Object;" (.ref w0)) (A_2 : Ai Z Z.heap w0 (.object "java/lang/Object") 0 (fun _ => 0)) (E_3 : Exa Z h0 a0 "java/util/ArrayList") (F_4 : Fld Z h0 a0 "java/util/ArrayList" "elementData" "[Ljava/lang/Object;" (.ref w0)) (F_5 : Fld Z h0 a0 "java/util/ArrayList" "size" "I" (.int (0 : Int32))) (F_6 : Fld Z h0 a0 "java/util/AbstractList" "modCount" "I" (.int wm)) (g_7 : n0 ≤ a0) :
    MetFree l (⟨"java/util/ArrayList", "grow", "()[Ljava/lang/Object;"⟩ : MethodName) (head1 (Jvm.Cond.code (⟨"java/util/ArrayList", "grow", "()[Ljava/lang/Object;"⟩ : MethodName) jdk_38_method_7_code 1 (some (.array (.object "java/lang/Object"))) :: ws) ({ frames := 2, cells := 1, slots := 10, locals := 29 } : Room)) (fun a U => a = #[(.ref a0)] ∧ Z.Warmed39 U.vm ∧ U.heap = h0) (fun _ _ _ _ _ => True) (fun _ U o U' => ∃ v L, o = .returned v ∧ Q11 Z a0 w0 wm h0 n0 v U'.heap L ∧ FrameEnd U o U' L ({ frames := 2, cells := 1, slots := 10, locals := 29 } : Room).cells ({ frames := 2, cells := 1, slots := 10, locals := 29 } : Room).slots) := by
  refine MetFree.of_bodySF (plainFor_of_name pn_7) hisR ?_
  intro p e s m args below meth c s₁ Bd hml0 hP hK
  obtain ⟨rfl, hZ, hh⟩ := hP
  have hx := Bd.exec
  have hby := Bd.bytes
  have hml : c.maxLocals = 1 := hml0
  have hown : s.vm.findClass "java/util/ArrayList" = some m.cls := findClass_of_methodNamed Bd.named
  have hnm := (name_of_methodNamed Bd.named Bd.method).1
  have hlk : meth.locks = false := BodyLoose.notSynchronized Bd
  have X0 : Stand p l e ({ frames := 2, cells := 1, slots := 10, locals := 29 } : Room) s m #[(.ref a0)] below meth c s₁ [] 0 0 := Stand.of_body Bd
  have e0 : s₁.heap = h0 := by rw [← hh, Bd.state]; rfl
  have N0 := Fr.nil n0
  have sq0 : h0.size ≤ h0.size := Nat.le_refl _
  have k0 : Keep h0 h0 [a0] := Keep.refl _ _
  change Go p e below s ({ frames := 2, cells := 1, slots := 10, locals := 29 } : Room).cells ({ frames := 2, cells := 1, slots := 10, locals := 29 } : Room).slots (Q11 Z a0 w0 wm h0 n0) (s₁.setTop (entryFrame m #[(.ref a0)] 1))
  rw [ef_11 m a0]
  show Go _ _ _ _ _ _ _ (s₁.setTop (mkF m 0 #[.val (.ref a0)] []))
  refine Go.step (fun _ k => XS.aloadN X0.here hx rfl (hb hby d11_0) rfl rfl  k) ?_
  show Go _ _ _ _ _ _ _ (s₁.setTop (mkF m 1 #[.val (.ref a0)] [(.ref a0)]))
  refine Go.step (fun _ k => XS.aloadN X0.here hx rfl (hb hby d11_1) rfl rfl  k) ?_
  show Go _ _ _ _ _ _ _ (s₁.setTop (mkF m 2 #[.val (.ref a0)] [(.ref a0), (.ref a0)]))
  obtain ⟨T1, X1, e1, st1⟩ := getF X0 hx hZ hown (host := "") (Or.inl (hw _ (List.mem_of_getElem? (i := 62) rfl))) Via.refl e0 F_5 (g := (mkF m 2 #[.val (.ref a0)] [(.ref a0), (.ref a0)])) rfl rfl (hb hby d11_2)
  refine Go.step st1 ?_
  show Go _ _ _ _ _ _ _ (T1.setTop (mkF m 5 #[.val (.ref a0)] [(.int (0 : Int32)), (.ref a0)]))
  refine Go.step (fun _ k => XS.iconst X1.here hx rfl (hb hby d11_5) k) ?_
  show Go _ _ _ _ _ _ _ (T1.setTop (mkF m 6 #[.val (.ref a0)] [(.int (1 : Int32)), (.int (0 : Int32)), (.ref a0)]))
  refine Go.step (fun _ k => XS.iadd X1.here hx rfl (hb hby d11_6) rfl k) ?_
  show Go _ _ _ _ _ _ _ (T1.setTop (mkF m 7 #[.val (.ref a0)] [(.int (1 : Int32)), (.ref a0)]))
  have pq2 : (1 : Int32) = (1 : Int32) := rfl
  obtain ⟨cq3, q3, q3'⟩ := E_3.cell
  obtain ⟨_, _, ⟨T3, L3, k3, n3⟩, -, X3, ⟨Lc3, hQ3, l3, y3, z3⟩, st3⟩ := X1.privateBack hx (y := (⟨"java/util/ArrayList", "grow", "(I)[Ljava/lang/Object;"⟩ : MethodName)) hown (mvT hZ (hw _ (List.mem_of_getElem? (i := 85) rfl))) (mvT hZ (hw _ (List.mem_of_getElem? (i := 86) rfl))) (mvT hZ (hw _ (List.mem_of_getElem? (i := 88) rfl))) (Cond.privateMethod_at (mvP hZ (hw _ (List.mem_of_getElem? (i := 87) rfl)) (args := #[]))) (mvT hZ (hw _ (List.mem_of_getElem? (i := 89) rfl))) (by decide) (backOf (W := 0) (rm12 l Z aZ hw [] a0 (1 : Int32) w0 wm h0 n0 Z0 O_0 S_1 A_2 E_3 F_4 F_5 F_6 g_7 pq2) hZ (hw _ (List.mem_of_getElem? (i := 89) rfl)) (hw _ (List.mem_of_getElem? (i := 12) rfl)) (by decide) (by decide)) (g := (mkF m 7 #[.val (.ref a0)] [(.int (1 : Int32)), (.ref a0)])) rfl (by rw [hml]; rfl) (Steps.refl _) (a := a0) (by rw [e1]; exact q3) q3' (argsL := [(.int (1 : Int32))]) (rest := []) (lenOf pd_4 rfl) rfl (by show 2 * 0 + _ ≤ _; exact Nat.le_of_eq rfl) (hb hby d11_7) (fun _ _ => ⟨rfl, e1, (by decide : 0 + 1 ≤ _), (by decide : 0 + 10 ≤ _)⟩)
  dsimp only [Pt.U, Pt.locs, Pt.cells, Pt.slots] at X3 l3 y3 z3 st3 hQ3
  subst l3 y3 z3
  obtain ⟨b_3, rfl, Nq3, K3, c3_0, c3_1, c3_2, c3_3, c3_4, c3_5⟩ := hQ3
  have N3 := Fr.app N0 Nq3
  refine Go.tr st3 ?_
  have ne4 : a0 ≠ b_3 := Nat.ne_of_lt (Nat.lt_of_lt_of_le E_3.lt c3_0)
  have gn3_0 : n0 ≤ b_3 := Nat.le_trans Z0 c3_0
  have sz3_0 : h0.size ≤ b_3 := Nat.le_trans sq0 c3_0
  have z5 : n0 ≤ T3.heap.size := Nat.le_trans Z0 K3.1
  have sqz5 : h0.size ≤ T3.heap.size := Nat.le_trans sq0 K3.1
  have k6 : Keep h0 T3.heap [a0] := k0.trans K3 (allS (Or.inl (List.mem_of_getElem? (i := 0) rfl)) all0)
  show Go _ _ _ _ _ _ _ (T3.setTop (mkF m 10 #[.val (.ref a0)] [(.ref b_3)]))
  refine Go.retA X3 hx Bd.returns rfl rfl hlk (hb hby d11_10) ?_ (by decide) (by decide)
  exact ⟨b_3, (rfl), N3, k6, sz3_0, c3_1, c3_2, c3_3, c3_4, c3_5⟩
theorem pd_5 : parseMethodDescriptor "()[Ljava/lang/Object;" = some ⟨[], some (.array (.object "java/lang/Object"))⟩ := by decide +kernel
theorem d10_0 : decode jdk_38_method_24_code 0 = .ok (.iload_n 3, 1) := by decide +kernel
theorem d10_1 : decode jdk_38_method_24_code 1 = .ok (.aload_n 2, 1) := by decide +kernel
theorem d10_2 : decode jdk_38_method_24_code 2 = .ok (.arraylength, 1) := by decide +kernel
theorem d10_3 : decode jdk_38_method_24_code 3 = .ok (.if_icmp .ne 8, 3) := by decide +kernel
theorem d10_6 : decode jdk_38_method_24_code 6 = .ok (.aload_n 0, 1) := by decide +kernel
theorem d10_7 : decode jdk_38_method_24_code 7 = .ok (.invokevirtual 129, 3) := by decide +kernel
theorem d10_10 : decode jdk_38_method_24_code 10 = .ok (.astore_n 2, 1) := by decide +kernel
theorem d10_11 : decode jdk_38_method_24_code 11 = .ok (.aload_n 2, 1) := by decide +kernel
theorem d10_12 : decode jdk_38_method_24_code 12 = .ok (.iload_n 3, 1) := by decide +kernel
theorem d10_13 : decode jdk_38_method_24_code 13 = .ok (.aload_n 1, 1) := by decide +kernel
theorem d10_14 : decode jdk_38_method_24_code 14 = .ok (.aastore, 1) := by decide +kernel
theorem d10_15 : decode jdk_38_method_24_code 15 = .ok (.aload_n 0, 1) := by decide +kernel
theorem d10_16 : decode jdk_38_method_24_code 16 = .ok (.iload_n 3, 1) := by decide +kernel
theorem d10_17 : decode jdk_38_method_24_code 17 = .ok (.iconst 1, 1) := by decide +kernel
theorem d10_18 : decode jdk_38_method_24_code 18 = .ok (.iadd, 1) := by decide +kernel
theorem d10_19 : decode jdk_38_method_24_code 19 = .ok (.putfield 48, 3) := by decide +kernel
theorem d10_22 : decode jdk_38_method_24_code 22 = .ok (.return_, 1) := by decide +kernel
theorem ef_10 (m : MethodId) (a0 : Addr) (y0 : Addr) (w0 : Addr) (p3 : Int32) : entryFrame m #[(.ref a0), (.ref y0), (.ref w0), (.int p3)] 4 = mkF m 0 #[.val (.ref a0), .val (.ref y0), .val (.ref w0), .val (.int p3)] [] := by first | (simp [entryFrame, mkF, argsToLocals, Value.category]; done) | rfl
def Q10 (Z : State) (a0 : Addr) (y0 : Addr) (w0 : Addr) (p3 : Int32) (wm : Int32) (h0 : Heap) (n0 : Nat) (v : Option Value) (h : Heap) (L : List Loc) : Prop := ∃ (b : Addr), ∃ (u2 : Int32 → Value), (v = none) ∧ (Fr n0 L) ∧ (Keep h0 h [a0]) ∧ (h0.size ≤ b) ∧ (Exa Z h a0 "java/util/ArrayList") ∧ (Fld Z h a0 "java/util/ArrayList" "elementData" "[Ljava/lang/Object;" (.ref b)) ∧ (Fld Z h a0 "java/util/ArrayList" "size" "I" (.int (1 : Int32))) ∧ (Ar Z h b "java/lang/Object" (10 : Int32) u2) ∧ (u2 (0 : Int32) = Value.ref y0)
set_option maxRecDepth 65536 in
set_option maxHeartbeats 40000000 in
theorem rm10 (l : Launch) (Z : State) (aZ : Array Value) (hw : ∀ d ∈ tables_1, d.before aZ Z = true) (ws : List Jvm.Cond) (a0 : Addr) (y0 : Addr) (w0 : Addr) (p3 : Int32) (wm : Int32) (h0 : Heap) (n0 : Nat) (Z0 : n0 ≤ h0.size) (O_0 : Old Z n0 h0) (S_1 : Sta Z Z.heap "java/util/ArrayList" "DEFAULTCAPACITY_EMPTY_ELEMENTDATA" "[Ljava/lang/Object;" (.ref w0)) (A_2 : Ai Z Z.heap w0 (.object "java/lang/Object") 0 (fun _ => 0)) (E_3 : Exa Z h0 a0 "java/util/ArrayList") (F_4 : Fld Z h0 a0 "java/util/ArrayList" "elementData" "[Ljava/lang/Object;" (.ref w0)) (F_5 : Fld Z h0 a0 "java/util/ArrayList" "size" "I" (.int (0 : Int32))) (F_6 : Fld Z h0 a0 "java/util/AbstractList" "modCount" "I" (.int wm)) (E_7 : Exa Z h0 y0 "[J") (g_8 : n0 ≤ a0) (hp3 : p3 = (0 : Int32)) :
    MetFree l (⟨"java/util/ArrayList", "add", "(Ljava/lang/Object;[Ljava/lang/Object;I)V"⟩ : MethodName) (head1 (Jvm.Cond.code (⟨"java/util/ArrayList", "add", "(Ljava/lang/Object;[Ljava/lang/Object;I)V"⟩ : MethodName) jdk_38_method_24_code 4 none :: ws) ({ frames := 3, cells := 1, slots := 10, locals := 41 } : Room)) (fun a U => a = #[(.ref a0), (.ref y0), (.ref w0), (.int p3)] ∧ Z.Warmed39 U.vm ∧ U.heap = h0) (fun _ _ _ _ _ => True) (fun _ U o U' => ∃ v L, o = .returned v ∧ Q10 Z a0 y0 w0 p3 wm h0 n0 v U'.heap L ∧ FrameEnd U o U' L ({ frames := 3, cells := 1, slots := 10, locals := 41 } : Room).cells ({ frames := 3, cells := 1, slots := 10, locals := 41 } : Room).slots) := by
  refine MetFree.of_bodySF (plainFor_of_name pn_7) hisR ?_
  intro p e s m args below meth c s₁ Bd hml0 hP hK
  obtain ⟨rfl, hZ, hh⟩ := hP
  have hx := Bd.exec
  have hby := Bd.bytes
  have hml : c.maxLocals = 4 := hml0
  have hown : s.vm.findClass "java/util/ArrayList" = some m.cls := findClass_of_methodNamed Bd.named
  have hnm := (name_of_methodNamed Bd.named Bd.method).1
  have hlk : meth.locks = false := BodyLoose.notSynchronized Bd
  have X0 : Stand p l e ({ frames := 3, cells := 1, slots := 10, locals := 41 } : Room) s m #[(.ref a0), (.ref y0), (.ref w0), (.int p3)] below meth c s₁ [] 0 0 := Stand.of_body Bd
  have e0 : s₁.heap = h0 := by rw [← hh, Bd.state]; rfl
  have N0 := Fr.nil n0
  have sq0 : h0.size ≤ h0.size := Nat.le_refl _
  have k0 : Keep h0 h0 [a0] := Keep.refl _ _
  change Go p e below s ({ frames := 3, cells := 1, slots := 10, locals := 41 } : Room).cells ({ frames := 3, cells := 1, slots := 10, locals := 41 } : Room).slots (Q10 Z a0 y0 w0 p3 wm h0 n0) (s₁.setTop (entryFrame m #[(.ref a0), (.ref y0), (.ref w0), (.int p3)] 4))
  rw [ef_10 m a0 y0 w0 p3]
  subst hp3
  show Go _ _ _ _ _ _ _ (s₁.setTop (mkF m 0 #[.val (.ref a0), .val (.ref y0), .val (.ref w0), .val (.int (0 : Int32))] []))
  refine Go.step (fun _ k => XS.iloadN X0.here hx rfl (hb hby d10_0) rfl  k) ?_
  show Go _ _ _ _ _ _ _ (s₁.setTop (mkF m 1 #[.val (.ref a0), .val (.ref y0), .val (.ref w0), .val (.int (0 : Int32))] [(.int (0 : Int32))]))
  refine Go.step (fun _ k => XS.aloadN X0.here hx rfl (hb hby d10_1) rfl rfl  k) ?_
  show Go _ _ _ _ _ _ _ (s₁.setTop (mkF m 2 #[.val (.ref a0), .val (.ref y0), .val (.ref w0), .val (.int (0 : Int32))] [(.ref w0), (.int (0 : Int32))]))
  refine Go.step (Ai.len X0 hx hZ e0 (Ai.ext A_2 O_0.2) (g := (mkF m 2 #[.val (.ref a0), .val (.ref y0), .val (.ref w0), .val (.int (0 : Int32))] [(.ref w0), (.int (0 : Int32))])) rfl rfl (hb hby d10_2)) ?_
  show Go _ _ _ _ _ _ _ (s₁.setTop (mkF m 3 #[.val (.ref a0), .val (.ref y0), .val (.ref w0), .val (.int (0 : Int32))] [(.int (0 : Int32)), (.int (0 : Int32))]))
  have hc3 : (0 : Int32) = (0 : Int32) := by decide
  refine Go.step (fun _ k => XS.icmpNo X0.here hx rfl (hb hby d10_3) rfl (teq hc3).2 k) ?_
  show Go _ _ _ _ _ _ _ (s₁.setTop (mkF m 6 #[.val (.ref a0), .val (.ref y0), .val (.ref w0), .val (.int (0 : Int32))] []))
  refine Go.step (fun _ k => XS.aloadN X0.here hx rfl (hb hby d10_6) rfl rfl  k) ?_
  show Go _ _ _ _ _ _ _ (s₁.setTop (mkF m 7 #[.val (.ref a0), .val (.ref y0), .val (.ref w0), .val (.int (0 : Int32))] [(.ref a0)]))
  obtain ⟨cq1, q1, q1'⟩ := E_3.cell
  obtain ⟨_, _, ⟨T1, L1, k1, n1⟩, -, X1, ⟨Lc1, hQ1, l1, y1, z1⟩, st1⟩ := X0.privateBack hx (y := (⟨"java/util/ArrayList", "grow", "()[Ljava/lang/Object;"⟩ : MethodName)) hown (mvT hZ (hw _ (List.mem_of_getElem? (i := 80) rfl))) (mvT hZ (hw _ (List.mem_of_getElem? (i := 81) rfl))) (mvT hZ (hw _ (List.mem_of_getElem? (i := 83) rfl))) (Cond.privateMethod_at (mvP hZ (hw _ (List.mem_of_getElem? (i := 82) rfl)) (args := #[]))) (mvT hZ (hw _ (List.mem_of_getElem? (i := 84) rfl))) (by decide) (backOf (W := 0) (rm11 l Z aZ hw [] a0 w0 wm h0 n0 Z0 O_0 S_1 A_2 E_3 F_4 F_5 F_6 g_8) hZ (hw _ (List.mem_of_getElem? (i := 84) rfl)) (hw _ (List.mem_of_getElem? (i := 12) rfl)) (by decide) (by decide)) (g := (mkF m 7 #[.val (.ref a0), .val (.ref y0), .val (.ref w0), .val (.int (0 : Int32))] [(.ref a0)])) rfl (by rw [hml]; rfl) (Steps.refl _) (a := a0) (by rw [e0]; exact q1) q1' (argsL := []) (rest := []) (lenOf pd_5 rfl) rfl (by show 2 * 0 + _ ≤ _; exact Nat.le_of_eq rfl) (hb hby d10_7) (fun _ _ => ⟨rfl, e0, (by decide : 0 + 1 ≤ _), (by decide : 0 + 10 ≤ _)⟩)
  dsimp only [Pt.U, Pt.locs, Pt.cells, Pt.slots] at X1 l1 y1 z1 st1 hQ1
  subst l1 y1 z1
  obtain ⟨b_1, rfl, Nq1, K1, c1_0, c1_1, c1_2, c1_3, c1_4, c1_5⟩ := hQ1
  have N1 := Fr.app N0 Nq1
  refine Go.tr st1 ?_
  have ne2 : a0 ≠ b_1 := Nat.ne_of_lt (Nat.lt_of_lt_of_le E_3.lt c1_0)
  have ne3 : y0 ≠ b_1 := Nat.ne_of_lt (Nat.lt_of_lt_of_le E_7.lt c1_0)
  have gn1_0 : n0 ≤ b_1 := Nat.le_trans Z0 c1_0
  have sz1_0 : h0.size ≤ b_1 := Nat.le_trans sq0 c1_0
  have z4 : n0 ≤ T1.heap.size := Nat.le_trans Z0 K1.1
  have sqz4 : h0.size ≤ T1.heap.size := Nat.le_trans sq0 K1.1
  have k5 : Keep h0 T1.heap [a0] := k0.trans K1 (allS (Or.inl (List.mem_of_getElem? (i := 0) rfl)) all0)
  show Go _ _ _ _ _ _ _ (T1.setTop (mkF m 10 #[.val (.ref a0), .val (.ref y0), .val (.ref w0), .val (.int (0 : Int32))] [(.ref b_1)]))
  refine Go.step (fun _ k => XS.astoreN X1.here hx rfl (hb hby d10_10) rfl rfl (l' := #[.val (.ref a0), .val (.ref y0), .val (.ref b_1), .val (.int (0 : Int32))]) rfl k) ?_
  show Go _ _ _ _ _ _ _ (T1.setTop (mkF m 11 #[.val (.ref a0), .val (.ref y0), .val (.ref b_1), .val (.int (0 : Int32))] []))
  refine Go.step (fun _ k => XS.aloadN X1.here hx rfl (hb hby d10_11) rfl rfl  k) ?_
  show Go _ _ _ _ _ _ _ (T1.setTop (mkF m 12 #[.val (.ref a0), .val (.ref y0), .val (.ref b_1), .val (.int (0 : Int32))] [(.ref b_1)]))
  refine Go.step (fun _ k => XS.iloadN X1.here hx rfl (hb hby d10_12) rfl  k) ?_
  show Go _ _ _ _ _ _ _ (T1.setTop (mkF m 13 #[.val (.ref a0), .val (.ref y0), .val (.ref b_1), .val (.int (0 : Int32))] [(.int (0 : Int32)), (.ref b_1)]))
  refine Go.step (fun _ k => XS.aloadN X1.here hx rfl (hb hby d10_13) rfl rfl  k) ?_
  show Go _ _ _ _ _ _ _ (T1.setTop (mkF m 14 #[.val (.ref a0), .val (.ref y0), .val (.ref b_1), .val (.int (0 : Int32))] [(.ref y0), (.int (0 : Int32)), (.ref b_1)]))
  have lo6 : ¬ (0 : Int32) < 0 := (by decide)
  have hi6 : (0 : Int32) < (10 : Int32) := (by decide)
  have f8 : Exa Z T1.heap y0 "[J" := (E_7.keep K1)
  obtain ⟨T7, h7, X7, e7, W7, f7, st7⟩ := Ar.stR X1 hx hZ rfl c1_5 (j := (0 : Int32)) (y := y0) lo6 hi6 (Ins.of_exa f8 (hw _ (List.mem_of_getElem? (i := 96) rfl))) (g := (mkF m 14 #[.val (.ref a0), .val (.ref y0), .val (.ref b_1), .val (.int (0 : Int32))] [(.ref y0), (.int (0 : Int32)), (.ref b_1)])) rfl rfl (hb hby d10_14)
  refine Go.step st7 ?_
  have N7 := Fr.snoc X7 N1 gn1_0
  have z9 : n0 ≤ h7.size := Nat.le_trans z4 (Keep.of_wr W7).1
  have sqz9 : h0.size ≤ h7.size := Nat.le_trans sqz4 (Keep.of_wr W7).1
  have k10 : Keep h0 h7 [a0] := k5.wr W7 (Or.inr sz1_0)
  obtain ⟨f11c, qf11c⟩ : ∃ fz, fz = (fun jj => if jj = (0 : Int32) then Value.ref y0 else (fun _ => Value.null) jj) := ⟨_, rfl⟩
  rw [← qf11c] at f7
  show Go _ _ _ _ _ _ _ (T7.setTop (mkF m 15 #[.val (.ref a0), .val (.ref y0), .val (.ref b_1), .val (.int (0 : Int32))] []))
  refine Go.step (fun _ k => XS.aloadN X7.here hx rfl (hb hby d10_15) rfl rfl  k) ?_
  show Go _ _ _ _ _ _ _ (T7.setTop (mkF m 16 #[.val (.ref a0), .val (.ref y0), .val (.ref b_1), .val (.int (0 : Int32))] [(.ref a0)]))
  refine Go.step (fun _ k => XS.iloadN X7.here hx rfl (hb hby d10_16) rfl  k) ?_
  show Go _ _ _ _ _ _ _ (T7.setTop (mkF m 17 #[.val (.ref a0), .val (.ref y0), .val (.ref b_1), .val (.int (0 : Int32))] [(.int (0 : Int32)), (.ref a0)]))
  refine Go.step (fun _ k => XS.iconst X7.here hx rfl (hb hby d10_17) k) ?_
  show Go _ _ _ _ _ _ _ (T7.setTop (mkF m 18 #[.val (.ref a0), .val (.ref y0), .val (.ref b_1), .val (.int (0 : Int32))] [(.int (1 : Int32)), (.int (0 : Int32)), (.ref a0)]))
  refine Go.step (fun _ k => XS.iadd X7.here hx rfl (hb hby d10_18) rfl k) ?_
  show Go _ _ _ _ _ _ _ (T7.setTop (mkF m 19 #[.val (.ref a0), .val (.ref y0), .val (.ref b_1), .val (.int (0 : Int32))] [(.int (1 : Int32)), (.ref a0)]))
  have f12 : Exa Z h7 a0 "java/util/ArrayList" := (c1_1.wr W7)
  have f13 : Fld Z h7 a0 "java/util/ArrayList" "size" "I" (.int (0 : Int32)) := (c1_3.other W7 (Or.inl ne2))
  obtain ⟨T14, h14, X14, e14, W14, st14⟩ := putF X7 hx hZ hown (host := "") (Or.inl (hw _ (List.mem_of_getElem? (i := 62) rfl))) Via.refl e7 f13 f12 (Or.inl (hw _ (List.mem_of_getElem? (i := 63) rfl))) (hw _ (List.mem_of_getElem? (i := 11) rfl)) (ty := .int) (v := (.int (1 : Int32))) (by decide) rfl rfl (g := (mkF m 19 #[.val (.ref a0), .val (.ref y0), .val (.ref b_1), .val (.int (0 : Int32))] [(.int (1 : Int32)), (.ref a0)])) rfl rfl (hb hby d10_19)
  refine Go.step st14 ?_
  have N14 := Fr.snoc X14 N7 g_8
  have z15 : n0 ≤ h14.size := Nat.le_trans z9 (Keep.of_wr W14).1
  have sqz15 : h0.size ≤ h14.size := Nat.le_trans sqz9 (Keep.of_wr W14).1
  have k16 : Keep h0 h14 [a0] := k10.wr W14 (Or.inl (List.mem_of_getElem? (i := 0) rfl))
  have f17 : Fld Z h14 a0 "java/util/ArrayList" "size" "I" (.int (1 : Int32)) := f13.same W14
  show Go _ _ _ _ _ _ _ (T14.setTop (mkF m 22 #[.val (.ref a0), .val (.ref y0), .val (.ref b_1), .val (.int (0 : Int32))] []))
  have f18 : Exa Z h14 a0 "java/util/ArrayList" := (f12.wr W14)
  have f19 : Fld Z h14 a0 "java/util/ArrayList" "elementData" "[Ljava/lang/Object;" (.ref b_1) := ((c1_2.other W7 (Or.inl ne2)).other W14 (Or.inr (slot_ne (Or.inl (hw _ (List.mem_of_getElem? (i := 33) rfl))) (Or.inl (hw _ (List.mem_of_getElem? (i := 63) rfl))) (by decide) (t := (.array (.object "java/lang/Object"))) (t' := .int) (by decide) (by decide))))
  have f20 : Ar Z h14 b_1 "java/lang/Object" (10 : Int32) f11c := (f7.other W14 (Ne.symm ne2))
  refine Go.retV X14 hx Bd.returns hlk (hb hby d10_22) ?_ (by decide) (by decide)
  rw [e14]
  exact ⟨b_1, f11c, (rfl), N14, k16, sz1_0, f18, f19, f17, f20, (by simp [qf11c])⟩
theorem pd_6 : parseMethodDescriptor "(Ljava/lang/Object;[Ljava/lang/Object;I)V" = some ⟨[(.object "java/lang/Object"), (.array (.object "java/lang/Object")), .int], none⟩ := by decide +kernel
theorem d9_0 : decode jdk_38_method_25_code 0 = .ok (.aload_n 0, 1) := by decide +kernel
theorem d9_1 : decode jdk_38_method_25_code 1 = .ok (.dup, 1) := by decide +kernel
theorem d9_2 : decode jdk_38_method_25_code 2 = .ok (.getfield 63, 3) := by decide +kernel
theorem d9_5 : decode jdk_38_method_25_code 5 = .ok (.iconst 1, 1) := by decide +kernel
theorem d9_6 : decode jdk_38_method_25_code 6 = .ok (.iadd, 1) := by decide +kernel
theorem d9_7 : decode jdk_38_method_25_code 7 = .ok (.putfield 63, 3) := by decide +kernel
theorem d9_10 : decode jdk_38_method_25_code 10 = .ok (.aload_n 0, 1) := by decide +kernel
theorem d9_11 : decode jdk_38_method_25_code 11 = .ok (.aload_n 1, 1) := by decide +kernel
theorem d9_12 : decode jdk_38_method_25_code 12 = .ok (.aload_n 0, 1) := by decide +kernel
theorem d9_13 : decode jdk_38_method_25_code 13 = .ok (.getfield 9, 3) := by decide +kernel
theorem d9_16 : decode jdk_38_method_25_code 16 = .ok (.aload_n 0, 1) := by decide +kernel
theorem d9_17 : decode jdk_38_method_25_code 17 = .ok (.getfield 48, 3) := by decide +kernel
theorem d9_20 : decode jdk_38_method_25_code 20 = .ok (.invokevirtual 131, 3) := by decide +kernel
theorem d9_23 : decode jdk_38_method_25_code 23 = .ok (.iconst 1, 1) := by decide +kernel
theorem d9_24 : decode jdk_38_method_25_code 24 = .ok (.ireturn, 1) := by decide +kernel
theorem ef_9 (m : MethodId) (a0 : Addr) (y0 : Addr) : entryFrame m #[(.ref a0), (.ref y0)] 2 = mkF m 0 #[.val (.ref a0), .val (.ref y0)] [] := by first | (simp [entryFrame, mkF, argsToLocals, Value.category]; done) | rfl
def Q9 (Z : State) (a0 : Addr) (y0 : Addr) (w0 : Addr) (wm : Int32) (h0 : Heap) (n0 : Nat) (v : Option Value) (h : Heap) (L : List Loc) : Prop := ∃ (b : Addr), ∃ (u2 : Int32 → Value), (v = some (.int (1 : Int32))) ∧ (Fr n0 L) ∧ (Keep h0 h [a0]) ∧ (h0.size ≤ b) ∧ (Exa Z h a0 "java/util/ArrayList") ∧ (Fld Z h a0 "java/util/ArrayList" "elementData" "[Ljava/lang/Object;" (.ref b)) ∧ (Fld Z h a0 "java/util/ArrayList" "size" "I" (.int (1 : Int32))) ∧ (Ar Z h b "java/lang/Object" (10 : Int32) u2) ∧ (u2 (0 : Int32) = Value.ref y0)
set_option maxRecDepth 65536 in
set_option maxHeartbeats 40000000 in
theorem rm9 (l : Launch) (Z : State) (aZ : Array Value) (hw : ∀ d ∈ tables_1, d.before aZ Z = true) (ws : List Jvm.Cond) (a0 : Addr) (y0 : Addr) (w0 : Addr) (wm : Int32) (h0 : Heap) (n0 : Nat) (Z0 : n0 ≤ h0.size) (O_0 : Old Z n0 h0) (S_1 : Sta Z Z.heap "java/util/ArrayList" "DEFAULTCAPACITY_EMPTY_ELEMENTDATA" "[Ljava/lang/Object;" (.ref w0)) (A_2 : Ai Z Z.heap w0 (.object "java/lang/Object") 0 (fun _ => 0)) (E_3 : Exa Z h0 a0 "java/util/ArrayList") (F_4 : Fld Z h0 a0 "java/util/ArrayList" "elementData" "[Ljava/lang/Object;" (.ref w0)) (F_5 : Fld Z h0 a0 "java/util/ArrayList" "size" "I" (.int (0 : Int32))) (F_6 : Fld Z h0 a0 "java/util/AbstractList" "modCount" "I" (.int wm)) (E_7 : Exa Z h0 y0 "[J") (g_8 : n0 ≤ a0) :
    MetFree l (⟨"java/util/ArrayList", "add", "(Ljava/lang/Object;)Z"⟩ : MethodName) (head1 (Jvm.Cond.code (⟨"java/util/ArrayList", "add", "(Ljava/lang/Object;)Z"⟩ : MethodName) jdk_38_method_25_code 2 (some .boolean) :: ws) ({ frames := 4, cells := 1, slots := 10, locals := 56 } : Room)) (fun a U => a = #[(.ref a0), (.ref y0)] ∧ Z.Warmed39 U.vm ∧ U.heap = h0) (fun _ _ _ _ _ => True) (fun _ U o U' => ∃ v L, o = .returned v ∧ Q9 Z a0 y0 w0 wm h0 n0 v U'.heap L ∧ FrameEnd U o U' L ({ frames := 4, cells := 1, slots := 10, locals := 56 } : Room).cells ({ frames := 4, cells := 1, slots := 10, locals := 56 } : Room).slots) := by
  refine MetFree.of_bodySF (plainFor_of_name pn_7) hisR ?_
  intro p e s m args below meth c s₁ Bd hml0 hP hK
  obtain ⟨rfl, hZ, hh⟩ := hP
  have hx := Bd.exec
  have hby := Bd.bytes
  have hml : c.maxLocals = 2 := hml0
  have hown : s.vm.findClass "java/util/ArrayList" = some m.cls := findClass_of_methodNamed Bd.named
  have hnm := (name_of_methodNamed Bd.named Bd.method).1
  have hlk : meth.locks = false := BodyLoose.notSynchronized Bd
  have X0 : Stand p l e ({ frames := 4, cells := 1, slots := 10, locals := 56 } : Room) s m #[(.ref a0), (.ref y0)] below meth c s₁ [] 0 0 := Stand.of_body Bd
  have e0 : s₁.heap = h0 := by rw [← hh, Bd.state]; rfl
  have N0 := Fr.nil n0
  have sq0 : h0.size ≤ h0.size := Nat.le_refl _
  have k0 : Keep h0 h0 [a0] := Keep.refl _ _
  change Go p e below s ({ frames := 4, cells := 1, slots := 10, locals := 56 } : Room).cells ({ frames := 4, cells := 1, slots := 10, locals := 56 } : Room).slots (Q9 Z a0 y0 w0 wm h0 n0) (s₁.setTop (entryFrame m #[(.ref a0), (.ref y0)] 2))
  rw [ef_9 m a0 y0]
  show Go _ _ _ _ _ _ _ (s₁.setTop (mkF m 0 #[.val (.ref a0), .val (.ref y0)] []))
  refine Go.step (fun _ k => XS.aloadN X0.here hx rfl (hb hby d9_0) rfl rfl  k) ?_
  show Go _ _ _ _ _ _ _ (s₁.setTop (mkF m 1 #[.val (.ref a0), .val (.ref y0)] [(.ref a0)]))
  refine Go.step (fun _ k => XS.dup X0.here hx rfl (hb hby d9_1) rfl rfl k) ?_
  show Go _ _ _ _ _ _ _ (s₁.setTop (mkF m 2 #[.val (.ref a0), .val (.ref y0)] [(.ref a0), (.ref a0)]))
  obtain ⟨T1, X1, e1, st1⟩ := getF X0 hx hZ hown (host := "") (Or.inl (hw _ (List.mem_of_getElem? (i := 73) rfl))) (Via.of (hw _ (List.mem_of_getElem? (i := 74) rfl))) e0 F_6 (g := (mkF m 2 #[.val (.ref a0), .val (.ref y0)] [(.ref a0), (.ref a0)])) rfl rfl (hb hby d9_2)
  refine Go.step st1 ?_
  show Go _ _ _ _ _ _ _ (T1.setTop (mkF m 5 #[.val (.ref a0), .val (.ref y0)] [(.int wm), (.ref a0)]))
  refine Go.step (fun _ k => XS.iconst X1.here hx rfl (hb hby d9_5) k) ?_
  show Go _ _ _ _ _ _ _ (T1.setTop (mkF m 6 #[.val (.ref a0), .val (.ref y0)] [(.int (1 : Int32)), (.int wm), (.ref a0)]))
  refine Go.step (fun _ k => XS.iadd X1.here hx rfl (hb hby d9_6) rfl k) ?_
  show Go _ _ _ _ _ _ _ (T1.setTop (mkF m 7 #[.val (.ref a0), .val (.ref y0)] [(.int (wm + (1 : Int32))), (.ref a0)]))
  obtain ⟨T2, h2, X2, e2, W2, st2⟩ := putF X1 hx hZ hown (host := "") (Or.inl (hw _ (List.mem_of_getElem? (i := 73) rfl))) (Via.of (hw _ (List.mem_of_getElem? (i := 74) rfl))) e1 F_6 E_3 (Or.inl (hw _ (List.mem_of_getElem? (i := 30) rfl))) (hw _ (List.mem_of_getElem? (i := 11) rfl)) (ty := .int) (v := (.int (wm + (1 : Int32)))) (by decide) rfl rfl (g := (mkF m 7 #[.val (.ref a0), .val (.ref y0)] [(.int (wm + (1 : Int32))), (.ref a0)])) rfl rfl (hb hby d9_7)
  refine Go.step st2 ?_
  have N2 := Fr.snoc X2 N0 g_8
  have z3 : n0 ≤ h2.size := Nat.le_trans Z0 (Keep.of_wr W2).1
  have sqz3 : h0.size ≤ h2.size := Nat.le_trans sq0 (Keep.of_wr W2).1
  have k4 : Keep h0 h2 [a0] := k0.wr W2 (Or.inl (List.mem_of_getElem? (i := 0) rfl))
  have f5 : Fld Z h2 a0 "java/util/AbstractList" "modCount" "I" (.int (wm + (1 : Int32))) := F_6.same W2
  show Go _ _ _ _ _ _ _ (T2.setTop (mkF m 10 #[.val (.ref a0), .val (.ref y0)] []))
  refine Go.step (fun _ k => XS.aloadN X2.here hx rfl (hb hby d9_10) rfl rfl  k) ?_
  show Go _ _ _ _ _ _ _ (T2.setTop (mkF m 11 #[.val (.ref a0), .val (.ref y0)] [(.ref a0)]))
  refine Go.step (fun _ k => XS.aloadN X2.here hx rfl (hb hby d9_11) rfl rfl  k) ?_
  show Go _ _ _ _ _ _ _ (T2.setTop (mkF m 12 #[.val (.ref a0), .val (.ref y0)] [(.ref y0), (.ref a0)]))
  refine Go.step (fun _ k => XS.aloadN X2.here hx rfl (hb hby d9_12) rfl rfl  k) ?_
  show Go _ _ _ _ _ _ _ (T2.setTop (mkF m 13 #[.val (.ref a0), .val (.ref y0)] [(.ref a0), (.ref y0), (.ref a0)]))
  have f6 : Fld Z h2 a0 "java/util/ArrayList" "elementData" "[Ljava/lang/Object;" (.ref w0) := (F_4.other W2 (Or.inr (slot_ne (Or.inl (hw _ (List.mem_of_getElem? (i := 33) rfl))) (Or.inl (hw _ (List.mem_of_getElem? (i := 30) rfl))) (by decide) (t := (.array (.object "java/lang/Object"))) (t' := .int) (by decide) (by decide))))
  obtain ⟨T7, X7, e7, st7⟩ := getF X2 hx hZ hown (host := "") (Or.inl (hw _ (List.mem_of_getElem? (i := 32) rfl))) Via.refl e2 f6 (g := (mkF m 13 #[.val (.ref a0), .val (.ref y0)] [(.ref a0), (.ref y0), (.ref a0)])) rfl rfl (hb hby d9_13)
  refine Go.step st7 ?_
  show Go _ _ _ _ _ _ _ (T7.setTop (mkF m 16 #[.val (.ref a0), .val (.ref y0)] [(.ref w0), (.ref y0), (.ref a0)]))
  refine Go.step (fun _ k => XS.aloadN X7.here hx rfl (hb hby d9_16) rfl rfl  k) ?_
  show Go _ _ _ _ _ _ _ (T7.setTop (mkF m 17 #[.val (.ref a0), .val (.ref y0)] [(.ref a0), (.ref w0), (.ref y0), (.ref a0)]))
  have f8 : Fld Z h2 a0 "java/util/ArrayList" "size" "I" (.int (0 : Int32)) := (F_5.other W2 (Or.inr (slot_ne (Or.inl (hw _ (List.mem_of_getElem? (i := 63) rfl))) (Or.inl (hw _ (List.mem_of_getElem? (i := 30) rfl))) (by decide) (t := .int) (t' := .int) (by decide) (by decide))))
  obtain ⟨T9, X9, e9, st9⟩ := getF X7 hx hZ hown (host := "") (Or.inl (hw _ (List.mem_of_getElem? (i := 62) rfl))) Via.refl e7 f8 (g := (mkF m 17 #[.val (.ref a0), .val (.ref y0)] [(.ref a0), (.ref w0), (.ref y0), (.ref a0)])) rfl rfl (hb hby d9_17)
  refine Go.step st9 ?_
  show Go _ _ _ _ _ _ _ (T9.setTop (mkF m 20 #[.val (.ref a0), .val (.ref y0)] [(.int (0 : Int32)), (.ref w0), (.ref y0), (.ref a0)]))
  have f10 : Old Z n0 h2 := (O_0.wr W2 g_8)
  have f11 : Exa Z h2 a0 "java/util/ArrayList" := (E_3.wr W2)
  have f12 : Exa Z h2 y0 "[J" := (E_7.wr W2)
  have pq13 : (0 : Int32) = (0 : Int32) := rfl
  obtain ⟨cq14, q14, q14'⟩ := f11.cell
  obtain ⟨_, _, ⟨T14, L14, k14, n14⟩, -, X14, ⟨Lc14, hQ14, l14, y14, z14⟩, st14⟩ := X9.privateBack hx (y := (⟨"java/util/ArrayList", "add", "(Ljava/lang/Object;[Ljava/lang/Object;I)V"⟩ : MethodName)) hown (mvT hZ (hw _ (List.mem_of_getElem? (i := 75) rfl))) (mvT hZ (hw _ (List.mem_of_getElem? (i := 76) rfl))) (mvT hZ (hw _ (List.mem_of_getElem? (i := 78) rfl))) (Cond.privateMethod_at (mvP hZ (hw _ (List.mem_of_getElem? (i := 77) rfl)) (args := #[]))) (mvT hZ (hw _ (List.mem_of_getElem? (i := 79) rfl))) (by decide) (backOf (W := 0) (rm10 l Z aZ hw [] a0 y0 w0 (0 : Int32) (wm + (1 : Int32)) h2 n0 z3 f10 S_1 A_2 f11 f6 f8 f5 f12 g_8 pq13) hZ (hw _ (List.mem_of_getElem? (i := 79) rfl)) (hw _ (List.mem_of_getElem? (i := 12) rfl)) (by decide) (by decide)) (g := (mkF m 20 #[.val (.ref a0), .val (.ref y0)] [(.int (0 : Int32)), (.ref w0), (.ref y0), (.ref a0)])) rfl (by rw [hml]; rfl) (Steps.refl _) (a := a0) (by rw [e9]; exact q14) q14' (argsL := [(.ref y0), (.ref w0), (.int (0 : Int32))]) (rest := []) (lenOf pd_6 rfl) rfl (by show 2 * 0 + _ ≤ _; exact Nat.le_of_eq rfl) (hb hby d9_20) (fun _ _ => ⟨rfl, e9, (by decide : 0 + 1 ≤ _), (by decide : 0 + 10 ≤ _)⟩)
  dsimp only [Pt.U, Pt.locs, Pt.cells, Pt.slots] at X14 l14 y14 z14 st14 hQ14
  subst l14 y14 z14
  obtain ⟨b_14, u2_14, rfl, Nq14, K14, c14_0, c14_1, c14_2, c14_3, c14_4, u14_0⟩ := hQ14
  have N14 := Fr.app N2 Nq14
  refine Go.tr st14 ?_
  have ne15 : a0 ≠ b_14 := Nat.ne_of_lt (Nat.lt_of_lt_of_le f11.lt c14_0)
  have ne16 : y0 ≠ b_14 := Nat.ne_of_lt (Nat.lt_of_lt_of_le f12.lt c14_0)
  have gn14_0 : n0 ≤ b_14 := Nat.le_trans z3 c14_0
  have sz14_0 : h0.size ≤ b_14 := Nat.le_trans sqz3 c14_0
  have z17 : n0 ≤ T14.heap.size := Nat.le_trans z3 K14.1
  have sqz17 : h0.size ≤ T14.heap.size := Nat.le_trans sqz3 K14.1
  have k18 : Keep h0 T14.heap [a0] := k4.trans K14 (allS (Or.inl (List.mem_of_getElem? (i := 0) rfl)) all0)
  show Go _ _ _ _ _ _ _ (T14.setTop (mkF m 23 #[.val (.ref a0), .val (.ref y0)] []))
  refine Go.step (fun _ k => XS.iconst X14.here hx rfl (hb hby d9_23) k) ?_
  show Go _ _ _ _ _ _ _ (T14.setTop (mkF m 24 #[.val (.ref a0), .val (.ref y0)] [(.int (1 : Int32))]))
  refine Go.retN X14 hx (t := .boolean) Bd.returns (by simp) hlk (hb hby d9_24) ?_ (by decide) (by decide)
  exact ⟨b_14, u2_14, (by first | rfl | (simp_all [own_nb1, own_nb0]; done)), N14, k18, sz14_0, c14_1, c14_2, c14_3, c14_4, u14_0⟩
theorem pn_10 : plainName "com/example/tree_automata_reducer/treeautomatareducer/reduce/PairStack" = true := by first | (simp [plainName, overriddenIn]; done) | decide +kernel
theorem d1_0 : decode prog_65_method_1_code 0 = .ok (.aload_n 0, 1) := by decide +kernel
theorem d1_1 : decode prog_65_method_1_code 1 = .ok (.invokespecial 1, 3) := by decide +kernel
theorem d1_4 : decode prog_65_method_1_code 4 = .ok (.aload_n 0, 1) := by decide +kernel
theorem d1_5 : decode prog_65_method_1_code 5 = .ok (.new 7, 3) := by decide +kernel
theorem d1_8 : decode prog_65_method_1_code 8 = .ok (.dup, 1) := by decide +kernel
theorem d1_9 : decode prog_65_method_1_code 9 = .ok (.invokespecial 9, 3) := by decide +kernel
theorem d1_12 : decode prog_65_method_1_code 12 = .ok (.putfield 10, 3) := by decide +kernel
theorem d1_15 : decode prog_65_method_1_code 15 = .ok (.aload_n 0, 1) := by decide +kernel
theorem d1_16 : decode prog_65_method_1_code 16 = .ok (.iconst (-1), 1) := by decide +kernel
theorem d1_17 : decode prog_65_method_1_code 17 = .ok (.putfield 16, 3) := by decide +kernel
theorem d1_20 : decode prog_65_method_1_code 20 = .ok (.aload_n 0, 1) := by decide +kernel
theorem d1_21 : decode prog_65_method_1_code 21 = .ok (.ldc 20, 2) := by decide +kernel
theorem d1_23 : decode prog_65_method_1_code 23 = .ok (.putfield 21, 3) := by decide +kernel
theorem d1_26 : decode prog_65_method_1_code 26 = .ok (.return_, 1) := by decide +kernel
theorem ef_1 (m : MethodId) (a0 : Addr) : entryFrame m #[(.ref a0)] 1 = mkF m 0 #[.val (.ref a0)] [] := by first | (simp [entryFrame, mkF, argsToLocals, Value.category]; done) | rfl
def Q1 (Z : State) (a0 : Addr) (w0 : Addr) (h0 : Heap) (n0 : Nat) (v : Option Value) (h : Heap) (L : List Loc) : Prop := ∃ (l0 : Addr), (v = none) ∧ (Fr n0 L) ∧ (Keep h0 h [a0]) ∧ (h0.size ≤ l0) ∧ (Exa Z h a0 "com/example/tree_automata_reducer/treeautomatareducer/reduce/PairStack") ∧ (Fld Z h a0 "com/example/tree_automata_reducer/treeautomatareducer/reduce/PairStack" "blocks" "Ljava/util/List;" (.ref l0)) ∧ (Fld Z h a0 "com/example/tree_automata_reducer/treeautomatareducer/reduce/PairStack" "size" "J" (.long (0 : Int64))) ∧ (Fld Z h a0 "com/example/tree_automata_reducer/treeautomatareducer/reduce/PairStack" "block" "[J" .null) ∧ (Fld Z h a0 "com/example/tree_automata_reducer/treeautomatareducer/reduce/PairStack" "blockNumber" "I" (.int (-1 : Int32))) ∧ (Fld Z h a0 "com/example/tree_automata_reducer/treeautomatareducer/reduce/PairStack" "inBlock" "I" (.int (32768 : Int32))) ∧ (Fld Z h a0 "com/example/tree_automata_reducer/treeautomatareducer/reduce/PairStack" "first" "I" (.int (0 : Int32))) ∧ (Fld Z h a0 "com/example/tree_automata_reducer/treeautomatareducer/reduce/PairStack" "second" "I" (.int (0 : Int32))) ∧ (Exa Z h l0 "java/util/ArrayList") ∧ (Fld Z h l0 "java/util/ArrayList" "elementData" "[Ljava/lang/Object;" (.ref w0)) ∧ (Fld Z h l0 "java/util/ArrayList" "size" "I" (.int (0 : Int32))) ∧ (Fld Z h l0 "java/util/AbstractList" "modCount" "I" (.int (0 : Int32))) ∧ (a0 ≠ l0)
set_option maxRecDepth 65536 in
set_option maxHeartbeats 40000000 in
theorem rm1 (l : Launch) (Z : State) (aZ : Array Value) (hw : ∀ d ∈ tables_1, d.before aZ Z = true) (ws : List Jvm.Cond) (a0 : Addr) (w0 : Addr) (h0 : Heap) (n0 : Nat) (Z0 : n0 ≤ h0.size) (O_0 : Old Z n0 h0) (S_1 : Sta Z Z.heap "java/util/ArrayList" "DEFAULTCAPACITY_EMPTY_ELEMENTDATA" "[Ljava/lang/Object;" (.ref w0)) (E_2 : Exa Z h0 a0 "com/example/tree_automata_reducer/treeautomatareducer/reduce/PairStack") (F_3 : Fld Z h0 a0 "com/example/tree_automata_reducer/treeautomatareducer/reduce/PairStack" "blocks" "Ljava/util/List;" .null) (F_4 : Fld Z h0 a0 "com/example/tree_automata_reducer/treeautomatareducer/reduce/PairStack" "size" "J" (.long (0 : Int64))) (F_5 : Fld Z h0 a0 "com/example/tree_automata_reducer/treeautomatareducer/reduce/PairStack" "block" "[J" .null) (F_6 : Fld Z h0 a0 "com/example/tree_automata_reducer/treeautomatareducer/reduce/PairStack" "blockNumber" "I" (.int (0 : Int32))) (F_7 : Fld Z h0 a0 "com/example/tree_automata_reducer/treeautomatareducer/reduce/PairStack" "inBlock" "I" (.int (0 : Int32))) (F_8 : Fld Z h0 a0 "com/example/tree_automata_reducer/treeautomatareducer/reduce/PairStack" "first" "I" (.int (0 : Int32))) (F_9 : Fld Z h0 a0 "com/example/tree_automata_reducer/treeautomatareducer/reduce/PairStack" "second" "I" (.int (0 : Int32))) (g_10 : n0 ≤ a0) :
    MetFree l (⟨"com/example/tree_automata_reducer/treeautomatareducer/reduce/PairStack", "<init>", "()V"⟩ : MethodName) (head1 (Jvm.Cond.code (⟨"com/example/tree_automata_reducer/treeautomatareducer/reduce/PairStack", "<init>", "()V"⟩ : MethodName) prog_65_method_1_code 1 none :: ws) ({ frames := 4, cells := 1, slots := 3, locals := 50 } : Room)) (fun a U => a = #[(.ref a0)] ∧ Z.Warmed39 U.vm ∧ U.heap = h0) (fun _ _ _ _ _ => True) (fun _ U o U' => ∃ v L, o = .returned v ∧ Q1 Z a0 w0 h0 n0 v U'.heap L ∧ FrameEnd U o U' L ({ frames := 4, cells := 1, slots := 3, locals := 50 } : Room).cells ({ frames := 4, cells := 1, slots := 3, locals := 50 } : Room).slots) := by
  refine MetFree.of_bodySF (plainFor_of_name pn_10) hisR ?_
  intro p e s m args below meth c s₁ Bd hml0 hP hK
  obtain ⟨rfl, hZ, hh⟩ := hP
  have hx := Bd.exec
  have hby := Bd.bytes
  have hml : c.maxLocals = 1 := hml0
  have hown : s.vm.findClass "com/example/tree_automata_reducer/treeautomatareducer/reduce/PairStack" = some m.cls := findClass_of_methodNamed Bd.named
  have hnm := (name_of_methodNamed Bd.named Bd.method).1
  have hlk : meth.locks = false := BodyLoose.notSynchronized Bd
  have X0 : Stand p l e ({ frames := 4, cells := 1, slots := 3, locals := 50 } : Room) s m #[(.ref a0)] below meth c s₁ [] 0 0 := Stand.of_body Bd
  have e0 : s₁.heap = h0 := by rw [← hh, Bd.state]; rfl
  have N0 := Fr.nil n0
  have sq0 : h0.size ≤ h0.size := Nat.le_refl _
  have k0 : Keep h0 h0 [a0] := Keep.refl _ _
  change Go p e below s ({ frames := 4, cells := 1, slots := 3, locals := 50 } : Room).cells ({ frames := 4, cells := 1, slots := 3, locals := 50 } : Room).slots (Q1 Z a0 w0 h0 n0) (s₁.setTop (entryFrame m #[(.ref a0)] 1))
  rw [ef_1 m a0]
  show Go _ _ _ _ _ _ _ (s₁.setTop (mkF m 0 #[.val (.ref a0)] []))
  refine Go.step (fun _ k => XS.aloadN X0.here hx rfl (hb hby d1_0) rfl rfl  k) ?_
  show Go _ _ _ _ _ _ _ (s₁.setTop (mkF m 1 #[.val (.ref a0)] [(.ref a0)]))
  obtain ⟨T1, X1, e1, st1⟩ := initO X0 hx hZ hown (hw _ (List.mem_of_getElem? (i := 7) rfl)) (hw _ (List.mem_of_getElem? (i := 8) rfl)) (hw _ (List.mem_of_getElem? (i := 9) rfl)) e0 (g := (mkF m 1 #[.val (.ref a0)] [(.ref a0)])) rfl (by rw [hml]; rfl) rfl (hb hby d1_1) (by decide) (W := 0) (by show 2 * 0 + _ ≤ _; exact Nat.le_of_eq rfl) (by decide)
  refine Go.step st1 ?_
  show Go _ _ _ _ _ _ _ (T1.setTop (mkF m 4 #[.val (.ref a0)] []))
  refine Go.step (fun _ k => XS.aloadN X1.here hx rfl (hb hby d1_4) rfl rfl  k) ?_
  show Go _ _ _ _ _ _ _ (T1.setTop (mkF m 5 #[.val (.ref a0)] [(.ref a0)]))
  obtain ⟨T2, h2, X2, e2, E2, A2, D2, -, st2⟩ := newO X1 hx hZ hown (hw _ (List.mem_of_getElem? (i := 10) rfl)) (hw _ (List.mem_of_getElem? (i := 11) rfl)) (hw _ (List.mem_of_getElem? (i := 12) rfl)) e1 (g := (mkF m 5 #[.val (.ref a0)] [(.ref a0)])) rfl (hb hby d1_5) (by decide) (by decide)
  obtain ⟨b2, g2⟩ : ∃ z, z = h0.size := ⟨_, rfl⟩
  rw [← g2] at A2 D2 st2
  refine Go.step st2 ?_
  have gn2 : n0 ≤ b2 := Nat.le_trans Z0 (Nat.le_of_eq g2.symm)
  have sz2 : h0.size ≤ b2 := Nat.le_trans sq0 (Nat.le_of_eq g2.symm)
  have ne3 : a0 ≠ b2 := Nat.ne_of_lt (Nat.lt_of_lt_of_le E_2.lt (Nat.le_of_eq g2.symm))
  have z4 : n0 ≤ h2.size := Nat.le_trans Z0 E2.1
  have sqz4 : h0.size ≤ h2.size := Nat.le_trans sq0 E2.1
  have k5 : Keep h0 h2 [a0] := k0.ext E2
  have f6 : Fld Z h2 b2 "java/util/AbstractList" "modCount" "I" (.int (0 : Int32)) := D2 (Or.inl (hw _ (List.mem_of_getElem? (i := 30) rfl))) (ty := .int) (by decide)
  have f7 : Fld Z h2 b2 "java/util/ArrayList" "elementData" "[Ljava/lang/Object;" .null := D2 (Or.inl (hw _ (List.mem_of_getElem? (i := 33) rfl))) (ty := (.array (.object "java/lang/Object"))) (by decide)
  have f8 : Fld Z h2 b2 "java/util/ArrayList" "size" "I" (.int (0 : Int32)) := D2 (Or.inl (hw _ (List.mem_of_getElem? (i := 63) rfl))) (ty := .int) (by decide)
  show Go _ _ _ _ _ _ _ (T2.setTop (mkF m 8 #[.val (.ref a0)] [(.ref b2), (.ref a0)]))
  refine Go.step (fun _ k => XS.dup X2.here hx rfl (hb hby d1_8) rfl rfl k) ?_
  show Go _ _ _ _ _ _ _ (T2.setTop (mkF m 9 #[.val (.ref a0)] [(.ref b2), (.ref b2), (.ref a0)]))
  have f9 : Old Z n0 h2 := (O_0.ext E2)
  obtain ⟨_, _, ⟨T10, L10, k10, n10⟩, -, X10, ⟨Lc10, hQ10, l10, y10, z10⟩, st10⟩ := X2.specialBack hx (y := (⟨"java/util/ArrayList", "<init>", "()V"⟩ : MethodName)) rfl hown (mvT hZ (hw _ (List.mem_of_getElem? (i := 13) rfl))) (mvT hZ (hw _ (List.mem_of_getElem? (i := 14) rfl))) (mvT hZ (hw _ (List.mem_of_getElem? (i := 15) rfl))) (by decide) (backOf (W := 2) (rm3 l Z aZ hw [] b2 w0 h2 n0 z4 f9 S_1 A2 f6 f7 gn2 f8) hZ (hw _ (List.mem_of_getElem? (i := 15) rfl)) (hw _ (List.mem_of_getElem? (i := 12) rfl)) (by decide) (by decide)) (g := (mkF m 9 #[.val (.ref a0)] [(.ref b2), (.ref b2), (.ref a0)])) rfl (by rw [hml]; rfl) (Steps.refl _) (a := b2) (argsL := []) (rest := [(.ref b2), (.ref a0)]) (lenOf pd_0 rfl) rfl (by show 2 * 0 + _ ≤ _; exact Nat.le_of_eq rfl) (hb hby d1_9) (fun _ _ => ⟨rfl, e2, (by decide : 1 + 0 ≤ _), (by decide : 3 + 0 ≤ _)⟩)
  dsimp only [Pt.U, Pt.locs, Pt.cells, Pt.slots] at X10 l10 y10 z10 st10 hQ10
  subst l10 y10 z10
  obtain ⟨rfl, Nq10, K10, c10_0, c10_1, c10_2, c10_3⟩ := hQ10
  have N10 := Fr.app N0 Nq10
  refine Go.tr st10 ?_
  have z11 : n0 ≤ T10.heap.size := Nat.le_trans z4 K10.1
  have sqz11 : h0.size ≤ T10.heap.size := Nat.le_trans sqz4 K10.1
  have k12 : Keep h0 T10.heap [a0] := k5.trans K10 (allS (Or.inr sz2) all0)
  show Go _ _ _ _ _ _ _ (T10.setTop (mkF m 12 #[.val (.ref a0)] [(.ref b2), (.ref a0)]))
  have f13 : Exa Z T10.heap a0 "com/example/tree_automata_reducer/treeautomatareducer/reduce/PairStack" := ((E_2.ext E2).keep K10)
  have f14 : Fld Z T10.heap a0 "com/example/tree_automata_reducer/treeautomatareducer/reduce/PairStack" "blocks" "Ljava/util/List;" .null := ((F_3.ext E2).keep K10 (ninS ne3 nin0))
  obtain ⟨T15, h15, X15, e15, W15, st15⟩ := putF X10 hx hZ hown (host := "") (Or.inl (hw _ (List.mem_of_getElem? (i := 34) rfl))) Via.refl rfl f14 f13 (Or.inr ⟨(hw _ (List.mem_of_getElem? (i := 35) rfl)), rfl, hnm⟩) (hw _ (List.mem_of_getElem? (i := 2) rfl)) (ty := (.object "java/util/List")) (v := (.ref b2)) (by decide) rfl rfl (g := (mkF m 12 #[.val (.ref a0)] [(.ref b2), (.ref a0)])) rfl rfl (hb hby d1_12)
  refine Go.step st15 ?_
  have N15 := Fr.snoc X15 N10 g_10
  have z16 : n0 ≤ h15.size := Nat.le_trans z11 (Keep.of_wr W15).1
  have sqz16 : h0.size ≤ h15.size := Nat.le_trans sqz11 (Keep.of_wr W15).1
  have k17 : Keep h0 h15 [a0] := k12.wr W15 (Or.inl (List.mem_of_getElem? (i := 0) rfl))
  have f18 : Fld Z h15 a0 "com/example/tree_automata_reducer/treeautomatareducer/reduce/PairStack" "blocks" "Ljava/util/List;" (.ref b2) := f14.same W15
  show Go _ _ _ _ _ _ _ (T15.setTop (mkF m 15 #[.val (.ref a0)] []))
  refine Go.step (fun _ k => XS.aloadN X15.here hx rfl (hb hby d1_15) rfl rfl  k) ?_
  show Go _ _ _ _ _ _ _ (T15.setTop (mkF m 16 #[.val (.ref a0)] [(.ref a0)]))
  refine Go.step (fun _ k => XS.iconst X15.here hx rfl (hb hby d1_16) k) ?_
  show Go _ _ _ _ _ _ _ (T15.setTop (mkF m 17 #[.val (.ref a0)] [(.int (-1 : Int32)), (.ref a0)]))
  have f19 : Exa Z h15 a0 "com/example/tree_automata_reducer/treeautomatareducer/reduce/PairStack" := (f13.wr W15)
  have f20 : Fld Z h15 a0 "com/example/tree_automata_reducer/treeautomatareducer/reduce/PairStack" "blockNumber" "I" (.int (0 : Int32)) := (((F_6.ext E2).keep K10 (ninS ne3 nin0)).other W15 (Or.inr (slot_ne (Or.inl (hw _ (List.mem_of_getElem? (i := 37) rfl))) (Or.inr (hw _ (List.mem_of_getElem? (i := 35) rfl))) (by decide) (t := .int) (t' := (.object "java/util/List")) (by decide) (by decide))))
  obtain ⟨T21, h21, X21, e21, W21, st21⟩ := putF X15 hx hZ hown (host := "") (Or.inl (hw _ (List.mem_of_getElem? (i := 36) rfl))) Via.refl e15 f20 f19 (Or.inl (hw _ (List.mem_of_getElem? (i := 37) rfl))) (hw _ (List.mem_of_getElem? (i := 2) rfl)) (ty := .int) (v := (.int (-1 : Int32))) (by decide) rfl rfl (g := (mkF m 17 #[.val (.ref a0)] [(.int (-1 : Int32)), (.ref a0)])) rfl rfl (hb hby d1_17)
  refine Go.step st21 ?_
  have N21 := Fr.snoc X21 N15 g_10
  have z22 : n0 ≤ h21.size := Nat.le_trans z16 (Keep.of_wr W21).1
  have sqz22 : h0.size ≤ h21.size := Nat.le_trans sqz16 (Keep.of_wr W21).1
  have k23 : Keep h0 h21 [a0] := k17.wr W21 (Or.inl (List.mem_of_getElem? (i := 0) rfl))
  have f24 : Fld Z h21 a0 "com/example/tree_automata_reducer/treeautomatareducer/reduce/PairStack" "blockNumber" "I" (.int (-1 : Int32)) := f20.same W21
  show Go _ _ _ _ _ _ _ (T21.setTop (mkF m 20 #[.val (.ref a0)] []))
  refine Go.step (fun _ k => XS.aloadN X21.here hx rfl (hb hby d1_20) rfl rfl  k) ?_
  show Go _ _ _ _ _ _ _ (T21.setTop (mkF m 21 #[.val (.ref a0)] [(.ref a0)]))
  refine Go.step (X21.ldcInt hx hown (mvT hZ (hw _ (List.mem_of_getElem? (i := 38) rfl))) (g := (mkF m 21 #[.val (.ref a0)] [(.ref a0)])) rfl (hb hby d1_21)) ?_
  show Go _ _ _ _ _ _ _ (T21.setTop (mkF m 23 #[.val (.ref a0)] [(.int (32768 : Int32)), (.ref a0)]))
  have f25 : Exa Z h21 a0 "com/example/tree_automata_reducer/treeautomatareducer/reduce/PairStack" := (f19.wr W21)
  have f26 : Fld Z h21 a0 "com/example/tree_automata_reducer/treeautomatareducer/reduce/PairStack" "inBlock" "I" (.int (0 : Int32)) := ((((F_7.ext E2).keep K10 (ninS ne3 nin0)).other W15 (Or.inr (slot_ne (Or.inl (hw _ (List.mem_of_getElem? (i := 40) rfl))) (Or.inr (hw _ (List.mem_of_getElem? (i := 35) rfl))) (by decide) (t := .int) (t' := (.object "java/util/List")) (by decide) (by decide)))).other W21 (Or.inr (slot_ne (Or.inl (hw _ (List.mem_of_getElem? (i := 40) rfl))) (Or.inl (hw _ (List.mem_of_getElem? (i := 37) rfl))) (by decide) (t := .int) (t' := .int) (by decide) (by decide))))
  obtain ⟨T27, h27, X27, e27, W27, st27⟩ := putF X21 hx hZ hown (host := "") (Or.inl (hw _ (List.mem_of_getElem? (i := 39) rfl))) Via.refl e21 f26 f25 (Or.inl (hw _ (List.mem_of_getElem? (i := 40) rfl))) (hw _ (List.mem_of_getElem? (i := 2) rfl)) (ty := .int) (v := (.int (32768 : Int32))) (by decide) rfl rfl (g := (mkF m 23 #[.val (.ref a0)] [(.int (32768 : Int32)), (.ref a0)])) rfl rfl (hb hby d1_23)
  refine Go.step st27 ?_
  have N27 := Fr.snoc X27 N21 g_10
  have z28 : n0 ≤ h27.size := Nat.le_trans z22 (Keep.of_wr W27).1
  have sqz28 : h0.size ≤ h27.size := Nat.le_trans sqz22 (Keep.of_wr W27).1
  have k29 : Keep h0 h27 [a0] := k23.wr W27 (Or.inl (List.mem_of_getElem? (i := 0) rfl))
  have f30 : Fld Z h27 a0 "com/example/tree_automata_reducer/treeautomatareducer/reduce/PairStack" "inBlock" "I" (.int (32768 : Int32)) := f26.same W27
  show Go _ _ _ _ _ _ _ (T27.setTop (mkF m 26 #[.val (.ref a0)] []))
  have f31 : Exa Z h27 a0 "com/example/tree_automata_reducer/treeautomatareducer/reduce/PairStack" := (f25.wr W27)
  have f32 : Fld Z h27 a0 "com/example/tree_automata_reducer/treeautomatareducer/reduce/PairStack" "blocks" "Ljava/util/List;" (.ref b2) := ((f18.other W21 (Or.inr (slot_ne (Or.inr (hw _ (List.mem_of_getElem? (i := 35) rfl))) (Or.inl (hw _ (List.mem_of_getElem? (i := 37) rfl))) (by decide) (t := (.object "java/util/List")) (t' := .int) (by decide) (by decide)))).other W27 (Or.inr (slot_ne (Or.inr (hw _ (List.mem_of_getElem? (i := 35) rfl))) (Or.inl (hw _ (List.mem_of_getElem? (i := 40) rfl))) (by decide) (t := (.object "java/util/List")) (t' := .int) (by decide) (by decide))))
  have f33 : Fld Z h27 a0 "com/example/tree_automata_reducer/treeautomatareducer/reduce/PairStack" "size" "J" (.long (0 : Int64)) := (((((F_4.ext E2).keep K10 (ninS ne3 nin0)).other W15 (Or.inr (slot_ne (Or.inl (hw _ (List.mem_of_getElem? (i := 47) rfl))) (Or.inr (hw _ (List.mem_of_getElem? (i := 35) rfl))) (by decide) (t := .long) (t' := (.object "java/util/List")) (by decide) (by decide)))).other W21 (Or.inr (slot_ne (Or.inl (hw _ (List.mem_of_getElem? (i := 47) rfl))) (Or.inl (hw _ (List.mem_of_getElem? (i := 37) rfl))) (by decide) (t := .long) (t' := .int) (by decide) (by decide)))).other W27 (Or.inr (slot_ne (Or.inl (hw _ (List.mem_of_getElem? (i := 47) rfl))) (Or.inl (hw _ (List.mem_of_getElem? (i := 40) rfl))) (by decide) (t := .long) (t' := .int) (by decide) (by decide))))
  have f34 : Fld Z h27 a0 "com/example/tree_automata_reducer/treeautomatareducer/reduce/PairStack" "block" "[J" .null := (((((F_5.ext E2).keep K10 (ninS ne3 nin0)).other W15 (Or.inr (slot_ne (Or.inl (hw _ (List.mem_of_getElem? (i := 121) rfl))) (Or.inr (hw _ (List.mem_of_getElem? (i := 35) rfl))) (by decide) (t := (.array .long)) (t' := (.object "java/util/List")) (by decide) (by decide)))).other W21 (Or.inr (slot_ne (Or.inl (hw _ (List.mem_of_getElem? (i := 121) rfl))) (Or.inl (hw _ (List.mem_of_getElem? (i := 37) rfl))) (by decide) (t := (.array .long)) (t' := .int) (by decide) (by decide)))).other W27 (Or.inr (slot_ne (Or.inl (hw _ (List.mem_of_getElem? (i := 121) rfl))) (Or.inl (hw _ (List.mem_of_getElem? (i := 40) rfl))) (by decide) (t := (.array .long)) (t' := .int) (by decide) (by decide))))
  have f35 : Fld Z h27 a0 "com/example/tree_automata_reducer/treeautomatareducer/reduce/PairStack" "blockNumber" "I" (.int (-1 : Int32)) := (f24.other W27 (Or.inr (slot_ne (Or.inl (hw _ (List.mem_of_getElem? (i := 37) rfl))) (Or.inl (hw _ (List.mem_of_getElem? (i := 40) rfl))) (by decide) (t := .int) (t' := .int) (by decide) (by decide))))
  have f36 : Fld Z h27 a0 "com/example/tree_automata_reducer/treeautomatareducer/reduce/PairStack" "first" "I" (.int (0 : Int32)) := (((((F_8.ext E2).keep K10 (ninS ne3 nin0)).other W15 (Or.inr (slot_ne (Or.inl (hw _ (List.mem_of_getElem? (i := 129) rfl))) (Or.inr (hw _ (List.mem_of_getElem? (i := 35) rfl))) (by decide) (t := .int) (t' := (.object "java/util/List")) (by decide) (by decide)))).other W21 (Or.inr (slot_ne (Or.inl (hw _ (List.mem_of_getElem? (i := 129) rfl))) (Or.inl (hw _ (List.mem_of_getElem? (i := 37) rfl))) (by decide) (t := .int) (t' := .int) (by decide) (by decide)))).other W27 (Or.inr (slot_ne (Or.inl (hw _ (List.mem_of_getElem? (i := 129) rfl))) (Or.inl (hw _ (List.mem_of_getElem? (i := 40) rfl))) (by decide) (t := .int) (t' := .int) (by decide) (by decide))))
  have f37 : Fld Z h27 a0 "com/example/tree_automata_reducer/treeautomatareducer/reduce/PairStack" "second" "I" (.int (0 : Int32)) := (((((F_9.ext E2).keep K10 (ninS ne3 nin0)).other W15 (Or.inr (slot_ne (Or.inl (hw _ (List.mem_of_getElem? (i := 131) rfl))) (Or.inr (hw _ (List.mem_of_getElem? (i := 35) rfl))) (by decide) (t := .int) (t' := (.object "java/util/List")) (by decide) (by decide)))).other W21 (Or.inr (slot_ne (Or.inl (hw _ (List.mem_of_getElem? (i := 131) rfl))) (Or.inl (hw _ (List.mem_of_getElem? (i := 37) rfl))) (by decide) (t := .int) (t' := .int) (by decide) (by decide)))).other W27 (Or.inr (slot_ne (Or.inl (hw _ (List.mem_of_getElem? (i := 131) rfl))) (Or.inl (hw _ (List.mem_of_getElem? (i := 40) rfl))) (by decide) (t := .int) (t' := .int) (by decide) (by decide))))
  have f38 : Exa Z h27 b2 "java/util/ArrayList" := (((c10_0.wr W15).wr W21).wr W27)
  have f39 : Fld Z h27 b2 "java/util/ArrayList" "elementData" "[Ljava/lang/Object;" (.ref w0) := (((c10_1.other W15 (Or.inl (Ne.symm ne3))).other W21 (Or.inl (Ne.symm ne3))).other W27 (Or.inl (Ne.symm ne3)))
  have f40 : Fld Z h27 b2 "java/util/ArrayList" "size" "I" (.int (0 : Int32)) := (((c10_3.other W15 (Or.inl (Ne.symm ne3))).other W21 (Or.inl (Ne.symm ne3))).other W27 (Or.inl (Ne.symm ne3)))
  have f41 : Fld Z h27 b2 "java/util/AbstractList" "modCount" "I" (.int (0 : Int32)) := (((c10_2.other W15 (Or.inl (Ne.symm ne3))).other W21 (Or.inl (Ne.symm ne3))).other W27 (Or.inl (Ne.symm ne3)))
  refine Go.retV X27 hx Bd.returns hlk (hb hby d1_26) ?_ (by decide) (by decide)
  rw [e27]
  exact ⟨b2, (rfl), N27, k29, sz2, f31, f32, f33, f34, f35, f30, f36, f37, f38, f39, f40, f41, ne3⟩
theorem own_e0 {o : Int64} (h : lcmpW o 0 = 0) : (if o = 0 then (1 : Int32) else 0) = 1 := if_pos ((lw_eq o 0).mp h)
theorem own_e1 {o : Int64} (h : ¬ lcmpW o 0 = 0) : (if o = 0 then (1 : Int32) else 0) = 0 := if_neg fun q => h ((lw_eq o 0).mpr q)
theorem d6_0 : decode prog_65_method_3_code 0 = .ok (.aload_n 0, 1) := by decide +kernel
theorem d6_1 : decode prog_65_method_3_code 1 = .ok (.getfield 47, 3) := by decide +kernel
theorem d6_4 : decode prog_65_method_3_code 4 = .ok (.lconst 0, 1) := by decide +kernel
theorem d6_5 : decode prog_65_method_3_code 5 = .ok (.lcmp, 1) := by decide +kernel
theorem d6_6 : decode prog_65_method_3_code 6 = .ok (.ifCond .ne 7, 3) := by decide +kernel
theorem d6_9 : decode prog_65_method_3_code 9 = .ok (.iconst 1, 1) := by decide +kernel
theorem d6_10 : decode prog_65_method_3_code 10 = .ok (.goto 4, 3) := by decide +kernel
theorem d6_13 : decode prog_65_method_3_code 13 = .ok (.iconst 0, 1) := by decide +kernel
theorem d6_14 : decode prog_65_method_3_code 14 = .ok (.ireturn, 1) := by decide +kernel
theorem ef_6 (m : MethodId) (a0 : Addr) : entryFrame m #[(.ref a0)] 1 = mkF m 0 #[.val (.ref a0)] [] := by first | (simp [entryFrame, mkF, argsToLocals, Value.category]; done) | rfl
def Q6 (Z : State) (a0 : Addr) (w : Int64) (h0 : Heap) (n0 : Nat) (v : Option Value) (h : Heap) (L : List Loc) : Prop := (v = some (.int (if w = 0 then (1 : Int32) else 0))) ∧ (Fr n0 L) ∧ (h = h0)
set_option maxRecDepth 65536 in
set_option maxHeartbeats 40000000 in
theorem rm6 (l : Launch) (Z : State) (aZ : Array Value) (hw : ∀ d ∈ tables_1, d.before aZ Z = true) (ws : List Jvm.Cond) (a0 : Addr) (w : Int64) (h0 : Heap) (n0 : Nat) (Z0 : n0 ≤ h0.size) (F_0 : Fld Z h0 a0 "com/example/tree_automata_reducer/treeautomatareducer/reduce/PairStack" "size" "J" (.long w)) :
    MetFree l (⟨"com/example/tree_automata_reducer/treeautomatareducer/reduce/PairStack", "isEmpty", "()Z"⟩ : MethodName) (head1 (Jvm.Cond.code (⟨"com/example/tree_automata_reducer/treeautomatareducer/reduce/PairStack", "isEmpty", "()Z"⟩ : MethodName) prog_65_method_3_code 1 (some .boolean) :: ws) ({ frames := 0, cells := 0, slots := 0, locals := 0 } : Room)) (fun a U => a = #[(.ref a0)] ∧ Z.Warmed39 U.vm ∧ U.heap = h0) (fun _ _ _ _ _ => True) (fun _ U o U' => ∃ v L, o = .returned v ∧ Q6 Z a0 w h0 n0 v U'.heap L ∧ FrameEnd U o U' L ({ frames := 0, cells := 0, slots := 0, locals := 0 } : Room).cells ({ frames := 0, cells := 0, slots := 0, locals := 0 } : Room).slots) := by
  refine MetFree.of_bodySF (plainFor_of_name pn_10) hisR ?_
  intro p e s m args below meth c s₁ Bd hml0 hP hK
  obtain ⟨rfl, hZ, hh⟩ := hP
  have hx := Bd.exec
  have hby := Bd.bytes
  have hml : c.maxLocals = 1 := hml0
  have hown : s.vm.findClass "com/example/tree_automata_reducer/treeautomatareducer/reduce/PairStack" = some m.cls := findClass_of_methodNamed Bd.named
  have hnm := (name_of_methodNamed Bd.named Bd.method).1
  have hlk : meth.locks = false := BodyLoose.notSynchronized Bd
  have X0 : Stand p l e ({ frames := 0, cells := 0, slots := 0, locals := 0 } : Room) s m #[(.ref a0)] below meth c s₁ [] 0 0 := Stand.of_body Bd
  have e0 : s₁.heap = h0 := by rw [← hh, Bd.state]; rfl
  have N0 := Fr.nil n0
  have sq0 : h0.size ≤ h0.size := Nat.le_refl _
  change Go p e below s ({ frames := 0, cells := 0, slots := 0, locals := 0 } : Room).cells ({ frames := 0, cells := 0, slots := 0, locals := 0 } : Room).slots (Q6 Z a0 w h0 n0) (s₁.setTop (entryFrame m #[(.ref a0)] 1))
  rw [ef_6 m a0]
  show Go _ _ _ _ _ _ _ (s₁.setTop (mkF m 0 #[.val (.ref a0)] []))
  refine Go.step (fun _ k => XS.aloadN X0.here hx rfl (hb hby d6_0) rfl rfl  k) ?_
  show Go _ _ _ _ _ _ _ (s₁.setTop (mkF m 1 #[.val (.ref a0)] [(.ref a0)]))
  obtain ⟨T1, X1, e1, st1⟩ := getF X0 hx hZ hown (host := "") (Or.inl (hw _ (List.mem_of_getElem? (i := 46) rfl))) Via.refl e0 F_0 (g := (mkF m 1 #[.val (.ref a0)] [(.ref a0)])) rfl rfl (hb hby d6_1)
  refine Go.step st1 ?_
  show Go _ _ _ _ _ _ _ (T1.setTop (mkF m 4 #[.val (.ref a0)] [(.long w)]))
  refine Go.step (fun _ k => XS.lconst X1.here hx rfl (hb hby d6_4) k) ?_
  show Go _ _ _ _ _ _ _ (T1.setTop (mkF m 5 #[.val (.ref a0)] [(.long (0 : Int64)), (.long w)]))
  refine Go.step (fun _ k => XS.lcmp X1.here hx rfl (hb hby d6_5) rfl k) ?_
  show Go _ _ _ _ _ _ _ (T1.setTop (mkF m 6 #[.val (.ref a0)] [(.int (lcmpW w (0 : Int64)))]))
  by_cases hc6 : (lcmpW w (0 : Int64)) = (0 : Int32)
  · skip
    refine Go.step (fun _ k => XS.ifNo X1.here hx rfl (hb hby d6_6) rfl ((if0 _ _).trans (teq hc6).2) k) ?_
    show Go _ _ _ _ _ _ _ (T1.setTop (mkF m 9 #[.val (.ref a0)] []))
    refine Go.step (fun _ k => XS.iconst X1.here hx rfl (hb hby d6_9) k) ?_
    show Go _ _ _ _ _ _ _ (T1.setTop (mkF m 10 #[.val (.ref a0)] [(.int (1 : Int32))]))
    refine Go.step (fun _ k => XS.goto X1.here hx rfl (pc0 := 10) (pc' := 14) rfl (hb hby d6_10) (by decide) (by decide) k) ?_
    show Go _ _ _ _ _ _ _ (T1.setTop (mkF m 14 #[.val (.ref a0)] [(.int (1 : Int32))]))
    refine Go.retN X1 hx (t := .boolean) Bd.returns (by simp) hlk (hb hby d6_14) ?_ (by decide) (by decide)
    rw [e1]
    exact ⟨(by rw [own_nb1, own_e0 hc6]), N0, rfl⟩
  · skip
    refine Go.step (fun _ k => XS.ifYes X1.here hx rfl (pc0 := 6) (pc' := 13) rfl (hb hby d6_6) rfl ((if0 _ _).trans (feq hc6).2) (by decide) (by decide) k) ?_
    show Go _ _ _ _ _ _ _ (T1.setTop (mkF m 13 #[.val (.ref a0)] []))
    refine Go.step (fun _ k => XS.iconst X1.here hx rfl (hb hby d6_13) k) ?_
    show Go _ _ _ _ _ _ _ (T1.setTop (mkF m 14 #[.val (.ref a0)] [(.int (0 : Int32))]))
    refine Go.retN X1 hx (t := .boolean) Bd.returns (by simp) hlk (hb hby d6_14) ?_ (by decide) (by decide)
    rw [e1]
    exact ⟨(by rw [own_nb0, own_e1 hc6]), N0, rfl⟩
theorem pd_7 : parseMethodDescriptor "()I" = some ⟨[], some .int⟩ := by decide +kernel
theorem pd_8 : parseMethodDescriptor "(Ljava/lang/Object;)Z" = some ⟨[(.object "java/lang/Object")], some .boolean⟩ := by decide +kernel
theorem d7_0 : decode prog_65_method_2_code 0 = .ok (.aload_n 0, 1) := by decide +kernel
theorem d7_1 : decode prog_65_method_2_code 1 = .ok (.getfield 21, 3) := by decide +kernel
theorem d7_4 : decode prog_65_method_2_code 4 = .ok (.ldc 20, 2) := by decide +kernel
theorem d7_6 : decode prog_65_method_2_code 6 = .ok (.if_icmp .ne 68, 3) := by decide +kernel
theorem d7_9 : decode prog_65_method_2_code 9 = .ok (.aload_n 0, 1) := by decide +kernel
theorem d7_10 : decode prog_65_method_2_code 10 = .ok (.dup, 1) := by decide +kernel
theorem d7_11 : decode prog_65_method_2_code 11 = .ok (.getfield 16, 3) := by decide +kernel
theorem d7_14 : decode prog_65_method_2_code 14 = .ok (.iconst 1, 1) := by decide +kernel
theorem d7_15 : decode prog_65_method_2_code 15 = .ok (.iadd, 1) := by decide +kernel
theorem d7_16 : decode prog_65_method_2_code 16 = .ok (.putfield 16, 3) := by decide +kernel
theorem d7_19 : decode prog_65_method_2_code 19 = .ok (.aload_n 0, 1) := by decide +kernel
theorem d7_20 : decode prog_65_method_2_code 20 = .ok (.getfield 16, 3) := by decide +kernel
theorem d7_23 : decode prog_65_method_2_code 23 = .ok (.aload_n 0, 1) := by decide +kernel
theorem d7_24 : decode prog_65_method_2_code 24 = .ok (.getfield 10, 3) := by decide +kernel
theorem d7_27 : decode prog_65_method_2_code 27 = .ok (.invokeinterface 24 1, 5) := by decide +kernel
theorem d7_32 : decode prog_65_method_2_code 32 = .ok (.if_icmp .ne 17, 3) := by decide +kernel
theorem d7_35 : decode prog_65_method_2_code 35 = .ok (.aload_n 0, 1) := by decide +kernel
theorem d7_36 : decode prog_65_method_2_code 36 = .ok (.getfield 10, 3) := by decide +kernel
theorem d7_39 : decode prog_65_method_2_code 39 = .ok (.ldc 20, 2) := by decide +kernel
theorem d7_41 : decode prog_65_method_2_code 41 = .ok (.newarray .long, 2) := by decide +kernel
theorem d7_43 : decode prog_65_method_2_code 43 = .ok (.invokeinterface 30 2, 5) := by decide +kernel
theorem d7_48 : decode prog_65_method_2_code 48 = .ok (.pop, 1) := by decide +kernel
theorem d7_49 : decode prog_65_method_2_code 49 = .ok (.aload_n 0, 1) := by decide +kernel
theorem d7_50 : decode prog_65_method_2_code 50 = .ok (.aload_n 0, 1) := by decide +kernel
theorem d7_51 : decode prog_65_method_2_code 51 = .ok (.getfield 10, 3) := by decide +kernel
theorem d7_54 : decode prog_65_method_2_code 54 = .ok (.aload_n 0, 1) := by decide +kernel
theorem d7_55 : decode prog_65_method_2_code 55 = .ok (.getfield 16, 3) := by decide +kernel
theorem d7_58 : decode prog_65_method_2_code 58 = .ok (.invokeinterface 34 2, 5) := by decide +kernel
theorem d7_63 : decode prog_65_method_2_code 63 = .ok (.checkcast 38, 3) := by decide +kernel
theorem d7_66 : decode prog_65_method_2_code 66 = .ok (.putfield 40, 3) := by decide +kernel
theorem d7_69 : decode prog_65_method_2_code 69 = .ok (.aload_n 0, 1) := by decide +kernel
theorem d7_70 : decode prog_65_method_2_code 70 = .ok (.iconst 0, 1) := by decide +kernel
theorem d7_71 : decode prog_65_method_2_code 71 = .ok (.putfield 21, 3) := by decide +kernel
theorem d7_74 : decode prog_65_method_2_code 74 = .ok (.aload_n 0, 1) := by decide +kernel
theorem d7_75 : decode prog_65_method_2_code 75 = .ok (.getfield 40, 3) := by decide +kernel
theorem d7_78 : decode prog_65_method_2_code 78 = .ok (.aload_n 0, 1) := by decide +kernel
theorem d7_79 : decode prog_65_method_2_code 79 = .ok (.dup, 1) := by decide +kernel
theorem d7_80 : decode prog_65_method_2_code 80 = .ok (.getfield 21, 3) := by decide +kernel
theorem d7_83 : decode prog_65_method_2_code 83 = .ok (.dup_x1, 1) := by decide +kernel
theorem d7_84 : decode prog_65_method_2_code 84 = .ok (.iconst 1, 1) := by decide +kernel
theorem d7_85 : decode prog_65_method_2_code 85 = .ok (.iadd, 1) := by decide +kernel
theorem d7_86 : decode prog_65_method_2_code 86 = .ok (.putfield 21, 3) := by decide +kernel
theorem d7_89 : decode prog_65_method_2_code 89 = .ok (.iload_n 1, 1) := by decide +kernel
theorem d7_90 : decode prog_65_method_2_code 90 = .ok (.i2l, 1) := by decide +kernel
theorem d7_91 : decode prog_65_method_2_code 91 = .ok (.bipush 32, 2) := by decide +kernel
theorem d7_93 : decode prog_65_method_2_code 93 = .ok (.lshl, 1) := by decide +kernel
theorem d7_94 : decode prog_65_method_2_code 94 = .ok (.iload_n 2, 1) := by decide +kernel
theorem d7_95 : decode prog_65_method_2_code 95 = .ok (.i2l, 1) := by decide +kernel
theorem d7_96 : decode prog_65_method_2_code 96 = .ok (.ldc2_w 45, 3) := by decide +kernel
theorem d7_99 : decode prog_65_method_2_code 99 = .ok (.land, 1) := by decide +kernel
theorem d7_100 : decode prog_65_method_2_code 100 = .ok (.lor, 1) := by decide +kernel
theorem d7_101 : decode prog_65_method_2_code 101 = .ok (.lastore, 1) := by decide +kernel
theorem d7_102 : decode prog_65_method_2_code 102 = .ok (.aload_n 0, 1) := by decide +kernel
theorem d7_103 : decode prog_65_method_2_code 103 = .ok (.dup, 1) := by decide +kernel
theorem d7_104 : decode prog_65_method_2_code 104 = .ok (.getfield 47, 3) := by decide +kernel
theorem d7_107 : decode prog_65_method_2_code 107 = .ok (.lconst 1, 1) := by decide +kernel
theorem d7_108 : decode prog_65_method_2_code 108 = .ok (.ladd, 1) := by decide +kernel
theorem d7_109 : decode prog_65_method_2_code 109 = .ok (.putfield 47, 3) := by decide +kernel
theorem d7_112 : decode prog_65_method_2_code 112 = .ok (.return_, 1) := by decide +kernel
theorem ef_pA (m : MethodId) (a0 : Addr) (p1 : Int32) (p2 : Int32) : entryFrame m #[(.ref a0), (.int p1), (.int p2)] 3 = mkF m 0 #[.val (.ref a0), .val (.int p1), .val (.int p2)] [] := by first | (simp [entryFrame, mkF, argsToLocals, Value.category]; done) | rfl
def QpA (Z : State) (a0 : Addr) (p1 : Int32) (p2 : Int32) (w0 : Addr) (l0 : Addr) (h0 : Heap) (n0 : Nat) (v : Option Value) (h : Heap) (L : List Loc) : Prop := ∃ (b : Addr), ∃ (f2 : Int32 → Int64), (v = none) ∧ (Fr n0 L) ∧ (Keep h0 h [a0, l0]) ∧ (h0.size ≤ b) ∧ (Exa Z h a0 "com/example/tree_automata_reducer/treeautomatareducer/reduce/PairStack") ∧ (Fld Z h a0 "com/example/tree_automata_reducer/treeautomatareducer/reduce/PairStack" "size" "J" (.long (1 : Int64))) ∧ (Fld Z h a0 "com/example/tree_automata_reducer/treeautomatareducer/reduce/PairStack" "block" "[J" (.ref b)) ∧ (Fld Z h a0 "com/example/tree_automata_reducer/treeautomatareducer/reduce/PairStack" "inBlock" "I" (.int (1 : Int32))) ∧ (Al Z h b (32768 : Int32) f2) ∧ (Fld Z h a0 "com/example/tree_automata_reducer/treeautomatareducer/reduce/PairStack" "first" "I" (.int (0 : Int32))) ∧ (Fld Z h a0 "com/example/tree_automata_reducer/treeautomatareducer/reduce/PairStack" "second" "I" (.int (0 : Int32))) ∧ (a0 ≠ b)
set_option maxRecDepth 65536 in
set_option maxHeartbeats 40000000 in
theorem rmpA (l : Launch) (Z : State) (aZ : Array Value) (hw : ∀ d ∈ tables_1, d.before aZ Z = true) (ws : List Jvm.Cond) (a0 : Addr) (p1 : Int32) (p2 : Int32) (w0 : Addr) (l0 : Addr) (h0 : Heap) (n0 : Nat) (Z0 : n0 ≤ h0.size) (O_0 : Old Z n0 h0) (S_1 : Sta Z Z.heap "java/util/ArrayList" "DEFAULTCAPACITY_EMPTY_ELEMENTDATA" "[Ljava/lang/Object;" (.ref w0)) (A_2 : Ai Z Z.heap w0 (.object "java/lang/Object") 0 (fun _ => 0)) (E_3 : Exa Z h0 a0 "com/example/tree_automata_reducer/treeautomatareducer/reduce/PairStack") (F_4 : Fld Z h0 a0 "com/example/tree_automata_reducer/treeautomatareducer/reduce/PairStack" "blocks" "Ljava/util/List;" (.ref l0)) (F_5 : Fld Z h0 a0 "com/example/tree_automata_reducer/treeautomatareducer/reduce/PairStack" "size" "J" (.long (0 : Int64))) (F_6 : Fld Z h0 a0 "com/example/tree_automata_reducer/treeautomatareducer/reduce/PairStack" "block" "[J" .null) (F_7 : Fld Z h0 a0 "com/example/tree_automata_reducer/treeautomatareducer/reduce/PairStack" "blockNumber" "I" (.int (-1 : Int32))) (F_8 : Fld Z h0 a0 "com/example/tree_automata_reducer/treeautomatareducer/reduce/PairStack" "inBlock" "I" (.int (32768 : Int32))) (F_9 : Fld Z h0 a0 "com/example/tree_automata_reducer/treeautomatareducer/reduce/PairStack" "first" "I" (.int (0 : Int32))) (F_10 : Fld Z h0 a0 "com/example/tree_automata_reducer/treeautomatareducer/reduce/PairStack" "second" "I" (.int (0 : Int32))) (E_11 : Exa Z h0 l0 "java/util/ArrayList") (F_12 : Fld Z h0 l0 "java/util/ArrayList" "elementData" "[Ljava/lang/Object;" (.ref w0)) (F_13 : Fld Z h0 l0 "java/util/ArrayList" "size" "I" (.int (0 : Int32))) (F_14 : Fld Z h0 l0 "java/util/AbstractList" "modCount" "I" (.int (0 : Int32))) (ne_15 : a0 ≠ l0) (g_16 : n0 ≤ a0) (g_17 : n0 ≤ l0) :
    MetFree l (⟨"com/example/tree_automata_reducer/treeautomatareducer/reduce/PairStack", "push", "(II)V"⟩ : MethodName) (head1 (Jvm.Cond.code (⟨"com/example/tree_automata_reducer/treeautomatareducer/reduce/PairStack", "push", "(II)V"⟩ : MethodName) prog_65_method_2_code 3 none :: ws) ({ frames := 5, cells := 2, slots := 32778, locals := 69 } : Room)) (fun a U => a = #[(.ref a0), (.int p1), (.int p2)] ∧ Z.Warmed39 U.vm ∧ U.heap = h0) (fun _ _ _ _ _ => True) (fun _ U o U' => ∃ v L, o = .returned v ∧ QpA Z a0 p1 p2 w0 l0 h0 n0 v U'.heap L ∧ FrameEnd U o U' L ({ frames := 5, cells := 2, slots := 32778, locals := 69 } : Room).cells ({ frames := 5, cells := 2, slots := 32778, locals := 69 } : Room).slots) := by
  refine MetFree.of_bodySF (plainFor_of_name pn_10) hisR ?_
  intro p e s m args below meth c s₁ Bd hml0 hP hK
  obtain ⟨rfl, hZ, hh⟩ := hP
  have hx := Bd.exec
  have hby := Bd.bytes
  have hml : c.maxLocals = 3 := hml0
  have hown : s.vm.findClass "com/example/tree_automata_reducer/treeautomatareducer/reduce/PairStack" = some m.cls := findClass_of_methodNamed Bd.named
  have hnm := (name_of_methodNamed Bd.named Bd.method).1
  have hlk : meth.locks = false := BodyLoose.notSynchronized Bd
  have X0 : Stand p l e ({ frames := 5, cells := 2, slots := 32778, locals := 69 } : Room) s m #[(.ref a0), (.int p1), (.int p2)] below meth c s₁ [] 0 0 := Stand.of_body Bd
  have e0 : s₁.heap = h0 := by rw [← hh, Bd.state]; rfl
  have N0 := Fr.nil n0
  have sq0 : h0.size ≤ h0.size := Nat.le_refl _
  have k0 : Keep h0 h0 [a0, l0] := Keep.refl _ _
  change Go p e below s ({ frames := 5, cells := 2, slots := 32778, locals := 69 } : Room).cells ({ frames := 5, cells := 2, slots := 32778, locals := 69 } : Room).slots (QpA Z a0 p1 p2 w0 l0 h0 n0) (s₁.setTop (entryFrame m #[(.ref a0), (.int p1), (.int p2)] 3))
  rw [ef_pA m a0 p1 p2]
  show Go _ _ _ _ _ _ _ (s₁.setTop (mkF m 0 #[.val (.ref a0), .val (.int p1), .val (.int p2)] []))
  refine Go.step (fun _ k => XS.aloadN X0.here hx rfl (hb hby d7_0) rfl rfl  k) ?_
  show Go _ _ _ _ _ _ _ (s₁.setTop (mkF m 1 #[.val (.ref a0), .val (.int p1), .val (.int p2)] [(.ref a0)]))
  obtain ⟨T1, X1, e1, st1⟩ := getF X0 hx hZ hown (host := "") (Or.inl (hw _ (List.mem_of_getElem? (i := 39) rfl))) Via.refl e0 F_8 (g := (mkF m 1 #[.val (.ref a0), .val (.int p1), .val (.int p2)] [(.ref a0)])) rfl rfl (hb hby d7_1)
  refine Go.step st1 ?_
  show Go _ _ _ _ _ _ _ (T1.setTop (mkF m 4 #[.val (.ref a0), .val (.int p1), .val (.int p2)] [(.int (32768 : Int32))]))
  refine Go.step (X1.ldcInt hx hown (mvT hZ (hw _ (List.mem_of_getElem? (i := 38) rfl))) (g := (mkF m 4 #[.val (.ref a0), .val (.int p1), .val (.int p2)] [(.int (32768 : Int32))])) rfl (hb hby d7_4)) ?_
  show Go _ _ _ _ _ _ _ (T1.setTop (mkF m 6 #[.val (.ref a0), .val (.int p1), .val (.int p2)] [(.int (32768 : Int32)), (.int (32768 : Int32))]))
  have hc6 : (32768 : Int32) = (32768 : Int32) := by decide
  refine Go.step (fun _ k => XS.icmpNo X1.here hx rfl (hb hby d7_6) rfl (teq hc6).2 k) ?_
  show Go _ _ _ _ _ _ _ (T1.setTop (mkF m 9 #[.val (.ref a0), .val (.int p1), .val (.int p2)] []))
  refine Go.step (fun _ k => XS.aloadN X1.here hx rfl (hb hby d7_9) rfl rfl  k) ?_
  show Go _ _ _ _ _ _ _ (T1.setTop (mkF m 10 #[.val (.ref a0), .val (.int p1), .val (.int p2)] [(.ref a0)]))
  refine Go.step (fun _ k => XS.dup X1.here hx rfl (hb hby d7_10) rfl rfl k) ?_
  show Go _ _ _ _ _ _ _ (T1.setTop (mkF m 11 #[.val (.ref a0), .val (.int p1), .val (.int p2)] [(.ref a0), (.ref a0)]))
  obtain ⟨T2, X2, e2, st2⟩ := getF X1 hx hZ hown (host := "") (Or.inl (hw _ (List.mem_of_getElem? (i := 36) rfl))) Via.refl e1 F_7 (g := (mkF m 11 #[.val (.ref a0), .val (.int p1), .val (.int p2)] [(.ref a0), (.ref a0)])) rfl rfl (hb hby d7_11)
  refine Go.step st2 ?_
  show Go _ _ _ _ _ _ _ (T2.setTop (mkF m 14 #[.val (.ref a0), .val (.int p1), .val (.int p2)] [(.int (-1 : Int32)), (.ref a0)]))
  refine Go.step (fun _ k => XS.iconst X2.here hx rfl (hb hby d7_14) k) ?_
  show Go _ _ _ _ _ _ _ (T2.setTop (mkF m 15 #[.val (.ref a0), .val (.int p1), .val (.int p2)] [(.int (1 : Int32)), (.int (-1 : Int32)), (.ref a0)]))
  refine Go.step (fun _ k => XS.iadd X2.here hx rfl (hb hby d7_15) rfl k) ?_
  show Go _ _ _ _ _ _ _ (T2.setTop (mkF m 16 #[.val (.ref a0), .val (.int p1), .val (.int p2)] [(.int (0 : Int32)), (.ref a0)]))
  obtain ⟨T3, h3, X3, e3, W3, st3⟩ := putF X2 hx hZ hown (host := "") (Or.inl (hw _ (List.mem_of_getElem? (i := 36) rfl))) Via.refl e2 F_7 E_3 (Or.inl (hw _ (List.mem_of_getElem? (i := 37) rfl))) (hw _ (List.mem_of_getElem? (i := 2) rfl)) (ty := .int) (v := (.int (0 : Int32))) (by decide) rfl rfl (g := (mkF m 16 #[.val (.ref a0), .val (.int p1), .val (.int p2)] [(.int (0 : Int32)), (.ref a0)])) rfl rfl (hb hby d7_16)
  refine Go.step st3 ?_
  have N3 := Fr.snoc X3 N0 g_16
  have z4 : n0 ≤ h3.size := Nat.le_trans Z0 (Keep.of_wr W3).1
  have sqz4 : h0.size ≤ h3.size := Nat.le_trans sq0 (Keep.of_wr W3).1
  have k5 : Keep h0 h3 [a0, l0] := k0.wr W3 (Or.inl (List.mem_of_getElem? (i := 0) rfl))
  have f6 : Fld Z h3 a0 "com/example/tree_automata_reducer/treeautomatareducer/reduce/PairStack" "blockNumber" "I" (.int (0 : Int32)) := F_7.same W3
  show Go _ _ _ _ _ _ _ (T3.setTop (mkF m 19 #[.val (.ref a0), .val (.int p1), .val (.int p2)] []))
  refine Go.step (fun _ k => XS.aloadN X3.here hx rfl (hb hby d7_19) rfl rfl  k) ?_
  show Go _ _ _ _ _ _ _ (T3.setTop (mkF m 20 #[.val (.ref a0), .val (.int p1), .val (.int p2)] [(.ref a0)]))
  obtain ⟨T7, X7, e7, st7⟩ := getF X3 hx hZ hown (host := "") (Or.inl (hw _ (List.mem_of_getElem? (i := 36) rfl))) Via.refl e3 f6 (g := (mkF m 20 #[.val (.ref a0), .val (.int p1), .val (.int p2)] [(.ref a0)])) rfl rfl (hb hby d7_20)
  refine Go.step st7 ?_
  show Go _ _ _ _ _ _ _ (T7.setTop (mkF m 23 #[.val (.ref a0), .val (.int p1), .val (.int p2)] [(.int (0 : Int32))]))
  refine Go.step (fun _ k => XS.aloadN X7.here hx rfl (hb hby d7_23) rfl rfl  k) ?_
  show Go _ _ _ _ _ _ _ (T7.setTop (mkF m 24 #[.val (.ref a0), .val (.int p1), .val (.int p2)] [(.ref a0), (.int (0 : Int32))]))
  have f8 : Fld Z h3 a0 "com/example/tree_automata_reducer/treeautomatareducer/reduce/PairStack" "blocks" "Ljava/util/List;" (.ref l0) := (F_4.other W3 (Or.inr (slot_ne (Or.inr (hw _ (List.mem_of_getElem? (i := 35) rfl))) (Or.inl (hw _ (List.mem_of_getElem? (i := 37) rfl))) (by decide) (t := (.object "java/util/List")) (t' := .int) (by decide) (by decide))))
  obtain ⟨T9, X9, e9, st9⟩ := getF X7 hx hZ hown (host := "") (Or.inl (hw _ (List.mem_of_getElem? (i := 34) rfl))) Via.refl e7 f8 (g := (mkF m 24 #[.val (.ref a0), .val (.int p1), .val (.int p2)] [(.ref a0), (.int (0 : Int32))])) rfl rfl (hb hby d7_24)
  refine Go.step st9 ?_
  show Go _ _ _ _ _ _ _ (T9.setTop (mkF m 27 #[.val (.ref a0), .val (.int p1), .val (.int p2)] [(.ref l0), (.int (0 : Int32))]))
  have f10 : Fld Z h3 l0 "java/util/ArrayList" "size" "I" (.int (0 : Int32)) := (F_13.other W3 (Or.inl (Ne.symm ne_15)))
  have f12 : Exa Z h3 l0 "java/util/ArrayList" := (E_11.wr W3)
  obtain ⟨cq11, kq11, q11a, q11b, q11c⟩ := isOf hZ e9 f12
  obtain ⟨_, _, ⟨T11, L11, k11, n11⟩, -, X11, ⟨Lc11, hQ11, l11, y11, z11⟩, st11⟩ := X9.interfaceBack hx (xi := (⟨"java/util/List", "size", "()I"⟩ : MethodName)) (y := (⟨"java/util/ArrayList", "size", "()I"⟩ : MethodName)) hown (mvT hZ (hw _ (List.mem_of_getElem? (i := 53) rfl))) (mvT hZ (hw _ (List.mem_of_getElem? (i := 54) rfl))) (mvT hZ (hw _ (List.mem_of_getElem? (i := 55) rfl))) (mvT hZ (hw _ (List.mem_of_getElem? (i := 56) rfl))) (mvT hZ (hw _ (List.mem_of_getElem? (i := 57) rfl))) (mvT hZ (hw _ (List.mem_of_getElem? (i := 58) rfl))) (mvT hZ (hw _ (List.mem_of_getElem? (i := 59) rfl))) (mvT hZ (hw _ (List.mem_of_getElem? (i := 60) rfl))) (by decide) (backOf (W := 1) (rm8 l Z aZ hw [] l0 (0 : Int32) h3 n0 z4 f10) hZ (hw _ (List.mem_of_getElem? (i := 61) rfl)) (hw _ (List.mem_of_getElem? (i := 12) rfl)) (by decide) (by decide)) q11a q11b q11c (g := (mkF m 27 #[.val (.ref a0), .val (.int p1), .val (.int p2)] [(.ref l0), (.int (0 : Int32))])) rfl (by rw [hml]; rfl) (Steps.refl _) (argsL := []) (rest := [(.int (0 : Int32))]) (lenOf pd_7 rfl) rfl (by show 2 * 0 + _ ≤ _; exact Nat.le_of_eq rfl) (hb hby d7_27) (fun _ _ => ⟨rfl, e9, (by decide : 0 + 0 ≤ _), (by decide : 0 + 0 ≤ _)⟩)
  dsimp only [Pt.U, Pt.locs, Pt.cells, Pt.slots] at X11 l11 y11 z11 st11 hQ11
  subst l11 y11 z11
  obtain ⟨rfl, Nq11, e11⟩ := hQ11
  have N11 := Fr.app N3 Nq11
  refine Go.tr st11 ?_
  show Go _ _ _ _ _ _ _ (T11.setTop (mkF m 32 #[.val (.ref a0), .val (.int p1), .val (.int p2)] [(.int (0 : Int32)), (.int (0 : Int32))]))
  have hc32 : (0 : Int32) = (0 : Int32) := by decide
  refine Go.step (fun _ k => XS.icmpNo X11.here hx rfl (hb hby d7_32) rfl (teq hc32).2 k) ?_
  show Go _ _ _ _ _ _ _ (T11.setTop (mkF m 35 #[.val (.ref a0), .val (.int p1), .val (.int p2)] []))
  refine Go.step (fun _ k => XS.aloadN X11.here hx rfl (hb hby d7_35) rfl rfl  k) ?_
  show Go _ _ _ _ _ _ _ (T11.setTop (mkF m 36 #[.val (.ref a0), .val (.int p1), .val (.int p2)] [(.ref a0)]))
  obtain ⟨T13, X13, e13, st13⟩ := getF X11 hx hZ hown (host := "") (Or.inl (hw _ (List.mem_of_getElem? (i := 34) rfl))) Via.refl e11 f8 (g := (mkF m 36 #[.val (.ref a0), .val (.int p1), .val (.int p2)] [(.ref a0)])) rfl rfl (hb hby d7_36)
  refine Go.step st13 ?_
  show Go _ _ _ _ _ _ _ (T13.setTop (mkF m 39 #[.val (.ref a0), .val (.int p1), .val (.int p2)] [(.ref l0)]))
  refine Go.step (X13.ldcInt hx hown (mvT hZ (hw _ (List.mem_of_getElem? (i := 38) rfl))) (g := (mkF m 39 #[.val (.ref a0), .val (.int p1), .val (.int p2)] [(.ref l0)])) rfl (hb hby d7_39)) ?_
  show Go _ _ _ _ _ _ _ (T13.setTop (mkF m 41 #[.val (.ref a0), .val (.int p1), .val (.int p2)] [(.int (32768 : Int32)), (.ref l0)]))
  have ng14 : ¬ (32768 : Int32) < 0 := (by decide)
  have lc14 : ((32768 : Int32)).toNatClampNeg ≤ 32768 := (by decide)
  obtain ⟨T14, h14, k14, X14, e14, E14, A14, Ea14, st14⟩ := newPE X13 hx hZ (hw _ (List.mem_of_getElem? (i := 64) rfl)) e13 (g := (mkF m 41 #[.val (.ref a0), .val (.int p1), .val (.int p2)] [(.int (32768 : Int32)), (.ref l0)])) rfl (hb hby d7_41) rfl ng14 (cap := 32768) lc14 (by decide) (by decide) (by decide) (ad := "[J") (by decide)
  obtain ⟨b14, g14⟩ : ∃ z, z = h3.size := ⟨_, rfl⟩
  rw [← g14] at A14 Ea14 st14
  refine Go.step st14 ?_
  have gn14 : n0 ≤ b14 := Nat.le_trans z4 (Nat.le_of_eq g14.symm)
  have sz14 : h0.size ≤ b14 := Nat.le_trans sqz4 (Nat.le_of_eq g14.symm)
  have f15 : Exa Z h3 a0 "com/example/tree_automata_reducer/treeautomatareducer/reduce/PairStack" := (E_3.wr W3)
  have ne16 : a0 ≠ b14 := Nat.ne_of_lt (Nat.lt_of_lt_of_le f15.lt (Nat.le_of_eq g14.symm))
  have ne17 : l0 ≠ b14 := Nat.ne_of_lt (Nat.lt_of_lt_of_le f12.lt (Nat.le_of_eq g14.symm))
  have z18 : n0 ≤ h14.size := Nat.le_trans z4 E14.1
  have sqz18 : h0.size ≤ h14.size := Nat.le_trans sqz4 E14.1
  have k19 : Keep h0 h14 [a0, l0] := k5.ext E14
  have f20 : Al Z h14 b14 (32768 : Int32) (fun _ => 0) := Al.new A14 ng14
  show Go _ _ _ _ _ _ _ (T14.setTop (mkF m 43 #[.val (.ref a0), .val (.int p1), .val (.int p2)] [(.ref b14), (.ref l0)]))
  have f21 : Old Z n0 h14 := ((O_0.wr W3 g_16).ext E14)
  have f22 : Exa Z h14 l0 "java/util/ArrayList" := (f12.ext E14)
  have f23 : Fld Z h14 l0 "java/util/ArrayList" "elementData" "[Ljava/lang/Object;" (.ref w0) := ((F_12.other W3 (Or.inl (Ne.symm ne_15))).ext E14)
  have f24 : Fld Z h14 l0 "java/util/ArrayList" "size" "I" (.int (0 : Int32)) := (f10.ext E14)
  have f25 : Fld Z h14 l0 "java/util/AbstractList" "modCount" "I" (.int (0 : Int32)) := ((F_14.other W3 (Or.inl (Ne.symm ne_15))).ext E14)
  obtain ⟨cq26, kq26, q26a, q26b, q26c⟩ := isOf hZ e14 f22
  obtain ⟨_, _, ⟨T26, L26, k26, n26⟩, -, X26, ⟨Lc26, hQ26, l26, y26, z26⟩, st26⟩ := X14.interfaceBack hx (xi := (⟨"java/util/List", "add", "(Ljava/lang/Object;)Z"⟩ : MethodName)) (y := (⟨"java/util/ArrayList", "add", "(Ljava/lang/Object;)Z"⟩ : MethodName)) hown (mvT hZ (hw _ (List.mem_of_getElem? (i := 65) rfl))) (mvT hZ (hw _ (List.mem_of_getElem? (i := 66) rfl))) (mvT hZ (hw _ (List.mem_of_getElem? (i := 67) rfl))) (mvT hZ (hw _ (List.mem_of_getElem? (i := 68) rfl))) (mvT hZ (hw _ (List.mem_of_getElem? (i := 69) rfl))) (mvT hZ (hw _ (List.mem_of_getElem? (i := 70) rfl))) (mvT hZ (hw _ (List.mem_of_getElem? (i := 71) rfl))) (mvT hZ (hw _ (List.mem_of_getElem? (i := 60) rfl))) (by decide) (backOf (W := 0) (rm9 l Z aZ hw [] l0 b14 w0 (0 : Int32) h14 n0 z18 f21 S_1 A_2 f22 f23 f24 f25 Ea14 g_17) hZ (hw _ (List.mem_of_getElem? (i := 72) rfl)) (hw _ (List.mem_of_getElem? (i := 12) rfl)) (by decide) (by decide)) q26a q26b q26c (g := (mkF m 43 #[.val (.ref a0), .val (.int p1), .val (.int p2)] [(.ref b14), (.ref l0)])) rfl (by rw [hml]; rfl) (Steps.refl _) (argsL := [(.ref b14)]) (rest := []) (lenOf pd_8 rfl) rfl (by show 2 * 0 + _ ≤ _; exact Nat.le_of_eq rfl) (hb hby d7_43) (fun _ _ => ⟨rfl, e14, (by decide : 1 + 1 ≤ _), (by decide : 32768 + 10 ≤ _)⟩)
  dsimp only [Pt.U, Pt.locs, Pt.cells, Pt.slots] at X26 l26 y26 z26 st26 hQ26
  subst l26 y26 z26
  obtain ⟨b_26, u2_26, rfl, Nq26, K26, c26_0, c26_1, c26_2, c26_3, c26_4, u26_0⟩ := hQ26
  have N26 := Fr.app N11 Nq26
  refine Go.tr st26 ?_
  have f27 : Exa Z h14 a0 "com/example/tree_automata_reducer/treeautomatareducer/reduce/PairStack" := (f15.ext E14)
  have ne28 : a0 ≠ b_26 := Nat.ne_of_lt (Nat.lt_of_lt_of_le f27.lt c26_0)
  have ne29 : l0 ≠ b_26 := Nat.ne_of_lt (Nat.lt_of_lt_of_le f22.lt c26_0)
  have ne30 : b14 ≠ b_26 := Nat.ne_of_lt (Nat.lt_of_lt_of_le Ea14.lt c26_0)
  have gn26_0 : n0 ≤ b_26 := Nat.le_trans z18 c26_0
  have sz26_0 : h0.size ≤ b_26 := Nat.le_trans sqz18 c26_0
  have z31 : n0 ≤ T26.heap.size := Nat.le_trans z18 K26.1
  have sqz31 : h0.size ≤ T26.heap.size := Nat.le_trans sqz18 K26.1
  have k32 : Keep h0 T26.heap [a0, l0] := k19.trans K26 (allS (Or.inl (List.mem_of_getElem? (i := 1) rfl)) all0)
  show Go _ _ _ _ _ _ _ (T26.setTop (mkF m 48 #[.val (.ref a0), .val (.int p1), .val (.int p2)] [(.int (1 : Int32))]))
  refine Go.step (fun _ k => XS.pop X26.here hx rfl (hb hby d7_48) rfl rfl k) ?_
  show Go _ _ _ _ _ _ _ (T26.setTop (mkF m 49 #[.val (.ref a0), .val (.int p1), .val (.int p2)] []))
  refine Go.step (fun _ k => XS.aloadN X26.here hx rfl (hb hby d7_49) rfl rfl  k) ?_
  show Go _ _ _ _ _ _ _ (T26.setTop (mkF m 50 #[.val (.ref a0), .val (.int p1), .val (.int p2)] [(.ref a0)]))
  refine Go.step (fun _ k => XS.aloadN X26.here hx rfl (hb hby d7_50) rfl rfl  k) ?_
  show Go _ _ _ _ _ _ _ (T26.setTop (mkF m 51 #[.val (.ref a0), .val (.int p1), .val (.int p2)] [(.ref a0), (.ref a0)]))
  have f33 : Fld Z T26.heap a0 "com/example/tree_automata_reducer/treeautomatareducer/reduce/PairStack" "blocks" "Ljava/util/List;" (.ref l0) := ((f8.ext E14).keep K26 (ninS ne_15 nin0))
  obtain ⟨T34, X34, e34, st34⟩ := getF X26 hx hZ hown (host := "") (Or.inl (hw _ (List.mem_of_getElem? (i := 34) rfl))) Via.refl rfl f33 (g := (mkF m 51 #[.val (.ref a0), .val (.int p1), .val (.int p2)] [(.ref a0), (.ref a0)])) rfl rfl (hb hby d7_51)
  refine Go.step st34 ?_
  show Go _ _ _ _ _ _ _ (T34.setTop (mkF m 54 #[.val (.ref a0), .val (.int p1), .val (.int p2)] [(.ref l0), (.ref a0)]))
  refine Go.step (fun _ k => XS.aloadN X34.here hx rfl (hb hby d7_54) rfl rfl  k) ?_
  show Go _ _ _ _ _ _ _ (T34.setTop (mkF m 55 #[.val (.ref a0), .val (.int p1), .val (.int p2)] [(.ref a0), (.ref l0), (.ref a0)]))
  have f35 : Fld Z T26.heap a0 "com/example/tree_automata_reducer/treeautomatareducer/reduce/PairStack" "blockNumber" "I" (.int (0 : Int32)) := ((f6.ext E14).keep K26 (ninS ne_15 nin0))
  obtain ⟨T36, X36, e36, st36⟩ := getF X34 hx hZ hown (host := "") (Or.inl (hw _ (List.mem_of_getElem? (i := 36) rfl))) Via.refl e34 f35 (g := (mkF m 55 #[.val (.ref a0), .val (.int p1), .val (.int p2)] [(.ref a0), (.ref l0), (.ref a0)])) rfl rfl (hb hby d7_55)
  refine Go.step st36 ?_
  show Go _ _ _ _ _ _ _ (T36.setTop (mkF m 58 #[.val (.ref a0), .val (.int p1), .val (.int p2)] [(.int (0 : Int32)), (.ref l0), (.ref a0)]))
  have pq37 : ¬ (0 : Int32) < 0 := (by decide)
  have pq38 : (0 : Int32) < (10 : Int32) := (by decide)
  have pq39 : u2_26 (0 : Int32) = Value.ref b14 := u26_0
  have pq40 : (0 : Int32) < (1 : Int32) := (by decide)
  obtain ⟨cq41, kq41, q41a, q41b, q41c⟩ := isOf hZ e36 c26_1
  obtain ⟨_, _, ⟨T41, L41, k41, n41⟩, -, X41, ⟨Lc41, hQ41, l41, y41, z41⟩, st41⟩ := X36.interfaceBack hx (xi := (⟨"java/util/List", "get", "(I)Ljava/lang/Object;"⟩ : MethodName)) (y := (⟨"java/util/ArrayList", "get", "(I)Ljava/lang/Object;"⟩ : MethodName)) hown (mvT hZ (hw _ (List.mem_of_getElem? (i := 97) rfl))) (mvT hZ (hw _ (List.mem_of_getElem? (i := 98) rfl))) (mvT hZ (hw _ (List.mem_of_getElem? (i := 99) rfl))) (mvT hZ (hw _ (List.mem_of_getElem? (i := 100) rfl))) (mvT hZ (hw _ (List.mem_of_getElem? (i := 101) rfl))) (mvT hZ (hw _ (List.mem_of_getElem? (i := 102) rfl))) (mvT hZ (hw _ (List.mem_of_getElem? (i := 103) rfl))) (mvT hZ (hw _ (List.mem_of_getElem? (i := 60) rfl))) (by decide) (backOf (W := 1) (rm14 l Z aZ hw [] l0 (0 : Int32) b_26 (10 : Int32) u2_26 b14 (1 : Int32) T26.heap n0 z31 c26_1 c26_3 c26_2 c26_4 pq37 pq38 pq39 pq40) hZ (hw _ (List.mem_of_getElem? (i := 104) rfl)) (hw _ (List.mem_of_getElem? (i := 12) rfl)) (by decide) (by decide)) q41a q41b q41c (g := (mkF m 58 #[.val (.ref a0), .val (.int p1), .val (.int p2)] [(.int (0 : Int32)), (.ref l0), (.ref a0)])) rfl (by rw [hml]; rfl) (Steps.refl _) (argsL := [(.int (0 : Int32))]) (rest := [(.ref a0)]) (lenOf pd_3 rfl) rfl (by show 2 * 0 + _ ≤ _; exact Nat.le_of_eq rfl) (hb hby d7_58) (fun _ _ => ⟨rfl, e36, (by decide : 2 + 0 ≤ _), (by decide : 32778 + 0 ≤ _)⟩)
  dsimp only [Pt.U, Pt.locs, Pt.cells, Pt.slots] at X41 l41 y41 z41 st41 hQ41
  subst l41 y41 z41
  obtain ⟨rfl, Nq41, e41⟩ := hQ41
  have N41 := Fr.app N26 Nq41
  refine Go.tr st41 ?_
  show Go _ _ _ _ _ _ _ (T41.setTop (mkF m 63 #[.val (.ref a0), .val (.int p1), .val (.int p2)] [(.ref b14), (.ref a0)]))
  have f42 : Exa Z T26.heap b14 "[J" := (Ea14.keep K26)
  obtain ⟨T43, X43, e43, st43⟩ := castY X41 hx hZ hown (hw _ (List.mem_of_getElem? (i := 118) rfl)) e41 (Ins.self f42) (g := (mkF m 63 #[.val (.ref a0), .val (.int p1), .val (.int p2)] [(.ref b14), (.ref a0)])) rfl rfl (hb hby d7_63)
  refine Go.step st43 ?_
  show Go _ _ _ _ _ _ _ (T43.setTop (mkF m 66 #[.val (.ref a0), .val (.int p1), .val (.int p2)] [(.ref b14), (.ref a0)]))
  have f44 : Exa Z T26.heap a0 "com/example/tree_automata_reducer/treeautomatareducer/reduce/PairStack" := (f27.keep K26)
  have f45 : Fld Z T26.heap a0 "com/example/tree_automata_reducer/treeautomatareducer/reduce/PairStack" "block" "[J" .null := (((F_6.other W3 (Or.inr (slot_ne (Or.inl (hw _ (List.mem_of_getElem? (i := 121) rfl))) (Or.inl (hw _ (List.mem_of_getElem? (i := 37) rfl))) (by decide) (t := (.array .long)) (t' := .int) (by decide) (by decide)))).ext E14).keep K26 (ninS ne_15 nin0))
  obtain ⟨T46, h46, X46, e46, W46, st46⟩ := putF X43 hx hZ hown (host := "") (Or.inl (hw _ (List.mem_of_getElem? (i := 120) rfl))) Via.refl e43 f45 f44 (Or.inl (hw _ (List.mem_of_getElem? (i := 121) rfl))) (hw _ (List.mem_of_getElem? (i := 2) rfl)) (ty := (.array .long)) (v := (.ref b14)) (by decide) rfl rfl (g := (mkF m 66 #[.val (.ref a0), .val (.int p1), .val (.int p2)] [(.ref b14), (.ref a0)])) rfl rfl (hb hby d7_66)
  refine Go.step st46 ?_
  have N46 := Fr.snoc X46 N41 g_16
  have z47 : n0 ≤ h46.size := Nat.le_trans z31 (Keep.of_wr W46).1
  have sqz47 : h0.size ≤ h46.size := Nat.le_trans sqz31 (Keep.of_wr W46).1
  have k48 : Keep h0 h46 [a0, l0] := k32.wr W46 (Or.inl (List.mem_of_getElem? (i := 0) rfl))
  have f49 : Fld Z h46 a0 "com/example/tree_automata_reducer/treeautomatareducer/reduce/PairStack" "block" "[J" (.ref b14) := f45.same W46
  show Go _ _ _ _ _ _ _ (T46.setTop (mkF m 69 #[.val (.ref a0), .val (.int p1), .val (.int p2)] []))
  refine Go.step (fun _ k => XS.aloadN X46.here hx rfl (hb hby d7_69) rfl rfl  k) ?_
  show Go _ _ _ _ _ _ _ (T46.setTop (mkF m 70 #[.val (.ref a0), .val (.int p1), .val (.int p2)] [(.ref a0)]))
  refine Go.step (fun _ k => XS.iconst X46.here hx rfl (hb hby d7_70) k) ?_
  show Go _ _ _ _ _ _ _ (T46.setTop (mkF m 71 #[.val (.ref a0), .val (.int p1), .val (.int p2)] [(.int (0 : Int32)), (.ref a0)]))
  have f50 : Exa Z h46 a0 "com/example/tree_automata_reducer/treeautomatareducer/reduce/PairStack" := (f44.wr W46)
  have f51 : Fld Z h46 a0 "com/example/tree_automata_reducer/treeautomatareducer/reduce/PairStack" "inBlock" "I" (.int (32768 : Int32)) := ((((F_8.other W3 (Or.inr (slot_ne (Or.inl (hw _ (List.mem_of_getElem? (i := 40) rfl))) (Or.inl (hw _ (List.mem_of_getElem? (i := 37) rfl))) (by decide) (t := .int) (t' := .int) (by decide) (by decide)))).ext E14).keep K26 (ninS ne_15 nin0)).other W46 (Or.inr (slot_ne (Or.inl (hw _ (List.mem_of_getElem? (i := 40) rfl))) (Or.inl (hw _ (List.mem_of_getElem? (i := 121) rfl))) (by decide) (t := .int) (t' := (.array .long)) (by decide) (by decide))))
  obtain ⟨T52, h52, X52, e52, W52, st52⟩ := putF X46 hx hZ hown (host := "") (Or.inl (hw _ (List.mem_of_getElem? (i := 39) rfl))) Via.refl e46 f51 f50 (Or.inl (hw _ (List.mem_of_getElem? (i := 40) rfl))) (hw _ (List.mem_of_getElem? (i := 2) rfl)) (ty := .int) (v := (.int (0 : Int32))) (by decide) rfl rfl (g := (mkF m 71 #[.val (.ref a0), .val (.int p1), .val (.int p2)] [(.int (0 : Int32)), (.ref a0)])) rfl rfl (hb hby d7_71)
  refine Go.step st52 ?_
  have N52 := Fr.snoc X52 N46 g_16
  have z53 : n0 ≤ h52.size := Nat.le_trans z47 (Keep.of_wr W52).1
  have sqz53 : h0.size ≤ h52.size := Nat.le_trans sqz47 (Keep.of_wr W52).1
  have k54 : Keep h0 h52 [a0, l0] := k48.wr W52 (Or.inl (List.mem_of_getElem? (i := 0) rfl))
  have f55 : Fld Z h52 a0 "com/example/tree_automata_reducer/treeautomatareducer/reduce/PairStack" "inBlock" "I" (.int (0 : Int32)) := f51.same W52
  show Go _ _ _ _ _ _ _ (T52.setTop (mkF m 74 #[.val (.ref a0), .val (.int p1), .val (.int p2)] []))
  refine Go.step (fun _ k => XS.aloadN X52.here hx rfl (hb hby d7_74) rfl rfl  k) ?_
  show Go _ _ _ _ _ _ _ (T52.setTop (mkF m 75 #[.val (.ref a0), .val (.int p1), .val (.int p2)] [(.ref a0)]))
  have f56 : Fld Z h52 a0 "com/example/tree_automata_reducer/treeautomatareducer/reduce/PairStack" "block" "[J" (.ref b14) := (f49.other W52 (Or.inr (slot_ne (Or.inl (hw _ (List.mem_of_getElem? (i := 121) rfl))) (Or.inl (hw _ (List.mem_of_getElem? (i := 40) rfl))) (by decide) (t := (.array .long)) (t' := .int) (by decide) (by decide))))
  obtain ⟨T57, X57, e57, st57⟩ := getF X52 hx hZ hown (host := "") (Or.inl (hw _ (List.mem_of_getElem? (i := 120) rfl))) Via.refl e52 f56 (g := (mkF m 75 #[.val (.ref a0), .val (.int p1), .val (.int p2)] [(.ref a0)])) rfl rfl (hb hby d7_75)
  refine Go.step st57 ?_
  show Go _ _ _ _ _ _ _ (T57.setTop (mkF m 78 #[.val (.ref a0), .val (.int p1), .val (.int p2)] [(.ref b14)]))
  refine Go.step (fun _ k => XS.aloadN X57.here hx rfl (hb hby d7_78) rfl rfl  k) ?_
  show Go _ _ _ _ _ _ _ (T57.setTop (mkF m 79 #[.val (.ref a0), .val (.int p1), .val (.int p2)] [(.ref a0), (.ref b14)]))
  refine Go.step (fun _ k => XS.dup X57.here hx rfl (hb hby d7_79) rfl rfl k) ?_
  show Go _ _ _ _ _ _ _ (T57.setTop (mkF m 80 #[.val (.ref a0), .val (.int p1), .val (.int p2)] [(.ref a0), (.ref a0), (.ref b14)]))
  obtain ⟨T58, X58, e58, st58⟩ := getF X57 hx hZ hown (host := "") (Or.inl (hw _ (List.mem_of_getElem? (i := 39) rfl))) Via.refl e57 f55 (g := (mkF m 80 #[.val (.ref a0), .val (.int p1), .val (.int p2)] [(.ref a0), (.ref a0), (.ref b14)])) rfl rfl (hb hby d7_80)
  refine Go.step st58 ?_
  show Go _ _ _ _ _ _ _ (T58.setTop (mkF m 83 #[.val (.ref a0), .val (.int p1), .val (.int p2)] [(.int (0 : Int32)), (.ref a0), (.ref b14)]))
  refine Go.step (fun _ k => XS.dupX1 X58.here hx rfl (hb hby d7_83) rfl rfl rfl k) ?_
  show Go _ _ _ _ _ _ _ (T58.setTop (mkF m 84 #[.val (.ref a0), .val (.int p1), .val (.int p2)] [(.int (0 : Int32)), (.ref a0), (.int (0 : Int32)), (.ref b14)]))
  refine Go.step (fun _ k => XS.iconst X58.here hx rfl (hb hby d7_84) k) ?_
  show Go _ _ _ _ _ _ _ (T58.setTop (mkF m 85 #[.val (.ref a0), .val (.int p1), .val (.int p2)] [(.int (1 : Int32)), (.int (0 : Int32)), (.ref a0), (.int (0 : Int32)), (.ref b14)]))
  refine Go.step (fun _ k => XS.iadd X58.here hx rfl (hb hby d7_85) rfl k) ?_
  show Go _ _ _ _ _ _ _ (T58.setTop (mkF m 86 #[.val (.ref a0), .val (.int p1), .val (.int p2)] [(.int (1 : Int32)), (.ref a0), (.int (0 : Int32)), (.ref b14)]))
  have f59 : Exa Z h52 a0 "com/example/tree_automata_reducer/treeautomatareducer/reduce/PairStack" := (f50.wr W52)
  obtain ⟨T60, h60, X60, e60, W60, st60⟩ := putF X58 hx hZ hown (host := "") (Or.inl (hw _ (List.mem_of_getElem? (i := 39) rfl))) Via.refl e58 f55 f59 (Or.inl (hw _ (List.mem_of_getElem? (i := 40) rfl))) (hw _ (List.mem_of_getElem? (i := 2) rfl)) (ty := .int) (v := (.int (1 : Int32))) (by decide) rfl rfl (g := (mkF m 86 #[.val (.ref a0), .val (.int p1), .val (.int p2)] [(.int (1 : Int32)), (.ref a0), (.int (0 : Int32)), (.ref b14)])) rfl rfl (hb hby d7_86)
  refine Go.step st60 ?_
  have N60 := Fr.snoc X60 N52 g_16
  have z61 : n0 ≤ h60.size := Nat.le_trans z53 (Keep.of_wr W60).1
  have sqz61 : h0.size ≤ h60.size := Nat.le_trans sqz53 (Keep.of_wr W60).1
  have k62 : Keep h0 h60 [a0, l0] := k54.wr W60 (Or.inl (List.mem_of_getElem? (i := 0) rfl))
  have f63 : Fld Z h60 a0 "com/example/tree_automata_reducer/treeautomatareducer/reduce/PairStack" "inBlock" "I" (.int (1 : Int32)) := f55.same W60
  show Go _ _ _ _ _ _ _ (T60.setTop (mkF m 89 #[.val (.ref a0), .val (.int p1), .val (.int p2)] [(.int (0 : Int32)), (.ref b14)]))
  refine Go.step (fun _ k => XS.iloadN X60.here hx rfl (hb hby d7_89) rfl  k) ?_
  show Go _ _ _ _ _ _ _ (T60.setTop (mkF m 90 #[.val (.ref a0), .val (.int p1), .val (.int p2)] [(.int p1), (.int (0 : Int32)), (.ref b14)]))
  refine Go.step (fun _ k => XS.i2l X60.here hx rfl (hb hby d7_90) rfl k) ?_
  show Go _ _ _ _ _ _ _ (T60.setTop (mkF m 91 #[.val (.ref a0), .val (.int p1), .val (.int p2)] [(.long (Int32.toInt64 p1)), (.int (0 : Int32)), (.ref b14)]))
  refine Go.step (fun _ k => XS.bipush X60.here hx rfl (hb hby d7_91) k) ?_
  show Go _ _ _ _ _ _ _ (T60.setTop (mkF m 93 #[.val (.ref a0), .val (.int p1), .val (.int p2)] [(.int (32 : Int32)), (.long (Int32.toInt64 p1)), (.int (0 : Int32)), (.ref b14)]))
  refine Go.step (fun _ k => XS.lshl X60.here hx rfl (hb hby d7_93) rfl k) ?_
  show Go _ _ _ _ _ _ _ (T60.setTop (mkF m 94 #[.val (.ref a0), .val (.int p1), .val (.int p2)] [(.long ((Int32.toInt64 p1) <<< ((32 : Int32) &&& 0x3f).toInt64)), (.int (0 : Int32)), (.ref b14)]))
  refine Go.step (fun _ k => XS.iloadN X60.here hx rfl (hb hby d7_94) rfl  k) ?_
  show Go _ _ _ _ _ _ _ (T60.setTop (mkF m 95 #[.val (.ref a0), .val (.int p1), .val (.int p2)] [(.int p2), (.long ((Int32.toInt64 p1) <<< ((32 : Int32) &&& 0x3f).toInt64)), (.int (0 : Int32)), (.ref b14)]))
  refine Go.step (fun _ k => XS.i2l X60.here hx rfl (hb hby d7_95) rfl k) ?_
  show Go _ _ _ _ _ _ _ (T60.setTop (mkF m 96 #[.val (.ref a0), .val (.int p1), .val (.int p2)] [(.long (Int32.toInt64 p2)), (.long ((Int32.toInt64 p1) <<< ((32 : Int32) &&& 0x3f).toInt64)), (.int (0 : Int32)), (.ref b14)]))
  refine Go.step (X60.ldc2Long hx hown (mvT hZ (hw _ (List.mem_of_getElem? (i := 122) rfl))) (g := (mkF m 96 #[.val (.ref a0), .val (.int p1), .val (.int p2)] [(.long (Int32.toInt64 p2)), (.long ((Int32.toInt64 p1) <<< ((32 : Int32) &&& 0x3f).toInt64)), (.int (0 : Int32)), (.ref b14)])) rfl (hb hby d7_96)) ?_
  show Go _ _ _ _ _ _ _ (T60.setTop (mkF m 99 #[.val (.ref a0), .val (.int p1), .val (.int p2)] [(.long (4294967295 : Int64)), (.long (Int32.toInt64 p2)), (.long ((Int32.toInt64 p1) <<< ((32 : Int32) &&& 0x3f).toInt64)), (.int (0 : Int32)), (.ref b14)]))
  refine Go.step (fun _ k => XS.land X60.here hx rfl (hb hby d7_99) rfl k) ?_
  show Go _ _ _ _ _ _ _ (T60.setTop (mkF m 100 #[.val (.ref a0), .val (.int p1), .val (.int p2)] [(.long ((Int32.toInt64 p2) &&& (4294967295 : Int64))), (.long ((Int32.toInt64 p1) <<< ((32 : Int32) &&& 0x3f).toInt64)), (.int (0 : Int32)), (.ref b14)]))
  refine Go.step (fun _ k => XS.lor X60.here hx rfl (hb hby d7_100) rfl k) ?_
  show Go _ _ _ _ _ _ _ (T60.setTop (mkF m 101 #[.val (.ref a0), .val (.int p1), .val (.int p2)] [(.long (((Int32.toInt64 p1) <<< ((32 : Int32) &&& 0x3f).toInt64) ||| ((Int32.toInt64 p2) &&& (4294967295 : Int64)))), (.int (0 : Int32)), (.ref b14)]))
  have f64 : Al Z h60 b14 (32768 : Int32) (fun _ => 0) := ((((f20.keep K26 (ninS (Ne.symm ne17) nin0)).other W46 (Ne.symm ne16)).other W52 (Ne.symm ne16)).other W60 (Ne.symm ne16))
  have lo65 : ¬ (0 : Int32) < 0 := (by decide)
  have hi65 : (0 : Int32) < (32768 : Int32) := (by decide)
  obtain ⟨T66, h66, X66, e66, W66, f66, st66⟩ := Al.stJ X60 hx hZ e60 f64 (j := (0 : Int32)) (x := (((Int32.toInt64 p1) <<< ((32 : Int32) &&& 0x3f).toInt64) ||| ((Int32.toInt64 p2) &&& (4294967295 : Int64)))) lo65 hi65 (g := (mkF m 101 #[.val (.ref a0), .val (.int p1), .val (.int p2)] [(.long (((Int32.toInt64 p1) <<< ((32 : Int32) &&& 0x3f).toInt64) ||| ((Int32.toInt64 p2) &&& (4294967295 : Int64)))), (.int (0 : Int32)), (.ref b14)])) rfl rfl (hb hby d7_101)
  refine Go.step st66 ?_
  have N66 := Fr.snoc X66 N60 gn14
  have z67 : n0 ≤ h66.size := Nat.le_trans z61 (Keep.of_wr W66).1
  have sqz67 : h0.size ≤ h66.size := Nat.le_trans sqz61 (Keep.of_wr W66).1
  have k68 : Keep h0 h66 [a0, l0] := k62.wr W66 (Or.inr sz14)
  obtain ⟨f69c, qf69c⟩ : ∃ fz, fz = (fun jj => if jj = (0 : Int32) then (((Int32.toInt64 p1) <<< ((32 : Int32) &&& 0x3f).toInt64) ||| ((Int32.toInt64 p2) &&& (4294967295 : Int64))) else (fun _ => 0) jj) := ⟨_, rfl⟩
  rw [← qf69c] at f66
  show Go _ _ _ _ _ _ _ (T66.setTop (mkF m 102 #[.val (.ref a0), .val (.int p1), .val (.int p2)] []))
  refine Go.step (fun _ k => XS.aloadN X66.here hx rfl (hb hby d7_102) rfl rfl  k) ?_
  show Go _ _ _ _ _ _ _ (T66.setTop (mkF m 103 #[.val (.ref a0), .val (.int p1), .val (.int p2)] [(.ref a0)]))
  refine Go.step (fun _ k => XS.dup X66.here hx rfl (hb hby d7_103) rfl rfl k) ?_
  show Go _ _ _ _ _ _ _ (T66.setTop (mkF m 104 #[.val (.ref a0), .val (.int p1), .val (.int p2)] [(.ref a0), (.ref a0)]))
  have f70 : Fld Z h66 a0 "com/example/tree_automata_reducer/treeautomatareducer/reduce/PairStack" "size" "J" (.long (0 : Int64)) := (((((((F_5.other W3 (Or.inr (slot_ne (Or.inl (hw _ (List.mem_of_getElem? (i := 47) rfl))) (Or.inl (hw _ (List.mem_of_getElem? (i := 37) rfl))) (by decide) (t := .long) (t' := .int) (by decide) (by decide)))).ext E14).keep K26 (ninS ne_15 nin0)).other W46 (Or.inr (slot_ne (Or.inl (hw _ (List.mem_of_getElem? (i := 47) rfl))) (Or.inl (hw _ (List.mem_of_getElem? (i := 121) rfl))) (by decide) (t := .long) (t' := (.array .long)) (by decide) (by decide)))).other W52 (Or.inr (slot_ne (Or.inl (hw _ (List.mem_of_getElem? (i := 47) rfl))) (Or.inl (hw _ (List.mem_of_getElem? (i := 40) rfl))) (by decide) (t := .long) (t' := .int) (by decide) (by decide)))).other W60 (Or.inr (slot_ne (Or.inl (hw _ (List.mem_of_getElem? (i := 47) rfl))) (Or.inl (hw _ (List.mem_of_getElem? (i := 40) rfl))) (by decide) (t := .long) (t' := .int) (by decide) (by decide)))).other W66 (Or.inl ne16))
  obtain ⟨T71, X71, e71, st71⟩ := getF X66 hx hZ hown (host := "") (Or.inl (hw _ (List.mem_of_getElem? (i := 46) rfl))) Via.refl e66 f70 (g := (mkF m 104 #[.val (.ref a0), .val (.int p1), .val (.int p2)] [(.ref a0), (.ref a0)])) rfl rfl (hb hby d7_104)
  refine Go.step st71 ?_
  show Go _ _ _ _ _ _ _ (T71.setTop (mkF m 107 #[.val (.ref a0), .val (.int p1), .val (.int p2)] [(.long (0 : Int64)), (.ref a0)]))
  refine Go.step (fun _ k => XS.lconst X71.here hx rfl (hb hby d7_107) k) ?_
  show Go _ _ _ _ _ _ _ (T71.setTop (mkF m 108 #[.val (.ref a0), .val (.int p1), .val (.int p2)] [(.long (1 : Int64)), (.long (0 : Int64)), (.ref a0)]))
  refine Go.step (fun _ k => XS.ladd X71.here hx rfl (hb hby d7_108) rfl k) ?_
  show Go _ _ _ _ _ _ _ (T71.setTop (mkF m 109 #[.val (.ref a0), .val (.int p1), .val (.int p2)] [(.long (1 : Int64)), (.ref a0)]))
  have f72 : Exa Z h66 a0 "com/example/tree_automata_reducer/treeautomatareducer/reduce/PairStack" := ((f59.wr W60).wr W66)
  obtain ⟨T73, h73, X73, e73, W73, st73⟩ := putF X71 hx hZ hown (host := "") (Or.inl (hw _ (List.mem_of_getElem? (i := 46) rfl))) Via.refl e71 f70 f72 (Or.inl (hw _ (List.mem_of_getElem? (i := 47) rfl))) (hw _ (List.mem_of_getElem? (i := 2) rfl)) (ty := .long) (v := (.long (1 : Int64))) (by decide) rfl rfl (g := (mkF m 109 #[.val (.ref a0), .val (.int p1), .val (.int p2)] [(.long (1 : Int64)), (.ref a0)])) rfl rfl (hb hby d7_109)
  refine Go.step st73 ?_
  have N73 := Fr.snoc X73 N66 g_16
  have z74 : n0 ≤ h73.size := Nat.le_trans z67 (Keep.of_wr W73).1
  have sqz74 : h0.size ≤ h73.size := Nat.le_trans sqz67 (Keep.of_wr W73).1
  have k75 : Keep h0 h73 [a0, l0] := k68.wr W73 (Or.inl (List.mem_of_getElem? (i := 0) rfl))
  have f76 : Fld Z h73 a0 "com/example/tree_automata_reducer/treeautomatareducer/reduce/PairStack" "size" "J" (.long (1 : Int64)) := f70.same W73
  show Go _ _ _ _ _ _ _ (T73.setTop (mkF m 112 #[.val (.ref a0), .val (.int p1), .val (.int p2)] []))
  have f77 : Exa Z h73 a0 "com/example/tree_automata_reducer/treeautomatareducer/reduce/PairStack" := (f72.wr W73)
  have f78 : Fld Z h73 a0 "com/example/tree_automata_reducer/treeautomatareducer/reduce/PairStack" "block" "[J" (.ref b14) := (((f56.other W60 (Or.inr (slot_ne (Or.inl (hw _ (List.mem_of_getElem? (i := 121) rfl))) (Or.inl (hw _ (List.mem_of_getElem? (i := 40) rfl))) (by decide) (t := (.array .long)) (t' := .int) (by decide) (by decide)))).other W66 (Or.inl ne16)).other W73 (Or.inr (slot_ne (Or.inl (hw _ (List.mem_of_getElem? (i := 121) rfl))) (Or.inl (hw _ (List.mem_of_getElem? (i := 47) rfl))) (by decide) (t := (.array .long)) (t' := .long) (by decide) (by decide))))
  have f79 : Fld Z h73 a0 "com/example/tree_automata_reducer/treeautomatareducer/reduce/PairStack" "inBlock" "I" (.int (1 : Int32)) := ((f63.other W66 (Or.inl ne16)).other W73 (Or.inr (slot_ne (Or.inl (hw _ (List.mem_of_getElem? (i := 40) rfl))) (Or.inl (hw _ (List.mem_of_getElem? (i := 47) rfl))) (by decide) (t := .int) (t' := .long) (by decide) (by decide))))
  have f80 : Al Z h73 b14 (32768 : Int32) f69c := (f66.other W73 (Ne.symm ne16))
  have f81 : Fld Z h73 a0 "com/example/tree_automata_reducer/treeautomatareducer/reduce/PairStack" "first" "I" (.int (0 : Int32)) := ((((((((F_9.other W3 (Or.inr (slot_ne (Or.inl (hw _ (List.mem_of_getElem? (i := 129) rfl))) (Or.inl (hw _ (List.mem_of_getElem? (i := 37) rfl))) (by decide) (t := .int) (t' := .int) (by decide) (by decide)))).ext E14).keep K26 (ninS ne_15 nin0)).other W46 (Or.inr (slot_ne (Or.inl (hw _ (List.mem_of_getElem? (i := 129) rfl))) (Or.inl (hw _ (List.mem_of_getElem? (i := 121) rfl))) (by decide) (t := .int) (t' := (.array .long)) (by decide) (by decide)))).other W52 (Or.inr (slot_ne (Or.inl (hw _ (List.mem_of_getElem? (i := 129) rfl))) (Or.inl (hw _ (List.mem_of_getElem? (i := 40) rfl))) (by decide) (t := .int) (t' := .int) (by decide) (by decide)))).other W60 (Or.inr (slot_ne (Or.inl (hw _ (List.mem_of_getElem? (i := 129) rfl))) (Or.inl (hw _ (List.mem_of_getElem? (i := 40) rfl))) (by decide) (t := .int) (t' := .int) (by decide) (by decide)))).other W66 (Or.inl ne16)).other W73 (Or.inr (slot_ne (Or.inl (hw _ (List.mem_of_getElem? (i := 129) rfl))) (Or.inl (hw _ (List.mem_of_getElem? (i := 47) rfl))) (by decide) (t := .int) (t' := .long) (by decide) (by decide))))
  have f82 : Fld Z h73 a0 "com/example/tree_automata_reducer/treeautomatareducer/reduce/PairStack" "second" "I" (.int (0 : Int32)) := ((((((((F_10.other W3 (Or.inr (slot_ne (Or.inl (hw _ (List.mem_of_getElem? (i := 131) rfl))) (Or.inl (hw _ (List.mem_of_getElem? (i := 37) rfl))) (by decide) (t := .int) (t' := .int) (by decide) (by decide)))).ext E14).keep K26 (ninS ne_15 nin0)).other W46 (Or.inr (slot_ne (Or.inl (hw _ (List.mem_of_getElem? (i := 131) rfl))) (Or.inl (hw _ (List.mem_of_getElem? (i := 121) rfl))) (by decide) (t := .int) (t' := (.array .long)) (by decide) (by decide)))).other W52 (Or.inr (slot_ne (Or.inl (hw _ (List.mem_of_getElem? (i := 131) rfl))) (Or.inl (hw _ (List.mem_of_getElem? (i := 40) rfl))) (by decide) (t := .int) (t' := .int) (by decide) (by decide)))).other W60 (Or.inr (slot_ne (Or.inl (hw _ (List.mem_of_getElem? (i := 131) rfl))) (Or.inl (hw _ (List.mem_of_getElem? (i := 40) rfl))) (by decide) (t := .int) (t' := .int) (by decide) (by decide)))).other W66 (Or.inl ne16)).other W73 (Or.inr (slot_ne (Or.inl (hw _ (List.mem_of_getElem? (i := 131) rfl))) (Or.inl (hw _ (List.mem_of_getElem? (i := 47) rfl))) (by decide) (t := .int) (t' := .long) (by decide) (by decide))))
  refine Go.retV X73 hx Bd.returns hlk (hb hby d7_112) ?_ (by decide) (by decide)
  rw [e73]
  exact ⟨b14, f69c, (rfl), N73, k75, sz14, f77, f76, f78, f79, f80, f81, f82, ne16⟩
theorem ef_pB (m : MethodId) (a0 : Addr) (p1 : Int32) (p2 : Int32) : entryFrame m #[(.ref a0), (.int p1), (.int p2)] 3 = mkF m 0 #[.val (.ref a0), .val (.int p1), .val (.int p2)] [] := by first | (simp [entryFrame, mkF, argsToLocals, Value.category]; done) | rfl
def QpB (Z : State) (a0 : Addr) (p1 : Int32) (p2 : Int32) (i : Int32) (w : Int64) (b : Addr) (f1 : Int32 → Int64) (x1 : Int32) (x2 : Int32) (h0 : Heap) (n0 : Nat) (v : Option Value) (h : Heap) (L : List Loc) : Prop := ∃ (f2 : Int32 → Int64), (v = none) ∧ (Fr n0 L) ∧ (Keep h0 h [a0, b]) ∧ (Exa Z h a0 "com/example/tree_automata_reducer/treeautomatareducer/reduce/PairStack") ∧ (Fld Z h a0 "com/example/tree_automata_reducer/treeautomatareducer/reduce/PairStack" "size" "J" (.long (w + (1 : Int64)))) ∧ (Fld Z h a0 "com/example/tree_automata_reducer/treeautomatareducer/reduce/PairStack" "block" "[J" (.ref b)) ∧ (Fld Z h a0 "com/example/tree_automata_reducer/treeautomatareducer/reduce/PairStack" "inBlock" "I" (.int (i + (1 : Int32)))) ∧ (Al Z h b (32768 : Int32) f2) ∧ (Fld Z h a0 "com/example/tree_automata_reducer/treeautomatareducer/reduce/PairStack" "first" "I" (.int x1)) ∧ (Fld Z h a0 "com/example/tree_automata_reducer/treeautomatareducer/reduce/PairStack" "second" "I" (.int x2))
set_option maxRecDepth 65536 in
set_option maxHeartbeats 40000000 in
theorem rmpB (l : Launch) (Z : State) (aZ : Array Value) (hw : ∀ d ∈ tables_1, d.before aZ Z = true) (ws : List Jvm.Cond) (a0 : Addr) (p1 : Int32) (p2 : Int32) (i : Int32) (w : Int64) (b : Addr) (f1 : Int32 → Int64) (x1 : Int32) (x2 : Int32) (h0 : Heap) (n0 : Nat) (Z0 : n0 ≤ h0.size) (E_0 : Exa Z h0 a0 "com/example/tree_automata_reducer/treeautomatareducer/reduce/PairStack") (F_1 : Fld Z h0 a0 "com/example/tree_automata_reducer/treeautomatareducer/reduce/PairStack" "size" "J" (.long w)) (F_2 : Fld Z h0 a0 "com/example/tree_automata_reducer/treeautomatareducer/reduce/PairStack" "block" "[J" (.ref b)) (F_3 : Fld Z h0 a0 "com/example/tree_automata_reducer/treeautomatareducer/reduce/PairStack" "inBlock" "I" (.int i)) (A_4 : Al Z h0 b (32768 : Int32) f1) (F_5 : Fld Z h0 a0 "com/example/tree_automata_reducer/treeautomatareducer/reduce/PairStack" "first" "I" (.int x1)) (F_6 : Fld Z h0 a0 "com/example/tree_automata_reducer/treeautomatareducer/reduce/PairStack" "second" "I" (.int x2)) (ne_7 : a0 ≠ b) (g_8 : n0 ≤ a0) (g_9 : n0 ≤ b) (hi : ¬ i = (32768 : Int32)) (hi0 : ¬ i < 0) (hi1 : i < (32768 : Int32)) :
    MetFree l (⟨"com/example/tree_automata_reducer/treeautomatareducer/reduce/PairStack", "push", "(II)V"⟩ : MethodName) (head1 (Jvm.Cond.code (⟨"com/example/tree_automata_reducer/treeautomatareducer/reduce/PairStack", "push", "(II)V"⟩ : MethodName) prog_65_method_2_code 3 none :: ws) ({ frames := 0, cells := 0, slots := 0, locals := 0 } : Room)) (fun a U => a = #[(.ref a0), (.int p1), (.int p2)] ∧ Z.Warmed39 U.vm ∧ U.heap = h0) (fun _ _ _ _ _ => True) (fun _ U o U' => ∃ v L, o = .returned v ∧ QpB Z a0 p1 p2 i w b f1 x1 x2 h0 n0 v U'.heap L ∧ FrameEnd U o U' L ({ frames := 0, cells := 0, slots := 0, locals := 0 } : Room).cells ({ frames := 0, cells := 0, slots := 0, locals := 0 } : Room).slots) := by
  refine MetFree.of_bodySF (plainFor_of_name pn_10) hisR ?_
  intro p e s m args below meth c s₁ Bd hml0 hP hK
  obtain ⟨rfl, hZ, hh⟩ := hP
  have hx := Bd.exec
  have hby := Bd.bytes
  have hml : c.maxLocals = 3 := hml0
  have hown : s.vm.findClass "com/example/tree_automata_reducer/treeautomatareducer/reduce/PairStack" = some m.cls := findClass_of_methodNamed Bd.named
  have hnm := (name_of_methodNamed Bd.named Bd.method).1
  have hlk : meth.locks = false := BodyLoose.notSynchronized Bd
  have X0 : Stand p l e ({ frames := 0, cells := 0, slots := 0, locals := 0 } : Room) s m #[(.ref a0), (.int p1), (.int p2)] below meth c s₁ [] 0 0 := Stand.of_body Bd
  have e0 : s₁.heap = h0 := by rw [← hh, Bd.state]; rfl
  have N0 := Fr.nil n0
  have sq0 : h0.size ≤ h0.size := Nat.le_refl _
  have k0 : Keep h0 h0 [a0, b] := Keep.refl _ _
  change Go p e below s ({ frames := 0, cells := 0, slots := 0, locals := 0 } : Room).cells ({ frames := 0, cells := 0, slots := 0, locals := 0 } : Room).slots (QpB Z a0 p1 p2 i w b f1 x1 x2 h0 n0) (s₁.setTop (entryFrame m #[(.ref a0), (.int p1), (.int p2)] 3))
  rw [ef_pB m a0 p1 p2]
  show Go _ _ _ _ _ _ _ (s₁.setTop (mkF m 0 #[.val (.ref a0), .val (.int p1), .val (.int p2)] []))
  refine Go.step (fun _ k => XS.aloadN X0.here hx rfl (hb hby d7_0) rfl rfl  k) ?_
  show Go _ _ _ _ _ _ _ (s₁.setTop (mkF m 1 #[.val (.ref a0), .val (.int p1), .val (.int p2)] [(.ref a0)]))
  obtain ⟨T1, X1, e1, st1⟩ := getF X0 hx hZ hown (host := "") (Or.inl (hw _ (List.mem_of_getElem? (i := 39) rfl))) Via.refl e0 F_3 (g := (mkF m 1 #[.val (.ref a0), .val (.int p1), .val (.int p2)] [(.ref a0)])) rfl rfl (hb hby d7_1)
  refine Go.step st1 ?_
  show Go _ _ _ _ _ _ _ (T1.setTop (mkF m 4 #[.val (.ref a0), .val (.int p1), .val (.int p2)] [(.int i)]))
  refine Go.step (X1.ldcInt hx hown (mvT hZ (hw _ (List.mem_of_getElem? (i := 38) rfl))) (g := (mkF m 4 #[.val (.ref a0), .val (.int p1), .val (.int p2)] [(.int i)])) rfl (hb hby d7_4)) ?_
  show Go _ _ _ _ _ _ _ (T1.setTop (mkF m 6 #[.val (.ref a0), .val (.int p1), .val (.int p2)] [(.int (32768 : Int32)), (.int i)]))
  have hc6 : ¬ (i = (32768 : Int32)) := hi
  refine Go.step (fun _ k => XS.icmpYes X1.here hx rfl (pc0 := 6) (pc' := 74) rfl (hb hby d7_6) rfl (feq hc6).2 (by decide) (by decide) k) ?_
  show Go _ _ _ _ _ _ _ (T1.setTop (mkF m 74 #[.val (.ref a0), .val (.int p1), .val (.int p2)] []))
  refine Go.step (fun _ k => XS.aloadN X1.here hx rfl (hb hby d7_74) rfl rfl  k) ?_
  show Go _ _ _ _ _ _ _ (T1.setTop (mkF m 75 #[.val (.ref a0), .val (.int p1), .val (.int p2)] [(.ref a0)]))
  obtain ⟨T2, X2, e2, st2⟩ := getF X1 hx hZ hown (host := "") (Or.inl (hw _ (List.mem_of_getElem? (i := 120) rfl))) Via.refl e1 F_2 (g := (mkF m 75 #[.val (.ref a0), .val (.int p1), .val (.int p2)] [(.ref a0)])) rfl rfl (hb hby d7_75)
  refine Go.step st2 ?_
  show Go _ _ _ _ _ _ _ (T2.setTop (mkF m 78 #[.val (.ref a0), .val (.int p1), .val (.int p2)] [(.ref b)]))
  refine Go.step (fun _ k => XS.aloadN X2.here hx rfl (hb hby d7_78) rfl rfl  k) ?_
  show Go _ _ _ _ _ _ _ (T2.setTop (mkF m 79 #[.val (.ref a0), .val (.int p1), .val (.int p2)] [(.ref a0), (.ref b)]))
  refine Go.step (fun _ k => XS.dup X2.here hx rfl (hb hby d7_79) rfl rfl k) ?_
  show Go _ _ _ _ _ _ _ (T2.setTop (mkF m 80 #[.val (.ref a0), .val (.int p1), .val (.int p2)] [(.ref a0), (.ref a0), (.ref b)]))
  obtain ⟨T3, X3, e3, st3⟩ := getF X2 hx hZ hown (host := "") (Or.inl (hw _ (List.mem_of_getElem? (i := 39) rfl))) Via.refl e2 F_3 (g := (mkF m 80 #[.val (.ref a0), .val (.int p1), .val (.int p2)] [(.ref a0), (.ref a0), (.ref b)])) rfl rfl (hb hby d7_80)
  refine Go.step st3 ?_
  show Go _ _ _ _ _ _ _ (T3.setTop (mkF m 83 #[.val (.ref a0), .val (.int p1), .val (.int p2)] [(.int i), (.ref a0), (.ref b)]))
  refine Go.step (fun _ k => XS.dupX1 X3.here hx rfl (hb hby d7_83) rfl rfl rfl k) ?_
  show Go _ _ _ _ _ _ _ (T3.setTop (mkF m 84 #[.val (.ref a0), .val (.int p1), .val (.int p2)] [(.int i), (.ref a0), (.int i), (.ref b)]))
  refine Go.step (fun _ k => XS.iconst X3.here hx rfl (hb hby d7_84) k) ?_
  show Go _ _ _ _ _ _ _ (T3.setTop (mkF m 85 #[.val (.ref a0), .val (.int p1), .val (.int p2)] [(.int (1 : Int32)), (.int i), (.ref a0), (.int i), (.ref b)]))
  refine Go.step (fun _ k => XS.iadd X3.here hx rfl (hb hby d7_85) rfl k) ?_
  show Go _ _ _ _ _ _ _ (T3.setTop (mkF m 86 #[.val (.ref a0), .val (.int p1), .val (.int p2)] [(.int (i + (1 : Int32))), (.ref a0), (.int i), (.ref b)]))
  obtain ⟨T4, h4, X4, e4, W4, st4⟩ := putF X3 hx hZ hown (host := "") (Or.inl (hw _ (List.mem_of_getElem? (i := 39) rfl))) Via.refl e3 F_3 E_0 (Or.inl (hw _ (List.mem_of_getElem? (i := 40) rfl))) (hw _ (List.mem_of_getElem? (i := 2) rfl)) (ty := .int) (v := (.int (i + (1 : Int32)))) (by decide) rfl rfl (g := (mkF m 86 #[.val (.ref a0), .val (.int p1), .val (.int p2)] [(.int (i + (1 : Int32))), (.ref a0), (.int i), (.ref b)])) rfl rfl (hb hby d7_86)
  refine Go.step st4 ?_
  have N4 := Fr.snoc X4 N0 g_8
  have z5 : n0 ≤ h4.size := Nat.le_trans Z0 (Keep.of_wr W4).1
  have sqz5 : h0.size ≤ h4.size := Nat.le_trans sq0 (Keep.of_wr W4).1
  have k6 : Keep h0 h4 [a0, b] := k0.wr W4 (Or.inl (List.mem_of_getElem? (i := 0) rfl))
  have f7 : Fld Z h4 a0 "com/example/tree_automata_reducer/treeautomatareducer/reduce/PairStack" "inBlock" "I" (.int (i + (1 : Int32))) := F_3.same W4
  show Go _ _ _ _ _ _ _ (T4.setTop (mkF m 89 #[.val (.ref a0), .val (.int p1), .val (.int p2)] [(.int i), (.ref b)]))
  refine Go.step (fun _ k => XS.iloadN X4.here hx rfl (hb hby d7_89) rfl  k) ?_
  show Go _ _ _ _ _ _ _ (T4.setTop (mkF m 90 #[.val (.ref a0), .val (.int p1), .val (.int p2)] [(.int p1), (.int i), (.ref b)]))
  refine Go.step (fun _ k => XS.i2l X4.here hx rfl (hb hby d7_90) rfl k) ?_
  show Go _ _ _ _ _ _ _ (T4.setTop (mkF m 91 #[.val (.ref a0), .val (.int p1), .val (.int p2)] [(.long (Int32.toInt64 p1)), (.int i), (.ref b)]))
  refine Go.step (fun _ k => XS.bipush X4.here hx rfl (hb hby d7_91) k) ?_
  show Go _ _ _ _ _ _ _ (T4.setTop (mkF m 93 #[.val (.ref a0), .val (.int p1), .val (.int p2)] [(.int (32 : Int32)), (.long (Int32.toInt64 p1)), (.int i), (.ref b)]))
  refine Go.step (fun _ k => XS.lshl X4.here hx rfl (hb hby d7_93) rfl k) ?_
  show Go _ _ _ _ _ _ _ (T4.setTop (mkF m 94 #[.val (.ref a0), .val (.int p1), .val (.int p2)] [(.long ((Int32.toInt64 p1) <<< ((32 : Int32) &&& 0x3f).toInt64)), (.int i), (.ref b)]))
  refine Go.step (fun _ k => XS.iloadN X4.here hx rfl (hb hby d7_94) rfl  k) ?_
  show Go _ _ _ _ _ _ _ (T4.setTop (mkF m 95 #[.val (.ref a0), .val (.int p1), .val (.int p2)] [(.int p2), (.long ((Int32.toInt64 p1) <<< ((32 : Int32) &&& 0x3f).toInt64)), (.int i), (.ref b)]))
  refine Go.step (fun _ k => XS.i2l X4.here hx rfl (hb hby d7_95) rfl k) ?_
  show Go _ _ _ _ _ _ _ (T4.setTop (mkF m 96 #[.val (.ref a0), .val (.int p1), .val (.int p2)] [(.long (Int32.toInt64 p2)), (.long ((Int32.toInt64 p1) <<< ((32 : Int32) &&& 0x3f).toInt64)), (.int i), (.ref b)]))
  refine Go.step (X4.ldc2Long hx hown (mvT hZ (hw _ (List.mem_of_getElem? (i := 122) rfl))) (g := (mkF m 96 #[.val (.ref a0), .val (.int p1), .val (.int p2)] [(.long (Int32.toInt64 p2)), (.long ((Int32.toInt64 p1) <<< ((32 : Int32) &&& 0x3f).toInt64)), (.int i), (.ref b)])) rfl (hb hby d7_96)) ?_
  show Go _ _ _ _ _ _ _ (T4.setTop (mkF m 99 #[.val (.ref a0), .val (.int p1), .val (.int p2)] [(.long (4294967295 : Int64)), (.long (Int32.toInt64 p2)), (.long ((Int32.toInt64 p1) <<< ((32 : Int32) &&& 0x3f).toInt64)), (.int i), (.ref b)]))
  refine Go.step (fun _ k => XS.land X4.here hx rfl (hb hby d7_99) rfl k) ?_
  show Go _ _ _ _ _ _ _ (T4.setTop (mkF m 100 #[.val (.ref a0), .val (.int p1), .val (.int p2)] [(.long ((Int32.toInt64 p2) &&& (4294967295 : Int64))), (.long ((Int32.toInt64 p1) <<< ((32 : Int32) &&& 0x3f).toInt64)), (.int i), (.ref b)]))
  refine Go.step (fun _ k => XS.lor X4.here hx rfl (hb hby d7_100) rfl k) ?_
  show Go _ _ _ _ _ _ _ (T4.setTop (mkF m 101 #[.val (.ref a0), .val (.int p1), .val (.int p2)] [(.long (((Int32.toInt64 p1) <<< ((32 : Int32) &&& 0x3f).toInt64) ||| ((Int32.toInt64 p2) &&& (4294967295 : Int64)))), (.int i), (.ref b)]))
  have f8 : Al Z h4 b (32768 : Int32) f1 := (A_4.other W4 (Ne.symm ne_7))
  have lo9 : ¬ i < 0 := hi0
  have hi9 : i < (32768 : Int32) := hi1
  obtain ⟨T10, h10, X10, e10, W10, f10, st10⟩ := Al.stJ X4 hx hZ e4 f8 (j := i) (x := (((Int32.toInt64 p1) <<< ((32 : Int32) &&& 0x3f).toInt64) ||| ((Int32.toInt64 p2) &&& (4294967295 : Int64)))) lo9 hi9 (g := (mkF m 101 #[.val (.ref a0), .val (.int p1), .val (.int p2)] [(.long (((Int32.toInt64 p1) <<< ((32 : Int32) &&& 0x3f).toInt64) ||| ((Int32.toInt64 p2) &&& (4294967295 : Int64)))), (.int i), (.ref b)])) rfl rfl (hb hby d7_101)
  refine Go.step st10 ?_
  have N10 := Fr.snoc X10 N4 g_9
  have z11 : n0 ≤ h10.size := Nat.le_trans z5 (Keep.of_wr W10).1
  have sqz11 : h0.size ≤ h10.size := Nat.le_trans sqz5 (Keep.of_wr W10).1
  have k12 : Keep h0 h10 [a0, b] := k6.wr W10 (Or.inl (List.mem_of_getElem? (i := 1) rfl))
  obtain ⟨f13c, qf13c⟩ : ∃ fz, fz = (fun jj => if jj = i then (((Int32.toInt64 p1) <<< ((32 : Int32) &&& 0x3f).toInt64) ||| ((Int32.toInt64 p2) &&& (4294967295 : Int64))) else f1 jj) := ⟨_, rfl⟩
  rw [← qf13c] at f10
  show Go _ _ _ _ _ _ _ (T10.setTop (mkF m 102 #[.val (.ref a0), .val (.int p1), .val (.int p2)] []))
  refine Go.step (fun _ k => XS.aloadN X10.here hx rfl (hb hby d7_102) rfl rfl  k) ?_
  show Go _ _ _ _ _ _ _ (T10.setTop (mkF m 103 #[.val (.ref a0), .val (.int p1), .val (.int p2)] [(.ref a0)]))
  refine Go.step (fun _ k => XS.dup X10.here hx rfl (hb hby d7_103) rfl rfl k) ?_
  show Go _ _ _ _ _ _ _ (T10.setTop (mkF m 104 #[.val (.ref a0), .val (.int p1), .val (.int p2)] [(.ref a0), (.ref a0)]))
  have f14 : Fld Z h10 a0 "com/example/tree_automata_reducer/treeautomatareducer/reduce/PairStack" "size" "J" (.long w) := ((F_1.other W4 (Or.inr (slot_ne (Or.inl (hw _ (List.mem_of_getElem? (i := 47) rfl))) (Or.inl (hw _ (List.mem_of_getElem? (i := 40) rfl))) (by decide) (t := .long) (t' := .int) (by decide) (by decide)))).other W10 (Or.inl ne_7))
  obtain ⟨T15, X15, e15, st15⟩ := getF X10 hx hZ hown (host := "") (Or.inl (hw _ (List.mem_of_getElem? (i := 46) rfl))) Via.refl e10 f14 (g := (mkF m 104 #[.val (.ref a0), .val (.int p1), .val (.int p2)] [(.ref a0), (.ref a0)])) rfl rfl (hb hby d7_104)
  refine Go.step st15 ?_
  show Go _ _ _ _ _ _ _ (T15.setTop (mkF m 107 #[.val (.ref a0), .val (.int p1), .val (.int p2)] [(.long w), (.ref a0)]))
  refine Go.step (fun _ k => XS.lconst X15.here hx rfl (hb hby d7_107) k) ?_
  show Go _ _ _ _ _ _ _ (T15.setTop (mkF m 108 #[.val (.ref a0), .val (.int p1), .val (.int p2)] [(.long (1 : Int64)), (.long w), (.ref a0)]))
  refine Go.step (fun _ k => XS.ladd X15.here hx rfl (hb hby d7_108) rfl k) ?_
  show Go _ _ _ _ _ _ _ (T15.setTop (mkF m 109 #[.val (.ref a0), .val (.int p1), .val (.int p2)] [(.long (w + (1 : Int64))), (.ref a0)]))
  have f16 : Exa Z h10 a0 "com/example/tree_automata_reducer/treeautomatareducer/reduce/PairStack" := ((E_0.wr W4).wr W10)
  obtain ⟨T17, h17, X17, e17, W17, st17⟩ := putF X15 hx hZ hown (host := "") (Or.inl (hw _ (List.mem_of_getElem? (i := 46) rfl))) Via.refl e15 f14 f16 (Or.inl (hw _ (List.mem_of_getElem? (i := 47) rfl))) (hw _ (List.mem_of_getElem? (i := 2) rfl)) (ty := .long) (v := (.long (w + (1 : Int64)))) (by decide) rfl rfl (g := (mkF m 109 #[.val (.ref a0), .val (.int p1), .val (.int p2)] [(.long (w + (1 : Int64))), (.ref a0)])) rfl rfl (hb hby d7_109)
  refine Go.step st17 ?_
  have N17 := Fr.snoc X17 N10 g_8
  have z18 : n0 ≤ h17.size := Nat.le_trans z11 (Keep.of_wr W17).1
  have sqz18 : h0.size ≤ h17.size := Nat.le_trans sqz11 (Keep.of_wr W17).1
  have k19 : Keep h0 h17 [a0, b] := k12.wr W17 (Or.inl (List.mem_of_getElem? (i := 0) rfl))
  have f20 : Fld Z h17 a0 "com/example/tree_automata_reducer/treeautomatareducer/reduce/PairStack" "size" "J" (.long (w + (1 : Int64))) := f14.same W17
  show Go _ _ _ _ _ _ _ (T17.setTop (mkF m 112 #[.val (.ref a0), .val (.int p1), .val (.int p2)] []))
  have f21 : Exa Z h17 a0 "com/example/tree_automata_reducer/treeautomatareducer/reduce/PairStack" := (f16.wr W17)
  have f22 : Fld Z h17 a0 "com/example/tree_automata_reducer/treeautomatareducer/reduce/PairStack" "block" "[J" (.ref b) := (((F_2.other W4 (Or.inr (slot_ne (Or.inl (hw _ (List.mem_of_getElem? (i := 121) rfl))) (Or.inl (hw _ (List.mem_of_getElem? (i := 40) rfl))) (by decide) (t := (.array .long)) (t' := .int) (by decide) (by decide)))).other W10 (Or.inl ne_7)).other W17 (Or.inr (slot_ne (Or.inl (hw _ (List.mem_of_getElem? (i := 121) rfl))) (Or.inl (hw _ (List.mem_of_getElem? (i := 47) rfl))) (by decide) (t := (.array .long)) (t' := .long) (by decide) (by decide))))
  have f23 : Fld Z h17 a0 "com/example/tree_automata_reducer/treeautomatareducer/reduce/PairStack" "inBlock" "I" (.int (i + (1 : Int32))) := ((f7.other W10 (Or.inl ne_7)).other W17 (Or.inr (slot_ne (Or.inl (hw _ (List.mem_of_getElem? (i := 40) rfl))) (Or.inl (hw _ (List.mem_of_getElem? (i := 47) rfl))) (by decide) (t := .int) (t' := .long) (by decide) (by decide))))
  have f24 : Al Z h17 b (32768 : Int32) f13c := (f10.other W17 (Ne.symm ne_7))
  have f25 : Fld Z h17 a0 "com/example/tree_automata_reducer/treeautomatareducer/reduce/PairStack" "first" "I" (.int x1) := (((F_5.other W4 (Or.inr (slot_ne (Or.inl (hw _ (List.mem_of_getElem? (i := 129) rfl))) (Or.inl (hw _ (List.mem_of_getElem? (i := 40) rfl))) (by decide) (t := .int) (t' := .int) (by decide) (by decide)))).other W10 (Or.inl ne_7)).other W17 (Or.inr (slot_ne (Or.inl (hw _ (List.mem_of_getElem? (i := 129) rfl))) (Or.inl (hw _ (List.mem_of_getElem? (i := 47) rfl))) (by decide) (t := .int) (t' := .long) (by decide) (by decide))))
  have f26 : Fld Z h17 a0 "com/example/tree_automata_reducer/treeautomatareducer/reduce/PairStack" "second" "I" (.int x2) := (((F_6.other W4 (Or.inr (slot_ne (Or.inl (hw _ (List.mem_of_getElem? (i := 131) rfl))) (Or.inl (hw _ (List.mem_of_getElem? (i := 40) rfl))) (by decide) (t := .int) (t' := .int) (by decide) (by decide)))).other W10 (Or.inl ne_7)).other W17 (Or.inr (slot_ne (Or.inl (hw _ (List.mem_of_getElem? (i := 131) rfl))) (Or.inl (hw _ (List.mem_of_getElem? (i := 47) rfl))) (by decide) (t := .int) (t' := .long) (by decide) (by decide))))
  refine Go.retV X17 hx Bd.returns hlk (hb hby d7_112) ?_ (by decide) (by decide)
  rw [e17]
  exact ⟨f13c, (rfl), N17, k19, f21, f20, f22, f23, f24, f25, f26⟩
theorem d18_0 : decode prog_65_method_4_code 0 = .ok (.aload_n 0, 1) := by decide +kernel
theorem d18_1 : decode prog_65_method_4_code 1 = .ok (.getfield 21, 3) := by decide +kernel
theorem d18_4 : decode prog_65_method_4_code 4 = .ok (.ifCond .ne 39, 3) := by decide +kernel
theorem d18_43 : decode prog_65_method_4_code 43 = .ok (.aload_n 0, 1) := by decide +kernel
theorem d18_44 : decode prog_65_method_4_code 44 = .ok (.getfield 40, 3) := by decide +kernel
theorem d18_47 : decode prog_65_method_4_code 47 = .ok (.aload_n 0, 1) := by decide +kernel
theorem d18_48 : decode prog_65_method_4_code 48 = .ok (.dup, 1) := by decide +kernel
theorem d18_49 : decode prog_65_method_4_code 49 = .ok (.getfield 21, 3) := by decide +kernel
theorem d18_52 : decode prog_65_method_4_code 52 = .ok (.iconst 1, 1) := by decide +kernel
theorem d18_53 : decode prog_65_method_4_code 53 = .ok (.isub, 1) := by decide +kernel
theorem d18_54 : decode prog_65_method_4_code 54 = .ok (.dup_x1, 1) := by decide +kernel
theorem d18_55 : decode prog_65_method_4_code 55 = .ok (.putfield 21, 3) := by decide +kernel
theorem d18_58 : decode prog_65_method_4_code 58 = .ok (.laload, 1) := by decide +kernel
theorem d18_59 : decode prog_65_method_4_code 59 = .ok (.lstore_n 1, 1) := by decide +kernel
theorem d18_60 : decode prog_65_method_4_code 60 = .ok (.aload_n 0, 1) := by decide +kernel
theorem d18_61 : decode prog_65_method_4_code 61 = .ok (.dup, 1) := by decide +kernel
theorem d18_62 : decode prog_65_method_4_code 62 = .ok (.getfield 47, 3) := by decide +kernel
theorem d18_65 : decode prog_65_method_4_code 65 = .ok (.lconst 1, 1) := by decide +kernel
theorem d18_66 : decode prog_65_method_4_code 66 = .ok (.lsub, 1) := by decide +kernel
theorem d18_67 : decode prog_65_method_4_code 67 = .ok (.putfield 47, 3) := by decide +kernel
theorem d18_70 : decode prog_65_method_4_code 70 = .ok (.aload_n 0, 1) := by decide +kernel
theorem d18_71 : decode prog_65_method_4_code 71 = .ok (.lload_n 1, 1) := by decide +kernel
theorem d18_72 : decode prog_65_method_4_code 72 = .ok (.bipush 32, 2) := by decide +kernel
theorem d18_74 : decode prog_65_method_4_code 74 = .ok (.lushr, 1) := by decide +kernel
theorem d18_75 : decode prog_65_method_4_code 75 = .ok (.l2i, 1) := by decide +kernel
theorem d18_76 : decode prog_65_method_4_code 76 = .ok (.putfield 50, 3) := by decide +kernel
theorem d18_79 : decode prog_65_method_4_code 79 = .ok (.aload_n 0, 1) := by decide +kernel
theorem d18_80 : decode prog_65_method_4_code 80 = .ok (.lload_n 1, 1) := by decide +kernel
theorem d18_81 : decode prog_65_method_4_code 81 = .ok (.l2i, 1) := by decide +kernel
theorem d18_82 : decode prog_65_method_4_code 82 = .ok (.putfield 53, 3) := by decide +kernel
theorem d18_85 : decode prog_65_method_4_code 85 = .ok (.return_, 1) := by decide +kernel
theorem ef_18 (m : MethodId) (a0 : Addr) : entryFrame m #[(.ref a0)] 3 = mkF m 0 #[.val (.ref a0), .unset, .unset] [] := by first | (simp [entryFrame, mkF, argsToLocals, Value.category]; done) | rfl
def Q18 (Z : State) (a0 : Addr) (i : Int32) (w : Int64) (b : Addr) (f1 : Int32 → Int64) (x1 : Int32) (x2 : Int32) (h0 : Heap) (n0 : Nat) (v : Option Value) (h : Heap) (L : List Loc) : Prop := ∃ (t1 : Int32), ∃ (t2 : Int32), (v = none) ∧ (Fr n0 L) ∧ (Keep h0 h [a0]) ∧ (Exa Z h a0 "com/example/tree_automata_reducer/treeautomatareducer/reduce/PairStack") ∧ (Fld Z h a0 "com/example/tree_automata_reducer/treeautomatareducer/reduce/PairStack" "size" "J" (.long (w - (1 : Int64)))) ∧ (Fld Z h a0 "com/example/tree_automata_reducer/treeautomatareducer/reduce/PairStack" "block" "[J" (.ref b)) ∧ (Fld Z h a0 "com/example/tree_automata_reducer/treeautomatareducer/reduce/PairStack" "inBlock" "I" (.int (i - (1 : Int32)))) ∧ (Fld Z h a0 "com/example/tree_automata_reducer/treeautomatareducer/reduce/PairStack" "first" "I" (.int t1)) ∧ (Fld Z h a0 "com/example/tree_automata_reducer/treeautomatareducer/reduce/PairStack" "second" "I" (.int t2))
set_option maxRecDepth 65536 in
set_option maxHeartbeats 40000000 in
theorem rm18 (l : Launch) (Z : State) (aZ : Array Value) (hw : ∀ d ∈ tables_1, d.before aZ Z = true) (ws : List Jvm.Cond) (a0 : Addr) (i : Int32) (w : Int64) (b : Addr) (f1 : Int32 → Int64) (x1 : Int32) (x2 : Int32) (h0 : Heap) (n0 : Nat) (Z0 : n0 ≤ h0.size) (E_0 : Exa Z h0 a0 "com/example/tree_automata_reducer/treeautomatareducer/reduce/PairStack") (F_1 : Fld Z h0 a0 "com/example/tree_automata_reducer/treeautomatareducer/reduce/PairStack" "size" "J" (.long w)) (F_2 : Fld Z h0 a0 "com/example/tree_automata_reducer/treeautomatareducer/reduce/PairStack" "block" "[J" (.ref b)) (F_3 : Fld Z h0 a0 "com/example/tree_automata_reducer/treeautomatareducer/reduce/PairStack" "inBlock" "I" (.int i)) (A_4 : Al Z h0 b (32768 : Int32) f1) (F_5 : Fld Z h0 a0 "com/example/tree_automata_reducer/treeautomatareducer/reduce/PairStack" "first" "I" (.int x1)) (F_6 : Fld Z h0 a0 "com/example/tree_automata_reducer/treeautomatareducer/reduce/PairStack" "second" "I" (.int x2)) (ne_7 : a0 ≠ b) (g_8 : n0 ≤ a0) (hi : ¬ i = 0) (hi0 : ¬ i - 1 < 0) (hi1 : i - 1 < (32768 : Int32)) :
    MetFree l (⟨"com/example/tree_automata_reducer/treeautomatareducer/reduce/PairStack", "pop", "()V"⟩ : MethodName) (head1 (Jvm.Cond.code (⟨"com/example/tree_automata_reducer/treeautomatareducer/reduce/PairStack", "pop", "()V"⟩ : MethodName) prog_65_method_4_code 3 none :: ws) ({ frames := 0, cells := 0, slots := 0, locals := 0 } : Room)) (fun a U => a = #[(.ref a0)] ∧ Z.Warmed39 U.vm ∧ U.heap = h0) (fun _ _ _ _ _ => True) (fun _ U o U' => ∃ v L, o = .returned v ∧ Q18 Z a0 i w b f1 x1 x2 h0 n0 v U'.heap L ∧ FrameEnd U o U' L ({ frames := 0, cells := 0, slots := 0, locals := 0 } : Room).cells ({ frames := 0, cells := 0, slots := 0, locals := 0 } : Room).slots) := by
  refine MetFree.of_bodySF (plainFor_of_name pn_10) hisR ?_
  intro p e s m args below meth c s₁ Bd hml0 hP hK
  obtain ⟨rfl, hZ, hh⟩ := hP
  have hx := Bd.exec
  have hby := Bd.bytes
  have hml : c.maxLocals = 3 := hml0
  have hown : s.vm.findClass "com/example/tree_automata_reducer/treeautomatareducer/reduce/PairStack" = some m.cls := findClass_of_methodNamed Bd.named
  have hnm := (name_of_methodNamed Bd.named Bd.method).1
  have hlk : meth.locks = false := BodyLoose.notSynchronized Bd
  have X0 : Stand p l e ({ frames := 0, cells := 0, slots := 0, locals := 0 } : Room) s m #[(.ref a0)] below meth c s₁ [] 0 0 := Stand.of_body Bd
  have e0 : s₁.heap = h0 := by rw [← hh, Bd.state]; rfl
  have N0 := Fr.nil n0
  have sq0 : h0.size ≤ h0.size := Nat.le_refl _
  have k0 : Keep h0 h0 [a0] := Keep.refl _ _
  change Go p e below s ({ frames := 0, cells := 0, slots := 0, locals := 0 } : Room).cells ({ frames := 0, cells := 0, slots := 0, locals := 0 } : Room).slots (Q18 Z a0 i w b f1 x1 x2 h0 n0) (s₁.setTop (entryFrame m #[(.ref a0)] 3))
  rw [ef_18 m a0]
  show Go _ _ _ _ _ _ _ (s₁.setTop (mkF m 0 #[.val (.ref a0), .unset, .unset] []))
  refine Go.step (fun _ k => XS.aloadN X0.here hx rfl (hb hby d18_0) rfl rfl  k) ?_
  show Go _ _ _ _ _ _ _ (s₁.setTop (mkF m 1 #[.val (.ref a0), .unset, .unset] [(.ref a0)]))
  obtain ⟨T1, X1, e1, st1⟩ := getF X0 hx hZ hown (host := "") (Or.inl (hw _ (List.mem_of_getElem? (i := 39) rfl))) Via.refl e0 F_3 (g := (mkF m 1 #[.val (.ref a0), .unset, .unset] [(.ref a0)])) rfl rfl (hb hby d18_1)
  refine Go.step st1 ?_
  show Go _ _ _ _ _ _ _ (T1.setTop (mkF m 4 #[.val (.ref a0), .unset, .unset] [(.int i)]))
  have hc4 : ¬ (i = (0 : Int32)) := hi
  refine Go.step (fun _ k => XS.ifYes X1.here hx rfl (pc0 := 4) (pc' := 43) rfl (hb hby d18_4) rfl ((if0 _ _).trans (feq hc4).2) (by decide) (by decide) k) ?_
  show Go _ _ _ _ _ _ _ (T1.setTop (mkF m 43 #[.val (.ref a0), .unset, .unset] []))
  refine Go.step (fun _ k => XS.aloadN X1.here hx rfl (hb hby d18_43) rfl rfl  k) ?_
  show Go _ _ _ _ _ _ _ (T1.setTop (mkF m 44 #[.val (.ref a0), .unset, .unset] [(.ref a0)]))
  obtain ⟨T2, X2, e2, st2⟩ := getF X1 hx hZ hown (host := "") (Or.inl (hw _ (List.mem_of_getElem? (i := 120) rfl))) Via.refl e1 F_2 (g := (mkF m 44 #[.val (.ref a0), .unset, .unset] [(.ref a0)])) rfl rfl (hb hby d18_44)
  refine Go.step st2 ?_
  show Go _ _ _ _ _ _ _ (T2.setTop (mkF m 47 #[.val (.ref a0), .unset, .unset] [(.ref b)]))
  refine Go.step (fun _ k => XS.aloadN X2.here hx rfl (hb hby d18_47) rfl rfl  k) ?_
  show Go _ _ _ _ _ _ _ (T2.setTop (mkF m 48 #[.val (.ref a0), .unset, .unset] [(.ref a0), (.ref b)]))
  refine Go.step (fun _ k => XS.dup X2.here hx rfl (hb hby d18_48) rfl rfl k) ?_
  show Go _ _ _ _ _ _ _ (T2.setTop (mkF m 49 #[.val (.ref a0), .unset, .unset] [(.ref a0), (.ref a0), (.ref b)]))
  obtain ⟨T3, X3, e3, st3⟩ := getF X2 hx hZ hown (host := "") (Or.inl (hw _ (List.mem_of_getElem? (i := 39) rfl))) Via.refl e2 F_3 (g := (mkF m 49 #[.val (.ref a0), .unset, .unset] [(.ref a0), (.ref a0), (.ref b)])) rfl rfl (hb hby d18_49)
  refine Go.step st3 ?_
  show Go _ _ _ _ _ _ _ (T3.setTop (mkF m 52 #[.val (.ref a0), .unset, .unset] [(.int i), (.ref a0), (.ref b)]))
  refine Go.step (fun _ k => XS.iconst X3.here hx rfl (hb hby d18_52) k) ?_
  show Go _ _ _ _ _ _ _ (T3.setTop (mkF m 53 #[.val (.ref a0), .unset, .unset] [(.int (1 : Int32)), (.int i), (.ref a0), (.ref b)]))
  refine Go.step (fun _ k => XS.isub X3.here hx rfl (hb hby d18_53) rfl k) ?_
  show Go _ _ _ _ _ _ _ (T3.setTop (mkF m 54 #[.val (.ref a0), .unset, .unset] [(.int (i - (1 : Int32))), (.ref a0), (.ref b)]))
  refine Go.step (fun _ k => XS.dupX1 X3.here hx rfl (hb hby d18_54) rfl rfl rfl k) ?_
  show Go _ _ _ _ _ _ _ (T3.setTop (mkF m 55 #[.val (.ref a0), .unset, .unset] [(.int (i - (1 : Int32))), (.ref a0), (.int (i - (1 : Int32))), (.ref b)]))
  obtain ⟨T4, h4, X4, e4, W4, st4⟩ := putF X3 hx hZ hown (host := "") (Or.inl (hw _ (List.mem_of_getElem? (i := 39) rfl))) Via.refl e3 F_3 E_0 (Or.inl (hw _ (List.mem_of_getElem? (i := 40) rfl))) (hw _ (List.mem_of_getElem? (i := 2) rfl)) (ty := .int) (v := (.int (i - (1 : Int32)))) (by decide) rfl rfl (g := (mkF m 55 #[.val (.ref a0), .unset, .unset] [(.int (i - (1 : Int32))), (.ref a0), (.int (i - (1 : Int32))), (.ref b)])) rfl rfl (hb hby d18_55)
  refine Go.step st4 ?_
  have N4 := Fr.snoc X4 N0 g_8
  have z5 : n0 ≤ h4.size := Nat.le_trans Z0 (Keep.of_wr W4).1
  have sqz5 : h0.size ≤ h4.size := Nat.le_trans sq0 (Keep.of_wr W4).1
  have k6 : Keep h0 h4 [a0] := k0.wr W4 (Or.inl (List.mem_of_getElem? (i := 0) rfl))
  have f7 : Fld Z h4 a0 "com/example/tree_automata_reducer/treeautomatareducer/reduce/PairStack" "inBlock" "I" (.int (i - (1 : Int32))) := F_3.same W4
  show Go _ _ _ _ _ _ _ (T4.setTop (mkF m 58 #[.val (.ref a0), .unset, .unset] [(.int (i - (1 : Int32))), (.ref b)]))
  have f8 : Al Z h4 b (32768 : Int32) f1 := (A_4.other W4 (Ne.symm ne_7))
  have lo9 : ¬ (i - (1 : Int32)) < 0 := hi0
  have hi9 : (i - (1 : Int32)) < (32768 : Int32) := hi1
  refine Go.step (Al.laload X4 hx hZ e4 f8 (j := (i - (1 : Int32))) lo9 hi9 (g := (mkF m 58 #[.val (.ref a0), .unset, .unset] [(.int (i - (1 : Int32))), (.ref b)])) rfl rfl (hb hby d18_58)) ?_
  show Go _ _ _ _ _ _ _ (T4.setTop (mkF m 59 #[.val (.ref a0), .unset, .unset] [(.long (f1 (i - (1 : Int32))))]))
  refine Go.step (fun _ k => XS.lstoreN X4.here hx rfl (hb hby d18_59) rfl (l' := #[.val (.ref a0), .val (.long (f1 (i - (1 : Int32)))), .second]) rfl k) ?_
  show Go _ _ _ _ _ _ _ (T4.setTop (mkF m 60 #[.val (.ref a0), .val (.long (f1 (i - (1 : Int32)))), .second] []))
  refine Go.step (fun _ k => XS.aloadN X4.here hx rfl (hb hby d18_60) rfl rfl  k) ?_
  show Go _ _ _ _ _ _ _ (T4.setTop (mkF m 61 #[.val (.ref a0), .val (.long (f1 (i - (1 : Int32)))), .second] [(.ref a0)]))
  refine Go.step (fun _ k => XS.dup X4.here hx rfl (hb hby d18_61) rfl rfl k) ?_
  show Go _ _ _ _ _ _ _ (T4.setTop (mkF m 62 #[.val (.ref a0), .val (.long (f1 (i - (1 : Int32)))), .second] [(.ref a0), (.ref a0)]))
  have f10 : Fld Z h4 a0 "com/example/tree_automata_reducer/treeautomatareducer/reduce/PairStack" "size" "J" (.long w) := (F_1.other W4 (Or.inr (slot_ne (Or.inl (hw _ (List.mem_of_getElem? (i := 47) rfl))) (Or.inl (hw _ (List.mem_of_getElem? (i := 40) rfl))) (by decide) (t := .long) (t' := .int) (by decide) (by decide))))
  obtain ⟨T11, X11, e11, st11⟩ := getF X4 hx hZ hown (host := "") (Or.inl (hw _ (List.mem_of_getElem? (i := 46) rfl))) Via.refl e4 f10 (g := (mkF m 62 #[.val (.ref a0), .val (.long (f1 (i - (1 : Int32)))), .second] [(.ref a0), (.ref a0)])) rfl rfl (hb hby d18_62)
  refine Go.step st11 ?_
  show Go _ _ _ _ _ _ _ (T11.setTop (mkF m 65 #[.val (.ref a0), .val (.long (f1 (i - (1 : Int32)))), .second] [(.long w), (.ref a0)]))
  refine Go.step (fun _ k => XS.lconst X11.here hx rfl (hb hby d18_65) k) ?_
  show Go _ _ _ _ _ _ _ (T11.setTop (mkF m 66 #[.val (.ref a0), .val (.long (f1 (i - (1 : Int32)))), .second] [(.long (1 : Int64)), (.long w), (.ref a0)]))
  refine Go.step (fun _ k => XS.lsub X11.here hx rfl (hb hby d18_66) rfl k) ?_
  show Go _ _ _ _ _ _ _ (T11.setTop (mkF m 67 #[.val (.ref a0), .val (.long (f1 (i - (1 : Int32)))), .second] [(.long (w - (1 : Int64))), (.ref a0)]))
  have f12 : Exa Z h4 a0 "com/example/tree_automata_reducer/treeautomatareducer/reduce/PairStack" := (E_0.wr W4)
  obtain ⟨T13, h13, X13, e13, W13, st13⟩ := putF X11 hx hZ hown (host := "") (Or.inl (hw _ (List.mem_of_getElem? (i := 46) rfl))) Via.refl e11 f10 f12 (Or.inl (hw _ (List.mem_of_getElem? (i := 47) rfl))) (hw _ (List.mem_of_getElem? (i := 2) rfl)) (ty := .long) (v := (.long (w - (1 : Int64)))) (by decide) rfl rfl (g := (mkF m 67 #[.val (.ref a0), .val (.long (f1 (i - (1 : Int32)))), .second] [(.long (w - (1 : Int64))), (.ref a0)])) rfl rfl (hb hby d18_67)
  refine Go.step st13 ?_
  have N13 := Fr.snoc X13 N4 g_8
  have z14 : n0 ≤ h13.size := Nat.le_trans z5 (Keep.of_wr W13).1
  have sqz14 : h0.size ≤ h13.size := Nat.le_trans sqz5 (Keep.of_wr W13).1
  have k15 : Keep h0 h13 [a0] := k6.wr W13 (Or.inl (List.mem_of_getElem? (i := 0) rfl))
  have f16 : Fld Z h13 a0 "com/example/tree_automata_reducer/treeautomatareducer/reduce/PairStack" "size" "J" (.long (w - (1 : Int64))) := f10.same W13
  show Go _ _ _ _ _ _ _ (T13.setTop (mkF m 70 #[.val (.ref a0), .val (.long (f1 (i - (1 : Int32)))), .second] []))
  refine Go.step (fun _ k => XS.aloadN X13.here hx rfl (hb hby d18_70) rfl rfl  k) ?_
  show Go _ _ _ _ _ _ _ (T13.setTop (mkF m 71 #[.val (.ref a0), .val (.long (f1 (i - (1 : Int32)))), .second] [(.ref a0)]))
  refine Go.step (fun _ k => XS.lloadN X13.here hx rfl (hb hby d18_71) rfl  k) ?_
  show Go _ _ _ _ _ _ _ (T13.setTop (mkF m 72 #[.val (.ref a0), .val (.long (f1 (i - (1 : Int32)))), .second] [(.long (f1 (i - (1 : Int32)))), (.ref a0)]))
  refine Go.step (fun _ k => XS.bipush X13.here hx rfl (hb hby d18_72) k) ?_
  show Go _ _ _ _ _ _ _ (T13.setTop (mkF m 74 #[.val (.ref a0), .val (.long (f1 (i - (1 : Int32)))), .second] [(.int (32 : Int32)), (.long (f1 (i - (1 : Int32)))), (.ref a0)]))
  refine Go.step (fun _ k => XS.lushr X13.here hx rfl (hb hby d18_74) rfl k) ?_
  show Go _ _ _ _ _ _ _ (T13.setTop (mkF m 75 #[.val (.ref a0), .val (.long (f1 (i - (1 : Int32)))), .second] [(.long ((Int64.toUInt64 (f1 (i - (1 : Int32))) >>> ((32 : Int32) &&& 0x3f).toInt64.toUInt64).toInt64)), (.ref a0)]))
  refine Go.step (fun _ k => XS.l2i X13.here hx rfl (hb hby d18_75) rfl k) ?_
  show Go _ _ _ _ _ _ _ (T13.setTop (mkF m 76 #[.val (.ref a0), .val (.long (f1 (i - (1 : Int32)))), .second] [(.int (Int64.toInt32 ((Int64.toUInt64 (f1 (i - (1 : Int32))) >>> ((32 : Int32) &&& 0x3f).toInt64.toUInt64).toInt64))), (.ref a0)]))
  have f17 : Exa Z h13 a0 "com/example/tree_automata_reducer/treeautomatareducer/reduce/PairStack" := (f12.wr W13)
  have f18 : Fld Z h13 a0 "com/example/tree_automata_reducer/treeautomatareducer/reduce/PairStack" "first" "I" (.int x1) := ((F_5.other W4 (Or.inr (slot_ne (Or.inl (hw _ (List.mem_of_getElem? (i := 129) rfl))) (Or.inl (hw _ (List.mem_of_getElem? (i := 40) rfl))) (by decide) (t := .int) (t' := .int) (by decide) (by decide)))).other W13 (Or.inr (slot_ne (Or.inl (hw _ (List.mem_of_getElem? (i := 129) rfl))) (Or.inl (hw _ (List.mem_of_getElem? (i := 47) rfl))) (by decide) (t := .int) (t' := .long) (by decide) (by decide))))
  obtain ⟨T19, h19, X19, e19, W19, st19⟩ := putF X13 hx hZ hown (host := "") (Or.inl (hw _ (List.mem_of_getElem? (i := 128) rfl))) Via.refl e13 f18 f17 (Or.inl (hw _ (List.mem_of_getElem? (i := 129) rfl))) (hw _ (List.mem_of_getElem? (i := 2) rfl)) (ty := .int) (v := (.int (Int64.toInt32 ((Int64.toUInt64 (f1 (i - (1 : Int32))) >>> ((32 : Int32) &&& 0x3f).toInt64.toUInt64).toInt64)))) (by decide) rfl rfl (g := (mkF m 76 #[.val (.ref a0), .val (.long (f1 (i - (1 : Int32)))), .second] [(.int (Int64.toInt32 ((Int64.toUInt64 (f1 (i - (1 : Int32))) >>> ((32 : Int32) &&& 0x3f).toInt64.toUInt64).toInt64))), (.ref a0)])) rfl rfl (hb hby d18_76)
  refine Go.step st19 ?_
  have N19 := Fr.snoc X19 N13 g_8
  have z20 : n0 ≤ h19.size := Nat.le_trans z14 (Keep.of_wr W19).1
  have sqz20 : h0.size ≤ h19.size := Nat.le_trans sqz14 (Keep.of_wr W19).1
  have k21 : Keep h0 h19 [a0] := k15.wr W19 (Or.inl (List.mem_of_getElem? (i := 0) rfl))
  have f22 : Fld Z h19 a0 "com/example/tree_automata_reducer/treeautomatareducer/reduce/PairStack" "first" "I" (.int (Int64.toInt32 ((Int64.toUInt64 (f1 (i - (1 : Int32))) >>> ((32 : Int32) &&& 0x3f).toInt64.toUInt64).toInt64))) := f18.same W19
  show Go _ _ _ _ _ _ _ (T19.setTop (mkF m 79 #[.val (.ref a0), .val (.long (f1 (i - (1 : Int32)))), .second] []))
  refine Go.step (fun _ k => XS.aloadN X19.here hx rfl (hb hby d18_79) rfl rfl  k) ?_
  show Go _ _ _ _ _ _ _ (T19.setTop (mkF m 80 #[.val (.ref a0), .val (.long (f1 (i - (1 : Int32)))), .second] [(.ref a0)]))
  refine Go.step (fun _ k => XS.lloadN X19.here hx rfl (hb hby d18_80) rfl  k) ?_
  show Go _ _ _ _ _ _ _ (T19.setTop (mkF m 81 #[.val (.ref a0), .val (.long (f1 (i - (1 : Int32)))), .second] [(.long (f1 (i - (1 : Int32)))), (.ref a0)]))
  refine Go.step (fun _ k => XS.l2i X19.here hx rfl (hb hby d18_81) rfl k) ?_
  show Go _ _ _ _ _ _ _ (T19.setTop (mkF m 82 #[.val (.ref a0), .val (.long (f1 (i - (1 : Int32)))), .second] [(.int (Int64.toInt32 (f1 (i - (1 : Int32))))), (.ref a0)]))
  have f23 : Exa Z h19 a0 "com/example/tree_automata_reducer/treeautomatareducer/reduce/PairStack" := (f17.wr W19)
  have f24 : Fld Z h19 a0 "com/example/tree_automata_reducer/treeautomatareducer/reduce/PairStack" "second" "I" (.int x2) := (((F_6.other W4 (Or.inr (slot_ne (Or.inl (hw _ (List.mem_of_getElem? (i := 131) rfl))) (Or.inl (hw _ (List.mem_of_getElem? (i := 40) rfl))) (by decide) (t := .int) (t' := .int) (by decide) (by decide)))).other W13 (Or.inr (slot_ne (Or.inl (hw _ (List.mem_of_getElem? (i := 131) rfl))) (Or.inl (hw _ (List.mem_of_getElem? (i := 47) rfl))) (by decide) (t := .int) (t' := .long) (by decide) (by decide)))).other W19 (Or.inr (slot_ne (Or.inl (hw _ (List.mem_of_getElem? (i := 131) rfl))) (Or.inl (hw _ (List.mem_of_getElem? (i := 129) rfl))) (by decide) (t := .int) (t' := .int) (by decide) (by decide))))
  obtain ⟨T25, h25, X25, e25, W25, st25⟩ := putF X19 hx hZ hown (host := "") (Or.inl (hw _ (List.mem_of_getElem? (i := 130) rfl))) Via.refl e19 f24 f23 (Or.inl (hw _ (List.mem_of_getElem? (i := 131) rfl))) (hw _ (List.mem_of_getElem? (i := 2) rfl)) (ty := .int) (v := (.int (Int64.toInt32 (f1 (i - (1 : Int32)))))) (by decide) rfl rfl (g := (mkF m 82 #[.val (.ref a0), .val (.long (f1 (i - (1 : Int32)))), .second] [(.int (Int64.toInt32 (f1 (i - (1 : Int32))))), (.ref a0)])) rfl rfl (hb hby d18_82)
  refine Go.step st25 ?_
  have N25 := Fr.snoc X25 N19 g_8
  have z26 : n0 ≤ h25.size := Nat.le_trans z20 (Keep.of_wr W25).1
  have sqz26 : h0.size ≤ h25.size := Nat.le_trans sqz20 (Keep.of_wr W25).1
  have k27 : Keep h0 h25 [a0] := k21.wr W25 (Or.inl (List.mem_of_getElem? (i := 0) rfl))
  have f28 : Fld Z h25 a0 "com/example/tree_automata_reducer/treeautomatareducer/reduce/PairStack" "second" "I" (.int (Int64.toInt32 (f1 (i - (1 : Int32))))) := f24.same W25
  show Go _ _ _ _ _ _ _ (T25.setTop (mkF m 85 #[.val (.ref a0), .val (.long (f1 (i - (1 : Int32)))), .second] []))
  have f29 : Exa Z h25 a0 "com/example/tree_automata_reducer/treeautomatareducer/reduce/PairStack" := (f23.wr W25)
  have f30 : Fld Z h25 a0 "com/example/tree_automata_reducer/treeautomatareducer/reduce/PairStack" "size" "J" (.long (w - (1 : Int64))) := ((f16.other W19 (Or.inr (slot_ne (Or.inl (hw _ (List.mem_of_getElem? (i := 47) rfl))) (Or.inl (hw _ (List.mem_of_getElem? (i := 129) rfl))) (by decide) (t := .long) (t' := .int) (by decide) (by decide)))).other W25 (Or.inr (slot_ne (Or.inl (hw _ (List.mem_of_getElem? (i := 47) rfl))) (Or.inl (hw _ (List.mem_of_getElem? (i := 131) rfl))) (by decide) (t := .long) (t' := .int) (by decide) (by decide))))
  have f31 : Fld Z h25 a0 "com/example/tree_automata_reducer/treeautomatareducer/reduce/PairStack" "block" "[J" (.ref b) := ((((F_2.other W4 (Or.inr (slot_ne (Or.inl (hw _ (List.mem_of_getElem? (i := 121) rfl))) (Or.inl (hw _ (List.mem_of_getElem? (i := 40) rfl))) (by decide) (t := (.array .long)) (t' := .int) (by decide) (by decide)))).other W13 (Or.inr (slot_ne (Or.inl (hw _ (List.mem_of_getElem? (i := 121) rfl))) (Or.inl (hw _ (List.mem_of_getElem? (i := 47) rfl))) (by decide) (t := (.array .long)) (t' := .long) (by decide) (by decide)))).other W19 (Or.inr (slot_ne (Or.inl (hw _ (List.mem_of_getElem? (i := 121) rfl))) (Or.inl (hw _ (List.mem_of_getElem? (i := 129) rfl))) (by decide) (t := (.array .long)) (t' := .int) (by decide) (by decide)))).other W25 (Or.inr (slot_ne (Or.inl (hw _ (List.mem_of_getElem? (i := 121) rfl))) (Or.inl (hw _ (List.mem_of_getElem? (i := 131) rfl))) (by decide) (t := (.array .long)) (t' := .int) (by decide) (by decide))))
  have f32 : Fld Z h25 a0 "com/example/tree_automata_reducer/treeautomatareducer/reduce/PairStack" "inBlock" "I" (.int (i - (1 : Int32))) := (((f7.other W13 (Or.inr (slot_ne (Or.inl (hw _ (List.mem_of_getElem? (i := 40) rfl))) (Or.inl (hw _ (List.mem_of_getElem? (i := 47) rfl))) (by decide) (t := .int) (t' := .long) (by decide) (by decide)))).other W19 (Or.inr (slot_ne (Or.inl (hw _ (List.mem_of_getElem? (i := 40) rfl))) (Or.inl (hw _ (List.mem_of_getElem? (i := 129) rfl))) (by decide) (t := .int) (t' := .int) (by decide) (by decide)))).other W25 (Or.inr (slot_ne (Or.inl (hw _ (List.mem_of_getElem? (i := 40) rfl))) (Or.inl (hw _ (List.mem_of_getElem? (i := 131) rfl))) (by decide) (t := .int) (t' := .int) (by decide) (by decide))))
  have f33 : Fld Z h25 a0 "com/example/tree_automata_reducer/treeautomatareducer/reduce/PairStack" "first" "I" (.int (Int64.toInt32 ((Int64.toUInt64 (f1 (i - (1 : Int32))) >>> ((32 : Int32) &&& 0x3f).toInt64.toUInt64).toInt64))) := (f22.other W25 (Or.inr (slot_ne (Or.inl (hw _ (List.mem_of_getElem? (i := 129) rfl))) (Or.inl (hw _ (List.mem_of_getElem? (i := 131) rfl))) (by decide) (t := .int) (t' := .int) (by decide) (by decide))))
  refine Go.retV X25 hx Bd.returns hlk (hb hby d18_85) ?_ (by decide) (by decide)
  rw [e25]
  exact ⟨(Int64.toInt32 ((Int64.toUInt64 (f1 (i - (1 : Int32))) >>> ((32 : Int32) &&& 0x3f).toInt64.toUInt64).toInt64)), (Int64.toInt32 (f1 (i - (1 : Int32)))), (rfl), N25, k27, f29, f30, f31, f32, f33, f28⟩
theorem own_n3 (x : Int32) : (x &&& (3 : Int32)) = 0 ∨ (x &&& (3 : Int32)) = 1 ∨ (x &&& (3 : Int32)) = 2 ∨ (x &&& (3 : Int32)) = 3 := by
  have h := c_mask x 3 2 (by decide) (by decide)
  simp only [← Int32.toInt_inj, own_i_0, own_i_1, own_i_2, own_i_3]; omega
theorem own_k1 (x : Int32) : (x &&& (1 : Int32)) = 0 ∨ (x &&& (1 : Int32)) = 1 := by
  have h := c_mask x 1 1 (by decide) (by decide)
  simp only [← Int32.toInt_inj, own_i_0, own_i_1]; omega
theorem own_nz {n : Int32} (h : n = 0 ∨ n = 1 ∨ n = 2 ∨ n = 3) : n + (1 : Int32) ≠ 0 := by rcases h with rfl | rfl | rfl | rfl <;> decide
theorem own_rm (v m : Int32) (k : Int) (hk : m.toInt = k) (h0 : 0 ≤ v.toInt) (hm : 0 < k) : 0 ≤ (v % m).toInt ∧ (v % m).toInt < k := by
  have h1 := (c_iremV v m).1 h0 (by omega)
  omega
theorem own_nm (y n : Int32) (h : n = 0 ∨ n = 1 ∨ n = 2 ∨ n = 3) : (n = 0 ∧ (y &&& (2147483647 : Int32)) % (n + (1 : Int32)) = 0) ∨ (n = 1 ∧ (y &&& (2147483647 : Int32)) % (n + (1 : Int32)) = 0) ∨ (n = 1 ∧ (y &&& (2147483647 : Int32)) % (n + (1 : Int32)) = 1) ∨ (n = 2 ∧ (y &&& (2147483647 : Int32)) % (n + (1 : Int32)) = 0) ∨ (n = 2 ∧ (y &&& (2147483647 : Int32)) % (n + (1 : Int32)) = 1) ∨ (n = 2 ∧ (y &&& (2147483647 : Int32)) % (n + (1 : Int32)) = 2) ∨ (n = 3 ∧ (y &&& (2147483647 : Int32)) % (n + (1 : Int32)) = 0) ∨ (n = 3 ∧ (y &&& (2147483647 : Int32)) % (n + (1 : Int32)) = 1) ∨ (n = 3 ∧ (y &&& (2147483647 : Int32)) % (n + (1 : Int32)) = 2) ∨ (n = 3 ∧ (y &&& (2147483647 : Int32)) % (n + (1 : Int32)) = 3) := by
  have hv := c_mask y 2147483647 31 (by decide) (by decide)
  generalize (y &&& (2147483647 : Int32)) = v at *
  have h0 : 0 ≤ v.toInt := by omega
  rcases h with rfl | rfl | rfl | rfl
  · have r := own_rm v (0 + 1) 1 (by decide) h0 (by decide)
    generalize v % (0 + 1) = t at *
    have q : t = 0 := by simp only [← Int32.toInt_inj, own_i_0, own_i_1, own_i_2, own_i_3]; omega
    rcases q with q
    · subst q; simp
  · have r := own_rm v (1 + 1) 2 (by decide) h0 (by decide)
    generalize v % (1 + 1) = t at *
    have q : t = 0 ∨ t = 1 := by simp only [← Int32.toInt_inj, own_i_0, own_i_1, own_i_2, own_i_3]; omega
    rcases q with q | q
    · subst q; simp
    · subst q; simp
  · have r := own_rm v (2 + 1) 3 (by decide) h0 (by decide)
    generalize v % (2 + 1) = t at *
    have q : t = 0 ∨ t = 1 ∨ t = 2 := by simp only [← Int32.toInt_inj, own_i_0, own_i_1, own_i_2, own_i_3]; omega
    rcases q with q | q | q
    · subst q; simp
    · subst q; simp
    · subst q; simp
  · have r := own_rm v (3 + 1) 4 (by decide) h0 (by decide)
    generalize v % (3 + 1) = t at *
    have q : t = 0 ∨ t = 1 ∨ t = 2 ∨ t = 3 := by simp only [← Int32.toInt_inj, own_i_0, own_i_1, own_i_2, own_i_3]; omega
    rcases q with q | q | q | q
    · subst q; simp
    · subst q; simp
    · subst q; simp
    · subst q; simp
theorem pn_11 : plainName "com/example/tree_automata_reducer/treeautomatareducer/reduce/PairStackIsEmptyPinLaw" = true := by first | (simp [plainName, overriddenIn]; done) | decide +kernel
theorem pd_9 : parseMethodDescriptor "()Z" = some ⟨[], some .boolean⟩ := by decide +kernel
theorem pd_10 : parseMethodDescriptor "(II)V" = some ⟨[.int, .int], none⟩ := by decide +kernel
theorem ef_0 (m : MethodId) (qa : Int32) (qb : Int32) (qc : Int32) (qp : Int32) (qq : Int32) : entryFrame m #[(.int qa), (.int qb), (.int qc), (.int qp), (.int qq)] maxLocals = mkF m 0 #[.val (.int qa), .val (.int qb), .val (.int qc), .val (.int qp), .val (.int qq), .unset, .unset, .unset, .unset, .unset, .unset] [] := by first | (simp [entryFrame, mkF, argsToLocals, Value.category, maxLocals]; done) | rfl
def Q0 (Z : State) (qa : Int32) (qb : Int32) (qc : Int32) (qp : Int32) (qq : Int32) (w0 : Addr) (h0 : Heap) (n0 : Nat) (v : Option Value) (h : Heap) (L : List Loc) : Prop := (v = some (.int 1)) ∧ (Fr n0 L)
set_option maxRecDepth 65536 in
set_option maxHeartbeats 40000000 in
theorem rm0 (l : Launch) (Z : State) (aZ : Array Value) (hw : ∀ d ∈ tables_1, d.before aZ Z = true) (ws : List Jvm.Cond) (qa : Int32) (qb : Int32) (qc : Int32) (qp : Int32) (qq : Int32) (w0 : Addr) (h0 : Heap) (n0 : Nat) (Z0 : n0 ≤ h0.size) (O_0 : Old Z n0 h0) (S_1 : Sta Z Z.heap "java/util/ArrayList" "DEFAULTCAPACITY_EMPTY_ELEMENTDATA" "[Ljava/lang/Object;" (.ref w0)) (A_2 : Ai Z Z.heap w0 (.object "java/lang/Object") 0 (fun _ => 0)) :
    MetFree l x (head1 (Jvm.Cond.code x code maxLocals ret :: ws) room_1) (fun a U => a = #[(.int qa), (.int qb), (.int qc), (.int qp), (.int qq)] ∧ Z.Warmed39 U.vm ∧ U.heap = h0) (fun _ _ _ _ _ => True) (fun _ U o U' => ∃ v L, o = .returned v ∧ Q0 Z qa qb qc qp qq w0 h0 n0 v U'.heap L ∧ FrameEnd U o U' L 4 32788) := by
  refine MetFree.of_bodySF (plainFor_of_name pn_11) hisR ?_
  intro p e s m args below meth c s₁ Bd hml0 hP hK
  obtain ⟨rfl, hZ, hh⟩ := hP
  have hx := Bd.exec
  have hby := Bd.bytes
  have hml : c.maxLocals = 11 := hml0
  have hown : s.vm.findClass "com/example/tree_automata_reducer/treeautomatareducer/reduce/PairStackIsEmptyPinLaw" = some m.cls := findClass_of_methodNamed Bd.named
  have hnm := (name_of_methodNamed Bd.named Bd.method).1
  have hlk : meth.locks = false := BodyLoose.notSynchronized Bd
  have X0 : Stand p l e room_1 s m #[(.int qa), (.int qb), (.int qc), (.int qp), (.int qq)] below meth c s₁ [] 0 0 := Stand.of_body Bd
  have e0 : s₁.heap = h0 := by rw [← hh, Bd.state]; rfl
  have N0 := Fr.nil n0
  have sq0 : h0.size ≤ h0.size := Nat.le_refl _
  change Go p e below s 4 32788 (Q0 Z qa qb qc qp qq w0 h0 n0) (s₁.setTop (entryFrame m #[(.int qa), (.int qb), (.int qc), (.int qp), (.int qq)] maxLocals))
  rw [ef_0 m qa qb qc qp qq]
  show Go _ _ _ _ _ _ _ (s₁.setTop (mkF m 0 #[.val (.int qa), .val (.int qb), .val (.int qc), .val (.int qp), .val (.int qq), .unset, .unset, .unset, .unset, .unset, .unset] []))
  refine Go.step (fun _ k => XS.iloadN X0.here hx rfl (hb hby at_0) rfl  k) ?_
  show Go _ _ _ _ _ _ _ (s₁.setTop (mkF m 1 #[.val (.int qa), .val (.int qb), .val (.int qc), .val (.int qp), .val (.int qq), .unset, .unset, .unset, .unset, .unset, .unset] [(.int qa)]))
  refine Go.step (fun _ k => XS.iconst X0.here hx rfl (hb hby at_1) k) ?_
  show Go _ _ _ _ _ _ _ (s₁.setTop (mkF m 2 #[.val (.int qa), .val (.int qb), .val (.int qc), .val (.int qp), .val (.int qq), .unset, .unset, .unset, .unset, .unset, .unset] [(.int (3 : Int32)), (.int qa)]))
  refine Go.step (fun _ k => XS.iand X0.here hx rfl (hb hby at_2) rfl k) ?_
  show Go _ _ _ _ _ _ _ (s₁.setTop (mkF m 3 #[.val (.int qa), .val (.int qb), .val (.int qc), .val (.int qp), .val (.int qq), .unset, .unset, .unset, .unset, .unset, .unset] [(.int (qa &&& (3 : Int32)))]))
  obtain ⟨nn, q_nn⟩ : ∃ z : Int32, z = (qa &&& (3 : Int32)) := ⟨_, rfl⟩
  rw [← q_nn]
  have hnn := own_n3 qa
  rw [← q_nn] at hnn
  show Go _ _ _ _ _ _ _ (s₁.setTop (mkF m 3 #[.val (.int qa), .val (.int qb), .val (.int qc), .val (.int qp), .val (.int qq), .unset, .unset, .unset, .unset, .unset, .unset] [(.int nn)]))
  refine Go.step (fun _ k => XS.istore X0.here hx rfl (hb hby at_3) rfl (l' := #[.val (.int qa), .val (.int qb), .val (.int qc), .val (.int qp), .val (.int qq), .val (.int nn), .unset, .unset, .unset, .unset, .unset]) rfl k) ?_
  show Go _ _ _ _ _ _ _ (s₁.setTop (mkF m 5 #[.val (.int qa), .val (.int qb), .val (.int qc), .val (.int qp), .val (.int qq), .val (.int nn), .unset, .unset, .unset, .unset, .unset] []))
  refine Go.step (fun _ k => XS.iloadN X0.here hx rfl (hb hby at_5) rfl  k) ?_
  show Go _ _ _ _ _ _ _ (s₁.setTop (mkF m 6 #[.val (.int qa), .val (.int qb), .val (.int qc), .val (.int qp), .val (.int qq), .val (.int nn), .unset, .unset, .unset, .unset, .unset] [(.int qb)]))
  refine Go.step (X0.ldcInt hx hown (mvT hZ (hw _ (List.mem_of_getElem? (i := 0) rfl))) (g := (mkF m 6 #[.val (.int qa), .val (.int qb), .val (.int qc), .val (.int qp), .val (.int qq), .val (.int nn), .unset, .unset, .unset, .unset, .unset] [(.int qb)])) rfl (hb hby at_6)) ?_
  show Go _ _ _ _ _ _ _ (s₁.setTop (mkF m 8 #[.val (.int qa), .val (.int qb), .val (.int qc), .val (.int qp), .val (.int qq), .val (.int nn), .unset, .unset, .unset, .unset, .unset] [(.int (2147483647 : Int32)), (.int qb)]))
  refine Go.step (fun _ k => XS.iand X0.here hx rfl (hb hby at_8) rfl k) ?_
  show Go _ _ _ _ _ _ _ (s₁.setTop (mkF m 9 #[.val (.int qa), .val (.int qb), .val (.int qc), .val (.int qp), .val (.int qq), .val (.int nn), .unset, .unset, .unset, .unset, .unset] [(.int (qb &&& (2147483647 : Int32)))]))
  refine Go.step (fun _ k => XS.iload X0.here hx rfl (hb hby at_9) rfl  k) ?_
  show Go _ _ _ _ _ _ _ (s₁.setTop (mkF m 11 #[.val (.int qa), .val (.int qb), .val (.int qc), .val (.int qp), .val (.int qq), .val (.int nn), .unset, .unset, .unset, .unset, .unset] [(.int nn), (.int (qb &&& (2147483647 : Int32)))]))
  refine Go.step (fun _ k => XS.iconst X0.here hx rfl (hb hby at_11) k) ?_
  show Go _ _ _ _ _ _ _ (s₁.setTop (mkF m 12 #[.val (.int qa), .val (.int qb), .val (.int qc), .val (.int qp), .val (.int qq), .val (.int nn), .unset, .unset, .unset, .unset, .unset] [(.int (1 : Int32)), (.int nn), (.int (qb &&& (2147483647 : Int32)))]))
  refine Go.step (fun _ k => XS.iadd X0.here hx rfl (hb hby at_12) rfl k) ?_
  show Go _ _ _ _ _ _ _ (s₁.setTop (mkF m 13 #[.val (.int qa), .val (.int qb), .val (.int qc), .val (.int qp), .val (.int qq), .val (.int nn), .unset, .unset, .unset, .unset, .unset] [(.int (nn + (1 : Int32))), (.int (qb &&& (2147483647 : Int32)))]))
  have nz13 : (nn + (1 : Int32)) ≠ 0 := own_nz hnn
  refine Go.step (fun _ k => iremM X0 hx rfl (hb hby at_13) rfl nz13 k) ?_
  show Go _ _ _ _ _ _ _ (s₁.setTop (mkF m 14 #[.val (.int qa), .val (.int qb), .val (.int qc), .val (.int qp), .val (.int qq), .val (.int nn), .unset, .unset, .unset, .unset, .unset] [(.int ((qb &&& (2147483647 : Int32)) % (nn + (1 : Int32))))]))
  obtain ⟨mm, q_mm⟩ : ∃ z : Int32, z = ((qb &&& (2147483647 : Int32)) % (nn + (1 : Int32))) := ⟨_, rfl⟩
  rw [← q_mm]
  have hmm := own_nm qb nn hnn
  rw [← q_mm] at hmm
  show Go _ _ _ _ _ _ _ (s₁.setTop (mkF m 14 #[.val (.int qa), .val (.int qb), .val (.int qc), .val (.int qp), .val (.int qq), .val (.int nn), .unset, .unset, .unset, .unset, .unset] [(.int mm)]))
  refine Go.step (fun _ k => XS.istore X0.here hx rfl (hb hby at_14) rfl (l' := #[.val (.int qa), .val (.int qb), .val (.int qc), .val (.int qp), .val (.int qq), .val (.int nn), .val (.int mm), .unset, .unset, .unset, .unset]) rfl k) ?_
  show Go _ _ _ _ _ _ _ (s₁.setTop (mkF m 16 #[.val (.int qa), .val (.int qb), .val (.int qc), .val (.int qp), .val (.int qq), .val (.int nn), .val (.int mm), .unset, .unset, .unset, .unset] []))
  refine Go.step (fun _ k => XS.iloadN X0.here hx rfl (hb hby at_16) rfl  k) ?_
  show Go _ _ _ _ _ _ _ (s₁.setTop (mkF m 17 #[.val (.int qa), .val (.int qb), .val (.int qc), .val (.int qp), .val (.int qq), .val (.int nn), .val (.int mm), .unset, .unset, .unset, .unset] [(.int qc)]))
  refine Go.step (fun _ k => XS.iconst X0.here hx rfl (hb hby at_17) k) ?_
  show Go _ _ _ _ _ _ _ (s₁.setTop (mkF m 18 #[.val (.int qa), .val (.int qb), .val (.int qc), .val (.int qp), .val (.int qq), .val (.int nn), .val (.int mm), .unset, .unset, .unset, .unset] [(.int (1 : Int32)), (.int qc)]))
  refine Go.step (fun _ k => XS.iand X0.here hx rfl (hb hby at_18) rfl k) ?_
  show Go _ _ _ _ _ _ _ (s₁.setTop (mkF m 19 #[.val (.int qa), .val (.int qb), .val (.int qc), .val (.int qp), .val (.int qq), .val (.int nn), .val (.int mm), .unset, .unset, .unset, .unset] [(.int (qc &&& (1 : Int32)))]))
  obtain ⟨kq, q_kq⟩ : ∃ z : Int32, z = (qc &&& (1 : Int32)) := ⟨_, rfl⟩
  rw [← q_kq]
  have hkq := own_k1 qc
  rw [← q_kq] at hkq
  show Go _ _ _ _ _ _ _ (s₁.setTop (mkF m 19 #[.val (.int qa), .val (.int qb), .val (.int qc), .val (.int qp), .val (.int qq), .val (.int nn), .val (.int mm), .unset, .unset, .unset, .unset] [(.int kq)]))
  refine Go.step (fun _ k => XS.istore X0.here hx rfl (hb hby at_19) rfl (l' := #[.val (.int qa), .val (.int qb), .val (.int qc), .val (.int qp), .val (.int qq), .val (.int nn), .val (.int mm), .val (.int kq), .unset, .unset, .unset]) rfl k) ?_
  rcases hmm with ⟨h1, h2⟩ | ⟨h1, h2⟩ | ⟨h1, h2⟩ | ⟨h1, h2⟩ | ⟨h1, h2⟩ | ⟨h1, h2⟩ | ⟨h1, h2⟩ | ⟨h1, h2⟩ | ⟨h1, h2⟩ | ⟨h1, h2⟩
  · skip
    subst h1 h2
    show Go _ _ _ _ _ _ _ (s₁.setTop (mkF m 21 #[.val (.int qa), .val (.int qb), .val (.int qc), .val (.int qp), .val (.int qq), .val (.int (0 : Int32)), .val (.int (0 : Int32)), .val (.int kq), .unset, .unset, .unset] []))
    obtain ⟨T1, h1, X1, e1, E1, A1, D1, -, st1⟩ := newO X0 hx hZ hown (hw _ (List.mem_of_getElem? (i := 1) rfl)) (hw _ (List.mem_of_getElem? (i := 2) rfl)) (hw _ (List.mem_of_getElem? (i := 3) rfl)) e0 (g := (mkF m 21 #[.val (.int qa), .val (.int qb), .val (.int qc), .val (.int qp), .val (.int qq), .val (.int (0 : Int32)), .val (.int (0 : Int32)), .val (.int kq), .unset, .unset, .unset] [])) rfl (hb hby at_21) (by decide) (by decide)
    obtain ⟨b1, g1⟩ : ∃ z, z = h0.size := ⟨_, rfl⟩
    rw [← g1] at A1 D1 st1
    refine Go.step st1 ?_
    have gn1 : n0 ≤ b1 := Nat.le_trans Z0 (Nat.le_of_eq g1.symm)
    have sz1 : h0.size ≤ b1 := Nat.le_trans sq0 (Nat.le_of_eq g1.symm)
    have z2 : n0 ≤ h1.size := Nat.le_trans Z0 E1.1
    have sqz2 : h0.size ≤ h1.size := Nat.le_trans sq0 E1.1
    have f4 : Fld Z h1 b1 "com/example/tree_automata_reducer/treeautomatareducer/reduce/PairStack" "blocks" "Ljava/util/List;" .null := D1 (Or.inr (hw _ (List.mem_of_getElem? (i := 35) rfl))) (ty := (.object "java/util/List")) (by decide)
    have f5 : Fld Z h1 b1 "com/example/tree_automata_reducer/treeautomatareducer/reduce/PairStack" "blockNumber" "I" (.int (0 : Int32)) := D1 (Or.inl (hw _ (List.mem_of_getElem? (i := 37) rfl))) (ty := .int) (by decide)
    have f6 : Fld Z h1 b1 "com/example/tree_automata_reducer/treeautomatareducer/reduce/PairStack" "inBlock" "I" (.int (0 : Int32)) := D1 (Or.inl (hw _ (List.mem_of_getElem? (i := 40) rfl))) (ty := .int) (by decide)
    have f7 : Fld Z h1 b1 "com/example/tree_automata_reducer/treeautomatareducer/reduce/PairStack" "size" "J" (.long (0 : Int64)) := D1 (Or.inl (hw _ (List.mem_of_getElem? (i := 47) rfl))) (ty := .long) (by decide)
    have f8 : Fld Z h1 b1 "com/example/tree_automata_reducer/treeautomatareducer/reduce/PairStack" "block" "[J" .null := D1 (Or.inl (hw _ (List.mem_of_getElem? (i := 121) rfl))) (ty := (.array .long)) (by decide)
    have f9 : Fld Z h1 b1 "com/example/tree_automata_reducer/treeautomatareducer/reduce/PairStack" "first" "I" (.int (0 : Int32)) := D1 (Or.inl (hw _ (List.mem_of_getElem? (i := 129) rfl))) (ty := .int) (by decide)
    have f10 : Fld Z h1 b1 "com/example/tree_automata_reducer/treeautomatareducer/reduce/PairStack" "second" "I" (.int (0 : Int32)) := D1 (Or.inl (hw _ (List.mem_of_getElem? (i := 131) rfl))) (ty := .int) (by decide)
    show Go _ _ _ _ _ _ _ (T1.setTop (mkF m 24 #[.val (.int qa), .val (.int qb), .val (.int qc), .val (.int qp), .val (.int qq), .val (.int (0 : Int32)), .val (.int (0 : Int32)), .val (.int kq), .unset, .unset, .unset] [(.ref b1)]))
    refine Go.step (fun _ k => XS.dup X1.here hx rfl (hb hby at_24) rfl rfl k) ?_
    show Go _ _ _ _ _ _ _ (T1.setTop (mkF m 25 #[.val (.int qa), .val (.int qb), .val (.int qc), .val (.int qp), .val (.int qq), .val (.int (0 : Int32)), .val (.int (0 : Int32)), .val (.int kq), .unset, .unset, .unset] [(.ref b1), (.ref b1)]))
    have f11 : Old Z n0 h1 := (O_0.ext E1)
    obtain ⟨_, _, ⟨T12, L12, k12, n12⟩, -, X12, ⟨Lc12, hQ12, l12, y12, z12⟩, st12⟩ := X1.specialBack hx (y := (⟨"com/example/tree_automata_reducer/treeautomatareducer/reduce/PairStack", "<init>", "()V"⟩ : MethodName)) rfl hown (mvT hZ (hw _ (List.mem_of_getElem? (i := 4) rfl))) (mvT hZ (hw _ (List.mem_of_getElem? (i := 5) rfl))) (mvT hZ (hw _ (List.mem_of_getElem? (i := 6) rfl))) (by decide) (backOf (W := 1) (rm1 l Z aZ hw [] b1 w0 h1 n0 z2 f11 S_1 A1 f4 f7 f8 f5 f6 f9 f10 gn1) hZ (hw _ (List.mem_of_getElem? (i := 6) rfl)) (hw _ (List.mem_of_getElem? (i := 3) rfl)) (by decide) (by decide)) (g := (mkF m 25 #[.val (.int qa), .val (.int qb), .val (.int qc), .val (.int qp), .val (.int qq), .val (.int (0 : Int32)), .val (.int (0 : Int32)), .val (.int kq), .unset, .unset, .unset] [(.ref b1), (.ref b1)])) rfl (by rw [hml]; rfl) (Steps.refl _) (a := b1) (argsL := []) (rest := [(.ref b1)]) (lenOf pd_0 rfl) rfl (by show 2 * 0 + _ ≤ _; exact Nat.le_of_eq rfl) (hb hby at_25) (fun _ _ => ⟨rfl, e1, (by decide : 1 + 1 ≤ _), (by decide : 7 + 3 ≤ _)⟩)
    dsimp only [Pt.U, Pt.locs, Pt.cells, Pt.slots] at X12 l12 y12 z12 st12 hQ12
    subst l12 y12 z12
    obtain ⟨l0_12, rfl, Nq12, K12, c12_0, c12_1, c12_2, c12_3, c12_4, c12_5, c12_6, c12_7, c12_8, c12_9, c12_10, c12_11, c12_12, c12_13⟩ := hQ12
    have N12 := Fr.app N0 Nq12
    refine Go.tr st12 ?_
    have ne13 : b1 ≠ l0_12 := Nat.ne_of_lt (Nat.lt_of_lt_of_le A1.lt c12_0)
    have gn12_0 : n0 ≤ l0_12 := Nat.le_trans z2 c12_0
    have sz12_0 : h0.size ≤ l0_12 := Nat.le_trans sqz2 c12_0
    have z14 : n0 ≤ T12.heap.size := Nat.le_trans z2 K12.1
    have sqz14 : h0.size ≤ T12.heap.size := Nat.le_trans sqz2 K12.1
    show Go _ _ _ _ _ _ _ (T12.setTop (mkF m 28 #[.val (.int qa), .val (.int qb), .val (.int qc), .val (.int qp), .val (.int qq), .val (.int (0 : Int32)), .val (.int (0 : Int32)), .val (.int kq), .unset, .unset, .unset] [(.ref b1)]))
    refine Go.step (fun _ k => XS.astore X12.here hx rfl (hb hby at_28) rfl rfl (l' := #[.val (.int qa), .val (.int qb), .val (.int qc), .val (.int qp), .val (.int qq), .val (.int (0 : Int32)), .val (.int (0 : Int32)), .val (.int kq), .val (.ref b1), .unset, .unset]) rfl k) ?_
    show Go _ _ _ _ _ _ _ (T12.setTop (mkF m 30 #[.val (.int qa), .val (.int qb), .val (.int qc), .val (.int qp), .val (.int qq), .val (.int (0 : Int32)), .val (.int (0 : Int32)), .val (.int kq), .val (.ref b1), .unset, .unset] []))
    refine Go.step (fun _ k => XS.aload X12.here hx rfl (hb hby at_30) rfl rfl  k) ?_
    show Go _ _ _ _ _ _ _ (T12.setTop (mkF m 32 #[.val (.int qa), .val (.int qb), .val (.int qc), .val (.int qp), .val (.int qq), .val (.int (0 : Int32)), .val (.int (0 : Int32)), .val (.int kq), .val (.ref b1), .unset, .unset] [(.ref b1)]))
    obtain ⟨cq16, kq16, q16a, q16b, q16c⟩ := isOf hZ rfl c12_1
    obtain ⟨_, _, ⟨T16, L16, k16, n16⟩, -, X16, ⟨Lc16, hQ16, l16, y16, z16⟩, st16⟩ := X12.virtualBack hx (y := (⟨"com/example/tree_automata_reducer/treeautomatareducer/reduce/PairStack", "isEmpty", "()Z"⟩ : MethodName)) (z := (⟨"com/example/tree_automata_reducer/treeautomatareducer/reduce/PairStack", "isEmpty", "()Z"⟩ : MethodName)) hown (mvT hZ (hw _ (List.mem_of_getElem? (i := 41) rfl))) (mvT hZ (hw _ (List.mem_of_getElem? (i := 42) rfl))) (notFace_of_selects (args := #[]) (mvT hZ (hw _ (List.mem_of_getElem? (i := 44) rfl)))) (mvT hZ (hw _ (List.mem_of_getElem? (i := 44) rfl))) (mvT hZ (hw _ (List.mem_of_getElem? (i := 43) rfl))) (by decide) (backOf (W := 0) (rm6 l Z aZ hw [] b1 (0 : Int64) T12.heap n0 z14 c12_3) hZ (hw _ (List.mem_of_getElem? (i := 45) rfl)) (hw _ (List.mem_of_getElem? (i := 3) rfl)) (by decide) (by decide)) q16a q16c (g := (mkF m 32 #[.val (.int qa), .val (.int qb), .val (.int qc), .val (.int qp), .val (.int qq), .val (.int (0 : Int32)), .val (.int (0 : Int32)), .val (.int kq), .val (.ref b1), .unset, .unset] [(.ref b1)])) rfl (by rw [hml]; rfl) (Steps.refl _) (argsL := []) (rest := []) (lenOf pd_9 rfl) rfl (by show 2 * 0 + _ ≤ _; exact Nat.le_of_eq rfl) (hb hby at_32) (fun _ _ => ⟨rfl, rfl, (by decide : 2 + 0 ≤ _), (by decide : 10 + 0 ≤ _)⟩)
    dsimp only [Pt.U, Pt.locs, Pt.cells, Pt.slots] at X16 l16 y16 z16 st16 hQ16
    subst l16 y16 z16
    obtain ⟨rfl, Nq16, e16⟩ := hQ16
    have N16 := Fr.app N12 Nq16
    refine Go.tr st16 ?_
    show Go _ _ _ _ _ _ _ (T16.setTop (mkF m 35 #[.val (.int qa), .val (.int qb), .val (.int qc), .val (.int qp), .val (.int qq), .val (.int (0 : Int32)), .val (.int (0 : Int32)), .val (.int kq), .val (.ref b1), .unset, .unset] [(.int (if (0 : Int64) = 0 then (1 : Int32) else 0))]))
    have sv17 : (if (0 : Int64) = 0 then (1 : Int32) else 0) = (1 : Int32) := if_pos rfl
    rw [sv17]
    show Go _ _ _ _ _ _ _ (T16.setTop (mkF m 35 #[.val (.int qa), .val (.int qb), .val (.int qc), .val (.int qp), .val (.int qq), .val (.int (0 : Int32)), .val (.int (0 : Int32)), .val (.int kq), .val (.ref b1), .unset, .unset] [(.int (1 : Int32))]))
    refine Go.step (fun _ k => XS.istore X16.here hx rfl (hb hby at_35) rfl (l' := #[.val (.int qa), .val (.int qb), .val (.int qc), .val (.int qp), .val (.int qq), .val (.int (0 : Int32)), .val (.int (0 : Int32)), .val (.int kq), .val (.ref b1), .val (.int (1 : Int32)), .unset]) rfl k) ?_
    show Go _ _ _ _ _ _ _ (T16.setTop (mkF m 37 #[.val (.int qa), .val (.int qb), .val (.int qc), .val (.int qp), .val (.int qq), .val (.int (0 : Int32)), .val (.int (0 : Int32)), .val (.int kq), .val (.ref b1), .val (.int (1 : Int32)), .unset] []))
    refine Go.step (fun _ k => XS.iload X16.here hx rfl (hb hby at_37) rfl  k) ?_
    show Go _ _ _ _ _ _ _ (T16.setTop (mkF m 39 #[.val (.int qa), .val (.int qb), .val (.int qc), .val (.int qp), .val (.int qq), .val (.int (0 : Int32)), .val (.int (0 : Int32)), .val (.int kq), .val (.ref b1), .val (.int (1 : Int32)), .unset] [(.int (0 : Int32))]))
    refine Go.step (fun _ k => XS.iconst X16.here hx rfl (hb hby at_39) k) ?_
    show Go _ _ _ _ _ _ _ (T16.setTop (mkF m 40 #[.val (.int qa), .val (.int qb), .val (.int qc), .val (.int qp), .val (.int qq), .val (.int (0 : Int32)), .val (.int (0 : Int32)), .val (.int kq), .val (.ref b1), .val (.int (1 : Int32)), .unset] [(.int (1 : Int32)), (.int (0 : Int32))]))
    have hc40 : (0 : Int32) < (1 : Int32) := by decide
    refine Go.step (fun _ k => XS.icmpYes X16.here hx rfl (pc0 := 40) (pc' := 51) rfl (hb hby at_40) rfl (tlt hc40).1 (by decide) (by decide) k) ?_
    show Go _ _ _ _ _ _ _ (T16.setTop (mkF m 51 #[.val (.int qa), .val (.int qb), .val (.int qc), .val (.int qp), .val (.int qq), .val (.int (0 : Int32)), .val (.int (0 : Int32)), .val (.int kq), .val (.ref b1), .val (.int (1 : Int32)), .unset] []))
    refine Go.step (fun _ k => XS.iload X16.here hx rfl (hb hby at_51) rfl  k) ?_
    show Go _ _ _ _ _ _ _ (T16.setTop (mkF m 53 #[.val (.int qa), .val (.int qb), .val (.int qc), .val (.int qp), .val (.int qq), .val (.int (0 : Int32)), .val (.int (0 : Int32)), .val (.int kq), .val (.ref b1), .val (.int (1 : Int32)), .unset] [(.int (0 : Int32))]))
    refine Go.step (fun _ k => XS.iconst X16.here hx rfl (hb hby at_53) k) ?_
    show Go _ _ _ _ _ _ _ (T16.setTop (mkF m 54 #[.val (.int qa), .val (.int qb), .val (.int qc), .val (.int qp), .val (.int qq), .val (.int (0 : Int32)), .val (.int (0 : Int32)), .val (.int kq), .val (.ref b1), .val (.int (1 : Int32)), .unset] [(.int (2 : Int32)), (.int (0 : Int32))]))
    have hc54 : (0 : Int32) < (2 : Int32) := by decide
    refine Go.step (fun _ k => XS.icmpYes X16.here hx rfl (pc0 := 54) (pc' := 65) rfl (hb hby at_54) rfl (tlt hc54).1 (by decide) (by decide) k) ?_
    show Go _ _ _ _ _ _ _ (T16.setTop (mkF m 65 #[.val (.int qa), .val (.int qb), .val (.int qc), .val (.int qp), .val (.int qq), .val (.int (0 : Int32)), .val (.int (0 : Int32)), .val (.int kq), .val (.ref b1), .val (.int (1 : Int32)), .unset] []))
    refine Go.step (fun _ k => XS.iload X16.here hx rfl (hb hby at_65) rfl  k) ?_
    show Go _ _ _ _ _ _ _ (T16.setTop (mkF m 67 #[.val (.int qa), .val (.int qb), .val (.int qc), .val (.int qp), .val (.int qq), .val (.int (0 : Int32)), .val (.int (0 : Int32)), .val (.int kq), .val (.ref b1), .val (.int (1 : Int32)), .unset] [(.int (0 : Int32))]))
    refine Go.step (fun _ k => XS.iconst X16.here hx rfl (hb hby at_67) k) ?_
    show Go _ _ _ _ _ _ _ (T16.setTop (mkF m 68 #[.val (.int qa), .val (.int qb), .val (.int qc), .val (.int qp), .val (.int qq), .val (.int (0 : Int32)), .val (.int (0 : Int32)), .val (.int kq), .val (.ref b1), .val (.int (1 : Int32)), .unset] [(.int (3 : Int32)), (.int (0 : Int32))]))
    have hc68 : (0 : Int32) < (3 : Int32) := by decide
    refine Go.step (fun _ k => XS.icmpYes X16.here hx rfl (pc0 := 68) (pc' := 81) rfl (hb hby at_68) rfl (tlt hc68).1 (by decide) (by decide) k) ?_
    show Go _ _ _ _ _ _ _ (T16.setTop (mkF m 81 #[.val (.int qa), .val (.int qb), .val (.int qc), .val (.int qp), .val (.int qq), .val (.int (0 : Int32)), .val (.int (0 : Int32)), .val (.int kq), .val (.ref b1), .val (.int (1 : Int32)), .unset] []))
    refine Go.step (fun _ k => XS.iload X16.here hx rfl (hb hby at_81) rfl  k) ?_
    show Go _ _ _ _ _ _ _ (T16.setTop (mkF m 83 #[.val (.int qa), .val (.int qb), .val (.int qc), .val (.int qp), .val (.int qq), .val (.int (0 : Int32)), .val (.int (0 : Int32)), .val (.int kq), .val (.ref b1), .val (.int (1 : Int32)), .unset] [(.int (0 : Int32))]))
    refine Go.step (fun _ k => XS.iconst X16.here hx rfl (hb hby at_83) k) ?_
    show Go _ _ _ _ _ _ _ (T16.setTop (mkF m 84 #[.val (.int qa), .val (.int qb), .val (.int qc), .val (.int qp), .val (.int qq), .val (.int (0 : Int32)), .val (.int (0 : Int32)), .val (.int kq), .val (.ref b1), .val (.int (1 : Int32)), .unset] [(.int (1 : Int32)), (.int (0 : Int32))]))
    have hc84 : (0 : Int32) < (1 : Int32) := hc40
    refine Go.step (fun _ k => XS.icmpYes X16.here hx rfl (pc0 := 84) (pc' := 92) rfl (hb hby at_84) rfl (tlt hc84).1 (by decide) (by decide) k) ?_
    show Go _ _ _ _ _ _ _ (T16.setTop (mkF m 92 #[.val (.int qa), .val (.int qb), .val (.int qc), .val (.int qp), .val (.int qq), .val (.int (0 : Int32)), .val (.int (0 : Int32)), .val (.int kq), .val (.ref b1), .val (.int (1 : Int32)), .unset] []))
    refine Go.step (fun _ k => XS.iload X16.here hx rfl (hb hby at_92) rfl  k) ?_
    show Go _ _ _ _ _ _ _ (T16.setTop (mkF m 94 #[.val (.int qa), .val (.int qb), .val (.int qc), .val (.int qp), .val (.int qq), .val (.int (0 : Int32)), .val (.int (0 : Int32)), .val (.int kq), .val (.ref b1), .val (.int (1 : Int32)), .unset] [(.int (0 : Int32))]))
    refine Go.step (fun _ k => XS.iconst X16.here hx rfl (hb hby at_94) k) ?_
    show Go _ _ _ _ _ _ _ (T16.setTop (mkF m 95 #[.val (.int qa), .val (.int qb), .val (.int qc), .val (.int qp), .val (.int qq), .val (.int (0 : Int32)), .val (.int (0 : Int32)), .val (.int kq), .val (.ref b1), .val (.int (1 : Int32)), .unset] [(.int (2 : Int32)), (.int (0 : Int32))]))
    have hc95 : (0 : Int32) < (2 : Int32) := hc54
    refine Go.step (fun _ k => XS.icmpYes X16.here hx rfl (pc0 := 95) (pc' := 103) rfl (hb hby at_95) rfl (tlt hc95).1 (by decide) (by decide) k) ?_
    show Go _ _ _ _ _ _ _ (T16.setTop (mkF m 103 #[.val (.int qa), .val (.int qb), .val (.int qc), .val (.int qp), .val (.int qq), .val (.int (0 : Int32)), .val (.int (0 : Int32)), .val (.int kq), .val (.ref b1), .val (.int (1 : Int32)), .unset] []))
    refine Go.step (fun _ k => XS.iload X16.here hx rfl (hb hby at_103) rfl  k) ?_
    show Go _ _ _ _ _ _ _ (T16.setTop (mkF m 105 #[.val (.int qa), .val (.int qb), .val (.int qc), .val (.int qp), .val (.int qq), .val (.int (0 : Int32)), .val (.int (0 : Int32)), .val (.int kq), .val (.ref b1), .val (.int (1 : Int32)), .unset] [(.int (0 : Int32))]))
    refine Go.step (fun _ k => XS.iconst X16.here hx rfl (hb hby at_105) k) ?_
    show Go _ _ _ _ _ _ _ (T16.setTop (mkF m 106 #[.val (.int qa), .val (.int qb), .val (.int qc), .val (.int qp), .val (.int qq), .val (.int (0 : Int32)), .val (.int (0 : Int32)), .val (.int kq), .val (.ref b1), .val (.int (1 : Int32)), .unset] [(.int (3 : Int32)), (.int (0 : Int32))]))
    have hc106 : (0 : Int32) < (3 : Int32) := hc68
    refine Go.step (fun _ k => XS.icmpYes X16.here hx rfl (pc0 := 106) (pc' := 114) rfl (hb hby at_106) rfl (tlt hc106).1 (by decide) (by decide) k) ?_
    rcases hkq with h1 | h1
    · skip
      subst h1
      show Go _ _ _ _ _ _ _ (T16.setTop (mkF m 114 #[.val (.int qa), .val (.int qb), .val (.int qc), .val (.int qp), .val (.int qq), .val (.int (0 : Int32)), .val (.int (0 : Int32)), .val (.int (0 : Int32)), .val (.ref b1), .val (.int (1 : Int32)), .unset] []))
      refine Go.step (fun _ k => XS.iload X16.here hx rfl (hb hby at_114) rfl  k) ?_
      show Go _ _ _ _ _ _ _ (T16.setTop (mkF m 116 #[.val (.int qa), .val (.int qb), .val (.int qc), .val (.int qp), .val (.int qq), .val (.int (0 : Int32)), .val (.int (0 : Int32)), .val (.int (0 : Int32)), .val (.ref b1), .val (.int (1 : Int32)), .unset] [(.int (0 : Int32))]))
      refine Go.step (fun _ k => XS.iconst X16.here hx rfl (hb hby at_116) k) ?_
      show Go _ _ _ _ _ _ _ (T16.setTop (mkF m 117 #[.val (.int qa), .val (.int qb), .val (.int qc), .val (.int qp), .val (.int qq), .val (.int (0 : Int32)), .val (.int (0 : Int32)), .val (.int (0 : Int32)), .val (.ref b1), .val (.int (1 : Int32)), .unset] [(.int (1 : Int32)), (.int (0 : Int32))]))
      have hc117 : ¬ ((0 : Int32) = (1 : Int32)) := by decide
      refine Go.step (fun _ k => XS.icmpYes X16.here hx rfl (pc0 := 117) (pc' := 129) rfl (hb hby at_117) rfl (feq hc117).2 (by decide) (by decide) k) ?_
      show Go _ _ _ _ _ _ _ (T16.setTop (mkF m 129 #[.val (.int qa), .val (.int qb), .val (.int qc), .val (.int qp), .val (.int qq), .val (.int (0 : Int32)), .val (.int (0 : Int32)), .val (.int (0 : Int32)), .val (.ref b1), .val (.int (1 : Int32)), .unset] []))
      refine Go.step (fun _ k => XS.iload X16.here hx rfl (hb hby at_129) rfl  k) ?_
      show Go _ _ _ _ _ _ _ (T16.setTop (mkF m 131 #[.val (.int qa), .val (.int qb), .val (.int qc), .val (.int qp), .val (.int qq), .val (.int (0 : Int32)), .val (.int (0 : Int32)), .val (.int (0 : Int32)), .val (.ref b1), .val (.int (1 : Int32)), .unset] [(.int (0 : Int32))]))
      refine Go.step (fun _ k => XS.iload X16.here hx rfl (hb hby at_131) rfl  k) ?_
      show Go _ _ _ _ _ _ _ (T16.setTop (mkF m 133 #[.val (.int qa), .val (.int qb), .val (.int qc), .val (.int qp), .val (.int qq), .val (.int (0 : Int32)), .val (.int (0 : Int32)), .val (.int (0 : Int32)), .val (.ref b1), .val (.int (1 : Int32)), .unset] [(.int (0 : Int32)), (.int (0 : Int32))]))
      refine Go.step (fun _ k => XS.isub X16.here hx rfl (hb hby at_133) rfl k) ?_
      show Go _ _ _ _ _ _ _ (T16.setTop (mkF m 134 #[.val (.int qa), .val (.int qb), .val (.int qc), .val (.int qp), .val (.int qq), .val (.int (0 : Int32)), .val (.int (0 : Int32)), .val (.int (0 : Int32)), .val (.ref b1), .val (.int (1 : Int32)), .unset] [(.int (0 : Int32))]))
      refine Go.step (fun _ k => XS.iload X16.here hx rfl (hb hby at_134) rfl  k) ?_
      show Go _ _ _ _ _ _ _ (T16.setTop (mkF m 136 #[.val (.int qa), .val (.int qb), .val (.int qc), .val (.int qp), .val (.int qq), .val (.int (0 : Int32)), .val (.int (0 : Int32)), .val (.int (0 : Int32)), .val (.ref b1), .val (.int (1 : Int32)), .unset] [(.int (0 : Int32)), (.int (0 : Int32))]))
      refine Go.step (fun _ k => XS.iadd X16.here hx rfl (hb hby at_136) rfl k) ?_
      show Go _ _ _ _ _ _ _ (T16.setTop (mkF m 137 #[.val (.int qa), .val (.int qb), .val (.int qc), .val (.int qp), .val (.int qq), .val (.int (0 : Int32)), .val (.int (0 : Int32)), .val (.int (0 : Int32)), .val (.ref b1), .val (.int (1 : Int32)), .unset] [(.int (0 : Int32))]))
      have hc137 : (0 : Int32) = (0 : Int32) := by decide
      refine Go.step (fun _ k => XS.ifNo X16.here hx rfl (hb hby at_137) rfl ((if0 _ _).trans (teq hc137).2) k) ?_
      show Go _ _ _ _ _ _ _ (T16.setTop (mkF m 140 #[.val (.int qa), .val (.int qb), .val (.int qc), .val (.int qp), .val (.int qq), .val (.int (0 : Int32)), .val (.int (0 : Int32)), .val (.int (0 : Int32)), .val (.ref b1), .val (.int (1 : Int32)), .unset] []))
      refine Go.step (fun _ k => XS.iconst X16.here hx rfl (hb hby at_140) k) ?_
      show Go _ _ _ _ _ _ _ (T16.setTop (mkF m 141 #[.val (.int qa), .val (.int qb), .val (.int qc), .val (.int qp), .val (.int qq), .val (.int (0 : Int32)), .val (.int (0 : Int32)), .val (.int (0 : Int32)), .val (.ref b1), .val (.int (1 : Int32)), .unset] [(.int (1 : Int32))]))
      refine Go.step (fun _ k => XS.goto X16.here hx rfl (pc0 := 141) (pc' := 145) rfl (hb hby at_141) (by decide) (by decide) k) ?_
      show Go _ _ _ _ _ _ _ (T16.setTop (mkF m 145 #[.val (.int qa), .val (.int qb), .val (.int qc), .val (.int qp), .val (.int qq), .val (.int (0 : Int32)), .val (.int (0 : Int32)), .val (.int (0 : Int32)), .val (.ref b1), .val (.int (1 : Int32)), .unset] [(.int (1 : Int32))]))
      refine Go.step (fun _ k => XS.istore X16.here hx rfl (hb hby at_145) rfl (l' := #[.val (.int qa), .val (.int qb), .val (.int qc), .val (.int qp), .val (.int qq), .val (.int (0 : Int32)), .val (.int (0 : Int32)), .val (.int (0 : Int32)), .val (.ref b1), .val (.int (1 : Int32)), .val (.int (1 : Int32))]) rfl k) ?_
      show Go _ _ _ _ _ _ _ (T16.setTop (mkF m 147 #[.val (.int qa), .val (.int qb), .val (.int qc), .val (.int qp), .val (.int qq), .val (.int (0 : Int32)), .val (.int (0 : Int32)), .val (.int (0 : Int32)), .val (.ref b1), .val (.int (1 : Int32)), .val (.int (1 : Int32))] []))
      refine Go.step (fun _ k => XS.iload X16.here hx rfl (hb hby at_147) rfl  k) ?_
      show Go _ _ _ _ _ _ _ (T16.setTop (mkF m 149 #[.val (.int qa), .val (.int qb), .val (.int qc), .val (.int qp), .val (.int qq), .val (.int (0 : Int32)), .val (.int (0 : Int32)), .val (.int (0 : Int32)), .val (.ref b1), .val (.int (1 : Int32)), .val (.int (1 : Int32))] [(.int (1 : Int32))]))
      have hc149 : ¬ ((1 : Int32) = (0 : Int32)) := by decide
      refine Go.step (fun _ k => XS.ifNo X16.here hx rfl (hb hby at_149) rfl ((if0 _ _).trans (feq hc149).1) k) ?_
      show Go _ _ _ _ _ _ _ (T16.setTop (mkF m 152 #[.val (.int qa), .val (.int qb), .val (.int qc), .val (.int qp), .val (.int qq), .val (.int (0 : Int32)), .val (.int (0 : Int32)), .val (.int (0 : Int32)), .val (.ref b1), .val (.int (1 : Int32)), .val (.int (1 : Int32))] []))
      refine Go.step (fun _ k => XS.aload X16.here hx rfl (hb hby at_152) rfl rfl  k) ?_
      show Go _ _ _ _ _ _ _ (T16.setTop (mkF m 154 #[.val (.int qa), .val (.int qb), .val (.int qc), .val (.int qp), .val (.int qq), .val (.int (0 : Int32)), .val (.int (0 : Int32)), .val (.int (0 : Int32)), .val (.ref b1), .val (.int (1 : Int32)), .val (.int (1 : Int32))] [(.ref b1)]))
      obtain ⟨cq18, kq18, q18a, q18b, q18c⟩ := isOf hZ e16 c12_1
      obtain ⟨_, _, ⟨T18, L18, k18, n18⟩, -, X18, ⟨Lc18, hQ18, l18, y18, z18⟩, st18⟩ := X16.virtualBack hx (y := (⟨"com/example/tree_automata_reducer/treeautomatareducer/reduce/PairStack", "isEmpty", "()Z"⟩ : MethodName)) (z := (⟨"com/example/tree_automata_reducer/treeautomatareducer/reduce/PairStack", "isEmpty", "()Z"⟩ : MethodName)) hown (mvT hZ (hw _ (List.mem_of_getElem? (i := 41) rfl))) (mvT hZ (hw _ (List.mem_of_getElem? (i := 42) rfl))) (notFace_of_selects (args := #[]) (mvT hZ (hw _ (List.mem_of_getElem? (i := 44) rfl)))) (mvT hZ (hw _ (List.mem_of_getElem? (i := 44) rfl))) (mvT hZ (hw _ (List.mem_of_getElem? (i := 43) rfl))) (by decide) (backOf (W := 0) (rm6 l Z aZ hw [] b1 (0 : Int64) T12.heap n0 z14 c12_3) hZ (hw _ (List.mem_of_getElem? (i := 45) rfl)) (hw _ (List.mem_of_getElem? (i := 3) rfl)) (by decide) (by decide)) q18a q18c (g := (mkF m 154 #[.val (.int qa), .val (.int qb), .val (.int qc), .val (.int qp), .val (.int qq), .val (.int (0 : Int32)), .val (.int (0 : Int32)), .val (.int (0 : Int32)), .val (.ref b1), .val (.int (1 : Int32)), .val (.int (1 : Int32))] [(.ref b1)])) rfl (by rw [hml]; rfl) (Steps.refl _) (argsL := []) (rest := []) (lenOf pd_9 rfl) rfl (by show 2 * 0 + _ ≤ _; exact Nat.le_of_eq rfl) (hb hby at_154) (fun _ _ => ⟨rfl, e16, (by decide : 2 + 0 ≤ _), (by decide : 10 + 0 ≤ _)⟩)
      dsimp only [Pt.U, Pt.locs, Pt.cells, Pt.slots] at X18 l18 y18 z18 st18 hQ18
      subst l18 y18 z18
      obtain ⟨rfl, Nq18, e18⟩ := hQ18
      have N18 := Fr.app N16 Nq18
      refine Go.tr st18 ?_
      show Go _ _ _ _ _ _ _ (T18.setTop (mkF m 157 #[.val (.int qa), .val (.int qb), .val (.int qc), .val (.int qp), .val (.int qq), .val (.int (0 : Int32)), .val (.int (0 : Int32)), .val (.int (0 : Int32)), .val (.ref b1), .val (.int (1 : Int32)), .val (.int (1 : Int32))] [(.int (if (0 : Int64) = 0 then (1 : Int32) else 0))]))
      refine Go.step (fun _ k => XS.iload X18.here hx rfl (hb hby at_157) rfl  k) ?_
      show Go _ _ _ _ _ _ _ (T18.setTop (mkF m 159 #[.val (.int qa), .val (.int qb), .val (.int qc), .val (.int qp), .val (.int qq), .val (.int (0 : Int32)), .val (.int (0 : Int32)), .val (.int (0 : Int32)), .val (.ref b1), .val (.int (1 : Int32)), .val (.int (1 : Int32))] [(.int (1 : Int32)), (.int (if (0 : Int64) = 0 then (1 : Int32) else 0))]))
      have hc159 : (if (0 : Int64) = 0 then (1 : Int32) else 0) = (1 : Int32) := by decide
      refine Go.step (fun _ k => XS.icmpNo X18.here hx rfl (hb hby at_159) rfl (teq hc159).2 k) ?_
      show Go _ _ _ _ _ _ _ (T18.setTop (mkF m 162 #[.val (.int qa), .val (.int qb), .val (.int qc), .val (.int qp), .val (.int qq), .val (.int (0 : Int32)), .val (.int (0 : Int32)), .val (.int (0 : Int32)), .val (.ref b1), .val (.int (1 : Int32)), .val (.int (1 : Int32))] []))
      refine Go.step (fun _ k => XS.iconst X18.here hx rfl (hb hby at_162) k) ?_
      show Go _ _ _ _ _ _ _ (T18.setTop (mkF m 163 #[.val (.int qa), .val (.int qb), .val (.int qc), .val (.int qp), .val (.int qq), .val (.int (0 : Int32)), .val (.int (0 : Int32)), .val (.int (0 : Int32)), .val (.ref b1), .val (.int (1 : Int32)), .val (.int (1 : Int32))] [(.int (1 : Int32))]))
      refine Go.step (fun _ k => XS.goto X18.here hx rfl (pc0 := 163) (pc' := 167) rfl (hb hby at_163) (by decide) (by decide) k) ?_
      show Go _ _ _ _ _ _ _ (T18.setTop (mkF m 167 #[.val (.int qa), .val (.int qb), .val (.int qc), .val (.int qp), .val (.int qq), .val (.int (0 : Int32)), .val (.int (0 : Int32)), .val (.int (0 : Int32)), .val (.ref b1), .val (.int (1 : Int32)), .val (.int (1 : Int32))] [(.int (1 : Int32))]))
      refine Go.retN X18 hx (t := .boolean) Bd.returns (by simp) hlk (hb hby at_167) ?_ (by decide) (by decide)
      rw [e18]
      exact ⟨(by first | rfl | (simp_all [own_nb1, own_nb0]; done)), N18⟩
    · skip
      subst h1
      show Go _ _ _ _ _ _ _ (T16.setTop (mkF m 114 #[.val (.int qa), .val (.int qb), .val (.int qc), .val (.int qp), .val (.int qq), .val (.int (0 : Int32)), .val (.int (0 : Int32)), .val (.int (1 : Int32)), .val (.ref b1), .val (.int (1 : Int32)), .unset] []))
      refine Go.step (fun _ k => XS.iload X16.here hx rfl (hb hby at_114) rfl  k) ?_
      show Go _ _ _ _ _ _ _ (T16.setTop (mkF m 116 #[.val (.int qa), .val (.int qb), .val (.int qc), .val (.int qp), .val (.int qq), .val (.int (0 : Int32)), .val (.int (0 : Int32)), .val (.int (1 : Int32)), .val (.ref b1), .val (.int (1 : Int32)), .unset] [(.int (1 : Int32))]))
      refine Go.step (fun _ k => XS.iconst X16.here hx rfl (hb hby at_116) k) ?_
      show Go _ _ _ _ _ _ _ (T16.setTop (mkF m 117 #[.val (.int qa), .val (.int qb), .val (.int qc), .val (.int qp), .val (.int qq), .val (.int (0 : Int32)), .val (.int (0 : Int32)), .val (.int (1 : Int32)), .val (.ref b1), .val (.int (1 : Int32)), .unset] [(.int (1 : Int32)), (.int (1 : Int32))]))
      have hc117 : (1 : Int32) = (1 : Int32) := by decide
      refine Go.step (fun _ k => XS.icmpNo X16.here hx rfl (hb hby at_117) rfl (teq hc117).2 k) ?_
      show Go _ _ _ _ _ _ _ (T16.setTop (mkF m 120 #[.val (.int qa), .val (.int qb), .val (.int qc), .val (.int qp), .val (.int qq), .val (.int (0 : Int32)), .val (.int (0 : Int32)), .val (.int (1 : Int32)), .val (.ref b1), .val (.int (1 : Int32)), .unset] []))
      refine Go.step (fun _ k => XS.aload X16.here hx rfl (hb hby at_120) rfl rfl  k) ?_
      show Go _ _ _ _ _ _ _ (T16.setTop (mkF m 122 #[.val (.int qa), .val (.int qb), .val (.int qc), .val (.int qp), .val (.int qq), .val (.int (0 : Int32)), .val (.int (0 : Int32)), .val (.int (1 : Int32)), .val (.ref b1), .val (.int (1 : Int32)), .unset] [(.ref b1)]))
      refine Go.step (fun _ k => XS.iload X16.here hx rfl (hb hby at_122) rfl  k) ?_
      show Go _ _ _ _ _ _ _ (T16.setTop (mkF m 124 #[.val (.int qa), .val (.int qb), .val (.int qc), .val (.int qp), .val (.int qq), .val (.int (0 : Int32)), .val (.int (0 : Int32)), .val (.int (1 : Int32)), .val (.ref b1), .val (.int (1 : Int32)), .unset] [(.int qq), (.ref b1)]))
      refine Go.step (fun _ k => XS.iload X16.here hx rfl (hb hby at_124) rfl  k) ?_
      show Go _ _ _ _ _ _ _ (T16.setTop (mkF m 126 #[.val (.int qa), .val (.int qb), .val (.int qc), .val (.int qp), .val (.int qq), .val (.int (0 : Int32)), .val (.int (0 : Int32)), .val (.int (1 : Int32)), .val (.ref b1), .val (.int (1 : Int32)), .unset] [(.int qq), (.int qq), (.ref b1)]))
      have f19 : Old Z n0 T12.heap := (f11.keep K12 (allS gn1 all0))
      obtain ⟨cq20, kq20, q20a, q20b, q20c⟩ := isOf hZ e16 c12_1
      obtain ⟨_, _, ⟨T20, L20, k20, n20⟩, -, X20, ⟨Lc20, hQ20, l20, y20, z20⟩, st20⟩ := X16.virtualBack hx (y := (⟨"com/example/tree_automata_reducer/treeautomatareducer/reduce/PairStack", "push", "(II)V"⟩ : MethodName)) (z := (⟨"com/example/tree_automata_reducer/treeautomatareducer/reduce/PairStack", "push", "(II)V"⟩ : MethodName)) hown (mvT hZ (hw _ (List.mem_of_getElem? (i := 48) rfl))) (mvT hZ (hw _ (List.mem_of_getElem? (i := 49) rfl))) (notFace_of_selects (args := #[]) (mvT hZ (hw _ (List.mem_of_getElem? (i := 51) rfl)))) (mvT hZ (hw _ (List.mem_of_getElem? (i := 51) rfl))) (mvT hZ (hw _ (List.mem_of_getElem? (i := 50) rfl))) (by decide) (backOf (W := 0) (rmpA l Z aZ hw [] b1 qq qq w0 l0_12 T12.heap n0 z14 f19 S_1 A_2 c12_1 c12_2 c12_3 c12_4 c12_5 c12_6 c12_7 c12_8 c12_9 c12_10 c12_11 c12_12 c12_13 gn1 gn12_0) hZ (hw _ (List.mem_of_getElem? (i := 52) rfl)) (hw _ (List.mem_of_getElem? (i := 3) rfl)) (by decide) (by decide)) q20a q20c (g := (mkF m 126 #[.val (.int qa), .val (.int qb), .val (.int qc), .val (.int qp), .val (.int qq), .val (.int (0 : Int32)), .val (.int (0 : Int32)), .val (.int (1 : Int32)), .val (.ref b1), .val (.int (1 : Int32)), .unset] [(.int qq), (.int qq), (.ref b1)])) rfl (by rw [hml]; rfl) (Steps.refl _) (argsL := [(.int qq), (.int qq)]) (rest := []) (lenOf pd_10 rfl) rfl (by show 2 * 0 + _ ≤ _; exact Nat.le_of_eq rfl) (hb hby at_126) (fun _ _ => ⟨rfl, e16, (by decide : 2 + 2 ≤ _), (by decide : 10 + 32778 ≤ _)⟩)
      dsimp only [Pt.U, Pt.locs, Pt.cells, Pt.slots] at X20 l20 y20 z20 st20 hQ20
      subst l20 y20 z20
      obtain ⟨b_20, f2_20, rfl, Nq20, K20, c20_0, c20_1, c20_2, c20_3, c20_4, c20_5, c20_6, c20_7, c20_8⟩ := hQ20
      have N20 := Fr.app N16 Nq20
      refine Go.tr st20 ?_
      have ne21 : b1 ≠ b_20 := Nat.ne_of_lt (Nat.lt_of_lt_of_le c12_1.lt c20_0)
      have ne22 : l0_12 ≠ b_20 := Nat.ne_of_lt (Nat.lt_of_lt_of_le c12_9.lt c20_0)
      have gn20_0 : n0 ≤ b_20 := Nat.le_trans z14 c20_0
      have sz20_0 : h0.size ≤ b_20 := Nat.le_trans sqz14 c20_0
      have z23 : n0 ≤ T20.heap.size := Nat.le_trans z14 K20.1
      have sqz23 : h0.size ≤ T20.heap.size := Nat.le_trans sqz14 K20.1
      show Go _ _ _ _ _ _ _ (T20.setTop (mkF m 129 #[.val (.int qa), .val (.int qb), .val (.int qc), .val (.int qp), .val (.int qq), .val (.int (0 : Int32)), .val (.int (0 : Int32)), .val (.int (1 : Int32)), .val (.ref b1), .val (.int (1 : Int32)), .unset] []))
      refine Go.step (fun _ k => XS.iload X20.here hx rfl (hb hby at_129) rfl  k) ?_
      show Go _ _ _ _ _ _ _ (T20.setTop (mkF m 131 #[.val (.int qa), .val (.int qb), .val (.int qc), .val (.int qp), .val (.int qq), .val (.int (0 : Int32)), .val (.int (0 : Int32)), .val (.int (1 : Int32)), .val (.ref b1), .val (.int (1 : Int32)), .unset] [(.int (0 : Int32))]))
      refine Go.step (fun _ k => XS.iload X20.here hx rfl (hb hby at_131) rfl  k) ?_
      show Go _ _ _ _ _ _ _ (T20.setTop (mkF m 133 #[.val (.int qa), .val (.int qb), .val (.int qc), .val (.int qp), .val (.int qq), .val (.int (0 : Int32)), .val (.int (0 : Int32)), .val (.int (1 : Int32)), .val (.ref b1), .val (.int (1 : Int32)), .unset] [(.int (0 : Int32)), (.int (0 : Int32))]))
      refine Go.step (fun _ k => XS.isub X20.here hx rfl (hb hby at_133) rfl k) ?_
      show Go _ _ _ _ _ _ _ (T20.setTop (mkF m 134 #[.val (.int qa), .val (.int qb), .val (.int qc), .val (.int qp), .val (.int qq), .val (.int (0 : Int32)), .val (.int (0 : Int32)), .val (.int (1 : Int32)), .val (.ref b1), .val (.int (1 : Int32)), .unset] [(.int (0 : Int32))]))
      refine Go.step (fun _ k => XS.iload X20.here hx rfl (hb hby at_134) rfl  k) ?_
      show Go _ _ _ _ _ _ _ (T20.setTop (mkF m 136 #[.val (.int qa), .val (.int qb), .val (.int qc), .val (.int qp), .val (.int qq), .val (.int (0 : Int32)), .val (.int (0 : Int32)), .val (.int (1 : Int32)), .val (.ref b1), .val (.int (1 : Int32)), .unset] [(.int (1 : Int32)), (.int (0 : Int32))]))
      refine Go.step (fun _ k => XS.iadd X20.here hx rfl (hb hby at_136) rfl k) ?_
      show Go _ _ _ _ _ _ _ (T20.setTop (mkF m 137 #[.val (.int qa), .val (.int qb), .val (.int qc), .val (.int qp), .val (.int qq), .val (.int (0 : Int32)), .val (.int (0 : Int32)), .val (.int (1 : Int32)), .val (.ref b1), .val (.int (1 : Int32)), .unset] [(.int (1 : Int32))]))
      have hc137 : ¬ ((1 : Int32) = (0 : Int32)) := by decide
      refine Go.step (fun _ k => XS.ifYes X20.here hx rfl (pc0 := 137) (pc' := 144) rfl (hb hby at_137) rfl ((if0 _ _).trans (feq hc137).2) (by decide) (by decide) k) ?_
      show Go _ _ _ _ _ _ _ (T20.setTop (mkF m 144 #[.val (.int qa), .val (.int qb), .val (.int qc), .val (.int qp), .val (.int qq), .val (.int (0 : Int32)), .val (.int (0 : Int32)), .val (.int (1 : Int32)), .val (.ref b1), .val (.int (1 : Int32)), .unset] []))
      refine Go.step (fun _ k => XS.iconst X20.here hx rfl (hb hby at_144) k) ?_
      show Go _ _ _ _ _ _ _ (T20.setTop (mkF m 145 #[.val (.int qa), .val (.int qb), .val (.int qc), .val (.int qp), .val (.int qq), .val (.int (0 : Int32)), .val (.int (0 : Int32)), .val (.int (1 : Int32)), .val (.ref b1), .val (.int (1 : Int32)), .unset] [(.int (0 : Int32))]))
      refine Go.step (fun _ k => XS.istore X20.here hx rfl (hb hby at_145) rfl (l' := #[.val (.int qa), .val (.int qb), .val (.int qc), .val (.int qp), .val (.int qq), .val (.int (0 : Int32)), .val (.int (0 : Int32)), .val (.int (1 : Int32)), .val (.ref b1), .val (.int (1 : Int32)), .val (.int (0 : Int32))]) rfl k) ?_
      show Go _ _ _ _ _ _ _ (T20.setTop (mkF m 147 #[.val (.int qa), .val (.int qb), .val (.int qc), .val (.int qp), .val (.int qq), .val (.int (0 : Int32)), .val (.int (0 : Int32)), .val (.int (1 : Int32)), .val (.ref b1), .val (.int (1 : Int32)), .val (.int (0 : Int32))] []))
      refine Go.step (fun _ k => XS.iload X20.here hx rfl (hb hby at_147) rfl  k) ?_
      show Go _ _ _ _ _ _ _ (T20.setTop (mkF m 149 #[.val (.int qa), .val (.int qb), .val (.int qc), .val (.int qp), .val (.int qq), .val (.int (0 : Int32)), .val (.int (0 : Int32)), .val (.int (1 : Int32)), .val (.ref b1), .val (.int (1 : Int32)), .val (.int (0 : Int32))] [(.int (1 : Int32))]))
      have hc149 : ¬ ((1 : Int32) = (0 : Int32)) := hc137
      refine Go.step (fun _ k => XS.ifNo X20.here hx rfl (hb hby at_149) rfl ((if0 _ _).trans (feq hc149).1) k) ?_
      show Go _ _ _ _ _ _ _ (T20.setTop (mkF m 152 #[.val (.int qa), .val (.int qb), .val (.int qc), .val (.int qp), .val (.int qq), .val (.int (0 : Int32)), .val (.int (0 : Int32)), .val (.int (1 : Int32)), .val (.ref b1), .val (.int (1 : Int32)), .val (.int (0 : Int32))] []))
      refine Go.step (fun _ k => XS.aload X20.here hx rfl (hb hby at_152) rfl rfl  k) ?_
      show Go _ _ _ _ _ _ _ (T20.setTop (mkF m 154 #[.val (.int qa), .val (.int qb), .val (.int qc), .val (.int qp), .val (.int qq), .val (.int (0 : Int32)), .val (.int (0 : Int32)), .val (.int (1 : Int32)), .val (.ref b1), .val (.int (1 : Int32)), .val (.int (0 : Int32))] [(.ref b1)]))
      obtain ⟨cq25, kq25, q25a, q25b, q25c⟩ := isOf hZ rfl c20_1
      obtain ⟨_, _, ⟨T25, L25, k25, n25⟩, -, X25, ⟨Lc25, hQ25, l25, y25, z25⟩, st25⟩ := X20.virtualBack hx (y := (⟨"com/example/tree_automata_reducer/treeautomatareducer/reduce/PairStack", "isEmpty", "()Z"⟩ : MethodName)) (z := (⟨"com/example/tree_automata_reducer/treeautomatareducer/reduce/PairStack", "isEmpty", "()Z"⟩ : MethodName)) hown (mvT hZ (hw _ (List.mem_of_getElem? (i := 41) rfl))) (mvT hZ (hw _ (List.mem_of_getElem? (i := 42) rfl))) (notFace_of_selects (args := #[]) (mvT hZ (hw _ (List.mem_of_getElem? (i := 44) rfl)))) (mvT hZ (hw _ (List.mem_of_getElem? (i := 44) rfl))) (mvT hZ (hw _ (List.mem_of_getElem? (i := 43) rfl))) (by decide) (backOf (W := 0) (rm6 l Z aZ hw [] b1 (1 : Int64) T20.heap n0 z23 c20_2) hZ (hw _ (List.mem_of_getElem? (i := 45) rfl)) (hw _ (List.mem_of_getElem? (i := 3) rfl)) (by decide) (by decide)) q25a q25c (g := (mkF m 154 #[.val (.int qa), .val (.int qb), .val (.int qc), .val (.int qp), .val (.int qq), .val (.int (0 : Int32)), .val (.int (0 : Int32)), .val (.int (1 : Int32)), .val (.ref b1), .val (.int (1 : Int32)), .val (.int (0 : Int32))] [(.ref b1)])) rfl (by rw [hml]; rfl) (Steps.refl _) (argsL := []) (rest := []) (lenOf pd_9 rfl) rfl (by show 2 * 0 + _ ≤ _; exact Nat.le_of_eq rfl) (hb hby at_154) (fun _ _ => ⟨rfl, rfl, (by decide : 4 + 0 ≤ _), (by decide : 32788 + 0 ≤ _)⟩)
      dsimp only [Pt.U, Pt.locs, Pt.cells, Pt.slots] at X25 l25 y25 z25 st25 hQ25
      subst l25 y25 z25
      obtain ⟨rfl, Nq25, e25⟩ := hQ25
      have N25 := Fr.app N20 Nq25
      refine Go.tr st25 ?_
      show Go _ _ _ _ _ _ _ (T25.setTop (mkF m 157 #[.val (.int qa), .val (.int qb), .val (.int qc), .val (.int qp), .val (.int qq), .val (.int (0 : Int32)), .val (.int (0 : Int32)), .val (.int (1 : Int32)), .val (.ref b1), .val (.int (1 : Int32)), .val (.int (0 : Int32))] [(.int (if (1 : Int64) = 0 then (1 : Int32) else 0))]))
      refine Go.step (fun _ k => XS.iload X25.here hx rfl (hb hby at_157) rfl  k) ?_
      show Go _ _ _ _ _ _ _ (T25.setTop (mkF m 159 #[.val (.int qa), .val (.int qb), .val (.int qc), .val (.int qp), .val (.int qq), .val (.int (0 : Int32)), .val (.int (0 : Int32)), .val (.int (1 : Int32)), .val (.ref b1), .val (.int (1 : Int32)), .val (.int (0 : Int32))] [(.int (0 : Int32)), (.int (if (1 : Int64) = 0 then (1 : Int32) else 0))]))
      have hc159 : (if (1 : Int64) = 0 then (1 : Int32) else 0) = (0 : Int32) := by decide
      refine Go.step (fun _ k => XS.icmpNo X25.here hx rfl (hb hby at_159) rfl (teq hc159).2 k) ?_
      show Go _ _ _ _ _ _ _ (T25.setTop (mkF m 162 #[.val (.int qa), .val (.int qb), .val (.int qc), .val (.int qp), .val (.int qq), .val (.int (0 : Int32)), .val (.int (0 : Int32)), .val (.int (1 : Int32)), .val (.ref b1), .val (.int (1 : Int32)), .val (.int (0 : Int32))] []))
      refine Go.step (fun _ k => XS.iconst X25.here hx rfl (hb hby at_162) k) ?_
      show Go _ _ _ _ _ _ _ (T25.setTop (mkF m 163 #[.val (.int qa), .val (.int qb), .val (.int qc), .val (.int qp), .val (.int qq), .val (.int (0 : Int32)), .val (.int (0 : Int32)), .val (.int (1 : Int32)), .val (.ref b1), .val (.int (1 : Int32)), .val (.int (0 : Int32))] [(.int (1 : Int32))]))
      refine Go.step (fun _ k => XS.goto X25.here hx rfl (pc0 := 163) (pc' := 167) rfl (hb hby at_163) (by decide) (by decide) k) ?_
      show Go _ _ _ _ _ _ _ (T25.setTop (mkF m 167 #[.val (.int qa), .val (.int qb), .val (.int qc), .val (.int qp), .val (.int qq), .val (.int (0 : Int32)), .val (.int (0 : Int32)), .val (.int (1 : Int32)), .val (.ref b1), .val (.int (1 : Int32)), .val (.int (0 : Int32))] [(.int (1 : Int32))]))
      refine Go.retN X25 hx (t := .boolean) Bd.returns (by simp) hlk (hb hby at_167) ?_ (by decide) (by decide)
      rw [e25]
      exact ⟨(by first | rfl | (simp_all [own_nb1, own_nb0]; done)), N25⟩
  · skip
    subst h1 h2
    show Go _ _ _ _ _ _ _ (s₁.setTop (mkF m 21 #[.val (.int qa), .val (.int qb), .val (.int qc), .val (.int qp), .val (.int qq), .val (.int (1 : Int32)), .val (.int (0 : Int32)), .val (.int kq), .unset, .unset, .unset] []))
    obtain ⟨T26, h26, X26, e26, E26, A26, D26, -, st26⟩ := newO X0 hx hZ hown (hw _ (List.mem_of_getElem? (i := 1) rfl)) (hw _ (List.mem_of_getElem? (i := 2) rfl)) (hw _ (List.mem_of_getElem? (i := 3) rfl)) e0 (g := (mkF m 21 #[.val (.int qa), .val (.int qb), .val (.int qc), .val (.int qp), .val (.int qq), .val (.int (1 : Int32)), .val (.int (0 : Int32)), .val (.int kq), .unset, .unset, .unset] [])) rfl (hb hby at_21) (by decide) (by decide)
    obtain ⟨b26, g26⟩ : ∃ z, z = h0.size := ⟨_, rfl⟩
    rw [← g26] at A26 D26 st26
    refine Go.step st26 ?_
    have gn26 : n0 ≤ b26 := Nat.le_trans Z0 (Nat.le_of_eq g26.symm)
    have sz26 : h0.size ≤ b26 := Nat.le_trans sq0 (Nat.le_of_eq g26.symm)
    have z27 : n0 ≤ h26.size := Nat.le_trans Z0 E26.1
    have sqz27 : h0.size ≤ h26.size := Nat.le_trans sq0 E26.1
    have f29 : Fld Z h26 b26 "com/example/tree_automata_reducer/treeautomatareducer/reduce/PairStack" "blocks" "Ljava/util/List;" .null := D26 (Or.inr (hw _ (List.mem_of_getElem? (i := 35) rfl))) (ty := (.object "java/util/List")) (by decide)
    have f30 : Fld Z h26 b26 "com/example/tree_automata_reducer/treeautomatareducer/reduce/PairStack" "blockNumber" "I" (.int (0 : Int32)) := D26 (Or.inl (hw _ (List.mem_of_getElem? (i := 37) rfl))) (ty := .int) (by decide)
    have f31 : Fld Z h26 b26 "com/example/tree_automata_reducer/treeautomatareducer/reduce/PairStack" "inBlock" "I" (.int (0 : Int32)) := D26 (Or.inl (hw _ (List.mem_of_getElem? (i := 40) rfl))) (ty := .int) (by decide)
    have f32 : Fld Z h26 b26 "com/example/tree_automata_reducer/treeautomatareducer/reduce/PairStack" "size" "J" (.long (0 : Int64)) := D26 (Or.inl (hw _ (List.mem_of_getElem? (i := 47) rfl))) (ty := .long) (by decide)
    have f33 : Fld Z h26 b26 "com/example/tree_automata_reducer/treeautomatareducer/reduce/PairStack" "block" "[J" .null := D26 (Or.inl (hw _ (List.mem_of_getElem? (i := 121) rfl))) (ty := (.array .long)) (by decide)
    have f34 : Fld Z h26 b26 "com/example/tree_automata_reducer/treeautomatareducer/reduce/PairStack" "first" "I" (.int (0 : Int32)) := D26 (Or.inl (hw _ (List.mem_of_getElem? (i := 129) rfl))) (ty := .int) (by decide)
    have f35 : Fld Z h26 b26 "com/example/tree_automata_reducer/treeautomatareducer/reduce/PairStack" "second" "I" (.int (0 : Int32)) := D26 (Or.inl (hw _ (List.mem_of_getElem? (i := 131) rfl))) (ty := .int) (by decide)
    show Go _ _ _ _ _ _ _ (T26.setTop (mkF m 24 #[.val (.int qa), .val (.int qb), .val (.int qc), .val (.int qp), .val (.int qq), .val (.int (1 : Int32)), .val (.int (0 : Int32)), .val (.int kq), .unset, .unset, .unset] [(.ref b26)]))
    refine Go.step (fun _ k => XS.dup X26.here hx rfl (hb hby at_24) rfl rfl k) ?_
    show Go _ _ _ _ _ _ _ (T26.setTop (mkF m 25 #[.val (.int qa), .val (.int qb), .val (.int qc), .val (.int qp), .val (.int qq), .val (.int (1 : Int32)), .val (.int (0 : Int32)), .val (.int kq), .unset, .unset, .unset] [(.ref b26), (.ref b26)]))
    have f36 : Old Z n0 h26 := (O_0.ext E26)
    obtain ⟨_, _, ⟨T37, L37, k37, n37⟩, -, X37, ⟨Lc37, hQ37, l37, y37, z37⟩, st37⟩ := X26.specialBack hx (y := (⟨"com/example/tree_automata_reducer/treeautomatareducer/reduce/PairStack", "<init>", "()V"⟩ : MethodName)) rfl hown (mvT hZ (hw _ (List.mem_of_getElem? (i := 4) rfl))) (mvT hZ (hw _ (List.mem_of_getElem? (i := 5) rfl))) (mvT hZ (hw _ (List.mem_of_getElem? (i := 6) rfl))) (by decide) (backOf (W := 1) (rm1 l Z aZ hw [] b26 w0 h26 n0 z27 f36 S_1 A26 f29 f32 f33 f30 f31 f34 f35 gn26) hZ (hw _ (List.mem_of_getElem? (i := 6) rfl)) (hw _ (List.mem_of_getElem? (i := 3) rfl)) (by decide) (by decide)) (g := (mkF m 25 #[.val (.int qa), .val (.int qb), .val (.int qc), .val (.int qp), .val (.int qq), .val (.int (1 : Int32)), .val (.int (0 : Int32)), .val (.int kq), .unset, .unset, .unset] [(.ref b26), (.ref b26)])) rfl (by rw [hml]; rfl) (Steps.refl _) (a := b26) (argsL := []) (rest := [(.ref b26)]) (lenOf pd_0 rfl) rfl (by show 2 * 0 + _ ≤ _; exact Nat.le_of_eq rfl) (hb hby at_25) (fun _ _ => ⟨rfl, e26, (by decide : 1 + 1 ≤ _), (by decide : 7 + 3 ≤ _)⟩)
    dsimp only [Pt.U, Pt.locs, Pt.cells, Pt.slots] at X37 l37 y37 z37 st37 hQ37
    subst l37 y37 z37
    obtain ⟨l0_37, rfl, Nq37, K37, c37_0, c37_1, c37_2, c37_3, c37_4, c37_5, c37_6, c37_7, c37_8, c37_9, c37_10, c37_11, c37_12, c37_13⟩ := hQ37
    have N37 := Fr.app N0 Nq37
    refine Go.tr st37 ?_
    have ne38 : b26 ≠ l0_37 := Nat.ne_of_lt (Nat.lt_of_lt_of_le A26.lt c37_0)
    have gn37_0 : n0 ≤ l0_37 := Nat.le_trans z27 c37_0
    have sz37_0 : h0.size ≤ l0_37 := Nat.le_trans sqz27 c37_0
    have z39 : n0 ≤ T37.heap.size := Nat.le_trans z27 K37.1
    have sqz39 : h0.size ≤ T37.heap.size := Nat.le_trans sqz27 K37.1
    show Go _ _ _ _ _ _ _ (T37.setTop (mkF m 28 #[.val (.int qa), .val (.int qb), .val (.int qc), .val (.int qp), .val (.int qq), .val (.int (1 : Int32)), .val (.int (0 : Int32)), .val (.int kq), .unset, .unset, .unset] [(.ref b26)]))
    refine Go.step (fun _ k => XS.astore X37.here hx rfl (hb hby at_28) rfl rfl (l' := #[.val (.int qa), .val (.int qb), .val (.int qc), .val (.int qp), .val (.int qq), .val (.int (1 : Int32)), .val (.int (0 : Int32)), .val (.int kq), .val (.ref b26), .unset, .unset]) rfl k) ?_
    show Go _ _ _ _ _ _ _ (T37.setTop (mkF m 30 #[.val (.int qa), .val (.int qb), .val (.int qc), .val (.int qp), .val (.int qq), .val (.int (1 : Int32)), .val (.int (0 : Int32)), .val (.int kq), .val (.ref b26), .unset, .unset] []))
    refine Go.step (fun _ k => XS.aload X37.here hx rfl (hb hby at_30) rfl rfl  k) ?_
    show Go _ _ _ _ _ _ _ (T37.setTop (mkF m 32 #[.val (.int qa), .val (.int qb), .val (.int qc), .val (.int qp), .val (.int qq), .val (.int (1 : Int32)), .val (.int (0 : Int32)), .val (.int kq), .val (.ref b26), .unset, .unset] [(.ref b26)]))
    obtain ⟨cq41, kq41, q41a, q41b, q41c⟩ := isOf hZ rfl c37_1
    obtain ⟨_, _, ⟨T41, L41, k41, n41⟩, -, X41, ⟨Lc41, hQ41, l41, y41, z41⟩, st41⟩ := X37.virtualBack hx (y := (⟨"com/example/tree_automata_reducer/treeautomatareducer/reduce/PairStack", "isEmpty", "()Z"⟩ : MethodName)) (z := (⟨"com/example/tree_automata_reducer/treeautomatareducer/reduce/PairStack", "isEmpty", "()Z"⟩ : MethodName)) hown (mvT hZ (hw _ (List.mem_of_getElem? (i := 41) rfl))) (mvT hZ (hw _ (List.mem_of_getElem? (i := 42) rfl))) (notFace_of_selects (args := #[]) (mvT hZ (hw _ (List.mem_of_getElem? (i := 44) rfl)))) (mvT hZ (hw _ (List.mem_of_getElem? (i := 44) rfl))) (mvT hZ (hw _ (List.mem_of_getElem? (i := 43) rfl))) (by decide) (backOf (W := 0) (rm6 l Z aZ hw [] b26 (0 : Int64) T37.heap n0 z39 c37_3) hZ (hw _ (List.mem_of_getElem? (i := 45) rfl)) (hw _ (List.mem_of_getElem? (i := 3) rfl)) (by decide) (by decide)) q41a q41c (g := (mkF m 32 #[.val (.int qa), .val (.int qb), .val (.int qc), .val (.int qp), .val (.int qq), .val (.int (1 : Int32)), .val (.int (0 : Int32)), .val (.int kq), .val (.ref b26), .unset, .unset] [(.ref b26)])) rfl (by rw [hml]; rfl) (Steps.refl _) (argsL := []) (rest := []) (lenOf pd_9 rfl) rfl (by show 2 * 0 + _ ≤ _; exact Nat.le_of_eq rfl) (hb hby at_32) (fun _ _ => ⟨rfl, rfl, (by decide : 2 + 0 ≤ _), (by decide : 10 + 0 ≤ _)⟩)
    dsimp only [Pt.U, Pt.locs, Pt.cells, Pt.slots] at X41 l41 y41 z41 st41 hQ41
    subst l41 y41 z41
    obtain ⟨rfl, Nq41, e41⟩ := hQ41
    have N41 := Fr.app N37 Nq41
    refine Go.tr st41 ?_
    show Go _ _ _ _ _ _ _ (T41.setTop (mkF m 35 #[.val (.int qa), .val (.int qb), .val (.int qc), .val (.int qp), .val (.int qq), .val (.int (1 : Int32)), .val (.int (0 : Int32)), .val (.int kq), .val (.ref b26), .unset, .unset] [(.int (if (0 : Int64) = 0 then (1 : Int32) else 0))]))
    have sv42 : (if (0 : Int64) = 0 then (1 : Int32) else 0) = (1 : Int32) := if_pos rfl
    rw [sv42]
    show Go _ _ _ _ _ _ _ (T41.setTop (mkF m 35 #[.val (.int qa), .val (.int qb), .val (.int qc), .val (.int qp), .val (.int qq), .val (.int (1 : Int32)), .val (.int (0 : Int32)), .val (.int kq), .val (.ref b26), .unset, .unset] [(.int (1 : Int32))]))
    refine Go.step (fun _ k => XS.istore X41.here hx rfl (hb hby at_35) rfl (l' := #[.val (.int qa), .val (.int qb), .val (.int qc), .val (.int qp), .val (.int qq), .val (.int (1 : Int32)), .val (.int (0 : Int32)), .val (.int kq), .val (.ref b26), .val (.int (1 : Int32)), .unset]) rfl k) ?_
    show Go _ _ _ _ _ _ _ (T41.setTop (mkF m 37 #[.val (.int qa), .val (.int qb), .val (.int qc), .val (.int qp), .val (.int qq), .val (.int (1 : Int32)), .val (.int (0 : Int32)), .val (.int kq), .val (.ref b26), .val (.int (1 : Int32)), .unset] []))
    refine Go.step (fun _ k => XS.iload X41.here hx rfl (hb hby at_37) rfl  k) ?_
    show Go _ _ _ _ _ _ _ (T41.setTop (mkF m 39 #[.val (.int qa), .val (.int qb), .val (.int qc), .val (.int qp), .val (.int qq), .val (.int (1 : Int32)), .val (.int (0 : Int32)), .val (.int kq), .val (.ref b26), .val (.int (1 : Int32)), .unset] [(.int (1 : Int32))]))
    refine Go.step (fun _ k => XS.iconst X41.here hx rfl (hb hby at_39) k) ?_
    show Go _ _ _ _ _ _ _ (T41.setTop (mkF m 40 #[.val (.int qa), .val (.int qb), .val (.int qc), .val (.int qp), .val (.int qq), .val (.int (1 : Int32)), .val (.int (0 : Int32)), .val (.int kq), .val (.ref b26), .val (.int (1 : Int32)), .unset] [(.int (1 : Int32)), (.int (1 : Int32))]))
    have hc40 : ¬ ((1 : Int32) < (1 : Int32)) := by decide
    refine Go.step (fun _ k => XS.icmpNo X41.here hx rfl (hb hby at_40) rfl (flt hc40).1 k) ?_
    show Go _ _ _ _ _ _ _ (T41.setTop (mkF m 43 #[.val (.int qa), .val (.int qb), .val (.int qc), .val (.int qp), .val (.int qq), .val (.int (1 : Int32)), .val (.int (0 : Int32)), .val (.int kq), .val (.ref b26), .val (.int (1 : Int32)), .unset] []))
    refine Go.step (fun _ k => XS.aload X41.here hx rfl (hb hby at_43) rfl rfl  k) ?_
    show Go _ _ _ _ _ _ _ (T41.setTop (mkF m 45 #[.val (.int qa), .val (.int qb), .val (.int qc), .val (.int qp), .val (.int qq), .val (.int (1 : Int32)), .val (.int (0 : Int32)), .val (.int kq), .val (.ref b26), .val (.int (1 : Int32)), .unset] [(.ref b26)]))
    refine Go.step (fun _ k => XS.iloadN X41.here hx rfl (hb hby at_45) rfl  k) ?_
    show Go _ _ _ _ _ _ _ (T41.setTop (mkF m 46 #[.val (.int qa), .val (.int qb), .val (.int qc), .val (.int qp), .val (.int qq), .val (.int (1 : Int32)), .val (.int (0 : Int32)), .val (.int kq), .val (.ref b26), .val (.int (1 : Int32)), .unset] [(.int qp), (.ref b26)]))
    refine Go.step (fun _ k => XS.iload X41.here hx rfl (hb hby at_46) rfl  k) ?_
    show Go _ _ _ _ _ _ _ (T41.setTop (mkF m 48 #[.val (.int qa), .val (.int qb), .val (.int qc), .val (.int qp), .val (.int qq), .val (.int (1 : Int32)), .val (.int (0 : Int32)), .val (.int kq), .val (.ref b26), .val (.int (1 : Int32)), .unset] [(.int qq), (.int qp), (.ref b26)]))
    have f43 : Old Z n0 T37.heap := (f36.keep K37 (allS gn26 all0))
    obtain ⟨cq44, kq44, q44a, q44b, q44c⟩ := isOf hZ e41 c37_1
    obtain ⟨_, _, ⟨T44, L44, k44, n44⟩, -, X44, ⟨Lc44, hQ44, l44, y44, z44⟩, st44⟩ := X41.virtualBack hx (y := (⟨"com/example/tree_automata_reducer/treeautomatareducer/reduce/PairStack", "push", "(II)V"⟩ : MethodName)) (z := (⟨"com/example/tree_automata_reducer/treeautomatareducer/reduce/PairStack", "push", "(II)V"⟩ : MethodName)) hown (mvT hZ (hw _ (List.mem_of_getElem? (i := 48) rfl))) (mvT hZ (hw _ (List.mem_of_getElem? (i := 49) rfl))) (notFace_of_selects (args := #[]) (mvT hZ (hw _ (List.mem_of_getElem? (i := 51) rfl)))) (mvT hZ (hw _ (List.mem_of_getElem? (i := 51) rfl))) (mvT hZ (hw _ (List.mem_of_getElem? (i := 50) rfl))) (by decide) (backOf (W := 0) (rmpA l Z aZ hw [] b26 qp qq w0 l0_37 T37.heap n0 z39 f43 S_1 A_2 c37_1 c37_2 c37_3 c37_4 c37_5 c37_6 c37_7 c37_8 c37_9 c37_10 c37_11 c37_12 c37_13 gn26 gn37_0) hZ (hw _ (List.mem_of_getElem? (i := 52) rfl)) (hw _ (List.mem_of_getElem? (i := 3) rfl)) (by decide) (by decide)) q44a q44c (g := (mkF m 48 #[.val (.int qa), .val (.int qb), .val (.int qc), .val (.int qp), .val (.int qq), .val (.int (1 : Int32)), .val (.int (0 : Int32)), .val (.int kq), .val (.ref b26), .val (.int (1 : Int32)), .unset] [(.int qq), (.int qp), (.ref b26)])) rfl (by rw [hml]; rfl) (Steps.refl _) (argsL := [(.int qp), (.int qq)]) (rest := []) (lenOf pd_10 rfl) rfl (by show 2 * 0 + _ ≤ _; exact Nat.le_of_eq rfl) (hb hby at_48) (fun _ _ => ⟨rfl, e41, (by decide : 2 + 2 ≤ _), (by decide : 10 + 32778 ≤ _)⟩)
    dsimp only [Pt.U, Pt.locs, Pt.cells, Pt.slots] at X44 l44 y44 z44 st44 hQ44
    subst l44 y44 z44
    obtain ⟨b_44, f2_44, rfl, Nq44, K44, c44_0, c44_1, c44_2, c44_3, c44_4, c44_5, c44_6, c44_7, c44_8⟩ := hQ44
    have N44 := Fr.app N41 Nq44
    refine Go.tr st44 ?_
    have ne45 : b26 ≠ b_44 := Nat.ne_of_lt (Nat.lt_of_lt_of_le c37_1.lt c44_0)
    have ne46 : l0_37 ≠ b_44 := Nat.ne_of_lt (Nat.lt_of_lt_of_le c37_9.lt c44_0)
    have gn44_0 : n0 ≤ b_44 := Nat.le_trans z39 c44_0
    have sz44_0 : h0.size ≤ b_44 := Nat.le_trans sqz39 c44_0
    have z47 : n0 ≤ T44.heap.size := Nat.le_trans z39 K44.1
    have sqz47 : h0.size ≤ T44.heap.size := Nat.le_trans sqz39 K44.1
    show Go _ _ _ _ _ _ _ (T44.setTop (mkF m 51 #[.val (.int qa), .val (.int qb), .val (.int qc), .val (.int qp), .val (.int qq), .val (.int (1 : Int32)), .val (.int (0 : Int32)), .val (.int kq), .val (.ref b26), .val (.int (1 : Int32)), .unset] []))
    refine Go.step (fun _ k => XS.iload X44.here hx rfl (hb hby at_51) rfl  k) ?_
    show Go _ _ _ _ _ _ _ (T44.setTop (mkF m 53 #[.val (.int qa), .val (.int qb), .val (.int qc), .val (.int qp), .val (.int qq), .val (.int (1 : Int32)), .val (.int (0 : Int32)), .val (.int kq), .val (.ref b26), .val (.int (1 : Int32)), .unset] [(.int (1 : Int32))]))
    refine Go.step (fun _ k => XS.iconst X44.here hx rfl (hb hby at_53) k) ?_
    show Go _ _ _ _ _ _ _ (T44.setTop (mkF m 54 #[.val (.int qa), .val (.int qb), .val (.int qc), .val (.int qp), .val (.int qq), .val (.int (1 : Int32)), .val (.int (0 : Int32)), .val (.int kq), .val (.ref b26), .val (.int (1 : Int32)), .unset] [(.int (2 : Int32)), (.int (1 : Int32))]))
    have hc54 : (1 : Int32) < (2 : Int32) := by decide
    refine Go.step (fun _ k => XS.icmpYes X44.here hx rfl (pc0 := 54) (pc' := 65) rfl (hb hby at_54) rfl (tlt hc54).1 (by decide) (by decide) k) ?_
    show Go _ _ _ _ _ _ _ (T44.setTop (mkF m 65 #[.val (.int qa), .val (.int qb), .val (.int qc), .val (.int qp), .val (.int qq), .val (.int (1 : Int32)), .val (.int (0 : Int32)), .val (.int kq), .val (.ref b26), .val (.int (1 : Int32)), .unset] []))
    refine Go.step (fun _ k => XS.iload X44.here hx rfl (hb hby at_65) rfl  k) ?_
    show Go _ _ _ _ _ _ _ (T44.setTop (mkF m 67 #[.val (.int qa), .val (.int qb), .val (.int qc), .val (.int qp), .val (.int qq), .val (.int (1 : Int32)), .val (.int (0 : Int32)), .val (.int kq), .val (.ref b26), .val (.int (1 : Int32)), .unset] [(.int (1 : Int32))]))
    refine Go.step (fun _ k => XS.iconst X44.here hx rfl (hb hby at_67) k) ?_
    show Go _ _ _ _ _ _ _ (T44.setTop (mkF m 68 #[.val (.int qa), .val (.int qb), .val (.int qc), .val (.int qp), .val (.int qq), .val (.int (1 : Int32)), .val (.int (0 : Int32)), .val (.int kq), .val (.ref b26), .val (.int (1 : Int32)), .unset] [(.int (3 : Int32)), (.int (1 : Int32))]))
    have hc68 : (1 : Int32) < (3 : Int32) := by decide
    refine Go.step (fun _ k => XS.icmpYes X44.here hx rfl (pc0 := 68) (pc' := 81) rfl (hb hby at_68) rfl (tlt hc68).1 (by decide) (by decide) k) ?_
    show Go _ _ _ _ _ _ _ (T44.setTop (mkF m 81 #[.val (.int qa), .val (.int qb), .val (.int qc), .val (.int qp), .val (.int qq), .val (.int (1 : Int32)), .val (.int (0 : Int32)), .val (.int kq), .val (.ref b26), .val (.int (1 : Int32)), .unset] []))
    refine Go.step (fun _ k => XS.iload X44.here hx rfl (hb hby at_81) rfl  k) ?_
    show Go _ _ _ _ _ _ _ (T44.setTop (mkF m 83 #[.val (.int qa), .val (.int qb), .val (.int qc), .val (.int qp), .val (.int qq), .val (.int (1 : Int32)), .val (.int (0 : Int32)), .val (.int kq), .val (.ref b26), .val (.int (1 : Int32)), .unset] [(.int (0 : Int32))]))
    refine Go.step (fun _ k => XS.iconst X44.here hx rfl (hb hby at_83) k) ?_
    show Go _ _ _ _ _ _ _ (T44.setTop (mkF m 84 #[.val (.int qa), .val (.int qb), .val (.int qc), .val (.int qp), .val (.int qq), .val (.int (1 : Int32)), .val (.int (0 : Int32)), .val (.int kq), .val (.ref b26), .val (.int (1 : Int32)), .unset] [(.int (1 : Int32)), (.int (0 : Int32))]))
    have hc84 : (0 : Int32) < (1 : Int32) := by decide
    refine Go.step (fun _ k => XS.icmpYes X44.here hx rfl (pc0 := 84) (pc' := 92) rfl (hb hby at_84) rfl (tlt hc84).1 (by decide) (by decide) k) ?_
    show Go _ _ _ _ _ _ _ (T44.setTop (mkF m 92 #[.val (.int qa), .val (.int qb), .val (.int qc), .val (.int qp), .val (.int qq), .val (.int (1 : Int32)), .val (.int (0 : Int32)), .val (.int kq), .val (.ref b26), .val (.int (1 : Int32)), .unset] []))
    refine Go.step (fun _ k => XS.iload X44.here hx rfl (hb hby at_92) rfl  k) ?_
    show Go _ _ _ _ _ _ _ (T44.setTop (mkF m 94 #[.val (.int qa), .val (.int qb), .val (.int qc), .val (.int qp), .val (.int qq), .val (.int (1 : Int32)), .val (.int (0 : Int32)), .val (.int kq), .val (.ref b26), .val (.int (1 : Int32)), .unset] [(.int (0 : Int32))]))
    refine Go.step (fun _ k => XS.iconst X44.here hx rfl (hb hby at_94) k) ?_
    show Go _ _ _ _ _ _ _ (T44.setTop (mkF m 95 #[.val (.int qa), .val (.int qb), .val (.int qc), .val (.int qp), .val (.int qq), .val (.int (1 : Int32)), .val (.int (0 : Int32)), .val (.int kq), .val (.ref b26), .val (.int (1 : Int32)), .unset] [(.int (2 : Int32)), (.int (0 : Int32))]))
    have hc95 : (0 : Int32) < (2 : Int32) := by decide
    refine Go.step (fun _ k => XS.icmpYes X44.here hx rfl (pc0 := 95) (pc' := 103) rfl (hb hby at_95) rfl (tlt hc95).1 (by decide) (by decide) k) ?_
    show Go _ _ _ _ _ _ _ (T44.setTop (mkF m 103 #[.val (.int qa), .val (.int qb), .val (.int qc), .val (.int qp), .val (.int qq), .val (.int (1 : Int32)), .val (.int (0 : Int32)), .val (.int kq), .val (.ref b26), .val (.int (1 : Int32)), .unset] []))
    refine Go.step (fun _ k => XS.iload X44.here hx rfl (hb hby at_103) rfl  k) ?_
    show Go _ _ _ _ _ _ _ (T44.setTop (mkF m 105 #[.val (.int qa), .val (.int qb), .val (.int qc), .val (.int qp), .val (.int qq), .val (.int (1 : Int32)), .val (.int (0 : Int32)), .val (.int kq), .val (.ref b26), .val (.int (1 : Int32)), .unset] [(.int (0 : Int32))]))
    refine Go.step (fun _ k => XS.iconst X44.here hx rfl (hb hby at_105) k) ?_
    show Go _ _ _ _ _ _ _ (T44.setTop (mkF m 106 #[.val (.int qa), .val (.int qb), .val (.int qc), .val (.int qp), .val (.int qq), .val (.int (1 : Int32)), .val (.int (0 : Int32)), .val (.int kq), .val (.ref b26), .val (.int (1 : Int32)), .unset] [(.int (3 : Int32)), (.int (0 : Int32))]))
    have hc106 : (0 : Int32) < (3 : Int32) := by decide
    refine Go.step (fun _ k => XS.icmpYes X44.here hx rfl (pc0 := 106) (pc' := 114) rfl (hb hby at_106) rfl (tlt hc106).1 (by decide) (by decide) k) ?_
    rcases hkq with h1 | h1
    · skip
      subst h1
      show Go _ _ _ _ _ _ _ (T44.setTop (mkF m 114 #[.val (.int qa), .val (.int qb), .val (.int qc), .val (.int qp), .val (.int qq), .val (.int (1 : Int32)), .val (.int (0 : Int32)), .val (.int (0 : Int32)), .val (.ref b26), .val (.int (1 : Int32)), .unset] []))
      refine Go.step (fun _ k => XS.iload X44.here hx rfl (hb hby at_114) rfl  k) ?_
      show Go _ _ _ _ _ _ _ (T44.setTop (mkF m 116 #[.val (.int qa), .val (.int qb), .val (.int qc), .val (.int qp), .val (.int qq), .val (.int (1 : Int32)), .val (.int (0 : Int32)), .val (.int (0 : Int32)), .val (.ref b26), .val (.int (1 : Int32)), .unset] [(.int (0 : Int32))]))
      refine Go.step (fun _ k => XS.iconst X44.here hx rfl (hb hby at_116) k) ?_
      show Go _ _ _ _ _ _ _ (T44.setTop (mkF m 117 #[.val (.int qa), .val (.int qb), .val (.int qc), .val (.int qp), .val (.int qq), .val (.int (1 : Int32)), .val (.int (0 : Int32)), .val (.int (0 : Int32)), .val (.ref b26), .val (.int (1 : Int32)), .unset] [(.int (1 : Int32)), (.int (0 : Int32))]))
      have hc117 : ¬ ((0 : Int32) = (1 : Int32)) := by decide
      refine Go.step (fun _ k => XS.icmpYes X44.here hx rfl (pc0 := 117) (pc' := 129) rfl (hb hby at_117) rfl (feq hc117).2 (by decide) (by decide) k) ?_
      show Go _ _ _ _ _ _ _ (T44.setTop (mkF m 129 #[.val (.int qa), .val (.int qb), .val (.int qc), .val (.int qp), .val (.int qq), .val (.int (1 : Int32)), .val (.int (0 : Int32)), .val (.int (0 : Int32)), .val (.ref b26), .val (.int (1 : Int32)), .unset] []))
      refine Go.step (fun _ k => XS.iload X44.here hx rfl (hb hby at_129) rfl  k) ?_
      show Go _ _ _ _ _ _ _ (T44.setTop (mkF m 131 #[.val (.int qa), .val (.int qb), .val (.int qc), .val (.int qp), .val (.int qq), .val (.int (1 : Int32)), .val (.int (0 : Int32)), .val (.int (0 : Int32)), .val (.ref b26), .val (.int (1 : Int32)), .unset] [(.int (1 : Int32))]))
      refine Go.step (fun _ k => XS.iload X44.here hx rfl (hb hby at_131) rfl  k) ?_
      show Go _ _ _ _ _ _ _ (T44.setTop (mkF m 133 #[.val (.int qa), .val (.int qb), .val (.int qc), .val (.int qp), .val (.int qq), .val (.int (1 : Int32)), .val (.int (0 : Int32)), .val (.int (0 : Int32)), .val (.ref b26), .val (.int (1 : Int32)), .unset] [(.int (0 : Int32)), (.int (1 : Int32))]))
      refine Go.step (fun _ k => XS.isub X44.here hx rfl (hb hby at_133) rfl k) ?_
      show Go _ _ _ _ _ _ _ (T44.setTop (mkF m 134 #[.val (.int qa), .val (.int qb), .val (.int qc), .val (.int qp), .val (.int qq), .val (.int (1 : Int32)), .val (.int (0 : Int32)), .val (.int (0 : Int32)), .val (.ref b26), .val (.int (1 : Int32)), .unset] [(.int (1 : Int32))]))
      refine Go.step (fun _ k => XS.iload X44.here hx rfl (hb hby at_134) rfl  k) ?_
      show Go _ _ _ _ _ _ _ (T44.setTop (mkF m 136 #[.val (.int qa), .val (.int qb), .val (.int qc), .val (.int qp), .val (.int qq), .val (.int (1 : Int32)), .val (.int (0 : Int32)), .val (.int (0 : Int32)), .val (.ref b26), .val (.int (1 : Int32)), .unset] [(.int (0 : Int32)), (.int (1 : Int32))]))
      refine Go.step (fun _ k => XS.iadd X44.here hx rfl (hb hby at_136) rfl k) ?_
      show Go _ _ _ _ _ _ _ (T44.setTop (mkF m 137 #[.val (.int qa), .val (.int qb), .val (.int qc), .val (.int qp), .val (.int qq), .val (.int (1 : Int32)), .val (.int (0 : Int32)), .val (.int (0 : Int32)), .val (.ref b26), .val (.int (1 : Int32)), .unset] [(.int (1 : Int32))]))
      have hc137 : ¬ ((1 : Int32) = (0 : Int32)) := by decide
      refine Go.step (fun _ k => XS.ifYes X44.here hx rfl (pc0 := 137) (pc' := 144) rfl (hb hby at_137) rfl ((if0 _ _).trans (feq hc137).2) (by decide) (by decide) k) ?_
      show Go _ _ _ _ _ _ _ (T44.setTop (mkF m 144 #[.val (.int qa), .val (.int qb), .val (.int qc), .val (.int qp), .val (.int qq), .val (.int (1 : Int32)), .val (.int (0 : Int32)), .val (.int (0 : Int32)), .val (.ref b26), .val (.int (1 : Int32)), .unset] []))
      refine Go.step (fun _ k => XS.iconst X44.here hx rfl (hb hby at_144) k) ?_
      show Go _ _ _ _ _ _ _ (T44.setTop (mkF m 145 #[.val (.int qa), .val (.int qb), .val (.int qc), .val (.int qp), .val (.int qq), .val (.int (1 : Int32)), .val (.int (0 : Int32)), .val (.int (0 : Int32)), .val (.ref b26), .val (.int (1 : Int32)), .unset] [(.int (0 : Int32))]))
      refine Go.step (fun _ k => XS.istore X44.here hx rfl (hb hby at_145) rfl (l' := #[.val (.int qa), .val (.int qb), .val (.int qc), .val (.int qp), .val (.int qq), .val (.int (1 : Int32)), .val (.int (0 : Int32)), .val (.int (0 : Int32)), .val (.ref b26), .val (.int (1 : Int32)), .val (.int (0 : Int32))]) rfl k) ?_
      show Go _ _ _ _ _ _ _ (T44.setTop (mkF m 147 #[.val (.int qa), .val (.int qb), .val (.int qc), .val (.int qp), .val (.int qq), .val (.int (1 : Int32)), .val (.int (0 : Int32)), .val (.int (0 : Int32)), .val (.ref b26), .val (.int (1 : Int32)), .val (.int (0 : Int32))] []))
      refine Go.step (fun _ k => XS.iload X44.here hx rfl (hb hby at_147) rfl  k) ?_
      show Go _ _ _ _ _ _ _ (T44.setTop (mkF m 149 #[.val (.int qa), .val (.int qb), .val (.int qc), .val (.int qp), .val (.int qq), .val (.int (1 : Int32)), .val (.int (0 : Int32)), .val (.int (0 : Int32)), .val (.ref b26), .val (.int (1 : Int32)), .val (.int (0 : Int32))] [(.int (1 : Int32))]))
      have hc149 : ¬ ((1 : Int32) = (0 : Int32)) := hc137
      refine Go.step (fun _ k => XS.ifNo X44.here hx rfl (hb hby at_149) rfl ((if0 _ _).trans (feq hc149).1) k) ?_
      show Go _ _ _ _ _ _ _ (T44.setTop (mkF m 152 #[.val (.int qa), .val (.int qb), .val (.int qc), .val (.int qp), .val (.int qq), .val (.int (1 : Int32)), .val (.int (0 : Int32)), .val (.int (0 : Int32)), .val (.ref b26), .val (.int (1 : Int32)), .val (.int (0 : Int32))] []))
      refine Go.step (fun _ k => XS.aload X44.here hx rfl (hb hby at_152) rfl rfl  k) ?_
      show Go _ _ _ _ _ _ _ (T44.setTop (mkF m 154 #[.val (.int qa), .val (.int qb), .val (.int qc), .val (.int qp), .val (.int qq), .val (.int (1 : Int32)), .val (.int (0 : Int32)), .val (.int (0 : Int32)), .val (.ref b26), .val (.int (1 : Int32)), .val (.int (0 : Int32))] [(.ref b26)]))
      obtain ⟨cq49, kq49, q49a, q49b, q49c⟩ := isOf hZ rfl c44_1
      obtain ⟨_, _, ⟨T49, L49, k49, n49⟩, -, X49, ⟨Lc49, hQ49, l49, y49, z49⟩, st49⟩ := X44.virtualBack hx (y := (⟨"com/example/tree_automata_reducer/treeautomatareducer/reduce/PairStack", "isEmpty", "()Z"⟩ : MethodName)) (z := (⟨"com/example/tree_automata_reducer/treeautomatareducer/reduce/PairStack", "isEmpty", "()Z"⟩ : MethodName)) hown (mvT hZ (hw _ (List.mem_of_getElem? (i := 41) rfl))) (mvT hZ (hw _ (List.mem_of_getElem? (i := 42) rfl))) (notFace_of_selects (args := #[]) (mvT hZ (hw _ (List.mem_of_getElem? (i := 44) rfl)))) (mvT hZ (hw _ (List.mem_of_getElem? (i := 44) rfl))) (mvT hZ (hw _ (List.mem_of_getElem? (i := 43) rfl))) (by decide) (backOf (W := 0) (rm6 l Z aZ hw [] b26 (1 : Int64) T44.heap n0 z47 c44_2) hZ (hw _ (List.mem_of_getElem? (i := 45) rfl)) (hw _ (List.mem_of_getElem? (i := 3) rfl)) (by decide) (by decide)) q49a q49c (g := (mkF m 154 #[.val (.int qa), .val (.int qb), .val (.int qc), .val (.int qp), .val (.int qq), .val (.int (1 : Int32)), .val (.int (0 : Int32)), .val (.int (0 : Int32)), .val (.ref b26), .val (.int (1 : Int32)), .val (.int (0 : Int32))] [(.ref b26)])) rfl (by rw [hml]; rfl) (Steps.refl _) (argsL := []) (rest := []) (lenOf pd_9 rfl) rfl (by show 2 * 0 + _ ≤ _; exact Nat.le_of_eq rfl) (hb hby at_154) (fun _ _ => ⟨rfl, rfl, (by decide : 4 + 0 ≤ _), (by decide : 32788 + 0 ≤ _)⟩)
      dsimp only [Pt.U, Pt.locs, Pt.cells, Pt.slots] at X49 l49 y49 z49 st49 hQ49
      subst l49 y49 z49
      obtain ⟨rfl, Nq49, e49⟩ := hQ49
      have N49 := Fr.app N44 Nq49
      refine Go.tr st49 ?_
      show Go _ _ _ _ _ _ _ (T49.setTop (mkF m 157 #[.val (.int qa), .val (.int qb), .val (.int qc), .val (.int qp), .val (.int qq), .val (.int (1 : Int32)), .val (.int (0 : Int32)), .val (.int (0 : Int32)), .val (.ref b26), .val (.int (1 : Int32)), .val (.int (0 : Int32))] [(.int (if (1 : Int64) = 0 then (1 : Int32) else 0))]))
      refine Go.step (fun _ k => XS.iload X49.here hx rfl (hb hby at_157) rfl  k) ?_
      show Go _ _ _ _ _ _ _ (T49.setTop (mkF m 159 #[.val (.int qa), .val (.int qb), .val (.int qc), .val (.int qp), .val (.int qq), .val (.int (1 : Int32)), .val (.int (0 : Int32)), .val (.int (0 : Int32)), .val (.ref b26), .val (.int (1 : Int32)), .val (.int (0 : Int32))] [(.int (0 : Int32)), (.int (if (1 : Int64) = 0 then (1 : Int32) else 0))]))
      have hc159 : (if (1 : Int64) = 0 then (1 : Int32) else 0) = (0 : Int32) := by decide
      refine Go.step (fun _ k => XS.icmpNo X49.here hx rfl (hb hby at_159) rfl (teq hc159).2 k) ?_
      show Go _ _ _ _ _ _ _ (T49.setTop (mkF m 162 #[.val (.int qa), .val (.int qb), .val (.int qc), .val (.int qp), .val (.int qq), .val (.int (1 : Int32)), .val (.int (0 : Int32)), .val (.int (0 : Int32)), .val (.ref b26), .val (.int (1 : Int32)), .val (.int (0 : Int32))] []))
      refine Go.step (fun _ k => XS.iconst X49.here hx rfl (hb hby at_162) k) ?_
      show Go _ _ _ _ _ _ _ (T49.setTop (mkF m 163 #[.val (.int qa), .val (.int qb), .val (.int qc), .val (.int qp), .val (.int qq), .val (.int (1 : Int32)), .val (.int (0 : Int32)), .val (.int (0 : Int32)), .val (.ref b26), .val (.int (1 : Int32)), .val (.int (0 : Int32))] [(.int (1 : Int32))]))
      refine Go.step (fun _ k => XS.goto X49.here hx rfl (pc0 := 163) (pc' := 167) rfl (hb hby at_163) (by decide) (by decide) k) ?_
      show Go _ _ _ _ _ _ _ (T49.setTop (mkF m 167 #[.val (.int qa), .val (.int qb), .val (.int qc), .val (.int qp), .val (.int qq), .val (.int (1 : Int32)), .val (.int (0 : Int32)), .val (.int (0 : Int32)), .val (.ref b26), .val (.int (1 : Int32)), .val (.int (0 : Int32))] [(.int (1 : Int32))]))
      refine Go.retN X49 hx (t := .boolean) Bd.returns (by simp) hlk (hb hby at_167) ?_ (by decide) (by decide)
      rw [e49]
      exact ⟨(by first | rfl | (simp_all [own_nb1, own_nb0]; done)), N49⟩
    · skip
      subst h1
      show Go _ _ _ _ _ _ _ (T44.setTop (mkF m 114 #[.val (.int qa), .val (.int qb), .val (.int qc), .val (.int qp), .val (.int qq), .val (.int (1 : Int32)), .val (.int (0 : Int32)), .val (.int (1 : Int32)), .val (.ref b26), .val (.int (1 : Int32)), .unset] []))
      refine Go.step (fun _ k => XS.iload X44.here hx rfl (hb hby at_114) rfl  k) ?_
      show Go _ _ _ _ _ _ _ (T44.setTop (mkF m 116 #[.val (.int qa), .val (.int qb), .val (.int qc), .val (.int qp), .val (.int qq), .val (.int (1 : Int32)), .val (.int (0 : Int32)), .val (.int (1 : Int32)), .val (.ref b26), .val (.int (1 : Int32)), .unset] [(.int (1 : Int32))]))
      refine Go.step (fun _ k => XS.iconst X44.here hx rfl (hb hby at_116) k) ?_
      show Go _ _ _ _ _ _ _ (T44.setTop (mkF m 117 #[.val (.int qa), .val (.int qb), .val (.int qc), .val (.int qp), .val (.int qq), .val (.int (1 : Int32)), .val (.int (0 : Int32)), .val (.int (1 : Int32)), .val (.ref b26), .val (.int (1 : Int32)), .unset] [(.int (1 : Int32)), (.int (1 : Int32))]))
      have hc117 : (1 : Int32) = (1 : Int32) := by decide
      refine Go.step (fun _ k => XS.icmpNo X44.here hx rfl (hb hby at_117) rfl (teq hc117).2 k) ?_
      show Go _ _ _ _ _ _ _ (T44.setTop (mkF m 120 #[.val (.int qa), .val (.int qb), .val (.int qc), .val (.int qp), .val (.int qq), .val (.int (1 : Int32)), .val (.int (0 : Int32)), .val (.int (1 : Int32)), .val (.ref b26), .val (.int (1 : Int32)), .unset] []))
      refine Go.step (fun _ k => XS.aload X44.here hx rfl (hb hby at_120) rfl rfl  k) ?_
      show Go _ _ _ _ _ _ _ (T44.setTop (mkF m 122 #[.val (.int qa), .val (.int qb), .val (.int qc), .val (.int qp), .val (.int qq), .val (.int (1 : Int32)), .val (.int (0 : Int32)), .val (.int (1 : Int32)), .val (.ref b26), .val (.int (1 : Int32)), .unset] [(.ref b26)]))
      refine Go.step (fun _ k => XS.iload X44.here hx rfl (hb hby at_122) rfl  k) ?_
      show Go _ _ _ _ _ _ _ (T44.setTop (mkF m 124 #[.val (.int qa), .val (.int qb), .val (.int qc), .val (.int qp), .val (.int qq), .val (.int (1 : Int32)), .val (.int (0 : Int32)), .val (.int (1 : Int32)), .val (.ref b26), .val (.int (1 : Int32)), .unset] [(.int qq), (.ref b26)]))
      refine Go.step (fun _ k => XS.iload X44.here hx rfl (hb hby at_124) rfl  k) ?_
      show Go _ _ _ _ _ _ _ (T44.setTop (mkF m 126 #[.val (.int qa), .val (.int qb), .val (.int qc), .val (.int qp), .val (.int qq), .val (.int (1 : Int32)), .val (.int (0 : Int32)), .val (.int (1 : Int32)), .val (.ref b26), .val (.int (1 : Int32)), .unset] [(.int qq), (.int qq), (.ref b26)]))
      have pq50 : ¬ (1 : Int32) = (32768 : Int32) := (by decide)
      have pq51 : ¬ (1 : Int32) < 0 := (by decide)
      have pq52 : (1 : Int32) < (32768 : Int32) := (by decide)
      obtain ⟨cq53, kq53, q53a, q53b, q53c⟩ := isOf hZ rfl c44_1
      obtain ⟨_, _, ⟨T53, L53, k53, n53⟩, -, X53, ⟨Lc53, hQ53, l53, y53, z53⟩, st53⟩ := X44.virtualBack hx (y := (⟨"com/example/tree_automata_reducer/treeautomatareducer/reduce/PairStack", "push", "(II)V"⟩ : MethodName)) (z := (⟨"com/example/tree_automata_reducer/treeautomatareducer/reduce/PairStack", "push", "(II)V"⟩ : MethodName)) hown (mvT hZ (hw _ (List.mem_of_getElem? (i := 48) rfl))) (mvT hZ (hw _ (List.mem_of_getElem? (i := 49) rfl))) (notFace_of_selects (args := #[]) (mvT hZ (hw _ (List.mem_of_getElem? (i := 51) rfl)))) (mvT hZ (hw _ (List.mem_of_getElem? (i := 51) rfl))) (mvT hZ (hw _ (List.mem_of_getElem? (i := 50) rfl))) (by decide) (backOf (W := 0) (rmpB l Z aZ hw [] b26 qq qq (1 : Int32) (1 : Int64) b_44 f2_44 (0 : Int32) (0 : Int32) T44.heap n0 z47 c44_1 c44_2 c44_3 c44_4 c44_5 c44_6 c44_7 c44_8 gn26 gn44_0 pq50 pq51 pq52) hZ (hw _ (List.mem_of_getElem? (i := 52) rfl)) (hw _ (List.mem_of_getElem? (i := 3) rfl)) (by decide) (by decide)) q53a q53c (g := (mkF m 126 #[.val (.int qa), .val (.int qb), .val (.int qc), .val (.int qp), .val (.int qq), .val (.int (1 : Int32)), .val (.int (0 : Int32)), .val (.int (1 : Int32)), .val (.ref b26), .val (.int (1 : Int32)), .unset] [(.int qq), (.int qq), (.ref b26)])) rfl (by rw [hml]; rfl) (Steps.refl _) (argsL := [(.int qq), (.int qq)]) (rest := []) (lenOf pd_10 rfl) rfl (by show 2 * 0 + _ ≤ _; exact Nat.le_of_eq rfl) (hb hby at_126) (fun _ _ => ⟨rfl, rfl, (by decide : 4 + 0 ≤ _), (by decide : 32788 + 0 ≤ _)⟩)
      dsimp only [Pt.U, Pt.locs, Pt.cells, Pt.slots] at X53 l53 y53 z53 st53 hQ53
      subst l53 y53 z53
      obtain ⟨f2_53, rfl, Nq53, K53, c53_0, c53_1, c53_2, c53_3, c53_4, c53_5, c53_6⟩ := hQ53
      have N53 := Fr.app N44 Nq53
      refine Go.tr st53 ?_
      have z54 : n0 ≤ T53.heap.size := Nat.le_trans z47 K53.1
      have sqz54 : h0.size ≤ T53.heap.size := Nat.le_trans sqz47 K53.1
      have c53_1f : Fld Z T53.heap b26 "com/example/tree_automata_reducer/treeautomatareducer/reduce/PairStack" "size" "J" (.long (2 : Int64)) := c53_1
      have c53_3f : Fld Z T53.heap b26 "com/example/tree_automata_reducer/treeautomatareducer/reduce/PairStack" "inBlock" "I" (.int (2 : Int32)) := c53_3
      show Go _ _ _ _ _ _ _ (T53.setTop (mkF m 129 #[.val (.int qa), .val (.int qb), .val (.int qc), .val (.int qp), .val (.int qq), .val (.int (1 : Int32)), .val (.int (0 : Int32)), .val (.int (1 : Int32)), .val (.ref b26), .val (.int (1 : Int32)), .unset] []))
      refine Go.step (fun _ k => XS.iload X53.here hx rfl (hb hby at_129) rfl  k) ?_
      show Go _ _ _ _ _ _ _ (T53.setTop (mkF m 131 #[.val (.int qa), .val (.int qb), .val (.int qc), .val (.int qp), .val (.int qq), .val (.int (1 : Int32)), .val (.int (0 : Int32)), .val (.int (1 : Int32)), .val (.ref b26), .val (.int (1 : Int32)), .unset] [(.int (1 : Int32))]))
      refine Go.step (fun _ k => XS.iload X53.here hx rfl (hb hby at_131) rfl  k) ?_
      show Go _ _ _ _ _ _ _ (T53.setTop (mkF m 133 #[.val (.int qa), .val (.int qb), .val (.int qc), .val (.int qp), .val (.int qq), .val (.int (1 : Int32)), .val (.int (0 : Int32)), .val (.int (1 : Int32)), .val (.ref b26), .val (.int (1 : Int32)), .unset] [(.int (0 : Int32)), (.int (1 : Int32))]))
      refine Go.step (fun _ k => XS.isub X53.here hx rfl (hb hby at_133) rfl k) ?_
      show Go _ _ _ _ _ _ _ (T53.setTop (mkF m 134 #[.val (.int qa), .val (.int qb), .val (.int qc), .val (.int qp), .val (.int qq), .val (.int (1 : Int32)), .val (.int (0 : Int32)), .val (.int (1 : Int32)), .val (.ref b26), .val (.int (1 : Int32)), .unset] [(.int (1 : Int32))]))
      refine Go.step (fun _ k => XS.iload X53.here hx rfl (hb hby at_134) rfl  k) ?_
      show Go _ _ _ _ _ _ _ (T53.setTop (mkF m 136 #[.val (.int qa), .val (.int qb), .val (.int qc), .val (.int qp), .val (.int qq), .val (.int (1 : Int32)), .val (.int (0 : Int32)), .val (.int (1 : Int32)), .val (.ref b26), .val (.int (1 : Int32)), .unset] [(.int (1 : Int32)), (.int (1 : Int32))]))
      refine Go.step (fun _ k => XS.iadd X53.here hx rfl (hb hby at_136) rfl k) ?_
      show Go _ _ _ _ _ _ _ (T53.setTop (mkF m 137 #[.val (.int qa), .val (.int qb), .val (.int qc), .val (.int qp), .val (.int qq), .val (.int (1 : Int32)), .val (.int (0 : Int32)), .val (.int (1 : Int32)), .val (.ref b26), .val (.int (1 : Int32)), .unset] [(.int (2 : Int32))]))
      have hc137 : ¬ ((2 : Int32) = (0 : Int32)) := by decide
      refine Go.step (fun _ k => XS.ifYes X53.here hx rfl (pc0 := 137) (pc' := 144) rfl (hb hby at_137) rfl ((if0 _ _).trans (feq hc137).2) (by decide) (by decide) k) ?_
      show Go _ _ _ _ _ _ _ (T53.setTop (mkF m 144 #[.val (.int qa), .val (.int qb), .val (.int qc), .val (.int qp), .val (.int qq), .val (.int (1 : Int32)), .val (.int (0 : Int32)), .val (.int (1 : Int32)), .val (.ref b26), .val (.int (1 : Int32)), .unset] []))
      refine Go.step (fun _ k => XS.iconst X53.here hx rfl (hb hby at_144) k) ?_
      show Go _ _ _ _ _ _ _ (T53.setTop (mkF m 145 #[.val (.int qa), .val (.int qb), .val (.int qc), .val (.int qp), .val (.int qq), .val (.int (1 : Int32)), .val (.int (0 : Int32)), .val (.int (1 : Int32)), .val (.ref b26), .val (.int (1 : Int32)), .unset] [(.int (0 : Int32))]))
      refine Go.step (fun _ k => XS.istore X53.here hx rfl (hb hby at_145) rfl (l' := #[.val (.int qa), .val (.int qb), .val (.int qc), .val (.int qp), .val (.int qq), .val (.int (1 : Int32)), .val (.int (0 : Int32)), .val (.int (1 : Int32)), .val (.ref b26), .val (.int (1 : Int32)), .val (.int (0 : Int32))]) rfl k) ?_
      show Go _ _ _ _ _ _ _ (T53.setTop (mkF m 147 #[.val (.int qa), .val (.int qb), .val (.int qc), .val (.int qp), .val (.int qq), .val (.int (1 : Int32)), .val (.int (0 : Int32)), .val (.int (1 : Int32)), .val (.ref b26), .val (.int (1 : Int32)), .val (.int (0 : Int32))] []))
      refine Go.step (fun _ k => XS.iload X53.here hx rfl (hb hby at_147) rfl  k) ?_
      show Go _ _ _ _ _ _ _ (T53.setTop (mkF m 149 #[.val (.int qa), .val (.int qb), .val (.int qc), .val (.int qp), .val (.int qq), .val (.int (1 : Int32)), .val (.int (0 : Int32)), .val (.int (1 : Int32)), .val (.ref b26), .val (.int (1 : Int32)), .val (.int (0 : Int32))] [(.int (1 : Int32))]))
      have hc149 : ¬ ((1 : Int32) = (0 : Int32)) := by decide
      refine Go.step (fun _ k => XS.ifNo X53.here hx rfl (hb hby at_149) rfl ((if0 _ _).trans (feq hc149).1) k) ?_
      show Go _ _ _ _ _ _ _ (T53.setTop (mkF m 152 #[.val (.int qa), .val (.int qb), .val (.int qc), .val (.int qp), .val (.int qq), .val (.int (1 : Int32)), .val (.int (0 : Int32)), .val (.int (1 : Int32)), .val (.ref b26), .val (.int (1 : Int32)), .val (.int (0 : Int32))] []))
      refine Go.step (fun _ k => XS.aload X53.here hx rfl (hb hby at_152) rfl rfl  k) ?_
      show Go _ _ _ _ _ _ _ (T53.setTop (mkF m 154 #[.val (.int qa), .val (.int qb), .val (.int qc), .val (.int qp), .val (.int qq), .val (.int (1 : Int32)), .val (.int (0 : Int32)), .val (.int (1 : Int32)), .val (.ref b26), .val (.int (1 : Int32)), .val (.int (0 : Int32))] [(.ref b26)]))
      obtain ⟨cq56, kq56, q56a, q56b, q56c⟩ := isOf hZ rfl c53_0
      obtain ⟨_, _, ⟨T56, L56, k56, n56⟩, -, X56, ⟨Lc56, hQ56, l56, y56, z56⟩, st56⟩ := X53.virtualBack hx (y := (⟨"com/example/tree_automata_reducer/treeautomatareducer/reduce/PairStack", "isEmpty", "()Z"⟩ : MethodName)) (z := (⟨"com/example/tree_automata_reducer/treeautomatareducer/reduce/PairStack", "isEmpty", "()Z"⟩ : MethodName)) hown (mvT hZ (hw _ (List.mem_of_getElem? (i := 41) rfl))) (mvT hZ (hw _ (List.mem_of_getElem? (i := 42) rfl))) (notFace_of_selects (args := #[]) (mvT hZ (hw _ (List.mem_of_getElem? (i := 44) rfl)))) (mvT hZ (hw _ (List.mem_of_getElem? (i := 44) rfl))) (mvT hZ (hw _ (List.mem_of_getElem? (i := 43) rfl))) (by decide) (backOf (W := 0) (rm6 l Z aZ hw [] b26 (2 : Int64) T53.heap n0 z54 c53_1f) hZ (hw _ (List.mem_of_getElem? (i := 45) rfl)) (hw _ (List.mem_of_getElem? (i := 3) rfl)) (by decide) (by decide)) q56a q56c (g := (mkF m 154 #[.val (.int qa), .val (.int qb), .val (.int qc), .val (.int qp), .val (.int qq), .val (.int (1 : Int32)), .val (.int (0 : Int32)), .val (.int (1 : Int32)), .val (.ref b26), .val (.int (1 : Int32)), .val (.int (0 : Int32))] [(.ref b26)])) rfl (by rw [hml]; rfl) (Steps.refl _) (argsL := []) (rest := []) (lenOf pd_9 rfl) rfl (by show 2 * 0 + _ ≤ _; exact Nat.le_of_eq rfl) (hb hby at_154) (fun _ _ => ⟨rfl, rfl, (by decide : 4 + 0 ≤ _), (by decide : 32788 + 0 ≤ _)⟩)
      dsimp only [Pt.U, Pt.locs, Pt.cells, Pt.slots] at X56 l56 y56 z56 st56 hQ56
      subst l56 y56 z56
      obtain ⟨rfl, Nq56, e56⟩ := hQ56
      have N56 := Fr.app N53 Nq56
      refine Go.tr st56 ?_
      show Go _ _ _ _ _ _ _ (T56.setTop (mkF m 157 #[.val (.int qa), .val (.int qb), .val (.int qc), .val (.int qp), .val (.int qq), .val (.int (1 : Int32)), .val (.int (0 : Int32)), .val (.int (1 : Int32)), .val (.ref b26), .val (.int (1 : Int32)), .val (.int (0 : Int32))] [(.int (if (2 : Int64) = 0 then (1 : Int32) else 0))]))
      refine Go.step (fun _ k => XS.iload X56.here hx rfl (hb hby at_157) rfl  k) ?_
      show Go _ _ _ _ _ _ _ (T56.setTop (mkF m 159 #[.val (.int qa), .val (.int qb), .val (.int qc), .val (.int qp), .val (.int qq), .val (.int (1 : Int32)), .val (.int (0 : Int32)), .val (.int (1 : Int32)), .val (.ref b26), .val (.int (1 : Int32)), .val (.int (0 : Int32))] [(.int (0 : Int32)), (.int (if (2 : Int64) = 0 then (1 : Int32) else 0))]))
      have hc159 : (if (2 : Int64) = 0 then (1 : Int32) else 0) = (0 : Int32) := by decide
      refine Go.step (fun _ k => XS.icmpNo X56.here hx rfl (hb hby at_159) rfl (teq hc159).2 k) ?_
      show Go _ _ _ _ _ _ _ (T56.setTop (mkF m 162 #[.val (.int qa), .val (.int qb), .val (.int qc), .val (.int qp), .val (.int qq), .val (.int (1 : Int32)), .val (.int (0 : Int32)), .val (.int (1 : Int32)), .val (.ref b26), .val (.int (1 : Int32)), .val (.int (0 : Int32))] []))
      refine Go.step (fun _ k => XS.iconst X56.here hx rfl (hb hby at_162) k) ?_
      show Go _ _ _ _ _ _ _ (T56.setTop (mkF m 163 #[.val (.int qa), .val (.int qb), .val (.int qc), .val (.int qp), .val (.int qq), .val (.int (1 : Int32)), .val (.int (0 : Int32)), .val (.int (1 : Int32)), .val (.ref b26), .val (.int (1 : Int32)), .val (.int (0 : Int32))] [(.int (1 : Int32))]))
      refine Go.step (fun _ k => XS.goto X56.here hx rfl (pc0 := 163) (pc' := 167) rfl (hb hby at_163) (by decide) (by decide) k) ?_
      show Go _ _ _ _ _ _ _ (T56.setTop (mkF m 167 #[.val (.int qa), .val (.int qb), .val (.int qc), .val (.int qp), .val (.int qq), .val (.int (1 : Int32)), .val (.int (0 : Int32)), .val (.int (1 : Int32)), .val (.ref b26), .val (.int (1 : Int32)), .val (.int (0 : Int32))] [(.int (1 : Int32))]))
      refine Go.retN X56 hx (t := .boolean) Bd.returns (by simp) hlk (hb hby at_167) ?_ (by decide) (by decide)
      rw [e56]
      exact ⟨(by first | rfl | (simp_all [own_nb1, own_nb0]; done)), N56⟩
  · skip
    subst h1 h2
    show Go _ _ _ _ _ _ _ (s₁.setTop (mkF m 21 #[.val (.int qa), .val (.int qb), .val (.int qc), .val (.int qp), .val (.int qq), .val (.int (1 : Int32)), .val (.int (1 : Int32)), .val (.int kq), .unset, .unset, .unset] []))
    obtain ⟨T57, h57, X57, e57, E57, A57, D57, -, st57⟩ := newO X0 hx hZ hown (hw _ (List.mem_of_getElem? (i := 1) rfl)) (hw _ (List.mem_of_getElem? (i := 2) rfl)) (hw _ (List.mem_of_getElem? (i := 3) rfl)) e0 (g := (mkF m 21 #[.val (.int qa), .val (.int qb), .val (.int qc), .val (.int qp), .val (.int qq), .val (.int (1 : Int32)), .val (.int (1 : Int32)), .val (.int kq), .unset, .unset, .unset] [])) rfl (hb hby at_21) (by decide) (by decide)
    obtain ⟨b57, g57⟩ : ∃ z, z = h0.size := ⟨_, rfl⟩
    rw [← g57] at A57 D57 st57
    refine Go.step st57 ?_
    have gn57 : n0 ≤ b57 := Nat.le_trans Z0 (Nat.le_of_eq g57.symm)
    have sz57 : h0.size ≤ b57 := Nat.le_trans sq0 (Nat.le_of_eq g57.symm)
    have z58 : n0 ≤ h57.size := Nat.le_trans Z0 E57.1
    have sqz58 : h0.size ≤ h57.size := Nat.le_trans sq0 E57.1
    have f60 : Fld Z h57 b57 "com/example/tree_automata_reducer/treeautomatareducer/reduce/PairStack" "blocks" "Ljava/util/List;" .null := D57 (Or.inr (hw _ (List.mem_of_getElem? (i := 35) rfl))) (ty := (.object "java/util/List")) (by decide)
    have f61 : Fld Z h57 b57 "com/example/tree_automata_reducer/treeautomatareducer/reduce/PairStack" "blockNumber" "I" (.int (0 : Int32)) := D57 (Or.inl (hw _ (List.mem_of_getElem? (i := 37) rfl))) (ty := .int) (by decide)
    have f62 : Fld Z h57 b57 "com/example/tree_automata_reducer/treeautomatareducer/reduce/PairStack" "inBlock" "I" (.int (0 : Int32)) := D57 (Or.inl (hw _ (List.mem_of_getElem? (i := 40) rfl))) (ty := .int) (by decide)
    have f63 : Fld Z h57 b57 "com/example/tree_automata_reducer/treeautomatareducer/reduce/PairStack" "size" "J" (.long (0 : Int64)) := D57 (Or.inl (hw _ (List.mem_of_getElem? (i := 47) rfl))) (ty := .long) (by decide)
    have f64 : Fld Z h57 b57 "com/example/tree_automata_reducer/treeautomatareducer/reduce/PairStack" "block" "[J" .null := D57 (Or.inl (hw _ (List.mem_of_getElem? (i := 121) rfl))) (ty := (.array .long)) (by decide)
    have f65 : Fld Z h57 b57 "com/example/tree_automata_reducer/treeautomatareducer/reduce/PairStack" "first" "I" (.int (0 : Int32)) := D57 (Or.inl (hw _ (List.mem_of_getElem? (i := 129) rfl))) (ty := .int) (by decide)
    have f66 : Fld Z h57 b57 "com/example/tree_automata_reducer/treeautomatareducer/reduce/PairStack" "second" "I" (.int (0 : Int32)) := D57 (Or.inl (hw _ (List.mem_of_getElem? (i := 131) rfl))) (ty := .int) (by decide)
    show Go _ _ _ _ _ _ _ (T57.setTop (mkF m 24 #[.val (.int qa), .val (.int qb), .val (.int qc), .val (.int qp), .val (.int qq), .val (.int (1 : Int32)), .val (.int (1 : Int32)), .val (.int kq), .unset, .unset, .unset] [(.ref b57)]))
    refine Go.step (fun _ k => XS.dup X57.here hx rfl (hb hby at_24) rfl rfl k) ?_
    show Go _ _ _ _ _ _ _ (T57.setTop (mkF m 25 #[.val (.int qa), .val (.int qb), .val (.int qc), .val (.int qp), .val (.int qq), .val (.int (1 : Int32)), .val (.int (1 : Int32)), .val (.int kq), .unset, .unset, .unset] [(.ref b57), (.ref b57)]))
    have f67 : Old Z n0 h57 := (O_0.ext E57)
    obtain ⟨_, _, ⟨T68, L68, k68, n68⟩, -, X68, ⟨Lc68, hQ68, l68, y68, z68⟩, st68⟩ := X57.specialBack hx (y := (⟨"com/example/tree_automata_reducer/treeautomatareducer/reduce/PairStack", "<init>", "()V"⟩ : MethodName)) rfl hown (mvT hZ (hw _ (List.mem_of_getElem? (i := 4) rfl))) (mvT hZ (hw _ (List.mem_of_getElem? (i := 5) rfl))) (mvT hZ (hw _ (List.mem_of_getElem? (i := 6) rfl))) (by decide) (backOf (W := 1) (rm1 l Z aZ hw [] b57 w0 h57 n0 z58 f67 S_1 A57 f60 f63 f64 f61 f62 f65 f66 gn57) hZ (hw _ (List.mem_of_getElem? (i := 6) rfl)) (hw _ (List.mem_of_getElem? (i := 3) rfl)) (by decide) (by decide)) (g := (mkF m 25 #[.val (.int qa), .val (.int qb), .val (.int qc), .val (.int qp), .val (.int qq), .val (.int (1 : Int32)), .val (.int (1 : Int32)), .val (.int kq), .unset, .unset, .unset] [(.ref b57), (.ref b57)])) rfl (by rw [hml]; rfl) (Steps.refl _) (a := b57) (argsL := []) (rest := [(.ref b57)]) (lenOf pd_0 rfl) rfl (by show 2 * 0 + _ ≤ _; exact Nat.le_of_eq rfl) (hb hby at_25) (fun _ _ => ⟨rfl, e57, (by decide : 1 + 1 ≤ _), (by decide : 7 + 3 ≤ _)⟩)
    dsimp only [Pt.U, Pt.locs, Pt.cells, Pt.slots] at X68 l68 y68 z68 st68 hQ68
    subst l68 y68 z68
    obtain ⟨l0_68, rfl, Nq68, K68, c68_0, c68_1, c68_2, c68_3, c68_4, c68_5, c68_6, c68_7, c68_8, c68_9, c68_10, c68_11, c68_12, c68_13⟩ := hQ68
    have N68 := Fr.app N0 Nq68
    refine Go.tr st68 ?_
    have ne69 : b57 ≠ l0_68 := Nat.ne_of_lt (Nat.lt_of_lt_of_le A57.lt c68_0)
    have gn68_0 : n0 ≤ l0_68 := Nat.le_trans z58 c68_0
    have sz68_0 : h0.size ≤ l0_68 := Nat.le_trans sqz58 c68_0
    have z70 : n0 ≤ T68.heap.size := Nat.le_trans z58 K68.1
    have sqz70 : h0.size ≤ T68.heap.size := Nat.le_trans sqz58 K68.1
    show Go _ _ _ _ _ _ _ (T68.setTop (mkF m 28 #[.val (.int qa), .val (.int qb), .val (.int qc), .val (.int qp), .val (.int qq), .val (.int (1 : Int32)), .val (.int (1 : Int32)), .val (.int kq), .unset, .unset, .unset] [(.ref b57)]))
    refine Go.step (fun _ k => XS.astore X68.here hx rfl (hb hby at_28) rfl rfl (l' := #[.val (.int qa), .val (.int qb), .val (.int qc), .val (.int qp), .val (.int qq), .val (.int (1 : Int32)), .val (.int (1 : Int32)), .val (.int kq), .val (.ref b57), .unset, .unset]) rfl k) ?_
    show Go _ _ _ _ _ _ _ (T68.setTop (mkF m 30 #[.val (.int qa), .val (.int qb), .val (.int qc), .val (.int qp), .val (.int qq), .val (.int (1 : Int32)), .val (.int (1 : Int32)), .val (.int kq), .val (.ref b57), .unset, .unset] []))
    refine Go.step (fun _ k => XS.aload X68.here hx rfl (hb hby at_30) rfl rfl  k) ?_
    show Go _ _ _ _ _ _ _ (T68.setTop (mkF m 32 #[.val (.int qa), .val (.int qb), .val (.int qc), .val (.int qp), .val (.int qq), .val (.int (1 : Int32)), .val (.int (1 : Int32)), .val (.int kq), .val (.ref b57), .unset, .unset] [(.ref b57)]))
    obtain ⟨cq72, kq72, q72a, q72b, q72c⟩ := isOf hZ rfl c68_1
    obtain ⟨_, _, ⟨T72, L72, k72, n72⟩, -, X72, ⟨Lc72, hQ72, l72, y72, z72⟩, st72⟩ := X68.virtualBack hx (y := (⟨"com/example/tree_automata_reducer/treeautomatareducer/reduce/PairStack", "isEmpty", "()Z"⟩ : MethodName)) (z := (⟨"com/example/tree_automata_reducer/treeautomatareducer/reduce/PairStack", "isEmpty", "()Z"⟩ : MethodName)) hown (mvT hZ (hw _ (List.mem_of_getElem? (i := 41) rfl))) (mvT hZ (hw _ (List.mem_of_getElem? (i := 42) rfl))) (notFace_of_selects (args := #[]) (mvT hZ (hw _ (List.mem_of_getElem? (i := 44) rfl)))) (mvT hZ (hw _ (List.mem_of_getElem? (i := 44) rfl))) (mvT hZ (hw _ (List.mem_of_getElem? (i := 43) rfl))) (by decide) (backOf (W := 0) (rm6 l Z aZ hw [] b57 (0 : Int64) T68.heap n0 z70 c68_3) hZ (hw _ (List.mem_of_getElem? (i := 45) rfl)) (hw _ (List.mem_of_getElem? (i := 3) rfl)) (by decide) (by decide)) q72a q72c (g := (mkF m 32 #[.val (.int qa), .val (.int qb), .val (.int qc), .val (.int qp), .val (.int qq), .val (.int (1 : Int32)), .val (.int (1 : Int32)), .val (.int kq), .val (.ref b57), .unset, .unset] [(.ref b57)])) rfl (by rw [hml]; rfl) (Steps.refl _) (argsL := []) (rest := []) (lenOf pd_9 rfl) rfl (by show 2 * 0 + _ ≤ _; exact Nat.le_of_eq rfl) (hb hby at_32) (fun _ _ => ⟨rfl, rfl, (by decide : 2 + 0 ≤ _), (by decide : 10 + 0 ≤ _)⟩)
    dsimp only [Pt.U, Pt.locs, Pt.cells, Pt.slots] at X72 l72 y72 z72 st72 hQ72
    subst l72 y72 z72
    obtain ⟨rfl, Nq72, e72⟩ := hQ72
    have N72 := Fr.app N68 Nq72
    refine Go.tr st72 ?_
    show Go _ _ _ _ _ _ _ (T72.setTop (mkF m 35 #[.val (.int qa), .val (.int qb), .val (.int qc), .val (.int qp), .val (.int qq), .val (.int (1 : Int32)), .val (.int (1 : Int32)), .val (.int kq), .val (.ref b57), .unset, .unset] [(.int (if (0 : Int64) = 0 then (1 : Int32) else 0))]))
    have sv73 : (if (0 : Int64) = 0 then (1 : Int32) else 0) = (1 : Int32) := if_pos rfl
    rw [sv73]
    show Go _ _ _ _ _ _ _ (T72.setTop (mkF m 35 #[.val (.int qa), .val (.int qb), .val (.int qc), .val (.int qp), .val (.int qq), .val (.int (1 : Int32)), .val (.int (1 : Int32)), .val (.int kq), .val (.ref b57), .unset, .unset] [(.int (1 : Int32))]))
    refine Go.step (fun _ k => XS.istore X72.here hx rfl (hb hby at_35) rfl (l' := #[.val (.int qa), .val (.int qb), .val (.int qc), .val (.int qp), .val (.int qq), .val (.int (1 : Int32)), .val (.int (1 : Int32)), .val (.int kq), .val (.ref b57), .val (.int (1 : Int32)), .unset]) rfl k) ?_
    show Go _ _ _ _ _ _ _ (T72.setTop (mkF m 37 #[.val (.int qa), .val (.int qb), .val (.int qc), .val (.int qp), .val (.int qq), .val (.int (1 : Int32)), .val (.int (1 : Int32)), .val (.int kq), .val (.ref b57), .val (.int (1 : Int32)), .unset] []))
    refine Go.step (fun _ k => XS.iload X72.here hx rfl (hb hby at_37) rfl  k) ?_
    show Go _ _ _ _ _ _ _ (T72.setTop (mkF m 39 #[.val (.int qa), .val (.int qb), .val (.int qc), .val (.int qp), .val (.int qq), .val (.int (1 : Int32)), .val (.int (1 : Int32)), .val (.int kq), .val (.ref b57), .val (.int (1 : Int32)), .unset] [(.int (1 : Int32))]))
    refine Go.step (fun _ k => XS.iconst X72.here hx rfl (hb hby at_39) k) ?_
    show Go _ _ _ _ _ _ _ (T72.setTop (mkF m 40 #[.val (.int qa), .val (.int qb), .val (.int qc), .val (.int qp), .val (.int qq), .val (.int (1 : Int32)), .val (.int (1 : Int32)), .val (.int kq), .val (.ref b57), .val (.int (1 : Int32)), .unset] [(.int (1 : Int32)), (.int (1 : Int32))]))
    have hc40 : ¬ ((1 : Int32) < (1 : Int32)) := by decide
    refine Go.step (fun _ k => XS.icmpNo X72.here hx rfl (hb hby at_40) rfl (flt hc40).1 k) ?_
    show Go _ _ _ _ _ _ _ (T72.setTop (mkF m 43 #[.val (.int qa), .val (.int qb), .val (.int qc), .val (.int qp), .val (.int qq), .val (.int (1 : Int32)), .val (.int (1 : Int32)), .val (.int kq), .val (.ref b57), .val (.int (1 : Int32)), .unset] []))
    refine Go.step (fun _ k => XS.aload X72.here hx rfl (hb hby at_43) rfl rfl  k) ?_
    show Go _ _ _ _ _ _ _ (T72.setTop (mkF m 45 #[.val (.int qa), .val (.int qb), .val (.int qc), .val (.int qp), .val (.int qq), .val (.int (1 : Int32)), .val (.int (1 : Int32)), .val (.int kq), .val (.ref b57), .val (.int (1 : Int32)), .unset] [(.ref b57)]))
    refine Go.step (fun _ k => XS.iloadN X72.here hx rfl (hb hby at_45) rfl  k) ?_
    show Go _ _ _ _ _ _ _ (T72.setTop (mkF m 46 #[.val (.int qa), .val (.int qb), .val (.int qc), .val (.int qp), .val (.int qq), .val (.int (1 : Int32)), .val (.int (1 : Int32)), .val (.int kq), .val (.ref b57), .val (.int (1 : Int32)), .unset] [(.int qp), (.ref b57)]))
    refine Go.step (fun _ k => XS.iload X72.here hx rfl (hb hby at_46) rfl  k) ?_
    show Go _ _ _ _ _ _ _ (T72.setTop (mkF m 48 #[.val (.int qa), .val (.int qb), .val (.int qc), .val (.int qp), .val (.int qq), .val (.int (1 : Int32)), .val (.int (1 : Int32)), .val (.int kq), .val (.ref b57), .val (.int (1 : Int32)), .unset] [(.int qq), (.int qp), (.ref b57)]))
    have f74 : Old Z n0 T68.heap := (f67.keep K68 (allS gn57 all0))
    obtain ⟨cq75, kq75, q75a, q75b, q75c⟩ := isOf hZ e72 c68_1
    obtain ⟨_, _, ⟨T75, L75, k75, n75⟩, -, X75, ⟨Lc75, hQ75, l75, y75, z75⟩, st75⟩ := X72.virtualBack hx (y := (⟨"com/example/tree_automata_reducer/treeautomatareducer/reduce/PairStack", "push", "(II)V"⟩ : MethodName)) (z := (⟨"com/example/tree_automata_reducer/treeautomatareducer/reduce/PairStack", "push", "(II)V"⟩ : MethodName)) hown (mvT hZ (hw _ (List.mem_of_getElem? (i := 48) rfl))) (mvT hZ (hw _ (List.mem_of_getElem? (i := 49) rfl))) (notFace_of_selects (args := #[]) (mvT hZ (hw _ (List.mem_of_getElem? (i := 51) rfl)))) (mvT hZ (hw _ (List.mem_of_getElem? (i := 51) rfl))) (mvT hZ (hw _ (List.mem_of_getElem? (i := 50) rfl))) (by decide) (backOf (W := 0) (rmpA l Z aZ hw [] b57 qp qq w0 l0_68 T68.heap n0 z70 f74 S_1 A_2 c68_1 c68_2 c68_3 c68_4 c68_5 c68_6 c68_7 c68_8 c68_9 c68_10 c68_11 c68_12 c68_13 gn57 gn68_0) hZ (hw _ (List.mem_of_getElem? (i := 52) rfl)) (hw _ (List.mem_of_getElem? (i := 3) rfl)) (by decide) (by decide)) q75a q75c (g := (mkF m 48 #[.val (.int qa), .val (.int qb), .val (.int qc), .val (.int qp), .val (.int qq), .val (.int (1 : Int32)), .val (.int (1 : Int32)), .val (.int kq), .val (.ref b57), .val (.int (1 : Int32)), .unset] [(.int qq), (.int qp), (.ref b57)])) rfl (by rw [hml]; rfl) (Steps.refl _) (argsL := [(.int qp), (.int qq)]) (rest := []) (lenOf pd_10 rfl) rfl (by show 2 * 0 + _ ≤ _; exact Nat.le_of_eq rfl) (hb hby at_48) (fun _ _ => ⟨rfl, e72, (by decide : 2 + 2 ≤ _), (by decide : 10 + 32778 ≤ _)⟩)
    dsimp only [Pt.U, Pt.locs, Pt.cells, Pt.slots] at X75 l75 y75 z75 st75 hQ75
    subst l75 y75 z75
    obtain ⟨b_75, f2_75, rfl, Nq75, K75, c75_0, c75_1, c75_2, c75_3, c75_4, c75_5, c75_6, c75_7, c75_8⟩ := hQ75
    have N75 := Fr.app N72 Nq75
    refine Go.tr st75 ?_
    have ne76 : b57 ≠ b_75 := Nat.ne_of_lt (Nat.lt_of_lt_of_le c68_1.lt c75_0)
    have ne77 : l0_68 ≠ b_75 := Nat.ne_of_lt (Nat.lt_of_lt_of_le c68_9.lt c75_0)
    have gn75_0 : n0 ≤ b_75 := Nat.le_trans z70 c75_0
    have sz75_0 : h0.size ≤ b_75 := Nat.le_trans sqz70 c75_0
    have z78 : n0 ≤ T75.heap.size := Nat.le_trans z70 K75.1
    have sqz78 : h0.size ≤ T75.heap.size := Nat.le_trans sqz70 K75.1
    show Go _ _ _ _ _ _ _ (T75.setTop (mkF m 51 #[.val (.int qa), .val (.int qb), .val (.int qc), .val (.int qp), .val (.int qq), .val (.int (1 : Int32)), .val (.int (1 : Int32)), .val (.int kq), .val (.ref b57), .val (.int (1 : Int32)), .unset] []))
    refine Go.step (fun _ k => XS.iload X75.here hx rfl (hb hby at_51) rfl  k) ?_
    show Go _ _ _ _ _ _ _ (T75.setTop (mkF m 53 #[.val (.int qa), .val (.int qb), .val (.int qc), .val (.int qp), .val (.int qq), .val (.int (1 : Int32)), .val (.int (1 : Int32)), .val (.int kq), .val (.ref b57), .val (.int (1 : Int32)), .unset] [(.int (1 : Int32))]))
    refine Go.step (fun _ k => XS.iconst X75.here hx rfl (hb hby at_53) k) ?_
    show Go _ _ _ _ _ _ _ (T75.setTop (mkF m 54 #[.val (.int qa), .val (.int qb), .val (.int qc), .val (.int qp), .val (.int qq), .val (.int (1 : Int32)), .val (.int (1 : Int32)), .val (.int kq), .val (.ref b57), .val (.int (1 : Int32)), .unset] [(.int (2 : Int32)), (.int (1 : Int32))]))
    have hc54 : (1 : Int32) < (2 : Int32) := by decide
    refine Go.step (fun _ k => XS.icmpYes X75.here hx rfl (pc0 := 54) (pc' := 65) rfl (hb hby at_54) rfl (tlt hc54).1 (by decide) (by decide) k) ?_
    show Go _ _ _ _ _ _ _ (T75.setTop (mkF m 65 #[.val (.int qa), .val (.int qb), .val (.int qc), .val (.int qp), .val (.int qq), .val (.int (1 : Int32)), .val (.int (1 : Int32)), .val (.int kq), .val (.ref b57), .val (.int (1 : Int32)), .unset] []))
    refine Go.step (fun _ k => XS.iload X75.here hx rfl (hb hby at_65) rfl  k) ?_
    show Go _ _ _ _ _ _ _ (T75.setTop (mkF m 67 #[.val (.int qa), .val (.int qb), .val (.int qc), .val (.int qp), .val (.int qq), .val (.int (1 : Int32)), .val (.int (1 : Int32)), .val (.int kq), .val (.ref b57), .val (.int (1 : Int32)), .unset] [(.int (1 : Int32))]))
    refine Go.step (fun _ k => XS.iconst X75.here hx rfl (hb hby at_67) k) ?_
    show Go _ _ _ _ _ _ _ (T75.setTop (mkF m 68 #[.val (.int qa), .val (.int qb), .val (.int qc), .val (.int qp), .val (.int qq), .val (.int (1 : Int32)), .val (.int (1 : Int32)), .val (.int kq), .val (.ref b57), .val (.int (1 : Int32)), .unset] [(.int (3 : Int32)), (.int (1 : Int32))]))
    have hc68 : (1 : Int32) < (3 : Int32) := by decide
    refine Go.step (fun _ k => XS.icmpYes X75.here hx rfl (pc0 := 68) (pc' := 81) rfl (hb hby at_68) rfl (tlt hc68).1 (by decide) (by decide) k) ?_
    show Go _ _ _ _ _ _ _ (T75.setTop (mkF m 81 #[.val (.int qa), .val (.int qb), .val (.int qc), .val (.int qp), .val (.int qq), .val (.int (1 : Int32)), .val (.int (1 : Int32)), .val (.int kq), .val (.ref b57), .val (.int (1 : Int32)), .unset] []))
    refine Go.step (fun _ k => XS.iload X75.here hx rfl (hb hby at_81) rfl  k) ?_
    show Go _ _ _ _ _ _ _ (T75.setTop (mkF m 83 #[.val (.int qa), .val (.int qb), .val (.int qc), .val (.int qp), .val (.int qq), .val (.int (1 : Int32)), .val (.int (1 : Int32)), .val (.int kq), .val (.ref b57), .val (.int (1 : Int32)), .unset] [(.int (1 : Int32))]))
    refine Go.step (fun _ k => XS.iconst X75.here hx rfl (hb hby at_83) k) ?_
    show Go _ _ _ _ _ _ _ (T75.setTop (mkF m 84 #[.val (.int qa), .val (.int qb), .val (.int qc), .val (.int qp), .val (.int qq), .val (.int (1 : Int32)), .val (.int (1 : Int32)), .val (.int kq), .val (.ref b57), .val (.int (1 : Int32)), .unset] [(.int (1 : Int32)), (.int (1 : Int32))]))
    have hc84 : ¬ ((1 : Int32) < (1 : Int32)) := hc40
    refine Go.step (fun _ k => XS.icmpNo X75.here hx rfl (hb hby at_84) rfl (flt hc84).1 k) ?_
    show Go _ _ _ _ _ _ _ (T75.setTop (mkF m 87 #[.val (.int qa), .val (.int qb), .val (.int qc), .val (.int qp), .val (.int qq), .val (.int (1 : Int32)), .val (.int (1 : Int32)), .val (.int kq), .val (.ref b57), .val (.int (1 : Int32)), .unset] []))
    refine Go.step (fun _ k => XS.aload X75.here hx rfl (hb hby at_87) rfl rfl  k) ?_
    show Go _ _ _ _ _ _ _ (T75.setTop (mkF m 89 #[.val (.int qa), .val (.int qb), .val (.int qc), .val (.int qp), .val (.int qq), .val (.int (1 : Int32)), .val (.int (1 : Int32)), .val (.int kq), .val (.ref b57), .val (.int (1 : Int32)), .unset] [(.ref b57)]))
    have pq80 : ¬ (1 : Int32) = 0 := (by decide)
    have pq81 : ¬ (1 : Int32) - 1 < 0 := (by decide)
    have pq82 : (1 : Int32) - 1 < (32768 : Int32) := (by decide)
    obtain ⟨cq83, kq83, q83a, q83b, q83c⟩ := isOf hZ rfl c75_1
    obtain ⟨_, _, ⟨T83, L83, k83, n83⟩, -, X83, ⟨Lc83, hQ83, l83, y83, z83⟩, st83⟩ := X75.virtualBack hx (y := (⟨"com/example/tree_automata_reducer/treeautomatareducer/reduce/PairStack", "pop", "()V"⟩ : MethodName)) (z := (⟨"com/example/tree_automata_reducer/treeautomatareducer/reduce/PairStack", "pop", "()V"⟩ : MethodName)) hown (mvT hZ (hw _ (List.mem_of_getElem? (i := 123) rfl))) (mvT hZ (hw _ (List.mem_of_getElem? (i := 124) rfl))) (notFace_of_selects (args := #[]) (mvT hZ (hw _ (List.mem_of_getElem? (i := 126) rfl)))) (mvT hZ (hw _ (List.mem_of_getElem? (i := 126) rfl))) (mvT hZ (hw _ (List.mem_of_getElem? (i := 125) rfl))) (by decide) (backOf (W := 0) (rm18 l Z aZ hw [] b57 (1 : Int32) (1 : Int64) b_75 f2_75 (0 : Int32) (0 : Int32) T75.heap n0 z78 c75_1 c75_2 c75_3 c75_4 c75_5 c75_6 c75_7 c75_8 gn57 pq80 pq81 pq82) hZ (hw _ (List.mem_of_getElem? (i := 127) rfl)) (hw _ (List.mem_of_getElem? (i := 3) rfl)) (by decide) (by decide)) q83a q83c (g := (mkF m 89 #[.val (.int qa), .val (.int qb), .val (.int qc), .val (.int qp), .val (.int qq), .val (.int (1 : Int32)), .val (.int (1 : Int32)), .val (.int kq), .val (.ref b57), .val (.int (1 : Int32)), .unset] [(.ref b57)])) rfl (by rw [hml]; rfl) (Steps.refl _) (argsL := []) (rest := []) (lenOf pd_0 rfl) rfl (by show 2 * 0 + _ ≤ _; exact Nat.le_of_eq rfl) (hb hby at_89) (fun _ _ => ⟨rfl, rfl, (by decide : 4 + 0 ≤ _), (by decide : 32788 + 0 ≤ _)⟩)
    dsimp only [Pt.U, Pt.locs, Pt.cells, Pt.slots] at X83 l83 y83 z83 st83 hQ83
    subst l83 y83 z83
    obtain ⟨t1_83, t2_83, rfl, Nq83, K83, c83_0, c83_1, c83_2, c83_3, c83_4, c83_5⟩ := hQ83
    have N83 := Fr.app N75 Nq83
    refine Go.tr st83 ?_
    have z84 : n0 ≤ T83.heap.size := Nat.le_trans z78 K83.1
    have sqz84 : h0.size ≤ T83.heap.size := Nat.le_trans sqz78 K83.1
    have c83_1f : Fld Z T83.heap b57 "com/example/tree_automata_reducer/treeautomatareducer/reduce/PairStack" "size" "J" (.long (0 : Int64)) := c83_1
    have c83_3f : Fld Z T83.heap b57 "com/example/tree_automata_reducer/treeautomatareducer/reduce/PairStack" "inBlock" "I" (.int (0 : Int32)) := c83_3
    show Go _ _ _ _ _ _ _ (T83.setTop (mkF m 92 #[.val (.int qa), .val (.int qb), .val (.int qc), .val (.int qp), .val (.int qq), .val (.int (1 : Int32)), .val (.int (1 : Int32)), .val (.int kq), .val (.ref b57), .val (.int (1 : Int32)), .unset] []))
    refine Go.step (fun _ k => XS.iload X83.here hx rfl (hb hby at_92) rfl  k) ?_
    show Go _ _ _ _ _ _ _ (T83.setTop (mkF m 94 #[.val (.int qa), .val (.int qb), .val (.int qc), .val (.int qp), .val (.int qq), .val (.int (1 : Int32)), .val (.int (1 : Int32)), .val (.int kq), .val (.ref b57), .val (.int (1 : Int32)), .unset] [(.int (1 : Int32))]))
    refine Go.step (fun _ k => XS.iconst X83.here hx rfl (hb hby at_94) k) ?_
    show Go _ _ _ _ _ _ _ (T83.setTop (mkF m 95 #[.val (.int qa), .val (.int qb), .val (.int qc), .val (.int qp), .val (.int qq), .val (.int (1 : Int32)), .val (.int (1 : Int32)), .val (.int kq), .val (.ref b57), .val (.int (1 : Int32)), .unset] [(.int (2 : Int32)), (.int (1 : Int32))]))
    have hc95 : (1 : Int32) < (2 : Int32) := hc54
    refine Go.step (fun _ k => XS.icmpYes X83.here hx rfl (pc0 := 95) (pc' := 103) rfl (hb hby at_95) rfl (tlt hc95).1 (by decide) (by decide) k) ?_
    show Go _ _ _ _ _ _ _ (T83.setTop (mkF m 103 #[.val (.int qa), .val (.int qb), .val (.int qc), .val (.int qp), .val (.int qq), .val (.int (1 : Int32)), .val (.int (1 : Int32)), .val (.int kq), .val (.ref b57), .val (.int (1 : Int32)), .unset] []))
    refine Go.step (fun _ k => XS.iload X83.here hx rfl (hb hby at_103) rfl  k) ?_
    show Go _ _ _ _ _ _ _ (T83.setTop (mkF m 105 #[.val (.int qa), .val (.int qb), .val (.int qc), .val (.int qp), .val (.int qq), .val (.int (1 : Int32)), .val (.int (1 : Int32)), .val (.int kq), .val (.ref b57), .val (.int (1 : Int32)), .unset] [(.int (1 : Int32))]))
    refine Go.step (fun _ k => XS.iconst X83.here hx rfl (hb hby at_105) k) ?_
    show Go _ _ _ _ _ _ _ (T83.setTop (mkF m 106 #[.val (.int qa), .val (.int qb), .val (.int qc), .val (.int qp), .val (.int qq), .val (.int (1 : Int32)), .val (.int (1 : Int32)), .val (.int kq), .val (.ref b57), .val (.int (1 : Int32)), .unset] [(.int (3 : Int32)), (.int (1 : Int32))]))
    have hc106 : (1 : Int32) < (3 : Int32) := hc68
    refine Go.step (fun _ k => XS.icmpYes X83.here hx rfl (pc0 := 106) (pc' := 114) rfl (hb hby at_106) rfl (tlt hc106).1 (by decide) (by decide) k) ?_
    rcases hkq with h1 | h1
    · skip
      subst h1
      show Go _ _ _ _ _ _ _ (T83.setTop (mkF m 114 #[.val (.int qa), .val (.int qb), .val (.int qc), .val (.int qp), .val (.int qq), .val (.int (1 : Int32)), .val (.int (1 : Int32)), .val (.int (0 : Int32)), .val (.ref b57), .val (.int (1 : Int32)), .unset] []))
      refine Go.step (fun _ k => XS.iload X83.here hx rfl (hb hby at_114) rfl  k) ?_
      show Go _ _ _ _ _ _ _ (T83.setTop (mkF m 116 #[.val (.int qa), .val (.int qb), .val (.int qc), .val (.int qp), .val (.int qq), .val (.int (1 : Int32)), .val (.int (1 : Int32)), .val (.int (0 : Int32)), .val (.ref b57), .val (.int (1 : Int32)), .unset] [(.int (0 : Int32))]))
      refine Go.step (fun _ k => XS.iconst X83.here hx rfl (hb hby at_116) k) ?_
      show Go _ _ _ _ _ _ _ (T83.setTop (mkF m 117 #[.val (.int qa), .val (.int qb), .val (.int qc), .val (.int qp), .val (.int qq), .val (.int (1 : Int32)), .val (.int (1 : Int32)), .val (.int (0 : Int32)), .val (.ref b57), .val (.int (1 : Int32)), .unset] [(.int (1 : Int32)), (.int (0 : Int32))]))
      have hc117 : ¬ ((0 : Int32) = (1 : Int32)) := by decide
      refine Go.step (fun _ k => XS.icmpYes X83.here hx rfl (pc0 := 117) (pc' := 129) rfl (hb hby at_117) rfl (feq hc117).2 (by decide) (by decide) k) ?_
      show Go _ _ _ _ _ _ _ (T83.setTop (mkF m 129 #[.val (.int qa), .val (.int qb), .val (.int qc), .val (.int qp), .val (.int qq), .val (.int (1 : Int32)), .val (.int (1 : Int32)), .val (.int (0 : Int32)), .val (.ref b57), .val (.int (1 : Int32)), .unset] []))
      refine Go.step (fun _ k => XS.iload X83.here hx rfl (hb hby at_129) rfl  k) ?_
      show Go _ _ _ _ _ _ _ (T83.setTop (mkF m 131 #[.val (.int qa), .val (.int qb), .val (.int qc), .val (.int qp), .val (.int qq), .val (.int (1 : Int32)), .val (.int (1 : Int32)), .val (.int (0 : Int32)), .val (.ref b57), .val (.int (1 : Int32)), .unset] [(.int (1 : Int32))]))
      refine Go.step (fun _ k => XS.iload X83.here hx rfl (hb hby at_131) rfl  k) ?_
      show Go _ _ _ _ _ _ _ (T83.setTop (mkF m 133 #[.val (.int qa), .val (.int qb), .val (.int qc), .val (.int qp), .val (.int qq), .val (.int (1 : Int32)), .val (.int (1 : Int32)), .val (.int (0 : Int32)), .val (.ref b57), .val (.int (1 : Int32)), .unset] [(.int (1 : Int32)), (.int (1 : Int32))]))
      refine Go.step (fun _ k => XS.isub X83.here hx rfl (hb hby at_133) rfl k) ?_
      show Go _ _ _ _ _ _ _ (T83.setTop (mkF m 134 #[.val (.int qa), .val (.int qb), .val (.int qc), .val (.int qp), .val (.int qq), .val (.int (1 : Int32)), .val (.int (1 : Int32)), .val (.int (0 : Int32)), .val (.ref b57), .val (.int (1 : Int32)), .unset] [(.int (0 : Int32))]))
      refine Go.step (fun _ k => XS.iload X83.here hx rfl (hb hby at_134) rfl  k) ?_
      show Go _ _ _ _ _ _ _ (T83.setTop (mkF m 136 #[.val (.int qa), .val (.int qb), .val (.int qc), .val (.int qp), .val (.int qq), .val (.int (1 : Int32)), .val (.int (1 : Int32)), .val (.int (0 : Int32)), .val (.ref b57), .val (.int (1 : Int32)), .unset] [(.int (0 : Int32)), (.int (0 : Int32))]))
      refine Go.step (fun _ k => XS.iadd X83.here hx rfl (hb hby at_136) rfl k) ?_
      show Go _ _ _ _ _ _ _ (T83.setTop (mkF m 137 #[.val (.int qa), .val (.int qb), .val (.int qc), .val (.int qp), .val (.int qq), .val (.int (1 : Int32)), .val (.int (1 : Int32)), .val (.int (0 : Int32)), .val (.ref b57), .val (.int (1 : Int32)), .unset] [(.int (0 : Int32))]))
      have hc137 : (0 : Int32) = (0 : Int32) := by decide
      refine Go.step (fun _ k => XS.ifNo X83.here hx rfl (hb hby at_137) rfl ((if0 _ _).trans (teq hc137).2) k) ?_
      show Go _ _ _ _ _ _ _ (T83.setTop (mkF m 140 #[.val (.int qa), .val (.int qb), .val (.int qc), .val (.int qp), .val (.int qq), .val (.int (1 : Int32)), .val (.int (1 : Int32)), .val (.int (0 : Int32)), .val (.ref b57), .val (.int (1 : Int32)), .unset] []))
      refine Go.step (fun _ k => XS.iconst X83.here hx rfl (hb hby at_140) k) ?_
      show Go _ _ _ _ _ _ _ (T83.setTop (mkF m 141 #[.val (.int qa), .val (.int qb), .val (.int qc), .val (.int qp), .val (.int qq), .val (.int (1 : Int32)), .val (.int (1 : Int32)), .val (.int (0 : Int32)), .val (.ref b57), .val (.int (1 : Int32)), .unset] [(.int (1 : Int32))]))
      refine Go.step (fun _ k => XS.goto X83.here hx rfl (pc0 := 141) (pc' := 145) rfl (hb hby at_141) (by decide) (by decide) k) ?_
      show Go _ _ _ _ _ _ _ (T83.setTop (mkF m 145 #[.val (.int qa), .val (.int qb), .val (.int qc), .val (.int qp), .val (.int qq), .val (.int (1 : Int32)), .val (.int (1 : Int32)), .val (.int (0 : Int32)), .val (.ref b57), .val (.int (1 : Int32)), .unset] [(.int (1 : Int32))]))
      refine Go.step (fun _ k => XS.istore X83.here hx rfl (hb hby at_145) rfl (l' := #[.val (.int qa), .val (.int qb), .val (.int qc), .val (.int qp), .val (.int qq), .val (.int (1 : Int32)), .val (.int (1 : Int32)), .val (.int (0 : Int32)), .val (.ref b57), .val (.int (1 : Int32)), .val (.int (1 : Int32))]) rfl k) ?_
      show Go _ _ _ _ _ _ _ (T83.setTop (mkF m 147 #[.val (.int qa), .val (.int qb), .val (.int qc), .val (.int qp), .val (.int qq), .val (.int (1 : Int32)), .val (.int (1 : Int32)), .val (.int (0 : Int32)), .val (.ref b57), .val (.int (1 : Int32)), .val (.int (1 : Int32))] []))
      refine Go.step (fun _ k => XS.iload X83.here hx rfl (hb hby at_147) rfl  k) ?_
      show Go _ _ _ _ _ _ _ (T83.setTop (mkF m 149 #[.val (.int qa), .val (.int qb), .val (.int qc), .val (.int qp), .val (.int qq), .val (.int (1 : Int32)), .val (.int (1 : Int32)), .val (.int (0 : Int32)), .val (.ref b57), .val (.int (1 : Int32)), .val (.int (1 : Int32))] [(.int (1 : Int32))]))
      have hc149 : ¬ ((1 : Int32) = (0 : Int32)) := by decide
      refine Go.step (fun _ k => XS.ifNo X83.here hx rfl (hb hby at_149) rfl ((if0 _ _).trans (feq hc149).1) k) ?_
      show Go _ _ _ _ _ _ _ (T83.setTop (mkF m 152 #[.val (.int qa), .val (.int qb), .val (.int qc), .val (.int qp), .val (.int qq), .val (.int (1 : Int32)), .val (.int (1 : Int32)), .val (.int (0 : Int32)), .val (.ref b57), .val (.int (1 : Int32)), .val (.int (1 : Int32))] []))
      refine Go.step (fun _ k => XS.aload X83.here hx rfl (hb hby at_152) rfl rfl  k) ?_
      show Go _ _ _ _ _ _ _ (T83.setTop (mkF m 154 #[.val (.int qa), .val (.int qb), .val (.int qc), .val (.int qp), .val (.int qq), .val (.int (1 : Int32)), .val (.int (1 : Int32)), .val (.int (0 : Int32)), .val (.ref b57), .val (.int (1 : Int32)), .val (.int (1 : Int32))] [(.ref b57)]))
      obtain ⟨cq86, kq86, q86a, q86b, q86c⟩ := isOf hZ rfl c83_0
      obtain ⟨_, _, ⟨T86, L86, k86, n86⟩, -, X86, ⟨Lc86, hQ86, l86, y86, z86⟩, st86⟩ := X83.virtualBack hx (y := (⟨"com/example/tree_automata_reducer/treeautomatareducer/reduce/PairStack", "isEmpty", "()Z"⟩ : MethodName)) (z := (⟨"com/example/tree_automata_reducer/treeautomatareducer/reduce/PairStack", "isEmpty", "()Z"⟩ : MethodName)) hown (mvT hZ (hw _ (List.mem_of_getElem? (i := 41) rfl))) (mvT hZ (hw _ (List.mem_of_getElem? (i := 42) rfl))) (notFace_of_selects (args := #[]) (mvT hZ (hw _ (List.mem_of_getElem? (i := 44) rfl)))) (mvT hZ (hw _ (List.mem_of_getElem? (i := 44) rfl))) (mvT hZ (hw _ (List.mem_of_getElem? (i := 43) rfl))) (by decide) (backOf (W := 0) (rm6 l Z aZ hw [] b57 (0 : Int64) T83.heap n0 z84 c83_1f) hZ (hw _ (List.mem_of_getElem? (i := 45) rfl)) (hw _ (List.mem_of_getElem? (i := 3) rfl)) (by decide) (by decide)) q86a q86c (g := (mkF m 154 #[.val (.int qa), .val (.int qb), .val (.int qc), .val (.int qp), .val (.int qq), .val (.int (1 : Int32)), .val (.int (1 : Int32)), .val (.int (0 : Int32)), .val (.ref b57), .val (.int (1 : Int32)), .val (.int (1 : Int32))] [(.ref b57)])) rfl (by rw [hml]; rfl) (Steps.refl _) (argsL := []) (rest := []) (lenOf pd_9 rfl) rfl (by show 2 * 0 + _ ≤ _; exact Nat.le_of_eq rfl) (hb hby at_154) (fun _ _ => ⟨rfl, rfl, (by decide : 4 + 0 ≤ _), (by decide : 32788 + 0 ≤ _)⟩)
      dsimp only [Pt.U, Pt.locs, Pt.cells, Pt.slots] at X86 l86 y86 z86 st86 hQ86
      subst l86 y86 z86
      obtain ⟨rfl, Nq86, e86⟩ := hQ86
      have N86 := Fr.app N83 Nq86
      refine Go.tr st86 ?_
      show Go _ _ _ _ _ _ _ (T86.setTop (mkF m 157 #[.val (.int qa), .val (.int qb), .val (.int qc), .val (.int qp), .val (.int qq), .val (.int (1 : Int32)), .val (.int (1 : Int32)), .val (.int (0 : Int32)), .val (.ref b57), .val (.int (1 : Int32)), .val (.int (1 : Int32))] [(.int (if (0 : Int64) = 0 then (1 : Int32) else 0))]))
      refine Go.step (fun _ k => XS.iload X86.here hx rfl (hb hby at_157) rfl  k) ?_
      show Go _ _ _ _ _ _ _ (T86.setTop (mkF m 159 #[.val (.int qa), .val (.int qb), .val (.int qc), .val (.int qp), .val (.int qq), .val (.int (1 : Int32)), .val (.int (1 : Int32)), .val (.int (0 : Int32)), .val (.ref b57), .val (.int (1 : Int32)), .val (.int (1 : Int32))] [(.int (1 : Int32)), (.int (if (0 : Int64) = 0 then (1 : Int32) else 0))]))
      have hc159 : (if (0 : Int64) = 0 then (1 : Int32) else 0) = (1 : Int32) := by decide
      refine Go.step (fun _ k => XS.icmpNo X86.here hx rfl (hb hby at_159) rfl (teq hc159).2 k) ?_
      show Go _ _ _ _ _ _ _ (T86.setTop (mkF m 162 #[.val (.int qa), .val (.int qb), .val (.int qc), .val (.int qp), .val (.int qq), .val (.int (1 : Int32)), .val (.int (1 : Int32)), .val (.int (0 : Int32)), .val (.ref b57), .val (.int (1 : Int32)), .val (.int (1 : Int32))] []))
      refine Go.step (fun _ k => XS.iconst X86.here hx rfl (hb hby at_162) k) ?_
      show Go _ _ _ _ _ _ _ (T86.setTop (mkF m 163 #[.val (.int qa), .val (.int qb), .val (.int qc), .val (.int qp), .val (.int qq), .val (.int (1 : Int32)), .val (.int (1 : Int32)), .val (.int (0 : Int32)), .val (.ref b57), .val (.int (1 : Int32)), .val (.int (1 : Int32))] [(.int (1 : Int32))]))
      refine Go.step (fun _ k => XS.goto X86.here hx rfl (pc0 := 163) (pc' := 167) rfl (hb hby at_163) (by decide) (by decide) k) ?_
      show Go _ _ _ _ _ _ _ (T86.setTop (mkF m 167 #[.val (.int qa), .val (.int qb), .val (.int qc), .val (.int qp), .val (.int qq), .val (.int (1 : Int32)), .val (.int (1 : Int32)), .val (.int (0 : Int32)), .val (.ref b57), .val (.int (1 : Int32)), .val (.int (1 : Int32))] [(.int (1 : Int32))]))
      refine Go.retN X86 hx (t := .boolean) Bd.returns (by simp) hlk (hb hby at_167) ?_ (by decide) (by decide)
      rw [e86]
      exact ⟨(by first | rfl | (simp_all [own_nb1, own_nb0]; done)), N86⟩
    · skip
      subst h1
      show Go _ _ _ _ _ _ _ (T83.setTop (mkF m 114 #[.val (.int qa), .val (.int qb), .val (.int qc), .val (.int qp), .val (.int qq), .val (.int (1 : Int32)), .val (.int (1 : Int32)), .val (.int (1 : Int32)), .val (.ref b57), .val (.int (1 : Int32)), .unset] []))
      refine Go.step (fun _ k => XS.iload X83.here hx rfl (hb hby at_114) rfl  k) ?_
      show Go _ _ _ _ _ _ _ (T83.setTop (mkF m 116 #[.val (.int qa), .val (.int qb), .val (.int qc), .val (.int qp), .val (.int qq), .val (.int (1 : Int32)), .val (.int (1 : Int32)), .val (.int (1 : Int32)), .val (.ref b57), .val (.int (1 : Int32)), .unset] [(.int (1 : Int32))]))
      refine Go.step (fun _ k => XS.iconst X83.here hx rfl (hb hby at_116) k) ?_
      show Go _ _ _ _ _ _ _ (T83.setTop (mkF m 117 #[.val (.int qa), .val (.int qb), .val (.int qc), .val (.int qp), .val (.int qq), .val (.int (1 : Int32)), .val (.int (1 : Int32)), .val (.int (1 : Int32)), .val (.ref b57), .val (.int (1 : Int32)), .unset] [(.int (1 : Int32)), (.int (1 : Int32))]))
      have hc117 : (1 : Int32) = (1 : Int32) := by decide
      refine Go.step (fun _ k => XS.icmpNo X83.here hx rfl (hb hby at_117) rfl (teq hc117).2 k) ?_
      show Go _ _ _ _ _ _ _ (T83.setTop (mkF m 120 #[.val (.int qa), .val (.int qb), .val (.int qc), .val (.int qp), .val (.int qq), .val (.int (1 : Int32)), .val (.int (1 : Int32)), .val (.int (1 : Int32)), .val (.ref b57), .val (.int (1 : Int32)), .unset] []))
      refine Go.step (fun _ k => XS.aload X83.here hx rfl (hb hby at_120) rfl rfl  k) ?_
      show Go _ _ _ _ _ _ _ (T83.setTop (mkF m 122 #[.val (.int qa), .val (.int qb), .val (.int qc), .val (.int qp), .val (.int qq), .val (.int (1 : Int32)), .val (.int (1 : Int32)), .val (.int (1 : Int32)), .val (.ref b57), .val (.int (1 : Int32)), .unset] [(.ref b57)]))
      refine Go.step (fun _ k => XS.iload X83.here hx rfl (hb hby at_122) rfl  k) ?_
      show Go _ _ _ _ _ _ _ (T83.setTop (mkF m 124 #[.val (.int qa), .val (.int qb), .val (.int qc), .val (.int qp), .val (.int qq), .val (.int (1 : Int32)), .val (.int (1 : Int32)), .val (.int (1 : Int32)), .val (.ref b57), .val (.int (1 : Int32)), .unset] [(.int qq), (.ref b57)]))
      refine Go.step (fun _ k => XS.iload X83.here hx rfl (hb hby at_124) rfl  k) ?_
      show Go _ _ _ _ _ _ _ (T83.setTop (mkF m 126 #[.val (.int qa), .val (.int qb), .val (.int qc), .val (.int qp), .val (.int qq), .val (.int (1 : Int32)), .val (.int (1 : Int32)), .val (.int (1 : Int32)), .val (.ref b57), .val (.int (1 : Int32)), .unset] [(.int qq), (.int qq), (.ref b57)]))
      have f87 : Al Z T83.heap b_75 (32768 : Int32) f2_75 := (c75_5.keep K83 (ninS (Ne.symm c75_8) nin0))
      have pq88 : ¬ (0 : Int32) = (32768 : Int32) := (by decide)
      have pq89 : ¬ (0 : Int32) < 0 := (by decide)
      have pq90 : (0 : Int32) < (32768 : Int32) := (by decide)
      obtain ⟨cq91, kq91, q91a, q91b, q91c⟩ := isOf hZ rfl c83_0
      obtain ⟨_, _, ⟨T91, L91, k91, n91⟩, -, X91, ⟨Lc91, hQ91, l91, y91, z91⟩, st91⟩ := X83.virtualBack hx (y := (⟨"com/example/tree_automata_reducer/treeautomatareducer/reduce/PairStack", "push", "(II)V"⟩ : MethodName)) (z := (⟨"com/example/tree_automata_reducer/treeautomatareducer/reduce/PairStack", "push", "(II)V"⟩ : MethodName)) hown (mvT hZ (hw _ (List.mem_of_getElem? (i := 48) rfl))) (mvT hZ (hw _ (List.mem_of_getElem? (i := 49) rfl))) (notFace_of_selects (args := #[]) (mvT hZ (hw _ (List.mem_of_getElem? (i := 51) rfl)))) (mvT hZ (hw _ (List.mem_of_getElem? (i := 51) rfl))) (mvT hZ (hw _ (List.mem_of_getElem? (i := 50) rfl))) (by decide) (backOf (W := 0) (rmpB l Z aZ hw [] b57 qq qq (0 : Int32) (0 : Int64) b_75 f2_75 t1_83 t2_83 T83.heap n0 z84 c83_0 c83_1f c83_2 c83_3f f87 c83_4 c83_5 c75_8 gn57 gn75_0 pq88 pq89 pq90) hZ (hw _ (List.mem_of_getElem? (i := 52) rfl)) (hw _ (List.mem_of_getElem? (i := 3) rfl)) (by decide) (by decide)) q91a q91c (g := (mkF m 126 #[.val (.int qa), .val (.int qb), .val (.int qc), .val (.int qp), .val (.int qq), .val (.int (1 : Int32)), .val (.int (1 : Int32)), .val (.int (1 : Int32)), .val (.ref b57), .val (.int (1 : Int32)), .unset] [(.int qq), (.int qq), (.ref b57)])) rfl (by rw [hml]; rfl) (Steps.refl _) (argsL := [(.int qq), (.int qq)]) (rest := []) (lenOf pd_10 rfl) rfl (by show 2 * 0 + _ ≤ _; exact Nat.le_of_eq rfl) (hb hby at_126) (fun _ _ => ⟨rfl, rfl, (by decide : 4 + 0 ≤ _), (by decide : 32788 + 0 ≤ _)⟩)
      dsimp only [Pt.U, Pt.locs, Pt.cells, Pt.slots] at X91 l91 y91 z91 st91 hQ91
      subst l91 y91 z91
      obtain ⟨f2_91, rfl, Nq91, K91, c91_0, c91_1, c91_2, c91_3, c91_4, c91_5, c91_6⟩ := hQ91
      have N91 := Fr.app N83 Nq91
      refine Go.tr st91 ?_
      have z92 : n0 ≤ T91.heap.size := Nat.le_trans z84 K91.1
      have sqz92 : h0.size ≤ T91.heap.size := Nat.le_trans sqz84 K91.1
      have c91_1f : Fld Z T91.heap b57 "com/example/tree_automata_reducer/treeautomatareducer/reduce/PairStack" "size" "J" (.long (1 : Int64)) := c91_1
      have c91_3f : Fld Z T91.heap b57 "com/example/tree_automata_reducer/treeautomatareducer/reduce/PairStack" "inBlock" "I" (.int (1 : Int32)) := c91_3
      show Go _ _ _ _ _ _ _ (T91.setTop (mkF m 129 #[.val (.int qa), .val (.int qb), .val (.int qc), .val (.int qp), .val (.int qq), .val (.int (1 : Int32)), .val (.int (1 : Int32)), .val (.int (1 : Int32)), .val (.ref b57), .val (.int (1 : Int32)), .unset] []))
      refine Go.step (fun _ k => XS.iload X91.here hx rfl (hb hby at_129) rfl  k) ?_
      show Go _ _ _ _ _ _ _ (T91.setTop (mkF m 131 #[.val (.int qa), .val (.int qb), .val (.int qc), .val (.int qp), .val (.int qq), .val (.int (1 : Int32)), .val (.int (1 : Int32)), .val (.int (1 : Int32)), .val (.ref b57), .val (.int (1 : Int32)), .unset] [(.int (1 : Int32))]))
      refine Go.step (fun _ k => XS.iload X91.here hx rfl (hb hby at_131) rfl  k) ?_
      show Go _ _ _ _ _ _ _ (T91.setTop (mkF m 133 #[.val (.int qa), .val (.int qb), .val (.int qc), .val (.int qp), .val (.int qq), .val (.int (1 : Int32)), .val (.int (1 : Int32)), .val (.int (1 : Int32)), .val (.ref b57), .val (.int (1 : Int32)), .unset] [(.int (1 : Int32)), (.int (1 : Int32))]))
      refine Go.step (fun _ k => XS.isub X91.here hx rfl (hb hby at_133) rfl k) ?_
      show Go _ _ _ _ _ _ _ (T91.setTop (mkF m 134 #[.val (.int qa), .val (.int qb), .val (.int qc), .val (.int qp), .val (.int qq), .val (.int (1 : Int32)), .val (.int (1 : Int32)), .val (.int (1 : Int32)), .val (.ref b57), .val (.int (1 : Int32)), .unset] [(.int (0 : Int32))]))
      refine Go.step (fun _ k => XS.iload X91.here hx rfl (hb hby at_134) rfl  k) ?_
      show Go _ _ _ _ _ _ _ (T91.setTop (mkF m 136 #[.val (.int qa), .val (.int qb), .val (.int qc), .val (.int qp), .val (.int qq), .val (.int (1 : Int32)), .val (.int (1 : Int32)), .val (.int (1 : Int32)), .val (.ref b57), .val (.int (1 : Int32)), .unset] [(.int (1 : Int32)), (.int (0 : Int32))]))
      refine Go.step (fun _ k => XS.iadd X91.here hx rfl (hb hby at_136) rfl k) ?_
      show Go _ _ _ _ _ _ _ (T91.setTop (mkF m 137 #[.val (.int qa), .val (.int qb), .val (.int qc), .val (.int qp), .val (.int qq), .val (.int (1 : Int32)), .val (.int (1 : Int32)), .val (.int (1 : Int32)), .val (.ref b57), .val (.int (1 : Int32)), .unset] [(.int (1 : Int32))]))
      have hc137 : ¬ ((1 : Int32) = (0 : Int32)) := by decide
      refine Go.step (fun _ k => XS.ifYes X91.here hx rfl (pc0 := 137) (pc' := 144) rfl (hb hby at_137) rfl ((if0 _ _).trans (feq hc137).2) (by decide) (by decide) k) ?_
      show Go _ _ _ _ _ _ _ (T91.setTop (mkF m 144 #[.val (.int qa), .val (.int qb), .val (.int qc), .val (.int qp), .val (.int qq), .val (.int (1 : Int32)), .val (.int (1 : Int32)), .val (.int (1 : Int32)), .val (.ref b57), .val (.int (1 : Int32)), .unset] []))
      refine Go.step (fun _ k => XS.iconst X91.here hx rfl (hb hby at_144) k) ?_
      show Go _ _ _ _ _ _ _ (T91.setTop (mkF m 145 #[.val (.int qa), .val (.int qb), .val (.int qc), .val (.int qp), .val (.int qq), .val (.int (1 : Int32)), .val (.int (1 : Int32)), .val (.int (1 : Int32)), .val (.ref b57), .val (.int (1 : Int32)), .unset] [(.int (0 : Int32))]))
      refine Go.step (fun _ k => XS.istore X91.here hx rfl (hb hby at_145) rfl (l' := #[.val (.int qa), .val (.int qb), .val (.int qc), .val (.int qp), .val (.int qq), .val (.int (1 : Int32)), .val (.int (1 : Int32)), .val (.int (1 : Int32)), .val (.ref b57), .val (.int (1 : Int32)), .val (.int (0 : Int32))]) rfl k) ?_
      show Go _ _ _ _ _ _ _ (T91.setTop (mkF m 147 #[.val (.int qa), .val (.int qb), .val (.int qc), .val (.int qp), .val (.int qq), .val (.int (1 : Int32)), .val (.int (1 : Int32)), .val (.int (1 : Int32)), .val (.ref b57), .val (.int (1 : Int32)), .val (.int (0 : Int32))] []))
      refine Go.step (fun _ k => XS.iload X91.here hx rfl (hb hby at_147) rfl  k) ?_
      show Go _ _ _ _ _ _ _ (T91.setTop (mkF m 149 #[.val (.int qa), .val (.int qb), .val (.int qc), .val (.int qp), .val (.int qq), .val (.int (1 : Int32)), .val (.int (1 : Int32)), .val (.int (1 : Int32)), .val (.ref b57), .val (.int (1 : Int32)), .val (.int (0 : Int32))] [(.int (1 : Int32))]))
      have hc149 : ¬ ((1 : Int32) = (0 : Int32)) := hc137
      refine Go.step (fun _ k => XS.ifNo X91.here hx rfl (hb hby at_149) rfl ((if0 _ _).trans (feq hc149).1) k) ?_
      show Go _ _ _ _ _ _ _ (T91.setTop (mkF m 152 #[.val (.int qa), .val (.int qb), .val (.int qc), .val (.int qp), .val (.int qq), .val (.int (1 : Int32)), .val (.int (1 : Int32)), .val (.int (1 : Int32)), .val (.ref b57), .val (.int (1 : Int32)), .val (.int (0 : Int32))] []))
      refine Go.step (fun _ k => XS.aload X91.here hx rfl (hb hby at_152) rfl rfl  k) ?_
      show Go _ _ _ _ _ _ _ (T91.setTop (mkF m 154 #[.val (.int qa), .val (.int qb), .val (.int qc), .val (.int qp), .val (.int qq), .val (.int (1 : Int32)), .val (.int (1 : Int32)), .val (.int (1 : Int32)), .val (.ref b57), .val (.int (1 : Int32)), .val (.int (0 : Int32))] [(.ref b57)]))
      obtain ⟨cq94, kq94, q94a, q94b, q94c⟩ := isOf hZ rfl c91_0
      obtain ⟨_, _, ⟨T94, L94, k94, n94⟩, -, X94, ⟨Lc94, hQ94, l94, y94, z94⟩, st94⟩ := X91.virtualBack hx (y := (⟨"com/example/tree_automata_reducer/treeautomatareducer/reduce/PairStack", "isEmpty", "()Z"⟩ : MethodName)) (z := (⟨"com/example/tree_automata_reducer/treeautomatareducer/reduce/PairStack", "isEmpty", "()Z"⟩ : MethodName)) hown (mvT hZ (hw _ (List.mem_of_getElem? (i := 41) rfl))) (mvT hZ (hw _ (List.mem_of_getElem? (i := 42) rfl))) (notFace_of_selects (args := #[]) (mvT hZ (hw _ (List.mem_of_getElem? (i := 44) rfl)))) (mvT hZ (hw _ (List.mem_of_getElem? (i := 44) rfl))) (mvT hZ (hw _ (List.mem_of_getElem? (i := 43) rfl))) (by decide) (backOf (W := 0) (rm6 l Z aZ hw [] b57 (1 : Int64) T91.heap n0 z92 c91_1f) hZ (hw _ (List.mem_of_getElem? (i := 45) rfl)) (hw _ (List.mem_of_getElem? (i := 3) rfl)) (by decide) (by decide)) q94a q94c (g := (mkF m 154 #[.val (.int qa), .val (.int qb), .val (.int qc), .val (.int qp), .val (.int qq), .val (.int (1 : Int32)), .val (.int (1 : Int32)), .val (.int (1 : Int32)), .val (.ref b57), .val (.int (1 : Int32)), .val (.int (0 : Int32))] [(.ref b57)])) rfl (by rw [hml]; rfl) (Steps.refl _) (argsL := []) (rest := []) (lenOf pd_9 rfl) rfl (by show 2 * 0 + _ ≤ _; exact Nat.le_of_eq rfl) (hb hby at_154) (fun _ _ => ⟨rfl, rfl, (by decide : 4 + 0 ≤ _), (by decide : 32788 + 0 ≤ _)⟩)
      dsimp only [Pt.U, Pt.locs, Pt.cells, Pt.slots] at X94 l94 y94 z94 st94 hQ94
      subst l94 y94 z94
      obtain ⟨rfl, Nq94, e94⟩ := hQ94
      have N94 := Fr.app N91 Nq94
      refine Go.tr st94 ?_
      show Go _ _ _ _ _ _ _ (T94.setTop (mkF m 157 #[.val (.int qa), .val (.int qb), .val (.int qc), .val (.int qp), .val (.int qq), .val (.int (1 : Int32)), .val (.int (1 : Int32)), .val (.int (1 : Int32)), .val (.ref b57), .val (.int (1 : Int32)), .val (.int (0 : Int32))] [(.int (if (1 : Int64) = 0 then (1 : Int32) else 0))]))
      refine Go.step (fun _ k => XS.iload X94.here hx rfl (hb hby at_157) rfl  k) ?_
      show Go _ _ _ _ _ _ _ (T94.setTop (mkF m 159 #[.val (.int qa), .val (.int qb), .val (.int qc), .val (.int qp), .val (.int qq), .val (.int (1 : Int32)), .val (.int (1 : Int32)), .val (.int (1 : Int32)), .val (.ref b57), .val (.int (1 : Int32)), .val (.int (0 : Int32))] [(.int (0 : Int32)), (.int (if (1 : Int64) = 0 then (1 : Int32) else 0))]))
      have hc159 : (if (1 : Int64) = 0 then (1 : Int32) else 0) = (0 : Int32) := by decide
      refine Go.step (fun _ k => XS.icmpNo X94.here hx rfl (hb hby at_159) rfl (teq hc159).2 k) ?_
      show Go _ _ _ _ _ _ _ (T94.setTop (mkF m 162 #[.val (.int qa), .val (.int qb), .val (.int qc), .val (.int qp), .val (.int qq), .val (.int (1 : Int32)), .val (.int (1 : Int32)), .val (.int (1 : Int32)), .val (.ref b57), .val (.int (1 : Int32)), .val (.int (0 : Int32))] []))
      refine Go.step (fun _ k => XS.iconst X94.here hx rfl (hb hby at_162) k) ?_
      show Go _ _ _ _ _ _ _ (T94.setTop (mkF m 163 #[.val (.int qa), .val (.int qb), .val (.int qc), .val (.int qp), .val (.int qq), .val (.int (1 : Int32)), .val (.int (1 : Int32)), .val (.int (1 : Int32)), .val (.ref b57), .val (.int (1 : Int32)), .val (.int (0 : Int32))] [(.int (1 : Int32))]))
      refine Go.step (fun _ k => XS.goto X94.here hx rfl (pc0 := 163) (pc' := 167) rfl (hb hby at_163) (by decide) (by decide) k) ?_
      show Go _ _ _ _ _ _ _ (T94.setTop (mkF m 167 #[.val (.int qa), .val (.int qb), .val (.int qc), .val (.int qp), .val (.int qq), .val (.int (1 : Int32)), .val (.int (1 : Int32)), .val (.int (1 : Int32)), .val (.ref b57), .val (.int (1 : Int32)), .val (.int (0 : Int32))] [(.int (1 : Int32))]))
      refine Go.retN X94 hx (t := .boolean) Bd.returns (by simp) hlk (hb hby at_167) ?_ (by decide) (by decide)
      rw [e94]
      exact ⟨(by first | rfl | (simp_all [own_nb1, own_nb0]; done)), N94⟩
  · skip
    subst h1 h2
    show Go _ _ _ _ _ _ _ (s₁.setTop (mkF m 21 #[.val (.int qa), .val (.int qb), .val (.int qc), .val (.int qp), .val (.int qq), .val (.int (2 : Int32)), .val (.int (0 : Int32)), .val (.int kq), .unset, .unset, .unset] []))
    obtain ⟨T95, h95, X95, e95, E95, A95, D95, -, st95⟩ := newO X0 hx hZ hown (hw _ (List.mem_of_getElem? (i := 1) rfl)) (hw _ (List.mem_of_getElem? (i := 2) rfl)) (hw _ (List.mem_of_getElem? (i := 3) rfl)) e0 (g := (mkF m 21 #[.val (.int qa), .val (.int qb), .val (.int qc), .val (.int qp), .val (.int qq), .val (.int (2 : Int32)), .val (.int (0 : Int32)), .val (.int kq), .unset, .unset, .unset] [])) rfl (hb hby at_21) (by decide) (by decide)
    obtain ⟨b95, g95⟩ : ∃ z, z = h0.size := ⟨_, rfl⟩
    rw [← g95] at A95 D95 st95
    refine Go.step st95 ?_
    have gn95 : n0 ≤ b95 := Nat.le_trans Z0 (Nat.le_of_eq g95.symm)
    have sz95 : h0.size ≤ b95 := Nat.le_trans sq0 (Nat.le_of_eq g95.symm)
    have z96 : n0 ≤ h95.size := Nat.le_trans Z0 E95.1
    have sqz96 : h0.size ≤ h95.size := Nat.le_trans sq0 E95.1
    have f98 : Fld Z h95 b95 "com/example/tree_automata_reducer/treeautomatareducer/reduce/PairStack" "blocks" "Ljava/util/List;" .null := D95 (Or.inr (hw _ (List.mem_of_getElem? (i := 35) rfl))) (ty := (.object "java/util/List")) (by decide)
    have f99 : Fld Z h95 b95 "com/example/tree_automata_reducer/treeautomatareducer/reduce/PairStack" "blockNumber" "I" (.int (0 : Int32)) := D95 (Or.inl (hw _ (List.mem_of_getElem? (i := 37) rfl))) (ty := .int) (by decide)
    have f100 : Fld Z h95 b95 "com/example/tree_automata_reducer/treeautomatareducer/reduce/PairStack" "inBlock" "I" (.int (0 : Int32)) := D95 (Or.inl (hw _ (List.mem_of_getElem? (i := 40) rfl))) (ty := .int) (by decide)
    have f101 : Fld Z h95 b95 "com/example/tree_automata_reducer/treeautomatareducer/reduce/PairStack" "size" "J" (.long (0 : Int64)) := D95 (Or.inl (hw _ (List.mem_of_getElem? (i := 47) rfl))) (ty := .long) (by decide)
    have f102 : Fld Z h95 b95 "com/example/tree_automata_reducer/treeautomatareducer/reduce/PairStack" "block" "[J" .null := D95 (Or.inl (hw _ (List.mem_of_getElem? (i := 121) rfl))) (ty := (.array .long)) (by decide)
    have f103 : Fld Z h95 b95 "com/example/tree_automata_reducer/treeautomatareducer/reduce/PairStack" "first" "I" (.int (0 : Int32)) := D95 (Or.inl (hw _ (List.mem_of_getElem? (i := 129) rfl))) (ty := .int) (by decide)
    have f104 : Fld Z h95 b95 "com/example/tree_automata_reducer/treeautomatareducer/reduce/PairStack" "second" "I" (.int (0 : Int32)) := D95 (Or.inl (hw _ (List.mem_of_getElem? (i := 131) rfl))) (ty := .int) (by decide)
    show Go _ _ _ _ _ _ _ (T95.setTop (mkF m 24 #[.val (.int qa), .val (.int qb), .val (.int qc), .val (.int qp), .val (.int qq), .val (.int (2 : Int32)), .val (.int (0 : Int32)), .val (.int kq), .unset, .unset, .unset] [(.ref b95)]))
    refine Go.step (fun _ k => XS.dup X95.here hx rfl (hb hby at_24) rfl rfl k) ?_
    show Go _ _ _ _ _ _ _ (T95.setTop (mkF m 25 #[.val (.int qa), .val (.int qb), .val (.int qc), .val (.int qp), .val (.int qq), .val (.int (2 : Int32)), .val (.int (0 : Int32)), .val (.int kq), .unset, .unset, .unset] [(.ref b95), (.ref b95)]))
    have f105 : Old Z n0 h95 := (O_0.ext E95)
    obtain ⟨_, _, ⟨T106, L106, k106, n106⟩, -, X106, ⟨Lc106, hQ106, l106, y106, z106⟩, st106⟩ := X95.specialBack hx (y := (⟨"com/example/tree_automata_reducer/treeautomatareducer/reduce/PairStack", "<init>", "()V"⟩ : MethodName)) rfl hown (mvT hZ (hw _ (List.mem_of_getElem? (i := 4) rfl))) (mvT hZ (hw _ (List.mem_of_getElem? (i := 5) rfl))) (mvT hZ (hw _ (List.mem_of_getElem? (i := 6) rfl))) (by decide) (backOf (W := 1) (rm1 l Z aZ hw [] b95 w0 h95 n0 z96 f105 S_1 A95 f98 f101 f102 f99 f100 f103 f104 gn95) hZ (hw _ (List.mem_of_getElem? (i := 6) rfl)) (hw _ (List.mem_of_getElem? (i := 3) rfl)) (by decide) (by decide)) (g := (mkF m 25 #[.val (.int qa), .val (.int qb), .val (.int qc), .val (.int qp), .val (.int qq), .val (.int (2 : Int32)), .val (.int (0 : Int32)), .val (.int kq), .unset, .unset, .unset] [(.ref b95), (.ref b95)])) rfl (by rw [hml]; rfl) (Steps.refl _) (a := b95) (argsL := []) (rest := [(.ref b95)]) (lenOf pd_0 rfl) rfl (by show 2 * 0 + _ ≤ _; exact Nat.le_of_eq rfl) (hb hby at_25) (fun _ _ => ⟨rfl, e95, (by decide : 1 + 1 ≤ _), (by decide : 7 + 3 ≤ _)⟩)
    dsimp only [Pt.U, Pt.locs, Pt.cells, Pt.slots] at X106 l106 y106 z106 st106 hQ106
    subst l106 y106 z106
    obtain ⟨l0_106, rfl, Nq106, K106, c106_0, c106_1, c106_2, c106_3, c106_4, c106_5, c106_6, c106_7, c106_8, c106_9, c106_10, c106_11, c106_12, c106_13⟩ := hQ106
    have N106 := Fr.app N0 Nq106
    refine Go.tr st106 ?_
    have ne107 : b95 ≠ l0_106 := Nat.ne_of_lt (Nat.lt_of_lt_of_le A95.lt c106_0)
    have gn106_0 : n0 ≤ l0_106 := Nat.le_trans z96 c106_0
    have sz106_0 : h0.size ≤ l0_106 := Nat.le_trans sqz96 c106_0
    have z108 : n0 ≤ T106.heap.size := Nat.le_trans z96 K106.1
    have sqz108 : h0.size ≤ T106.heap.size := Nat.le_trans sqz96 K106.1
    show Go _ _ _ _ _ _ _ (T106.setTop (mkF m 28 #[.val (.int qa), .val (.int qb), .val (.int qc), .val (.int qp), .val (.int qq), .val (.int (2 : Int32)), .val (.int (0 : Int32)), .val (.int kq), .unset, .unset, .unset] [(.ref b95)]))
    refine Go.step (fun _ k => XS.astore X106.here hx rfl (hb hby at_28) rfl rfl (l' := #[.val (.int qa), .val (.int qb), .val (.int qc), .val (.int qp), .val (.int qq), .val (.int (2 : Int32)), .val (.int (0 : Int32)), .val (.int kq), .val (.ref b95), .unset, .unset]) rfl k) ?_
    show Go _ _ _ _ _ _ _ (T106.setTop (mkF m 30 #[.val (.int qa), .val (.int qb), .val (.int qc), .val (.int qp), .val (.int qq), .val (.int (2 : Int32)), .val (.int (0 : Int32)), .val (.int kq), .val (.ref b95), .unset, .unset] []))
    refine Go.step (fun _ k => XS.aload X106.here hx rfl (hb hby at_30) rfl rfl  k) ?_
    show Go _ _ _ _ _ _ _ (T106.setTop (mkF m 32 #[.val (.int qa), .val (.int qb), .val (.int qc), .val (.int qp), .val (.int qq), .val (.int (2 : Int32)), .val (.int (0 : Int32)), .val (.int kq), .val (.ref b95), .unset, .unset] [(.ref b95)]))
    obtain ⟨cq110, kq110, q110a, q110b, q110c⟩ := isOf hZ rfl c106_1
    obtain ⟨_, _, ⟨T110, L110, k110, n110⟩, -, X110, ⟨Lc110, hQ110, l110, y110, z110⟩, st110⟩ := X106.virtualBack hx (y := (⟨"com/example/tree_automata_reducer/treeautomatareducer/reduce/PairStack", "isEmpty", "()Z"⟩ : MethodName)) (z := (⟨"com/example/tree_automata_reducer/treeautomatareducer/reduce/PairStack", "isEmpty", "()Z"⟩ : MethodName)) hown (mvT hZ (hw _ (List.mem_of_getElem? (i := 41) rfl))) (mvT hZ (hw _ (List.mem_of_getElem? (i := 42) rfl))) (notFace_of_selects (args := #[]) (mvT hZ (hw _ (List.mem_of_getElem? (i := 44) rfl)))) (mvT hZ (hw _ (List.mem_of_getElem? (i := 44) rfl))) (mvT hZ (hw _ (List.mem_of_getElem? (i := 43) rfl))) (by decide) (backOf (W := 0) (rm6 l Z aZ hw [] b95 (0 : Int64) T106.heap n0 z108 c106_3) hZ (hw _ (List.mem_of_getElem? (i := 45) rfl)) (hw _ (List.mem_of_getElem? (i := 3) rfl)) (by decide) (by decide)) q110a q110c (g := (mkF m 32 #[.val (.int qa), .val (.int qb), .val (.int qc), .val (.int qp), .val (.int qq), .val (.int (2 : Int32)), .val (.int (0 : Int32)), .val (.int kq), .val (.ref b95), .unset, .unset] [(.ref b95)])) rfl (by rw [hml]; rfl) (Steps.refl _) (argsL := []) (rest := []) (lenOf pd_9 rfl) rfl (by show 2 * 0 + _ ≤ _; exact Nat.le_of_eq rfl) (hb hby at_32) (fun _ _ => ⟨rfl, rfl, (by decide : 2 + 0 ≤ _), (by decide : 10 + 0 ≤ _)⟩)
    dsimp only [Pt.U, Pt.locs, Pt.cells, Pt.slots] at X110 l110 y110 z110 st110 hQ110
    subst l110 y110 z110
    obtain ⟨rfl, Nq110, e110⟩ := hQ110
    have N110 := Fr.app N106 Nq110
    refine Go.tr st110 ?_
    show Go _ _ _ _ _ _ _ (T110.setTop (mkF m 35 #[.val (.int qa), .val (.int qb), .val (.int qc), .val (.int qp), .val (.int qq), .val (.int (2 : Int32)), .val (.int (0 : Int32)), .val (.int kq), .val (.ref b95), .unset, .unset] [(.int (if (0 : Int64) = 0 then (1 : Int32) else 0))]))
    have sv111 : (if (0 : Int64) = 0 then (1 : Int32) else 0) = (1 : Int32) := if_pos rfl
    rw [sv111]
    show Go _ _ _ _ _ _ _ (T110.setTop (mkF m 35 #[.val (.int qa), .val (.int qb), .val (.int qc), .val (.int qp), .val (.int qq), .val (.int (2 : Int32)), .val (.int (0 : Int32)), .val (.int kq), .val (.ref b95), .unset, .unset] [(.int (1 : Int32))]))
    refine Go.step (fun _ k => XS.istore X110.here hx rfl (hb hby at_35) rfl (l' := #[.val (.int qa), .val (.int qb), .val (.int qc), .val (.int qp), .val (.int qq), .val (.int (2 : Int32)), .val (.int (0 : Int32)), .val (.int kq), .val (.ref b95), .val (.int (1 : Int32)), .unset]) rfl k) ?_
    show Go _ _ _ _ _ _ _ (T110.setTop (mkF m 37 #[.val (.int qa), .val (.int qb), .val (.int qc), .val (.int qp), .val (.int qq), .val (.int (2 : Int32)), .val (.int (0 : Int32)), .val (.int kq), .val (.ref b95), .val (.int (1 : Int32)), .unset] []))
    refine Go.step (fun _ k => XS.iload X110.here hx rfl (hb hby at_37) rfl  k) ?_
    show Go _ _ _ _ _ _ _ (T110.setTop (mkF m 39 #[.val (.int qa), .val (.int qb), .val (.int qc), .val (.int qp), .val (.int qq), .val (.int (2 : Int32)), .val (.int (0 : Int32)), .val (.int kq), .val (.ref b95), .val (.int (1 : Int32)), .unset] [(.int (2 : Int32))]))
    refine Go.step (fun _ k => XS.iconst X110.here hx rfl (hb hby at_39) k) ?_
    show Go _ _ _ _ _ _ _ (T110.setTop (mkF m 40 #[.val (.int qa), .val (.int qb), .val (.int qc), .val (.int qp), .val (.int qq), .val (.int (2 : Int32)), .val (.int (0 : Int32)), .val (.int kq), .val (.ref b95), .val (.int (1 : Int32)), .unset] [(.int (1 : Int32)), (.int (2 : Int32))]))
    have hc40 : ¬ ((2 : Int32) < (1 : Int32)) := by decide
    refine Go.step (fun _ k => XS.icmpNo X110.here hx rfl (hb hby at_40) rfl (flt hc40).1 k) ?_
    show Go _ _ _ _ _ _ _ (T110.setTop (mkF m 43 #[.val (.int qa), .val (.int qb), .val (.int qc), .val (.int qp), .val (.int qq), .val (.int (2 : Int32)), .val (.int (0 : Int32)), .val (.int kq), .val (.ref b95), .val (.int (1 : Int32)), .unset] []))
    refine Go.step (fun _ k => XS.aload X110.here hx rfl (hb hby at_43) rfl rfl  k) ?_
    show Go _ _ _ _ _ _ _ (T110.setTop (mkF m 45 #[.val (.int qa), .val (.int qb), .val (.int qc), .val (.int qp), .val (.int qq), .val (.int (2 : Int32)), .val (.int (0 : Int32)), .val (.int kq), .val (.ref b95), .val (.int (1 : Int32)), .unset] [(.ref b95)]))
    refine Go.step (fun _ k => XS.iloadN X110.here hx rfl (hb hby at_45) rfl  k) ?_
    show Go _ _ _ _ _ _ _ (T110.setTop (mkF m 46 #[.val (.int qa), .val (.int qb), .val (.int qc), .val (.int qp), .val (.int qq), .val (.int (2 : Int32)), .val (.int (0 : Int32)), .val (.int kq), .val (.ref b95), .val (.int (1 : Int32)), .unset] [(.int qp), (.ref b95)]))
    refine Go.step (fun _ k => XS.iload X110.here hx rfl (hb hby at_46) rfl  k) ?_
    show Go _ _ _ _ _ _ _ (T110.setTop (mkF m 48 #[.val (.int qa), .val (.int qb), .val (.int qc), .val (.int qp), .val (.int qq), .val (.int (2 : Int32)), .val (.int (0 : Int32)), .val (.int kq), .val (.ref b95), .val (.int (1 : Int32)), .unset] [(.int qq), (.int qp), (.ref b95)]))
    have f112 : Old Z n0 T106.heap := (f105.keep K106 (allS gn95 all0))
    obtain ⟨cq113, kq113, q113a, q113b, q113c⟩ := isOf hZ e110 c106_1
    obtain ⟨_, _, ⟨T113, L113, k113, n113⟩, -, X113, ⟨Lc113, hQ113, l113, y113, z113⟩, st113⟩ := X110.virtualBack hx (y := (⟨"com/example/tree_automata_reducer/treeautomatareducer/reduce/PairStack", "push", "(II)V"⟩ : MethodName)) (z := (⟨"com/example/tree_automata_reducer/treeautomatareducer/reduce/PairStack", "push", "(II)V"⟩ : MethodName)) hown (mvT hZ (hw _ (List.mem_of_getElem? (i := 48) rfl))) (mvT hZ (hw _ (List.mem_of_getElem? (i := 49) rfl))) (notFace_of_selects (args := #[]) (mvT hZ (hw _ (List.mem_of_getElem? (i := 51) rfl)))) (mvT hZ (hw _ (List.mem_of_getElem? (i := 51) rfl))) (mvT hZ (hw _ (List.mem_of_getElem? (i := 50) rfl))) (by decide) (backOf (W := 0) (rmpA l Z aZ hw [] b95 qp qq w0 l0_106 T106.heap n0 z108 f112 S_1 A_2 c106_1 c106_2 c106_3 c106_4 c106_5 c106_6 c106_7 c106_8 c106_9 c106_10 c106_11 c106_12 c106_13 gn95 gn106_0) hZ (hw _ (List.mem_of_getElem? (i := 52) rfl)) (hw _ (List.mem_of_getElem? (i := 3) rfl)) (by decide) (by decide)) q113a q113c (g := (mkF m 48 #[.val (.int qa), .val (.int qb), .val (.int qc), .val (.int qp), .val (.int qq), .val (.int (2 : Int32)), .val (.int (0 : Int32)), .val (.int kq), .val (.ref b95), .val (.int (1 : Int32)), .unset] [(.int qq), (.int qp), (.ref b95)])) rfl (by rw [hml]; rfl) (Steps.refl _) (argsL := [(.int qp), (.int qq)]) (rest := []) (lenOf pd_10 rfl) rfl (by show 2 * 0 + _ ≤ _; exact Nat.le_of_eq rfl) (hb hby at_48) (fun _ _ => ⟨rfl, e110, (by decide : 2 + 2 ≤ _), (by decide : 10 + 32778 ≤ _)⟩)
    dsimp only [Pt.U, Pt.locs, Pt.cells, Pt.slots] at X113 l113 y113 z113 st113 hQ113
    subst l113 y113 z113
    obtain ⟨b_113, f2_113, rfl, Nq113, K113, c113_0, c113_1, c113_2, c113_3, c113_4, c113_5, c113_6, c113_7, c113_8⟩ := hQ113
    have N113 := Fr.app N110 Nq113
    refine Go.tr st113 ?_
    have ne114 : b95 ≠ b_113 := Nat.ne_of_lt (Nat.lt_of_lt_of_le c106_1.lt c113_0)
    have ne115 : l0_106 ≠ b_113 := Nat.ne_of_lt (Nat.lt_of_lt_of_le c106_9.lt c113_0)
    have gn113_0 : n0 ≤ b_113 := Nat.le_trans z108 c113_0
    have sz113_0 : h0.size ≤ b_113 := Nat.le_trans sqz108 c113_0
    have z116 : n0 ≤ T113.heap.size := Nat.le_trans z108 K113.1
    have sqz116 : h0.size ≤ T113.heap.size := Nat.le_trans sqz108 K113.1
    show Go _ _ _ _ _ _ _ (T113.setTop (mkF m 51 #[.val (.int qa), .val (.int qb), .val (.int qc), .val (.int qp), .val (.int qq), .val (.int (2 : Int32)), .val (.int (0 : Int32)), .val (.int kq), .val (.ref b95), .val (.int (1 : Int32)), .unset] []))
    refine Go.step (fun _ k => XS.iload X113.here hx rfl (hb hby at_51) rfl  k) ?_
    show Go _ _ _ _ _ _ _ (T113.setTop (mkF m 53 #[.val (.int qa), .val (.int qb), .val (.int qc), .val (.int qp), .val (.int qq), .val (.int (2 : Int32)), .val (.int (0 : Int32)), .val (.int kq), .val (.ref b95), .val (.int (1 : Int32)), .unset] [(.int (2 : Int32))]))
    refine Go.step (fun _ k => XS.iconst X113.here hx rfl (hb hby at_53) k) ?_
    show Go _ _ _ _ _ _ _ (T113.setTop (mkF m 54 #[.val (.int qa), .val (.int qb), .val (.int qc), .val (.int qp), .val (.int qq), .val (.int (2 : Int32)), .val (.int (0 : Int32)), .val (.int kq), .val (.ref b95), .val (.int (1 : Int32)), .unset] [(.int (2 : Int32)), (.int (2 : Int32))]))
    have hc54 : ¬ ((2 : Int32) < (2 : Int32)) := by decide
    refine Go.step (fun _ k => XS.icmpNo X113.here hx rfl (hb hby at_54) rfl (flt hc54).1 k) ?_
    show Go _ _ _ _ _ _ _ (T113.setTop (mkF m 57 #[.val (.int qa), .val (.int qb), .val (.int qc), .val (.int qp), .val (.int qq), .val (.int (2 : Int32)), .val (.int (0 : Int32)), .val (.int kq), .val (.ref b95), .val (.int (1 : Int32)), .unset] []))
    refine Go.step (fun _ k => XS.aload X113.here hx rfl (hb hby at_57) rfl rfl  k) ?_
    show Go _ _ _ _ _ _ _ (T113.setTop (mkF m 59 #[.val (.int qa), .val (.int qb), .val (.int qc), .val (.int qp), .val (.int qq), .val (.int (2 : Int32)), .val (.int (0 : Int32)), .val (.int kq), .val (.ref b95), .val (.int (1 : Int32)), .unset] [(.ref b95)]))
    refine Go.step (fun _ k => XS.iload X113.here hx rfl (hb hby at_59) rfl  k) ?_
    show Go _ _ _ _ _ _ _ (T113.setTop (mkF m 61 #[.val (.int qa), .val (.int qb), .val (.int qc), .val (.int qp), .val (.int qq), .val (.int (2 : Int32)), .val (.int (0 : Int32)), .val (.int kq), .val (.ref b95), .val (.int (1 : Int32)), .unset] [(.int qq), (.ref b95)]))
    refine Go.step (fun _ k => XS.iloadN X113.here hx rfl (hb hby at_61) rfl  k) ?_
    show Go _ _ _ _ _ _ _ (T113.setTop (mkF m 62 #[.val (.int qa), .val (.int qb), .val (.int qc), .val (.int qp), .val (.int qq), .val (.int (2 : Int32)), .val (.int (0 : Int32)), .val (.int kq), .val (.ref b95), .val (.int (1 : Int32)), .unset] [(.int qp), (.int qq), (.ref b95)]))
    have pq118 : ¬ (1 : Int32) = (32768 : Int32) := (by decide)
    have pq119 : ¬ (1 : Int32) < 0 := (by decide)
    have pq120 : (1 : Int32) < (32768 : Int32) := (by decide)
    obtain ⟨cq121, kq121, q121a, q121b, q121c⟩ := isOf hZ rfl c113_1
    obtain ⟨_, _, ⟨T121, L121, k121, n121⟩, -, X121, ⟨Lc121, hQ121, l121, y121, z121⟩, st121⟩ := X113.virtualBack hx (y := (⟨"com/example/tree_automata_reducer/treeautomatareducer/reduce/PairStack", "push", "(II)V"⟩ : MethodName)) (z := (⟨"com/example/tree_automata_reducer/treeautomatareducer/reduce/PairStack", "push", "(II)V"⟩ : MethodName)) hown (mvT hZ (hw _ (List.mem_of_getElem? (i := 48) rfl))) (mvT hZ (hw _ (List.mem_of_getElem? (i := 49) rfl))) (notFace_of_selects (args := #[]) (mvT hZ (hw _ (List.mem_of_getElem? (i := 51) rfl)))) (mvT hZ (hw _ (List.mem_of_getElem? (i := 51) rfl))) (mvT hZ (hw _ (List.mem_of_getElem? (i := 50) rfl))) (by decide) (backOf (W := 0) (rmpB l Z aZ hw [] b95 qq qp (1 : Int32) (1 : Int64) b_113 f2_113 (0 : Int32) (0 : Int32) T113.heap n0 z116 c113_1 c113_2 c113_3 c113_4 c113_5 c113_6 c113_7 c113_8 gn95 gn113_0 pq118 pq119 pq120) hZ (hw _ (List.mem_of_getElem? (i := 52) rfl)) (hw _ (List.mem_of_getElem? (i := 3) rfl)) (by decide) (by decide)) q121a q121c (g := (mkF m 62 #[.val (.int qa), .val (.int qb), .val (.int qc), .val (.int qp), .val (.int qq), .val (.int (2 : Int32)), .val (.int (0 : Int32)), .val (.int kq), .val (.ref b95), .val (.int (1 : Int32)), .unset] [(.int qp), (.int qq), (.ref b95)])) rfl (by rw [hml]; rfl) (Steps.refl _) (argsL := [(.int qq), (.int qp)]) (rest := []) (lenOf pd_10 rfl) rfl (by show 2 * 0 + _ ≤ _; exact Nat.le_of_eq rfl) (hb hby at_62) (fun _ _ => ⟨rfl, rfl, (by decide : 4 + 0 ≤ _), (by decide : 32788 + 0 ≤ _)⟩)
    dsimp only [Pt.U, Pt.locs, Pt.cells, Pt.slots] at X121 l121 y121 z121 st121 hQ121
    subst l121 y121 z121
    obtain ⟨f2_121, rfl, Nq121, K121, c121_0, c121_1, c121_2, c121_3, c121_4, c121_5, c121_6⟩ := hQ121
    have N121 := Fr.app N113 Nq121
    refine Go.tr st121 ?_
    have z122 : n0 ≤ T121.heap.size := Nat.le_trans z116 K121.1
    have sqz122 : h0.size ≤ T121.heap.size := Nat.le_trans sqz116 K121.1
    have c121_1f : Fld Z T121.heap b95 "com/example/tree_automata_reducer/treeautomatareducer/reduce/PairStack" "size" "J" (.long (2 : Int64)) := c121_1
    have c121_3f : Fld Z T121.heap b95 "com/example/tree_automata_reducer/treeautomatareducer/reduce/PairStack" "inBlock" "I" (.int (2 : Int32)) := c121_3
    show Go _ _ _ _ _ _ _ (T121.setTop (mkF m 65 #[.val (.int qa), .val (.int qb), .val (.int qc), .val (.int qp), .val (.int qq), .val (.int (2 : Int32)), .val (.int (0 : Int32)), .val (.int kq), .val (.ref b95), .val (.int (1 : Int32)), .unset] []))
    refine Go.step (fun _ k => XS.iload X121.here hx rfl (hb hby at_65) rfl  k) ?_
    show Go _ _ _ _ _ _ _ (T121.setTop (mkF m 67 #[.val (.int qa), .val (.int qb), .val (.int qc), .val (.int qp), .val (.int qq), .val (.int (2 : Int32)), .val (.int (0 : Int32)), .val (.int kq), .val (.ref b95), .val (.int (1 : Int32)), .unset] [(.int (2 : Int32))]))
    refine Go.step (fun _ k => XS.iconst X121.here hx rfl (hb hby at_67) k) ?_
    show Go _ _ _ _ _ _ _ (T121.setTop (mkF m 68 #[.val (.int qa), .val (.int qb), .val (.int qc), .val (.int qp), .val (.int qq), .val (.int (2 : Int32)), .val (.int (0 : Int32)), .val (.int kq), .val (.ref b95), .val (.int (1 : Int32)), .unset] [(.int (3 : Int32)), (.int (2 : Int32))]))
    have hc68 : (2 : Int32) < (3 : Int32) := by decide
    refine Go.step (fun _ k => XS.icmpYes X121.here hx rfl (pc0 := 68) (pc' := 81) rfl (hb hby at_68) rfl (tlt hc68).1 (by decide) (by decide) k) ?_
    show Go _ _ _ _ _ _ _ (T121.setTop (mkF m 81 #[.val (.int qa), .val (.int qb), .val (.int qc), .val (.int qp), .val (.int qq), .val (.int (2 : Int32)), .val (.int (0 : Int32)), .val (.int kq), .val (.ref b95), .val (.int (1 : Int32)), .unset] []))
    refine Go.step (fun _ k => XS.iload X121.here hx rfl (hb hby at_81) rfl  k) ?_
    show Go _ _ _ _ _ _ _ (T121.setTop (mkF m 83 #[.val (.int qa), .val (.int qb), .val (.int qc), .val (.int qp), .val (.int qq), .val (.int (2 : Int32)), .val (.int (0 : Int32)), .val (.int kq), .val (.ref b95), .val (.int (1 : Int32)), .unset] [(.int (0 : Int32))]))
    refine Go.step (fun _ k => XS.iconst X121.here hx rfl (hb hby at_83) k) ?_
    show Go _ _ _ _ _ _ _ (T121.setTop (mkF m 84 #[.val (.int qa), .val (.int qb), .val (.int qc), .val (.int qp), .val (.int qq), .val (.int (2 : Int32)), .val (.int (0 : Int32)), .val (.int kq), .val (.ref b95), .val (.int (1 : Int32)), .unset] [(.int (1 : Int32)), (.int (0 : Int32))]))
    have hc84 : (0 : Int32) < (1 : Int32) := by decide
    refine Go.step (fun _ k => XS.icmpYes X121.here hx rfl (pc0 := 84) (pc' := 92) rfl (hb hby at_84) rfl (tlt hc84).1 (by decide) (by decide) k) ?_
    show Go _ _ _ _ _ _ _ (T121.setTop (mkF m 92 #[.val (.int qa), .val (.int qb), .val (.int qc), .val (.int qp), .val (.int qq), .val (.int (2 : Int32)), .val (.int (0 : Int32)), .val (.int kq), .val (.ref b95), .val (.int (1 : Int32)), .unset] []))
    refine Go.step (fun _ k => XS.iload X121.here hx rfl (hb hby at_92) rfl  k) ?_
    show Go _ _ _ _ _ _ _ (T121.setTop (mkF m 94 #[.val (.int qa), .val (.int qb), .val (.int qc), .val (.int qp), .val (.int qq), .val (.int (2 : Int32)), .val (.int (0 : Int32)), .val (.int kq), .val (.ref b95), .val (.int (1 : Int32)), .unset] [(.int (0 : Int32))]))
    refine Go.step (fun _ k => XS.iconst X121.here hx rfl (hb hby at_94) k) ?_
    show Go _ _ _ _ _ _ _ (T121.setTop (mkF m 95 #[.val (.int qa), .val (.int qb), .val (.int qc), .val (.int qp), .val (.int qq), .val (.int (2 : Int32)), .val (.int (0 : Int32)), .val (.int kq), .val (.ref b95), .val (.int (1 : Int32)), .unset] [(.int (2 : Int32)), (.int (0 : Int32))]))
    have hc95 : (0 : Int32) < (2 : Int32) := by decide
    refine Go.step (fun _ k => XS.icmpYes X121.here hx rfl (pc0 := 95) (pc' := 103) rfl (hb hby at_95) rfl (tlt hc95).1 (by decide) (by decide) k) ?_
    show Go _ _ _ _ _ _ _ (T121.setTop (mkF m 103 #[.val (.int qa), .val (.int qb), .val (.int qc), .val (.int qp), .val (.int qq), .val (.int (2 : Int32)), .val (.int (0 : Int32)), .val (.int kq), .val (.ref b95), .val (.int (1 : Int32)), .unset] []))
    refine Go.step (fun _ k => XS.iload X121.here hx rfl (hb hby at_103) rfl  k) ?_
    show Go _ _ _ _ _ _ _ (T121.setTop (mkF m 105 #[.val (.int qa), .val (.int qb), .val (.int qc), .val (.int qp), .val (.int qq), .val (.int (2 : Int32)), .val (.int (0 : Int32)), .val (.int kq), .val (.ref b95), .val (.int (1 : Int32)), .unset] [(.int (0 : Int32))]))
    refine Go.step (fun _ k => XS.iconst X121.here hx rfl (hb hby at_105) k) ?_
    show Go _ _ _ _ _ _ _ (T121.setTop (mkF m 106 #[.val (.int qa), .val (.int qb), .val (.int qc), .val (.int qp), .val (.int qq), .val (.int (2 : Int32)), .val (.int (0 : Int32)), .val (.int kq), .val (.ref b95), .val (.int (1 : Int32)), .unset] [(.int (3 : Int32)), (.int (0 : Int32))]))
    have hc106 : (0 : Int32) < (3 : Int32) := by decide
    refine Go.step (fun _ k => XS.icmpYes X121.here hx rfl (pc0 := 106) (pc' := 114) rfl (hb hby at_106) rfl (tlt hc106).1 (by decide) (by decide) k) ?_
    rcases hkq with h1 | h1
    · skip
      subst h1
      show Go _ _ _ _ _ _ _ (T121.setTop (mkF m 114 #[.val (.int qa), .val (.int qb), .val (.int qc), .val (.int qp), .val (.int qq), .val (.int (2 : Int32)), .val (.int (0 : Int32)), .val (.int (0 : Int32)), .val (.ref b95), .val (.int (1 : Int32)), .unset] []))
      refine Go.step (fun _ k => XS.iload X121.here hx rfl (hb hby at_114) rfl  k) ?_
      show Go _ _ _ _ _ _ _ (T121.setTop (mkF m 116 #[.val (.int qa), .val (.int qb), .val (.int qc), .val (.int qp), .val (.int qq), .val (.int (2 : Int32)), .val (.int (0 : Int32)), .val (.int (0 : Int32)), .val (.ref b95), .val (.int (1 : Int32)), .unset] [(.int (0 : Int32))]))
      refine Go.step (fun _ k => XS.iconst X121.here hx rfl (hb hby at_116) k) ?_
      show Go _ _ _ _ _ _ _ (T121.setTop (mkF m 117 #[.val (.int qa), .val (.int qb), .val (.int qc), .val (.int qp), .val (.int qq), .val (.int (2 : Int32)), .val (.int (0 : Int32)), .val (.int (0 : Int32)), .val (.ref b95), .val (.int (1 : Int32)), .unset] [(.int (1 : Int32)), (.int (0 : Int32))]))
      have hc117 : ¬ ((0 : Int32) = (1 : Int32)) := by decide
      refine Go.step (fun _ k => XS.icmpYes X121.here hx rfl (pc0 := 117) (pc' := 129) rfl (hb hby at_117) rfl (feq hc117).2 (by decide) (by decide) k) ?_
      show Go _ _ _ _ _ _ _ (T121.setTop (mkF m 129 #[.val (.int qa), .val (.int qb), .val (.int qc), .val (.int qp), .val (.int qq), .val (.int (2 : Int32)), .val (.int (0 : Int32)), .val (.int (0 : Int32)), .val (.ref b95), .val (.int (1 : Int32)), .unset] []))
      refine Go.step (fun _ k => XS.iload X121.here hx rfl (hb hby at_129) rfl  k) ?_
      show Go _ _ _ _ _ _ _ (T121.setTop (mkF m 131 #[.val (.int qa), .val (.int qb), .val (.int qc), .val (.int qp), .val (.int qq), .val (.int (2 : Int32)), .val (.int (0 : Int32)), .val (.int (0 : Int32)), .val (.ref b95), .val (.int (1 : Int32)), .unset] [(.int (2 : Int32))]))
      refine Go.step (fun _ k => XS.iload X121.here hx rfl (hb hby at_131) rfl  k) ?_
      show Go _ _ _ _ _ _ _ (T121.setTop (mkF m 133 #[.val (.int qa), .val (.int qb), .val (.int qc), .val (.int qp), .val (.int qq), .val (.int (2 : Int32)), .val (.int (0 : Int32)), .val (.int (0 : Int32)), .val (.ref b95), .val (.int (1 : Int32)), .unset] [(.int (0 : Int32)), (.int (2 : Int32))]))
      refine Go.step (fun _ k => XS.isub X121.here hx rfl (hb hby at_133) rfl k) ?_
      show Go _ _ _ _ _ _ _ (T121.setTop (mkF m 134 #[.val (.int qa), .val (.int qb), .val (.int qc), .val (.int qp), .val (.int qq), .val (.int (2 : Int32)), .val (.int (0 : Int32)), .val (.int (0 : Int32)), .val (.ref b95), .val (.int (1 : Int32)), .unset] [(.int (2 : Int32))]))
      refine Go.step (fun _ k => XS.iload X121.here hx rfl (hb hby at_134) rfl  k) ?_
      show Go _ _ _ _ _ _ _ (T121.setTop (mkF m 136 #[.val (.int qa), .val (.int qb), .val (.int qc), .val (.int qp), .val (.int qq), .val (.int (2 : Int32)), .val (.int (0 : Int32)), .val (.int (0 : Int32)), .val (.ref b95), .val (.int (1 : Int32)), .unset] [(.int (0 : Int32)), (.int (2 : Int32))]))
      refine Go.step (fun _ k => XS.iadd X121.here hx rfl (hb hby at_136) rfl k) ?_
      show Go _ _ _ _ _ _ _ (T121.setTop (mkF m 137 #[.val (.int qa), .val (.int qb), .val (.int qc), .val (.int qp), .val (.int qq), .val (.int (2 : Int32)), .val (.int (0 : Int32)), .val (.int (0 : Int32)), .val (.ref b95), .val (.int (1 : Int32)), .unset] [(.int (2 : Int32))]))
      have hc137 : ¬ ((2 : Int32) = (0 : Int32)) := by decide
      refine Go.step (fun _ k => XS.ifYes X121.here hx rfl (pc0 := 137) (pc' := 144) rfl (hb hby at_137) rfl ((if0 _ _).trans (feq hc137).2) (by decide) (by decide) k) ?_
      show Go _ _ _ _ _ _ _ (T121.setTop (mkF m 144 #[.val (.int qa), .val (.int qb), .val (.int qc), .val (.int qp), .val (.int qq), .val (.int (2 : Int32)), .val (.int (0 : Int32)), .val (.int (0 : Int32)), .val (.ref b95), .val (.int (1 : Int32)), .unset] []))
      refine Go.step (fun _ k => XS.iconst X121.here hx rfl (hb hby at_144) k) ?_
      show Go _ _ _ _ _ _ _ (T121.setTop (mkF m 145 #[.val (.int qa), .val (.int qb), .val (.int qc), .val (.int qp), .val (.int qq), .val (.int (2 : Int32)), .val (.int (0 : Int32)), .val (.int (0 : Int32)), .val (.ref b95), .val (.int (1 : Int32)), .unset] [(.int (0 : Int32))]))
      refine Go.step (fun _ k => XS.istore X121.here hx rfl (hb hby at_145) rfl (l' := #[.val (.int qa), .val (.int qb), .val (.int qc), .val (.int qp), .val (.int qq), .val (.int (2 : Int32)), .val (.int (0 : Int32)), .val (.int (0 : Int32)), .val (.ref b95), .val (.int (1 : Int32)), .val (.int (0 : Int32))]) rfl k) ?_
      show Go _ _ _ _ _ _ _ (T121.setTop (mkF m 147 #[.val (.int qa), .val (.int qb), .val (.int qc), .val (.int qp), .val (.int qq), .val (.int (2 : Int32)), .val (.int (0 : Int32)), .val (.int (0 : Int32)), .val (.ref b95), .val (.int (1 : Int32)), .val (.int (0 : Int32))] []))
      refine Go.step (fun _ k => XS.iload X121.here hx rfl (hb hby at_147) rfl  k) ?_
      show Go _ _ _ _ _ _ _ (T121.setTop (mkF m 149 #[.val (.int qa), .val (.int qb), .val (.int qc), .val (.int qp), .val (.int qq), .val (.int (2 : Int32)), .val (.int (0 : Int32)), .val (.int (0 : Int32)), .val (.ref b95), .val (.int (1 : Int32)), .val (.int (0 : Int32))] [(.int (1 : Int32))]))
      have hc149 : ¬ ((1 : Int32) = (0 : Int32)) := by decide
      refine Go.step (fun _ k => XS.ifNo X121.here hx rfl (hb hby at_149) rfl ((if0 _ _).trans (feq hc149).1) k) ?_
      show Go _ _ _ _ _ _ _ (T121.setTop (mkF m 152 #[.val (.int qa), .val (.int qb), .val (.int qc), .val (.int qp), .val (.int qq), .val (.int (2 : Int32)), .val (.int (0 : Int32)), .val (.int (0 : Int32)), .val (.ref b95), .val (.int (1 : Int32)), .val (.int (0 : Int32))] []))
      refine Go.step (fun _ k => XS.aload X121.here hx rfl (hb hby at_152) rfl rfl  k) ?_
      show Go _ _ _ _ _ _ _ (T121.setTop (mkF m 154 #[.val (.int qa), .val (.int qb), .val (.int qc), .val (.int qp), .val (.int qq), .val (.int (2 : Int32)), .val (.int (0 : Int32)), .val (.int (0 : Int32)), .val (.ref b95), .val (.int (1 : Int32)), .val (.int (0 : Int32))] [(.ref b95)]))
      obtain ⟨cq124, kq124, q124a, q124b, q124c⟩ := isOf hZ rfl c121_0
      obtain ⟨_, _, ⟨T124, L124, k124, n124⟩, -, X124, ⟨Lc124, hQ124, l124, y124, z124⟩, st124⟩ := X121.virtualBack hx (y := (⟨"com/example/tree_automata_reducer/treeautomatareducer/reduce/PairStack", "isEmpty", "()Z"⟩ : MethodName)) (z := (⟨"com/example/tree_automata_reducer/treeautomatareducer/reduce/PairStack", "isEmpty", "()Z"⟩ : MethodName)) hown (mvT hZ (hw _ (List.mem_of_getElem? (i := 41) rfl))) (mvT hZ (hw _ (List.mem_of_getElem? (i := 42) rfl))) (notFace_of_selects (args := #[]) (mvT hZ (hw _ (List.mem_of_getElem? (i := 44) rfl)))) (mvT hZ (hw _ (List.mem_of_getElem? (i := 44) rfl))) (mvT hZ (hw _ (List.mem_of_getElem? (i := 43) rfl))) (by decide) (backOf (W := 0) (rm6 l Z aZ hw [] b95 (2 : Int64) T121.heap n0 z122 c121_1f) hZ (hw _ (List.mem_of_getElem? (i := 45) rfl)) (hw _ (List.mem_of_getElem? (i := 3) rfl)) (by decide) (by decide)) q124a q124c (g := (mkF m 154 #[.val (.int qa), .val (.int qb), .val (.int qc), .val (.int qp), .val (.int qq), .val (.int (2 : Int32)), .val (.int (0 : Int32)), .val (.int (0 : Int32)), .val (.ref b95), .val (.int (1 : Int32)), .val (.int (0 : Int32))] [(.ref b95)])) rfl (by rw [hml]; rfl) (Steps.refl _) (argsL := []) (rest := []) (lenOf pd_9 rfl) rfl (by show 2 * 0 + _ ≤ _; exact Nat.le_of_eq rfl) (hb hby at_154) (fun _ _ => ⟨rfl, rfl, (by decide : 4 + 0 ≤ _), (by decide : 32788 + 0 ≤ _)⟩)
      dsimp only [Pt.U, Pt.locs, Pt.cells, Pt.slots] at X124 l124 y124 z124 st124 hQ124
      subst l124 y124 z124
      obtain ⟨rfl, Nq124, e124⟩ := hQ124
      have N124 := Fr.app N121 Nq124
      refine Go.tr st124 ?_
      show Go _ _ _ _ _ _ _ (T124.setTop (mkF m 157 #[.val (.int qa), .val (.int qb), .val (.int qc), .val (.int qp), .val (.int qq), .val (.int (2 : Int32)), .val (.int (0 : Int32)), .val (.int (0 : Int32)), .val (.ref b95), .val (.int (1 : Int32)), .val (.int (0 : Int32))] [(.int (if (2 : Int64) = 0 then (1 : Int32) else 0))]))
      refine Go.step (fun _ k => XS.iload X124.here hx rfl (hb hby at_157) rfl  k) ?_
      show Go _ _ _ _ _ _ _ (T124.setTop (mkF m 159 #[.val (.int qa), .val (.int qb), .val (.int qc), .val (.int qp), .val (.int qq), .val (.int (2 : Int32)), .val (.int (0 : Int32)), .val (.int (0 : Int32)), .val (.ref b95), .val (.int (1 : Int32)), .val (.int (0 : Int32))] [(.int (0 : Int32)), (.int (if (2 : Int64) = 0 then (1 : Int32) else 0))]))
      have hc159 : (if (2 : Int64) = 0 then (1 : Int32) else 0) = (0 : Int32) := by decide
      refine Go.step (fun _ k => XS.icmpNo X124.here hx rfl (hb hby at_159) rfl (teq hc159).2 k) ?_
      show Go _ _ _ _ _ _ _ (T124.setTop (mkF m 162 #[.val (.int qa), .val (.int qb), .val (.int qc), .val (.int qp), .val (.int qq), .val (.int (2 : Int32)), .val (.int (0 : Int32)), .val (.int (0 : Int32)), .val (.ref b95), .val (.int (1 : Int32)), .val (.int (0 : Int32))] []))
      refine Go.step (fun _ k => XS.iconst X124.here hx rfl (hb hby at_162) k) ?_
      show Go _ _ _ _ _ _ _ (T124.setTop (mkF m 163 #[.val (.int qa), .val (.int qb), .val (.int qc), .val (.int qp), .val (.int qq), .val (.int (2 : Int32)), .val (.int (0 : Int32)), .val (.int (0 : Int32)), .val (.ref b95), .val (.int (1 : Int32)), .val (.int (0 : Int32))] [(.int (1 : Int32))]))
      refine Go.step (fun _ k => XS.goto X124.here hx rfl (pc0 := 163) (pc' := 167) rfl (hb hby at_163) (by decide) (by decide) k) ?_
      show Go _ _ _ _ _ _ _ (T124.setTop (mkF m 167 #[.val (.int qa), .val (.int qb), .val (.int qc), .val (.int qp), .val (.int qq), .val (.int (2 : Int32)), .val (.int (0 : Int32)), .val (.int (0 : Int32)), .val (.ref b95), .val (.int (1 : Int32)), .val (.int (0 : Int32))] [(.int (1 : Int32))]))
      refine Go.retN X124 hx (t := .boolean) Bd.returns (by simp) hlk (hb hby at_167) ?_ (by decide) (by decide)
      rw [e124]
      exact ⟨(by first | rfl | (simp_all [own_nb1, own_nb0]; done)), N124⟩
    · skip
      subst h1
      show Go _ _ _ _ _ _ _ (T121.setTop (mkF m 114 #[.val (.int qa), .val (.int qb), .val (.int qc), .val (.int qp), .val (.int qq), .val (.int (2 : Int32)), .val (.int (0 : Int32)), .val (.int (1 : Int32)), .val (.ref b95), .val (.int (1 : Int32)), .unset] []))
      refine Go.step (fun _ k => XS.iload X121.here hx rfl (hb hby at_114) rfl  k) ?_
      show Go _ _ _ _ _ _ _ (T121.setTop (mkF m 116 #[.val (.int qa), .val (.int qb), .val (.int qc), .val (.int qp), .val (.int qq), .val (.int (2 : Int32)), .val (.int (0 : Int32)), .val (.int (1 : Int32)), .val (.ref b95), .val (.int (1 : Int32)), .unset] [(.int (1 : Int32))]))
      refine Go.step (fun _ k => XS.iconst X121.here hx rfl (hb hby at_116) k) ?_
      show Go _ _ _ _ _ _ _ (T121.setTop (mkF m 117 #[.val (.int qa), .val (.int qb), .val (.int qc), .val (.int qp), .val (.int qq), .val (.int (2 : Int32)), .val (.int (0 : Int32)), .val (.int (1 : Int32)), .val (.ref b95), .val (.int (1 : Int32)), .unset] [(.int (1 : Int32)), (.int (1 : Int32))]))
      have hc117 : (1 : Int32) = (1 : Int32) := by decide
      refine Go.step (fun _ k => XS.icmpNo X121.here hx rfl (hb hby at_117) rfl (teq hc117).2 k) ?_
      show Go _ _ _ _ _ _ _ (T121.setTop (mkF m 120 #[.val (.int qa), .val (.int qb), .val (.int qc), .val (.int qp), .val (.int qq), .val (.int (2 : Int32)), .val (.int (0 : Int32)), .val (.int (1 : Int32)), .val (.ref b95), .val (.int (1 : Int32)), .unset] []))
      refine Go.step (fun _ k => XS.aload X121.here hx rfl (hb hby at_120) rfl rfl  k) ?_
      show Go _ _ _ _ _ _ _ (T121.setTop (mkF m 122 #[.val (.int qa), .val (.int qb), .val (.int qc), .val (.int qp), .val (.int qq), .val (.int (2 : Int32)), .val (.int (0 : Int32)), .val (.int (1 : Int32)), .val (.ref b95), .val (.int (1 : Int32)), .unset] [(.ref b95)]))
      refine Go.step (fun _ k => XS.iload X121.here hx rfl (hb hby at_122) rfl  k) ?_
      show Go _ _ _ _ _ _ _ (T121.setTop (mkF m 124 #[.val (.int qa), .val (.int qb), .val (.int qc), .val (.int qp), .val (.int qq), .val (.int (2 : Int32)), .val (.int (0 : Int32)), .val (.int (1 : Int32)), .val (.ref b95), .val (.int (1 : Int32)), .unset] [(.int qq), (.ref b95)]))
      refine Go.step (fun _ k => XS.iload X121.here hx rfl (hb hby at_124) rfl  k) ?_
      show Go _ _ _ _ _ _ _ (T121.setTop (mkF m 126 #[.val (.int qa), .val (.int qb), .val (.int qc), .val (.int qp), .val (.int qq), .val (.int (2 : Int32)), .val (.int (0 : Int32)), .val (.int (1 : Int32)), .val (.ref b95), .val (.int (1 : Int32)), .unset] [(.int qq), (.int qq), (.ref b95)]))
      have pq125 : ¬ (2 : Int32) = (32768 : Int32) := (by decide)
      have pq126 : ¬ (2 : Int32) < 0 := (by decide)
      have pq127 : (2 : Int32) < (32768 : Int32) := (by decide)
      obtain ⟨cq128, kq128, q128a, q128b, q128c⟩ := isOf hZ rfl c121_0
      obtain ⟨_, _, ⟨T128, L128, k128, n128⟩, -, X128, ⟨Lc128, hQ128, l128, y128, z128⟩, st128⟩ := X121.virtualBack hx (y := (⟨"com/example/tree_automata_reducer/treeautomatareducer/reduce/PairStack", "push", "(II)V"⟩ : MethodName)) (z := (⟨"com/example/tree_automata_reducer/treeautomatareducer/reduce/PairStack", "push", "(II)V"⟩ : MethodName)) hown (mvT hZ (hw _ (List.mem_of_getElem? (i := 48) rfl))) (mvT hZ (hw _ (List.mem_of_getElem? (i := 49) rfl))) (notFace_of_selects (args := #[]) (mvT hZ (hw _ (List.mem_of_getElem? (i := 51) rfl)))) (mvT hZ (hw _ (List.mem_of_getElem? (i := 51) rfl))) (mvT hZ (hw _ (List.mem_of_getElem? (i := 50) rfl))) (by decide) (backOf (W := 0) (rmpB l Z aZ hw [] b95 qq qq (2 : Int32) (2 : Int64) b_113 f2_121 (0 : Int32) (0 : Int32) T121.heap n0 z122 c121_0 c121_1f c121_2 c121_3f c121_4 c121_5 c121_6 c113_8 gn95 gn113_0 pq125 pq126 pq127) hZ (hw _ (List.mem_of_getElem? (i := 52) rfl)) (hw _ (List.mem_of_getElem? (i := 3) rfl)) (by decide) (by decide)) q128a q128c (g := (mkF m 126 #[.val (.int qa), .val (.int qb), .val (.int qc), .val (.int qp), .val (.int qq), .val (.int (2 : Int32)), .val (.int (0 : Int32)), .val (.int (1 : Int32)), .val (.ref b95), .val (.int (1 : Int32)), .unset] [(.int qq), (.int qq), (.ref b95)])) rfl (by rw [hml]; rfl) (Steps.refl _) (argsL := [(.int qq), (.int qq)]) (rest := []) (lenOf pd_10 rfl) rfl (by show 2 * 0 + _ ≤ _; exact Nat.le_of_eq rfl) (hb hby at_126) (fun _ _ => ⟨rfl, rfl, (by decide : 4 + 0 ≤ _), (by decide : 32788 + 0 ≤ _)⟩)
      dsimp only [Pt.U, Pt.locs, Pt.cells, Pt.slots] at X128 l128 y128 z128 st128 hQ128
      subst l128 y128 z128
      obtain ⟨f2_128, rfl, Nq128, K128, c128_0, c128_1, c128_2, c128_3, c128_4, c128_5, c128_6⟩ := hQ128
      have N128 := Fr.app N121 Nq128
      refine Go.tr st128 ?_
      have z129 : n0 ≤ T128.heap.size := Nat.le_trans z122 K128.1
      have sqz129 : h0.size ≤ T128.heap.size := Nat.le_trans sqz122 K128.1
      have c128_1f : Fld Z T128.heap b95 "com/example/tree_automata_reducer/treeautomatareducer/reduce/PairStack" "size" "J" (.long (3 : Int64)) := c128_1
      have c128_3f : Fld Z T128.heap b95 "com/example/tree_automata_reducer/treeautomatareducer/reduce/PairStack" "inBlock" "I" (.int (3 : Int32)) := c128_3
      show Go _ _ _ _ _ _ _ (T128.setTop (mkF m 129 #[.val (.int qa), .val (.int qb), .val (.int qc), .val (.int qp), .val (.int qq), .val (.int (2 : Int32)), .val (.int (0 : Int32)), .val (.int (1 : Int32)), .val (.ref b95), .val (.int (1 : Int32)), .unset] []))
      refine Go.step (fun _ k => XS.iload X128.here hx rfl (hb hby at_129) rfl  k) ?_
      show Go _ _ _ _ _ _ _ (T128.setTop (mkF m 131 #[.val (.int qa), .val (.int qb), .val (.int qc), .val (.int qp), .val (.int qq), .val (.int (2 : Int32)), .val (.int (0 : Int32)), .val (.int (1 : Int32)), .val (.ref b95), .val (.int (1 : Int32)), .unset] [(.int (2 : Int32))]))
      refine Go.step (fun _ k => XS.iload X128.here hx rfl (hb hby at_131) rfl  k) ?_
      show Go _ _ _ _ _ _ _ (T128.setTop (mkF m 133 #[.val (.int qa), .val (.int qb), .val (.int qc), .val (.int qp), .val (.int qq), .val (.int (2 : Int32)), .val (.int (0 : Int32)), .val (.int (1 : Int32)), .val (.ref b95), .val (.int (1 : Int32)), .unset] [(.int (0 : Int32)), (.int (2 : Int32))]))
      refine Go.step (fun _ k => XS.isub X128.here hx rfl (hb hby at_133) rfl k) ?_
      show Go _ _ _ _ _ _ _ (T128.setTop (mkF m 134 #[.val (.int qa), .val (.int qb), .val (.int qc), .val (.int qp), .val (.int qq), .val (.int (2 : Int32)), .val (.int (0 : Int32)), .val (.int (1 : Int32)), .val (.ref b95), .val (.int (1 : Int32)), .unset] [(.int (2 : Int32))]))
      refine Go.step (fun _ k => XS.iload X128.here hx rfl (hb hby at_134) rfl  k) ?_
      show Go _ _ _ _ _ _ _ (T128.setTop (mkF m 136 #[.val (.int qa), .val (.int qb), .val (.int qc), .val (.int qp), .val (.int qq), .val (.int (2 : Int32)), .val (.int (0 : Int32)), .val (.int (1 : Int32)), .val (.ref b95), .val (.int (1 : Int32)), .unset] [(.int (1 : Int32)), (.int (2 : Int32))]))
      refine Go.step (fun _ k => XS.iadd X128.here hx rfl (hb hby at_136) rfl k) ?_
      show Go _ _ _ _ _ _ _ (T128.setTop (mkF m 137 #[.val (.int qa), .val (.int qb), .val (.int qc), .val (.int qp), .val (.int qq), .val (.int (2 : Int32)), .val (.int (0 : Int32)), .val (.int (1 : Int32)), .val (.ref b95), .val (.int (1 : Int32)), .unset] [(.int (3 : Int32))]))
      have hc137 : ¬ ((3 : Int32) = (0 : Int32)) := by decide
      refine Go.step (fun _ k => XS.ifYes X128.here hx rfl (pc0 := 137) (pc' := 144) rfl (hb hby at_137) rfl ((if0 _ _).trans (feq hc137).2) (by decide) (by decide) k) ?_
      show Go _ _ _ _ _ _ _ (T128.setTop (mkF m 144 #[.val (.int qa), .val (.int qb), .val (.int qc), .val (.int qp), .val (.int qq), .val (.int (2 : Int32)), .val (.int (0 : Int32)), .val (.int (1 : Int32)), .val (.ref b95), .val (.int (1 : Int32)), .unset] []))
      refine Go.step (fun _ k => XS.iconst X128.here hx rfl (hb hby at_144) k) ?_
      show Go _ _ _ _ _ _ _ (T128.setTop (mkF m 145 #[.val (.int qa), .val (.int qb), .val (.int qc), .val (.int qp), .val (.int qq), .val (.int (2 : Int32)), .val (.int (0 : Int32)), .val (.int (1 : Int32)), .val (.ref b95), .val (.int (1 : Int32)), .unset] [(.int (0 : Int32))]))
      refine Go.step (fun _ k => XS.istore X128.here hx rfl (hb hby at_145) rfl (l' := #[.val (.int qa), .val (.int qb), .val (.int qc), .val (.int qp), .val (.int qq), .val (.int (2 : Int32)), .val (.int (0 : Int32)), .val (.int (1 : Int32)), .val (.ref b95), .val (.int (1 : Int32)), .val (.int (0 : Int32))]) rfl k) ?_
      show Go _ _ _ _ _ _ _ (T128.setTop (mkF m 147 #[.val (.int qa), .val (.int qb), .val (.int qc), .val (.int qp), .val (.int qq), .val (.int (2 : Int32)), .val (.int (0 : Int32)), .val (.int (1 : Int32)), .val (.ref b95), .val (.int (1 : Int32)), .val (.int (0 : Int32))] []))
      refine Go.step (fun _ k => XS.iload X128.here hx rfl (hb hby at_147) rfl  k) ?_
      show Go _ _ _ _ _ _ _ (T128.setTop (mkF m 149 #[.val (.int qa), .val (.int qb), .val (.int qc), .val (.int qp), .val (.int qq), .val (.int (2 : Int32)), .val (.int (0 : Int32)), .val (.int (1 : Int32)), .val (.ref b95), .val (.int (1 : Int32)), .val (.int (0 : Int32))] [(.int (1 : Int32))]))
      have hc149 : ¬ ((1 : Int32) = (0 : Int32)) := by decide
      refine Go.step (fun _ k => XS.ifNo X128.here hx rfl (hb hby at_149) rfl ((if0 _ _).trans (feq hc149).1) k) ?_
      show Go _ _ _ _ _ _ _ (T128.setTop (mkF m 152 #[.val (.int qa), .val (.int qb), .val (.int qc), .val (.int qp), .val (.int qq), .val (.int (2 : Int32)), .val (.int (0 : Int32)), .val (.int (1 : Int32)), .val (.ref b95), .val (.int (1 : Int32)), .val (.int (0 : Int32))] []))
      refine Go.step (fun _ k => XS.aload X128.here hx rfl (hb hby at_152) rfl rfl  k) ?_
      show Go _ _ _ _ _ _ _ (T128.setTop (mkF m 154 #[.val (.int qa), .val (.int qb), .val (.int qc), .val (.int qp), .val (.int qq), .val (.int (2 : Int32)), .val (.int (0 : Int32)), .val (.int (1 : Int32)), .val (.ref b95), .val (.int (1 : Int32)), .val (.int (0 : Int32))] [(.ref b95)]))
      obtain ⟨cq131, kq131, q131a, q131b, q131c⟩ := isOf hZ rfl c128_0
      obtain ⟨_, _, ⟨T131, L131, k131, n131⟩, -, X131, ⟨Lc131, hQ131, l131, y131, z131⟩, st131⟩ := X128.virtualBack hx (y := (⟨"com/example/tree_automata_reducer/treeautomatareducer/reduce/PairStack", "isEmpty", "()Z"⟩ : MethodName)) (z := (⟨"com/example/tree_automata_reducer/treeautomatareducer/reduce/PairStack", "isEmpty", "()Z"⟩ : MethodName)) hown (mvT hZ (hw _ (List.mem_of_getElem? (i := 41) rfl))) (mvT hZ (hw _ (List.mem_of_getElem? (i := 42) rfl))) (notFace_of_selects (args := #[]) (mvT hZ (hw _ (List.mem_of_getElem? (i := 44) rfl)))) (mvT hZ (hw _ (List.mem_of_getElem? (i := 44) rfl))) (mvT hZ (hw _ (List.mem_of_getElem? (i := 43) rfl))) (by decide) (backOf (W := 0) (rm6 l Z aZ hw [] b95 (3 : Int64) T128.heap n0 z129 c128_1f) hZ (hw _ (List.mem_of_getElem? (i := 45) rfl)) (hw _ (List.mem_of_getElem? (i := 3) rfl)) (by decide) (by decide)) q131a q131c (g := (mkF m 154 #[.val (.int qa), .val (.int qb), .val (.int qc), .val (.int qp), .val (.int qq), .val (.int (2 : Int32)), .val (.int (0 : Int32)), .val (.int (1 : Int32)), .val (.ref b95), .val (.int (1 : Int32)), .val (.int (0 : Int32))] [(.ref b95)])) rfl (by rw [hml]; rfl) (Steps.refl _) (argsL := []) (rest := []) (lenOf pd_9 rfl) rfl (by show 2 * 0 + _ ≤ _; exact Nat.le_of_eq rfl) (hb hby at_154) (fun _ _ => ⟨rfl, rfl, (by decide : 4 + 0 ≤ _), (by decide : 32788 + 0 ≤ _)⟩)
      dsimp only [Pt.U, Pt.locs, Pt.cells, Pt.slots] at X131 l131 y131 z131 st131 hQ131
      subst l131 y131 z131
      obtain ⟨rfl, Nq131, e131⟩ := hQ131
      have N131 := Fr.app N128 Nq131
      refine Go.tr st131 ?_
      show Go _ _ _ _ _ _ _ (T131.setTop (mkF m 157 #[.val (.int qa), .val (.int qb), .val (.int qc), .val (.int qp), .val (.int qq), .val (.int (2 : Int32)), .val (.int (0 : Int32)), .val (.int (1 : Int32)), .val (.ref b95), .val (.int (1 : Int32)), .val (.int (0 : Int32))] [(.int (if (3 : Int64) = 0 then (1 : Int32) else 0))]))
      refine Go.step (fun _ k => XS.iload X131.here hx rfl (hb hby at_157) rfl  k) ?_
      show Go _ _ _ _ _ _ _ (T131.setTop (mkF m 159 #[.val (.int qa), .val (.int qb), .val (.int qc), .val (.int qp), .val (.int qq), .val (.int (2 : Int32)), .val (.int (0 : Int32)), .val (.int (1 : Int32)), .val (.ref b95), .val (.int (1 : Int32)), .val (.int (0 : Int32))] [(.int (0 : Int32)), (.int (if (3 : Int64) = 0 then (1 : Int32) else 0))]))
      have hc159 : (if (3 : Int64) = 0 then (1 : Int32) else 0) = (0 : Int32) := by decide
      refine Go.step (fun _ k => XS.icmpNo X131.here hx rfl (hb hby at_159) rfl (teq hc159).2 k) ?_
      show Go _ _ _ _ _ _ _ (T131.setTop (mkF m 162 #[.val (.int qa), .val (.int qb), .val (.int qc), .val (.int qp), .val (.int qq), .val (.int (2 : Int32)), .val (.int (0 : Int32)), .val (.int (1 : Int32)), .val (.ref b95), .val (.int (1 : Int32)), .val (.int (0 : Int32))] []))
      refine Go.step (fun _ k => XS.iconst X131.here hx rfl (hb hby at_162) k) ?_
      show Go _ _ _ _ _ _ _ (T131.setTop (mkF m 163 #[.val (.int qa), .val (.int qb), .val (.int qc), .val (.int qp), .val (.int qq), .val (.int (2 : Int32)), .val (.int (0 : Int32)), .val (.int (1 : Int32)), .val (.ref b95), .val (.int (1 : Int32)), .val (.int (0 : Int32))] [(.int (1 : Int32))]))
      refine Go.step (fun _ k => XS.goto X131.here hx rfl (pc0 := 163) (pc' := 167) rfl (hb hby at_163) (by decide) (by decide) k) ?_
      show Go _ _ _ _ _ _ _ (T131.setTop (mkF m 167 #[.val (.int qa), .val (.int qb), .val (.int qc), .val (.int qp), .val (.int qq), .val (.int (2 : Int32)), .val (.int (0 : Int32)), .val (.int (1 : Int32)), .val (.ref b95), .val (.int (1 : Int32)), .val (.int (0 : Int32))] [(.int (1 : Int32))]))
      refine Go.retN X131 hx (t := .boolean) Bd.returns (by simp) hlk (hb hby at_167) ?_ (by decide) (by decide)
      rw [e131]
      exact ⟨(by first | rfl | (simp_all [own_nb1, own_nb0]; done)), N131⟩
  · skip
    subst h1 h2
    show Go _ _ _ _ _ _ _ (s₁.setTop (mkF m 21 #[.val (.int qa), .val (.int qb), .val (.int qc), .val (.int qp), .val (.int qq), .val (.int (2 : Int32)), .val (.int (1 : Int32)), .val (.int kq), .unset, .unset, .unset] []))
    obtain ⟨T132, h132, X132, e132, E132, A132, D132, -, st132⟩ := newO X0 hx hZ hown (hw _ (List.mem_of_getElem? (i := 1) rfl)) (hw _ (List.mem_of_getElem? (i := 2) rfl)) (hw _ (List.mem_of_getElem? (i := 3) rfl)) e0 (g := (mkF m 21 #[.val (.int qa), .val (.int qb), .val (.int qc), .val (.int qp), .val (.int qq), .val (.int (2 : Int32)), .val (.int (1 : Int32)), .val (.int kq), .unset, .unset, .unset] [])) rfl (hb hby at_21) (by decide) (by decide)
    obtain ⟨b132, g132⟩ : ∃ z, z = h0.size := ⟨_, rfl⟩
    rw [← g132] at A132 D132 st132
    refine Go.step st132 ?_
    have gn132 : n0 ≤ b132 := Nat.le_trans Z0 (Nat.le_of_eq g132.symm)
    have sz132 : h0.size ≤ b132 := Nat.le_trans sq0 (Nat.le_of_eq g132.symm)
    have z133 : n0 ≤ h132.size := Nat.le_trans Z0 E132.1
    have sqz133 : h0.size ≤ h132.size := Nat.le_trans sq0 E132.1
    have f135 : Fld Z h132 b132 "com/example/tree_automata_reducer/treeautomatareducer/reduce/PairStack" "blocks" "Ljava/util/List;" .null := D132 (Or.inr (hw _ (List.mem_of_getElem? (i := 35) rfl))) (ty := (.object "java/util/List")) (by decide)
    have f136 : Fld Z h132 b132 "com/example/tree_automata_reducer/treeautomatareducer/reduce/PairStack" "blockNumber" "I" (.int (0 : Int32)) := D132 (Or.inl (hw _ (List.mem_of_getElem? (i := 37) rfl))) (ty := .int) (by decide)
    have f137 : Fld Z h132 b132 "com/example/tree_automata_reducer/treeautomatareducer/reduce/PairStack" "inBlock" "I" (.int (0 : Int32)) := D132 (Or.inl (hw _ (List.mem_of_getElem? (i := 40) rfl))) (ty := .int) (by decide)
    have f138 : Fld Z h132 b132 "com/example/tree_automata_reducer/treeautomatareducer/reduce/PairStack" "size" "J" (.long (0 : Int64)) := D132 (Or.inl (hw _ (List.mem_of_getElem? (i := 47) rfl))) (ty := .long) (by decide)
    have f139 : Fld Z h132 b132 "com/example/tree_automata_reducer/treeautomatareducer/reduce/PairStack" "block" "[J" .null := D132 (Or.inl (hw _ (List.mem_of_getElem? (i := 121) rfl))) (ty := (.array .long)) (by decide)
    have f140 : Fld Z h132 b132 "com/example/tree_automata_reducer/treeautomatareducer/reduce/PairStack" "first" "I" (.int (0 : Int32)) := D132 (Or.inl (hw _ (List.mem_of_getElem? (i := 129) rfl))) (ty := .int) (by decide)
    have f141 : Fld Z h132 b132 "com/example/tree_automata_reducer/treeautomatareducer/reduce/PairStack" "second" "I" (.int (0 : Int32)) := D132 (Or.inl (hw _ (List.mem_of_getElem? (i := 131) rfl))) (ty := .int) (by decide)
    show Go _ _ _ _ _ _ _ (T132.setTop (mkF m 24 #[.val (.int qa), .val (.int qb), .val (.int qc), .val (.int qp), .val (.int qq), .val (.int (2 : Int32)), .val (.int (1 : Int32)), .val (.int kq), .unset, .unset, .unset] [(.ref b132)]))
    refine Go.step (fun _ k => XS.dup X132.here hx rfl (hb hby at_24) rfl rfl k) ?_
    show Go _ _ _ _ _ _ _ (T132.setTop (mkF m 25 #[.val (.int qa), .val (.int qb), .val (.int qc), .val (.int qp), .val (.int qq), .val (.int (2 : Int32)), .val (.int (1 : Int32)), .val (.int kq), .unset, .unset, .unset] [(.ref b132), (.ref b132)]))
    have f142 : Old Z n0 h132 := (O_0.ext E132)
    obtain ⟨_, _, ⟨T143, L143, k143, n143⟩, -, X143, ⟨Lc143, hQ143, l143, y143, z143⟩, st143⟩ := X132.specialBack hx (y := (⟨"com/example/tree_automata_reducer/treeautomatareducer/reduce/PairStack", "<init>", "()V"⟩ : MethodName)) rfl hown (mvT hZ (hw _ (List.mem_of_getElem? (i := 4) rfl))) (mvT hZ (hw _ (List.mem_of_getElem? (i := 5) rfl))) (mvT hZ (hw _ (List.mem_of_getElem? (i := 6) rfl))) (by decide) (backOf (W := 1) (rm1 l Z aZ hw [] b132 w0 h132 n0 z133 f142 S_1 A132 f135 f138 f139 f136 f137 f140 f141 gn132) hZ (hw _ (List.mem_of_getElem? (i := 6) rfl)) (hw _ (List.mem_of_getElem? (i := 3) rfl)) (by decide) (by decide)) (g := (mkF m 25 #[.val (.int qa), .val (.int qb), .val (.int qc), .val (.int qp), .val (.int qq), .val (.int (2 : Int32)), .val (.int (1 : Int32)), .val (.int kq), .unset, .unset, .unset] [(.ref b132), (.ref b132)])) rfl (by rw [hml]; rfl) (Steps.refl _) (a := b132) (argsL := []) (rest := [(.ref b132)]) (lenOf pd_0 rfl) rfl (by show 2 * 0 + _ ≤ _; exact Nat.le_of_eq rfl) (hb hby at_25) (fun _ _ => ⟨rfl, e132, (by decide : 1 + 1 ≤ _), (by decide : 7 + 3 ≤ _)⟩)
    dsimp only [Pt.U, Pt.locs, Pt.cells, Pt.slots] at X143 l143 y143 z143 st143 hQ143
    subst l143 y143 z143
    obtain ⟨l0_143, rfl, Nq143, K143, c143_0, c143_1, c143_2, c143_3, c143_4, c143_5, c143_6, c143_7, c143_8, c143_9, c143_10, c143_11, c143_12, c143_13⟩ := hQ143
    have N143 := Fr.app N0 Nq143
    refine Go.tr st143 ?_
    have ne144 : b132 ≠ l0_143 := Nat.ne_of_lt (Nat.lt_of_lt_of_le A132.lt c143_0)
    have gn143_0 : n0 ≤ l0_143 := Nat.le_trans z133 c143_0
    have sz143_0 : h0.size ≤ l0_143 := Nat.le_trans sqz133 c143_0
    have z145 : n0 ≤ T143.heap.size := Nat.le_trans z133 K143.1
    have sqz145 : h0.size ≤ T143.heap.size := Nat.le_trans sqz133 K143.1
    show Go _ _ _ _ _ _ _ (T143.setTop (mkF m 28 #[.val (.int qa), .val (.int qb), .val (.int qc), .val (.int qp), .val (.int qq), .val (.int (2 : Int32)), .val (.int (1 : Int32)), .val (.int kq), .unset, .unset, .unset] [(.ref b132)]))
    refine Go.step (fun _ k => XS.astore X143.here hx rfl (hb hby at_28) rfl rfl (l' := #[.val (.int qa), .val (.int qb), .val (.int qc), .val (.int qp), .val (.int qq), .val (.int (2 : Int32)), .val (.int (1 : Int32)), .val (.int kq), .val (.ref b132), .unset, .unset]) rfl k) ?_
    show Go _ _ _ _ _ _ _ (T143.setTop (mkF m 30 #[.val (.int qa), .val (.int qb), .val (.int qc), .val (.int qp), .val (.int qq), .val (.int (2 : Int32)), .val (.int (1 : Int32)), .val (.int kq), .val (.ref b132), .unset, .unset] []))
    refine Go.step (fun _ k => XS.aload X143.here hx rfl (hb hby at_30) rfl rfl  k) ?_
    show Go _ _ _ _ _ _ _ (T143.setTop (mkF m 32 #[.val (.int qa), .val (.int qb), .val (.int qc), .val (.int qp), .val (.int qq), .val (.int (2 : Int32)), .val (.int (1 : Int32)), .val (.int kq), .val (.ref b132), .unset, .unset] [(.ref b132)]))
    obtain ⟨cq147, kq147, q147a, q147b, q147c⟩ := isOf hZ rfl c143_1
    obtain ⟨_, _, ⟨T147, L147, k147, n147⟩, -, X147, ⟨Lc147, hQ147, l147, y147, z147⟩, st147⟩ := X143.virtualBack hx (y := (⟨"com/example/tree_automata_reducer/treeautomatareducer/reduce/PairStack", "isEmpty", "()Z"⟩ : MethodName)) (z := (⟨"com/example/tree_automata_reducer/treeautomatareducer/reduce/PairStack", "isEmpty", "()Z"⟩ : MethodName)) hown (mvT hZ (hw _ (List.mem_of_getElem? (i := 41) rfl))) (mvT hZ (hw _ (List.mem_of_getElem? (i := 42) rfl))) (notFace_of_selects (args := #[]) (mvT hZ (hw _ (List.mem_of_getElem? (i := 44) rfl)))) (mvT hZ (hw _ (List.mem_of_getElem? (i := 44) rfl))) (mvT hZ (hw _ (List.mem_of_getElem? (i := 43) rfl))) (by decide) (backOf (W := 0) (rm6 l Z aZ hw [] b132 (0 : Int64) T143.heap n0 z145 c143_3) hZ (hw _ (List.mem_of_getElem? (i := 45) rfl)) (hw _ (List.mem_of_getElem? (i := 3) rfl)) (by decide) (by decide)) q147a q147c (g := (mkF m 32 #[.val (.int qa), .val (.int qb), .val (.int qc), .val (.int qp), .val (.int qq), .val (.int (2 : Int32)), .val (.int (1 : Int32)), .val (.int kq), .val (.ref b132), .unset, .unset] [(.ref b132)])) rfl (by rw [hml]; rfl) (Steps.refl _) (argsL := []) (rest := []) (lenOf pd_9 rfl) rfl (by show 2 * 0 + _ ≤ _; exact Nat.le_of_eq rfl) (hb hby at_32) (fun _ _ => ⟨rfl, rfl, (by decide : 2 + 0 ≤ _), (by decide : 10 + 0 ≤ _)⟩)
    dsimp only [Pt.U, Pt.locs, Pt.cells, Pt.slots] at X147 l147 y147 z147 st147 hQ147
    subst l147 y147 z147
    obtain ⟨rfl, Nq147, e147⟩ := hQ147
    have N147 := Fr.app N143 Nq147
    refine Go.tr st147 ?_
    show Go _ _ _ _ _ _ _ (T147.setTop (mkF m 35 #[.val (.int qa), .val (.int qb), .val (.int qc), .val (.int qp), .val (.int qq), .val (.int (2 : Int32)), .val (.int (1 : Int32)), .val (.int kq), .val (.ref b132), .unset, .unset] [(.int (if (0 : Int64) = 0 then (1 : Int32) else 0))]))
    have sv148 : (if (0 : Int64) = 0 then (1 : Int32) else 0) = (1 : Int32) := if_pos rfl
    rw [sv148]
    show Go _ _ _ _ _ _ _ (T147.setTop (mkF m 35 #[.val (.int qa), .val (.int qb), .val (.int qc), .val (.int qp), .val (.int qq), .val (.int (2 : Int32)), .val (.int (1 : Int32)), .val (.int kq), .val (.ref b132), .unset, .unset] [(.int (1 : Int32))]))
    refine Go.step (fun _ k => XS.istore X147.here hx rfl (hb hby at_35) rfl (l' := #[.val (.int qa), .val (.int qb), .val (.int qc), .val (.int qp), .val (.int qq), .val (.int (2 : Int32)), .val (.int (1 : Int32)), .val (.int kq), .val (.ref b132), .val (.int (1 : Int32)), .unset]) rfl k) ?_
    show Go _ _ _ _ _ _ _ (T147.setTop (mkF m 37 #[.val (.int qa), .val (.int qb), .val (.int qc), .val (.int qp), .val (.int qq), .val (.int (2 : Int32)), .val (.int (1 : Int32)), .val (.int kq), .val (.ref b132), .val (.int (1 : Int32)), .unset] []))
    refine Go.step (fun _ k => XS.iload X147.here hx rfl (hb hby at_37) rfl  k) ?_
    show Go _ _ _ _ _ _ _ (T147.setTop (mkF m 39 #[.val (.int qa), .val (.int qb), .val (.int qc), .val (.int qp), .val (.int qq), .val (.int (2 : Int32)), .val (.int (1 : Int32)), .val (.int kq), .val (.ref b132), .val (.int (1 : Int32)), .unset] [(.int (2 : Int32))]))
    refine Go.step (fun _ k => XS.iconst X147.here hx rfl (hb hby at_39) k) ?_
    show Go _ _ _ _ _ _ _ (T147.setTop (mkF m 40 #[.val (.int qa), .val (.int qb), .val (.int qc), .val (.int qp), .val (.int qq), .val (.int (2 : Int32)), .val (.int (1 : Int32)), .val (.int kq), .val (.ref b132), .val (.int (1 : Int32)), .unset] [(.int (1 : Int32)), (.int (2 : Int32))]))
    have hc40 : ¬ ((2 : Int32) < (1 : Int32)) := by decide
    refine Go.step (fun _ k => XS.icmpNo X147.here hx rfl (hb hby at_40) rfl (flt hc40).1 k) ?_
    show Go _ _ _ _ _ _ _ (T147.setTop (mkF m 43 #[.val (.int qa), .val (.int qb), .val (.int qc), .val (.int qp), .val (.int qq), .val (.int (2 : Int32)), .val (.int (1 : Int32)), .val (.int kq), .val (.ref b132), .val (.int (1 : Int32)), .unset] []))
    refine Go.step (fun _ k => XS.aload X147.here hx rfl (hb hby at_43) rfl rfl  k) ?_
    show Go _ _ _ _ _ _ _ (T147.setTop (mkF m 45 #[.val (.int qa), .val (.int qb), .val (.int qc), .val (.int qp), .val (.int qq), .val (.int (2 : Int32)), .val (.int (1 : Int32)), .val (.int kq), .val (.ref b132), .val (.int (1 : Int32)), .unset] [(.ref b132)]))
    refine Go.step (fun _ k => XS.iloadN X147.here hx rfl (hb hby at_45) rfl  k) ?_
    show Go _ _ _ _ _ _ _ (T147.setTop (mkF m 46 #[.val (.int qa), .val (.int qb), .val (.int qc), .val (.int qp), .val (.int qq), .val (.int (2 : Int32)), .val (.int (1 : Int32)), .val (.int kq), .val (.ref b132), .val (.int (1 : Int32)), .unset] [(.int qp), (.ref b132)]))
    refine Go.step (fun _ k => XS.iload X147.here hx rfl (hb hby at_46) rfl  k) ?_
    show Go _ _ _ _ _ _ _ (T147.setTop (mkF m 48 #[.val (.int qa), .val (.int qb), .val (.int qc), .val (.int qp), .val (.int qq), .val (.int (2 : Int32)), .val (.int (1 : Int32)), .val (.int kq), .val (.ref b132), .val (.int (1 : Int32)), .unset] [(.int qq), (.int qp), (.ref b132)]))
    have f149 : Old Z n0 T143.heap := (f142.keep K143 (allS gn132 all0))
    obtain ⟨cq150, kq150, q150a, q150b, q150c⟩ := isOf hZ e147 c143_1
    obtain ⟨_, _, ⟨T150, L150, k150, n150⟩, -, X150, ⟨Lc150, hQ150, l150, y150, z150⟩, st150⟩ := X147.virtualBack hx (y := (⟨"com/example/tree_automata_reducer/treeautomatareducer/reduce/PairStack", "push", "(II)V"⟩ : MethodName)) (z := (⟨"com/example/tree_automata_reducer/treeautomatareducer/reduce/PairStack", "push", "(II)V"⟩ : MethodName)) hown (mvT hZ (hw _ (List.mem_of_getElem? (i := 48) rfl))) (mvT hZ (hw _ (List.mem_of_getElem? (i := 49) rfl))) (notFace_of_selects (args := #[]) (mvT hZ (hw _ (List.mem_of_getElem? (i := 51) rfl)))) (mvT hZ (hw _ (List.mem_of_getElem? (i := 51) rfl))) (mvT hZ (hw _ (List.mem_of_getElem? (i := 50) rfl))) (by decide) (backOf (W := 0) (rmpA l Z aZ hw [] b132 qp qq w0 l0_143 T143.heap n0 z145 f149 S_1 A_2 c143_1 c143_2 c143_3 c143_4 c143_5 c143_6 c143_7 c143_8 c143_9 c143_10 c143_11 c143_12 c143_13 gn132 gn143_0) hZ (hw _ (List.mem_of_getElem? (i := 52) rfl)) (hw _ (List.mem_of_getElem? (i := 3) rfl)) (by decide) (by decide)) q150a q150c (g := (mkF m 48 #[.val (.int qa), .val (.int qb), .val (.int qc), .val (.int qp), .val (.int qq), .val (.int (2 : Int32)), .val (.int (1 : Int32)), .val (.int kq), .val (.ref b132), .val (.int (1 : Int32)), .unset] [(.int qq), (.int qp), (.ref b132)])) rfl (by rw [hml]; rfl) (Steps.refl _) (argsL := [(.int qp), (.int qq)]) (rest := []) (lenOf pd_10 rfl) rfl (by show 2 * 0 + _ ≤ _; exact Nat.le_of_eq rfl) (hb hby at_48) (fun _ _ => ⟨rfl, e147, (by decide : 2 + 2 ≤ _), (by decide : 10 + 32778 ≤ _)⟩)
    dsimp only [Pt.U, Pt.locs, Pt.cells, Pt.slots] at X150 l150 y150 z150 st150 hQ150
    subst l150 y150 z150
    obtain ⟨b_150, f2_150, rfl, Nq150, K150, c150_0, c150_1, c150_2, c150_3, c150_4, c150_5, c150_6, c150_7, c150_8⟩ := hQ150
    have N150 := Fr.app N147 Nq150
    refine Go.tr st150 ?_
    have ne151 : b132 ≠ b_150 := Nat.ne_of_lt (Nat.lt_of_lt_of_le c143_1.lt c150_0)
    have ne152 : l0_143 ≠ b_150 := Nat.ne_of_lt (Nat.lt_of_lt_of_le c143_9.lt c150_0)
    have gn150_0 : n0 ≤ b_150 := Nat.le_trans z145 c150_0
    have sz150_0 : h0.size ≤ b_150 := Nat.le_trans sqz145 c150_0
    have z153 : n0 ≤ T150.heap.size := Nat.le_trans z145 K150.1
    have sqz153 : h0.size ≤ T150.heap.size := Nat.le_trans sqz145 K150.1
    show Go _ _ _ _ _ _ _ (T150.setTop (mkF m 51 #[.val (.int qa), .val (.int qb), .val (.int qc), .val (.int qp), .val (.int qq), .val (.int (2 : Int32)), .val (.int (1 : Int32)), .val (.int kq), .val (.ref b132), .val (.int (1 : Int32)), .unset] []))
    refine Go.step (fun _ k => XS.iload X150.here hx rfl (hb hby at_51) rfl  k) ?_
    show Go _ _ _ _ _ _ _ (T150.setTop (mkF m 53 #[.val (.int qa), .val (.int qb), .val (.int qc), .val (.int qp), .val (.int qq), .val (.int (2 : Int32)), .val (.int (1 : Int32)), .val (.int kq), .val (.ref b132), .val (.int (1 : Int32)), .unset] [(.int (2 : Int32))]))
    refine Go.step (fun _ k => XS.iconst X150.here hx rfl (hb hby at_53) k) ?_
    show Go _ _ _ _ _ _ _ (T150.setTop (mkF m 54 #[.val (.int qa), .val (.int qb), .val (.int qc), .val (.int qp), .val (.int qq), .val (.int (2 : Int32)), .val (.int (1 : Int32)), .val (.int kq), .val (.ref b132), .val (.int (1 : Int32)), .unset] [(.int (2 : Int32)), (.int (2 : Int32))]))
    have hc54 : ¬ ((2 : Int32) < (2 : Int32)) := by decide
    refine Go.step (fun _ k => XS.icmpNo X150.here hx rfl (hb hby at_54) rfl (flt hc54).1 k) ?_
    show Go _ _ _ _ _ _ _ (T150.setTop (mkF m 57 #[.val (.int qa), .val (.int qb), .val (.int qc), .val (.int qp), .val (.int qq), .val (.int (2 : Int32)), .val (.int (1 : Int32)), .val (.int kq), .val (.ref b132), .val (.int (1 : Int32)), .unset] []))
    refine Go.step (fun _ k => XS.aload X150.here hx rfl (hb hby at_57) rfl rfl  k) ?_
    show Go _ _ _ _ _ _ _ (T150.setTop (mkF m 59 #[.val (.int qa), .val (.int qb), .val (.int qc), .val (.int qp), .val (.int qq), .val (.int (2 : Int32)), .val (.int (1 : Int32)), .val (.int kq), .val (.ref b132), .val (.int (1 : Int32)), .unset] [(.ref b132)]))
    refine Go.step (fun _ k => XS.iload X150.here hx rfl (hb hby at_59) rfl  k) ?_
    show Go _ _ _ _ _ _ _ (T150.setTop (mkF m 61 #[.val (.int qa), .val (.int qb), .val (.int qc), .val (.int qp), .val (.int qq), .val (.int (2 : Int32)), .val (.int (1 : Int32)), .val (.int kq), .val (.ref b132), .val (.int (1 : Int32)), .unset] [(.int qq), (.ref b132)]))
    refine Go.step (fun _ k => XS.iloadN X150.here hx rfl (hb hby at_61) rfl  k) ?_
    show Go _ _ _ _ _ _ _ (T150.setTop (mkF m 62 #[.val (.int qa), .val (.int qb), .val (.int qc), .val (.int qp), .val (.int qq), .val (.int (2 : Int32)), .val (.int (1 : Int32)), .val (.int kq), .val (.ref b132), .val (.int (1 : Int32)), .unset] [(.int qp), (.int qq), (.ref b132)]))
    have pq155 : ¬ (1 : Int32) = (32768 : Int32) := (by decide)
    have pq156 : ¬ (1 : Int32) < 0 := (by decide)
    have pq157 : (1 : Int32) < (32768 : Int32) := (by decide)
    obtain ⟨cq158, kq158, q158a, q158b, q158c⟩ := isOf hZ rfl c150_1
    obtain ⟨_, _, ⟨T158, L158, k158, n158⟩, -, X158, ⟨Lc158, hQ158, l158, y158, z158⟩, st158⟩ := X150.virtualBack hx (y := (⟨"com/example/tree_automata_reducer/treeautomatareducer/reduce/PairStack", "push", "(II)V"⟩ : MethodName)) (z := (⟨"com/example/tree_automata_reducer/treeautomatareducer/reduce/PairStack", "push", "(II)V"⟩ : MethodName)) hown (mvT hZ (hw _ (List.mem_of_getElem? (i := 48) rfl))) (mvT hZ (hw _ (List.mem_of_getElem? (i := 49) rfl))) (notFace_of_selects (args := #[]) (mvT hZ (hw _ (List.mem_of_getElem? (i := 51) rfl)))) (mvT hZ (hw _ (List.mem_of_getElem? (i := 51) rfl))) (mvT hZ (hw _ (List.mem_of_getElem? (i := 50) rfl))) (by decide) (backOf (W := 0) (rmpB l Z aZ hw [] b132 qq qp (1 : Int32) (1 : Int64) b_150 f2_150 (0 : Int32) (0 : Int32) T150.heap n0 z153 c150_1 c150_2 c150_3 c150_4 c150_5 c150_6 c150_7 c150_8 gn132 gn150_0 pq155 pq156 pq157) hZ (hw _ (List.mem_of_getElem? (i := 52) rfl)) (hw _ (List.mem_of_getElem? (i := 3) rfl)) (by decide) (by decide)) q158a q158c (g := (mkF m 62 #[.val (.int qa), .val (.int qb), .val (.int qc), .val (.int qp), .val (.int qq), .val (.int (2 : Int32)), .val (.int (1 : Int32)), .val (.int kq), .val (.ref b132), .val (.int (1 : Int32)), .unset] [(.int qp), (.int qq), (.ref b132)])) rfl (by rw [hml]; rfl) (Steps.refl _) (argsL := [(.int qq), (.int qp)]) (rest := []) (lenOf pd_10 rfl) rfl (by show 2 * 0 + _ ≤ _; exact Nat.le_of_eq rfl) (hb hby at_62) (fun _ _ => ⟨rfl, rfl, (by decide : 4 + 0 ≤ _), (by decide : 32788 + 0 ≤ _)⟩)
    dsimp only [Pt.U, Pt.locs, Pt.cells, Pt.slots] at X158 l158 y158 z158 st158 hQ158
    subst l158 y158 z158
    obtain ⟨f2_158, rfl, Nq158, K158, c158_0, c158_1, c158_2, c158_3, c158_4, c158_5, c158_6⟩ := hQ158
    have N158 := Fr.app N150 Nq158
    refine Go.tr st158 ?_
    have z159 : n0 ≤ T158.heap.size := Nat.le_trans z153 K158.1
    have sqz159 : h0.size ≤ T158.heap.size := Nat.le_trans sqz153 K158.1
    have c158_1f : Fld Z T158.heap b132 "com/example/tree_automata_reducer/treeautomatareducer/reduce/PairStack" "size" "J" (.long (2 : Int64)) := c158_1
    have c158_3f : Fld Z T158.heap b132 "com/example/tree_automata_reducer/treeautomatareducer/reduce/PairStack" "inBlock" "I" (.int (2 : Int32)) := c158_3
    show Go _ _ _ _ _ _ _ (T158.setTop (mkF m 65 #[.val (.int qa), .val (.int qb), .val (.int qc), .val (.int qp), .val (.int qq), .val (.int (2 : Int32)), .val (.int (1 : Int32)), .val (.int kq), .val (.ref b132), .val (.int (1 : Int32)), .unset] []))
    refine Go.step (fun _ k => XS.iload X158.here hx rfl (hb hby at_65) rfl  k) ?_
    show Go _ _ _ _ _ _ _ (T158.setTop (mkF m 67 #[.val (.int qa), .val (.int qb), .val (.int qc), .val (.int qp), .val (.int qq), .val (.int (2 : Int32)), .val (.int (1 : Int32)), .val (.int kq), .val (.ref b132), .val (.int (1 : Int32)), .unset] [(.int (2 : Int32))]))
    refine Go.step (fun _ k => XS.iconst X158.here hx rfl (hb hby at_67) k) ?_
    show Go _ _ _ _ _ _ _ (T158.setTop (mkF m 68 #[.val (.int qa), .val (.int qb), .val (.int qc), .val (.int qp), .val (.int qq), .val (.int (2 : Int32)), .val (.int (1 : Int32)), .val (.int kq), .val (.ref b132), .val (.int (1 : Int32)), .unset] [(.int (3 : Int32)), (.int (2 : Int32))]))
    have hc68 : (2 : Int32) < (3 : Int32) := by decide
    refine Go.step (fun _ k => XS.icmpYes X158.here hx rfl (pc0 := 68) (pc' := 81) rfl (hb hby at_68) rfl (tlt hc68).1 (by decide) (by decide) k) ?_
    show Go _ _ _ _ _ _ _ (T158.setTop (mkF m 81 #[.val (.int qa), .val (.int qb), .val (.int qc), .val (.int qp), .val (.int qq), .val (.int (2 : Int32)), .val (.int (1 : Int32)), .val (.int kq), .val (.ref b132), .val (.int (1 : Int32)), .unset] []))
    refine Go.step (fun _ k => XS.iload X158.here hx rfl (hb hby at_81) rfl  k) ?_
    show Go _ _ _ _ _ _ _ (T158.setTop (mkF m 83 #[.val (.int qa), .val (.int qb), .val (.int qc), .val (.int qp), .val (.int qq), .val (.int (2 : Int32)), .val (.int (1 : Int32)), .val (.int kq), .val (.ref b132), .val (.int (1 : Int32)), .unset] [(.int (1 : Int32))]))
    refine Go.step (fun _ k => XS.iconst X158.here hx rfl (hb hby at_83) k) ?_
    show Go _ _ _ _ _ _ _ (T158.setTop (mkF m 84 #[.val (.int qa), .val (.int qb), .val (.int qc), .val (.int qp), .val (.int qq), .val (.int (2 : Int32)), .val (.int (1 : Int32)), .val (.int kq), .val (.ref b132), .val (.int (1 : Int32)), .unset] [(.int (1 : Int32)), (.int (1 : Int32))]))
    have hc84 : ¬ ((1 : Int32) < (1 : Int32)) := by decide
    refine Go.step (fun _ k => XS.icmpNo X158.here hx rfl (hb hby at_84) rfl (flt hc84).1 k) ?_
    show Go _ _ _ _ _ _ _ (T158.setTop (mkF m 87 #[.val (.int qa), .val (.int qb), .val (.int qc), .val (.int qp), .val (.int qq), .val (.int (2 : Int32)), .val (.int (1 : Int32)), .val (.int kq), .val (.ref b132), .val (.int (1 : Int32)), .unset] []))
    refine Go.step (fun _ k => XS.aload X158.here hx rfl (hb hby at_87) rfl rfl  k) ?_
    show Go _ _ _ _ _ _ _ (T158.setTop (mkF m 89 #[.val (.int qa), .val (.int qb), .val (.int qc), .val (.int qp), .val (.int qq), .val (.int (2 : Int32)), .val (.int (1 : Int32)), .val (.int kq), .val (.ref b132), .val (.int (1 : Int32)), .unset] [(.ref b132)]))
    have pq161 : ¬ (2 : Int32) = 0 := (by decide)
    have pq162 : ¬ (2 : Int32) - 1 < 0 := (by decide)
    have pq163 : (2 : Int32) - 1 < (32768 : Int32) := (by decide)
    obtain ⟨cq164, kq164, q164a, q164b, q164c⟩ := isOf hZ rfl c158_0
    obtain ⟨_, _, ⟨T164, L164, k164, n164⟩, -, X164, ⟨Lc164, hQ164, l164, y164, z164⟩, st164⟩ := X158.virtualBack hx (y := (⟨"com/example/tree_automata_reducer/treeautomatareducer/reduce/PairStack", "pop", "()V"⟩ : MethodName)) (z := (⟨"com/example/tree_automata_reducer/treeautomatareducer/reduce/PairStack", "pop", "()V"⟩ : MethodName)) hown (mvT hZ (hw _ (List.mem_of_getElem? (i := 123) rfl))) (mvT hZ (hw _ (List.mem_of_getElem? (i := 124) rfl))) (notFace_of_selects (args := #[]) (mvT hZ (hw _ (List.mem_of_getElem? (i := 126) rfl)))) (mvT hZ (hw _ (List.mem_of_getElem? (i := 126) rfl))) (mvT hZ (hw _ (List.mem_of_getElem? (i := 125) rfl))) (by decide) (backOf (W := 0) (rm18 l Z aZ hw [] b132 (2 : Int32) (2 : Int64) b_150 f2_158 (0 : Int32) (0 : Int32) T158.heap n0 z159 c158_0 c158_1f c158_2 c158_3f c158_4 c158_5 c158_6 c150_8 gn132 pq161 pq162 pq163) hZ (hw _ (List.mem_of_getElem? (i := 127) rfl)) (hw _ (List.mem_of_getElem? (i := 3) rfl)) (by decide) (by decide)) q164a q164c (g := (mkF m 89 #[.val (.int qa), .val (.int qb), .val (.int qc), .val (.int qp), .val (.int qq), .val (.int (2 : Int32)), .val (.int (1 : Int32)), .val (.int kq), .val (.ref b132), .val (.int (1 : Int32)), .unset] [(.ref b132)])) rfl (by rw [hml]; rfl) (Steps.refl _) (argsL := []) (rest := []) (lenOf pd_0 rfl) rfl (by show 2 * 0 + _ ≤ _; exact Nat.le_of_eq rfl) (hb hby at_89) (fun _ _ => ⟨rfl, rfl, (by decide : 4 + 0 ≤ _), (by decide : 32788 + 0 ≤ _)⟩)
    dsimp only [Pt.U, Pt.locs, Pt.cells, Pt.slots] at X164 l164 y164 z164 st164 hQ164
    subst l164 y164 z164
    obtain ⟨t1_164, t2_164, rfl, Nq164, K164, c164_0, c164_1, c164_2, c164_3, c164_4, c164_5⟩ := hQ164
    have N164 := Fr.app N158 Nq164
    refine Go.tr st164 ?_
    have z165 : n0 ≤ T164.heap.size := Nat.le_trans z159 K164.1
    have sqz165 : h0.size ≤ T164.heap.size := Nat.le_trans sqz159 K164.1
    have c164_1f : Fld Z T164.heap b132 "com/example/tree_automata_reducer/treeautomatareducer/reduce/PairStack" "size" "J" (.long (1 : Int64)) := c164_1
    have c164_3f : Fld Z T164.heap b132 "com/example/tree_automata_reducer/treeautomatareducer/reduce/PairStack" "inBlock" "I" (.int (1 : Int32)) := c164_3
    show Go _ _ _ _ _ _ _ (T164.setTop (mkF m 92 #[.val (.int qa), .val (.int qb), .val (.int qc), .val (.int qp), .val (.int qq), .val (.int (2 : Int32)), .val (.int (1 : Int32)), .val (.int kq), .val (.ref b132), .val (.int (1 : Int32)), .unset] []))
    refine Go.step (fun _ k => XS.iload X164.here hx rfl (hb hby at_92) rfl  k) ?_
    show Go _ _ _ _ _ _ _ (T164.setTop (mkF m 94 #[.val (.int qa), .val (.int qb), .val (.int qc), .val (.int qp), .val (.int qq), .val (.int (2 : Int32)), .val (.int (1 : Int32)), .val (.int kq), .val (.ref b132), .val (.int (1 : Int32)), .unset] [(.int (1 : Int32))]))
    refine Go.step (fun _ k => XS.iconst X164.here hx rfl (hb hby at_94) k) ?_
    show Go _ _ _ _ _ _ _ (T164.setTop (mkF m 95 #[.val (.int qa), .val (.int qb), .val (.int qc), .val (.int qp), .val (.int qq), .val (.int (2 : Int32)), .val (.int (1 : Int32)), .val (.int kq), .val (.ref b132), .val (.int (1 : Int32)), .unset] [(.int (2 : Int32)), (.int (1 : Int32))]))
    have hc95 : (1 : Int32) < (2 : Int32) := by decide
    refine Go.step (fun _ k => XS.icmpYes X164.here hx rfl (pc0 := 95) (pc' := 103) rfl (hb hby at_95) rfl (tlt hc95).1 (by decide) (by decide) k) ?_
    show Go _ _ _ _ _ _ _ (T164.setTop (mkF m 103 #[.val (.int qa), .val (.int qb), .val (.int qc), .val (.int qp), .val (.int qq), .val (.int (2 : Int32)), .val (.int (1 : Int32)), .val (.int kq), .val (.ref b132), .val (.int (1 : Int32)), .unset] []))
    refine Go.step (fun _ k => XS.iload X164.here hx rfl (hb hby at_103) rfl  k) ?_
    show Go _ _ _ _ _ _ _ (T164.setTop (mkF m 105 #[.val (.int qa), .val (.int qb), .val (.int qc), .val (.int qp), .val (.int qq), .val (.int (2 : Int32)), .val (.int (1 : Int32)), .val (.int kq), .val (.ref b132), .val (.int (1 : Int32)), .unset] [(.int (1 : Int32))]))
    refine Go.step (fun _ k => XS.iconst X164.here hx rfl (hb hby at_105) k) ?_
    show Go _ _ _ _ _ _ _ (T164.setTop (mkF m 106 #[.val (.int qa), .val (.int qb), .val (.int qc), .val (.int qp), .val (.int qq), .val (.int (2 : Int32)), .val (.int (1 : Int32)), .val (.int kq), .val (.ref b132), .val (.int (1 : Int32)), .unset] [(.int (3 : Int32)), (.int (1 : Int32))]))
    have hc106 : (1 : Int32) < (3 : Int32) := by decide
    refine Go.step (fun _ k => XS.icmpYes X164.here hx rfl (pc0 := 106) (pc' := 114) rfl (hb hby at_106) rfl (tlt hc106).1 (by decide) (by decide) k) ?_
    rcases hkq with h1 | h1
    · skip
      subst h1
      show Go _ _ _ _ _ _ _ (T164.setTop (mkF m 114 #[.val (.int qa), .val (.int qb), .val (.int qc), .val (.int qp), .val (.int qq), .val (.int (2 : Int32)), .val (.int (1 : Int32)), .val (.int (0 : Int32)), .val (.ref b132), .val (.int (1 : Int32)), .unset] []))
      refine Go.step (fun _ k => XS.iload X164.here hx rfl (hb hby at_114) rfl  k) ?_
      show Go _ _ _ _ _ _ _ (T164.setTop (mkF m 116 #[.val (.int qa), .val (.int qb), .val (.int qc), .val (.int qp), .val (.int qq), .val (.int (2 : Int32)), .val (.int (1 : Int32)), .val (.int (0 : Int32)), .val (.ref b132), .val (.int (1 : Int32)), .unset] [(.int (0 : Int32))]))
      refine Go.step (fun _ k => XS.iconst X164.here hx rfl (hb hby at_116) k) ?_
      show Go _ _ _ _ _ _ _ (T164.setTop (mkF m 117 #[.val (.int qa), .val (.int qb), .val (.int qc), .val (.int qp), .val (.int qq), .val (.int (2 : Int32)), .val (.int (1 : Int32)), .val (.int (0 : Int32)), .val (.ref b132), .val (.int (1 : Int32)), .unset] [(.int (1 : Int32)), (.int (0 : Int32))]))
      have hc117 : ¬ ((0 : Int32) = (1 : Int32)) := by decide
      refine Go.step (fun _ k => XS.icmpYes X164.here hx rfl (pc0 := 117) (pc' := 129) rfl (hb hby at_117) rfl (feq hc117).2 (by decide) (by decide) k) ?_
      show Go _ _ _ _ _ _ _ (T164.setTop (mkF m 129 #[.val (.int qa), .val (.int qb), .val (.int qc), .val (.int qp), .val (.int qq), .val (.int (2 : Int32)), .val (.int (1 : Int32)), .val (.int (0 : Int32)), .val (.ref b132), .val (.int (1 : Int32)), .unset] []))
      refine Go.step (fun _ k => XS.iload X164.here hx rfl (hb hby at_129) rfl  k) ?_
      show Go _ _ _ _ _ _ _ (T164.setTop (mkF m 131 #[.val (.int qa), .val (.int qb), .val (.int qc), .val (.int qp), .val (.int qq), .val (.int (2 : Int32)), .val (.int (1 : Int32)), .val (.int (0 : Int32)), .val (.ref b132), .val (.int (1 : Int32)), .unset] [(.int (2 : Int32))]))
      refine Go.step (fun _ k => XS.iload X164.here hx rfl (hb hby at_131) rfl  k) ?_
      show Go _ _ _ _ _ _ _ (T164.setTop (mkF m 133 #[.val (.int qa), .val (.int qb), .val (.int qc), .val (.int qp), .val (.int qq), .val (.int (2 : Int32)), .val (.int (1 : Int32)), .val (.int (0 : Int32)), .val (.ref b132), .val (.int (1 : Int32)), .unset] [(.int (1 : Int32)), (.int (2 : Int32))]))
      refine Go.step (fun _ k => XS.isub X164.here hx rfl (hb hby at_133) rfl k) ?_
      show Go _ _ _ _ _ _ _ (T164.setTop (mkF m 134 #[.val (.int qa), .val (.int qb), .val (.int qc), .val (.int qp), .val (.int qq), .val (.int (2 : Int32)), .val (.int (1 : Int32)), .val (.int (0 : Int32)), .val (.ref b132), .val (.int (1 : Int32)), .unset] [(.int (1 : Int32))]))
      refine Go.step (fun _ k => XS.iload X164.here hx rfl (hb hby at_134) rfl  k) ?_
      show Go _ _ _ _ _ _ _ (T164.setTop (mkF m 136 #[.val (.int qa), .val (.int qb), .val (.int qc), .val (.int qp), .val (.int qq), .val (.int (2 : Int32)), .val (.int (1 : Int32)), .val (.int (0 : Int32)), .val (.ref b132), .val (.int (1 : Int32)), .unset] [(.int (0 : Int32)), (.int (1 : Int32))]))
      refine Go.step (fun _ k => XS.iadd X164.here hx rfl (hb hby at_136) rfl k) ?_
      show Go _ _ _ _ _ _ _ (T164.setTop (mkF m 137 #[.val (.int qa), .val (.int qb), .val (.int qc), .val (.int qp), .val (.int qq), .val (.int (2 : Int32)), .val (.int (1 : Int32)), .val (.int (0 : Int32)), .val (.ref b132), .val (.int (1 : Int32)), .unset] [(.int (1 : Int32))]))
      have hc137 : ¬ ((1 : Int32) = (0 : Int32)) := by decide
      refine Go.step (fun _ k => XS.ifYes X164.here hx rfl (pc0 := 137) (pc' := 144) rfl (hb hby at_137) rfl ((if0 _ _).trans (feq hc137).2) (by decide) (by decide) k) ?_
      show Go _ _ _ _ _ _ _ (T164.setTop (mkF m 144 #[.val (.int qa), .val (.int qb), .val (.int qc), .val (.int qp), .val (.int qq), .val (.int (2 : Int32)), .val (.int (1 : Int32)), .val (.int (0 : Int32)), .val (.ref b132), .val (.int (1 : Int32)), .unset] []))
      refine Go.step (fun _ k => XS.iconst X164.here hx rfl (hb hby at_144) k) ?_
      show Go _ _ _ _ _ _ _ (T164.setTop (mkF m 145 #[.val (.int qa), .val (.int qb), .val (.int qc), .val (.int qp), .val (.int qq), .val (.int (2 : Int32)), .val (.int (1 : Int32)), .val (.int (0 : Int32)), .val (.ref b132), .val (.int (1 : Int32)), .unset] [(.int (0 : Int32))]))
      refine Go.step (fun _ k => XS.istore X164.here hx rfl (hb hby at_145) rfl (l' := #[.val (.int qa), .val (.int qb), .val (.int qc), .val (.int qp), .val (.int qq), .val (.int (2 : Int32)), .val (.int (1 : Int32)), .val (.int (0 : Int32)), .val (.ref b132), .val (.int (1 : Int32)), .val (.int (0 : Int32))]) rfl k) ?_
      show Go _ _ _ _ _ _ _ (T164.setTop (mkF m 147 #[.val (.int qa), .val (.int qb), .val (.int qc), .val (.int qp), .val (.int qq), .val (.int (2 : Int32)), .val (.int (1 : Int32)), .val (.int (0 : Int32)), .val (.ref b132), .val (.int (1 : Int32)), .val (.int (0 : Int32))] []))
      refine Go.step (fun _ k => XS.iload X164.here hx rfl (hb hby at_147) rfl  k) ?_
      show Go _ _ _ _ _ _ _ (T164.setTop (mkF m 149 #[.val (.int qa), .val (.int qb), .val (.int qc), .val (.int qp), .val (.int qq), .val (.int (2 : Int32)), .val (.int (1 : Int32)), .val (.int (0 : Int32)), .val (.ref b132), .val (.int (1 : Int32)), .val (.int (0 : Int32))] [(.int (1 : Int32))]))
      have hc149 : ¬ ((1 : Int32) = (0 : Int32)) := hc137
      refine Go.step (fun _ k => XS.ifNo X164.here hx rfl (hb hby at_149) rfl ((if0 _ _).trans (feq hc149).1) k) ?_
      show Go _ _ _ _ _ _ _ (T164.setTop (mkF m 152 #[.val (.int qa), .val (.int qb), .val (.int qc), .val (.int qp), .val (.int qq), .val (.int (2 : Int32)), .val (.int (1 : Int32)), .val (.int (0 : Int32)), .val (.ref b132), .val (.int (1 : Int32)), .val (.int (0 : Int32))] []))
      refine Go.step (fun _ k => XS.aload X164.here hx rfl (hb hby at_152) rfl rfl  k) ?_
      show Go _ _ _ _ _ _ _ (T164.setTop (mkF m 154 #[.val (.int qa), .val (.int qb), .val (.int qc), .val (.int qp), .val (.int qq), .val (.int (2 : Int32)), .val (.int (1 : Int32)), .val (.int (0 : Int32)), .val (.ref b132), .val (.int (1 : Int32)), .val (.int (0 : Int32))] [(.ref b132)]))
      obtain ⟨cq167, kq167, q167a, q167b, q167c⟩ := isOf hZ rfl c164_0
      obtain ⟨_, _, ⟨T167, L167, k167, n167⟩, -, X167, ⟨Lc167, hQ167, l167, y167, z167⟩, st167⟩ := X164.virtualBack hx (y := (⟨"com/example/tree_automata_reducer/treeautomatareducer/reduce/PairStack", "isEmpty", "()Z"⟩ : MethodName)) (z := (⟨"com/example/tree_automata_reducer/treeautomatareducer/reduce/PairStack", "isEmpty", "()Z"⟩ : MethodName)) hown (mvT hZ (hw _ (List.mem_of_getElem? (i := 41) rfl))) (mvT hZ (hw _ (List.mem_of_getElem? (i := 42) rfl))) (notFace_of_selects (args := #[]) (mvT hZ (hw _ (List.mem_of_getElem? (i := 44) rfl)))) (mvT hZ (hw _ (List.mem_of_getElem? (i := 44) rfl))) (mvT hZ (hw _ (List.mem_of_getElem? (i := 43) rfl))) (by decide) (backOf (W := 0) (rm6 l Z aZ hw [] b132 (1 : Int64) T164.heap n0 z165 c164_1f) hZ (hw _ (List.mem_of_getElem? (i := 45) rfl)) (hw _ (List.mem_of_getElem? (i := 3) rfl)) (by decide) (by decide)) q167a q167c (g := (mkF m 154 #[.val (.int qa), .val (.int qb), .val (.int qc), .val (.int qp), .val (.int qq), .val (.int (2 : Int32)), .val (.int (1 : Int32)), .val (.int (0 : Int32)), .val (.ref b132), .val (.int (1 : Int32)), .val (.int (0 : Int32))] [(.ref b132)])) rfl (by rw [hml]; rfl) (Steps.refl _) (argsL := []) (rest := []) (lenOf pd_9 rfl) rfl (by show 2 * 0 + _ ≤ _; exact Nat.le_of_eq rfl) (hb hby at_154) (fun _ _ => ⟨rfl, rfl, (by decide : 4 + 0 ≤ _), (by decide : 32788 + 0 ≤ _)⟩)
      dsimp only [Pt.U, Pt.locs, Pt.cells, Pt.slots] at X167 l167 y167 z167 st167 hQ167
      subst l167 y167 z167
      obtain ⟨rfl, Nq167, e167⟩ := hQ167
      have N167 := Fr.app N164 Nq167
      refine Go.tr st167 ?_
      show Go _ _ _ _ _ _ _ (T167.setTop (mkF m 157 #[.val (.int qa), .val (.int qb), .val (.int qc), .val (.int qp), .val (.int qq), .val (.int (2 : Int32)), .val (.int (1 : Int32)), .val (.int (0 : Int32)), .val (.ref b132), .val (.int (1 : Int32)), .val (.int (0 : Int32))] [(.int (if (1 : Int64) = 0 then (1 : Int32) else 0))]))
      refine Go.step (fun _ k => XS.iload X167.here hx rfl (hb hby at_157) rfl  k) ?_
      show Go _ _ _ _ _ _ _ (T167.setTop (mkF m 159 #[.val (.int qa), .val (.int qb), .val (.int qc), .val (.int qp), .val (.int qq), .val (.int (2 : Int32)), .val (.int (1 : Int32)), .val (.int (0 : Int32)), .val (.ref b132), .val (.int (1 : Int32)), .val (.int (0 : Int32))] [(.int (0 : Int32)), (.int (if (1 : Int64) = 0 then (1 : Int32) else 0))]))
      have hc159 : (if (1 : Int64) = 0 then (1 : Int32) else 0) = (0 : Int32) := by decide
      refine Go.step (fun _ k => XS.icmpNo X167.here hx rfl (hb hby at_159) rfl (teq hc159).2 k) ?_
      show Go _ _ _ _ _ _ _ (T167.setTop (mkF m 162 #[.val (.int qa), .val (.int qb), .val (.int qc), .val (.int qp), .val (.int qq), .val (.int (2 : Int32)), .val (.int (1 : Int32)), .val (.int (0 : Int32)), .val (.ref b132), .val (.int (1 : Int32)), .val (.int (0 : Int32))] []))
      refine Go.step (fun _ k => XS.iconst X167.here hx rfl (hb hby at_162) k) ?_
      show Go _ _ _ _ _ _ _ (T167.setTop (mkF m 163 #[.val (.int qa), .val (.int qb), .val (.int qc), .val (.int qp), .val (.int qq), .val (.int (2 : Int32)), .val (.int (1 : Int32)), .val (.int (0 : Int32)), .val (.ref b132), .val (.int (1 : Int32)), .val (.int (0 : Int32))] [(.int (1 : Int32))]))
      refine Go.step (fun _ k => XS.goto X167.here hx rfl (pc0 := 163) (pc' := 167) rfl (hb hby at_163) (by decide) (by decide) k) ?_
      show Go _ _ _ _ _ _ _ (T167.setTop (mkF m 167 #[.val (.int qa), .val (.int qb), .val (.int qc), .val (.int qp), .val (.int qq), .val (.int (2 : Int32)), .val (.int (1 : Int32)), .val (.int (0 : Int32)), .val (.ref b132), .val (.int (1 : Int32)), .val (.int (0 : Int32))] [(.int (1 : Int32))]))
      refine Go.retN X167 hx (t := .boolean) Bd.returns (by simp) hlk (hb hby at_167) ?_ (by decide) (by decide)
      rw [e167]
      exact ⟨(by first | rfl | (simp_all [own_nb1, own_nb0]; done)), N167⟩
    · skip
      subst h1
      show Go _ _ _ _ _ _ _ (T164.setTop (mkF m 114 #[.val (.int qa), .val (.int qb), .val (.int qc), .val (.int qp), .val (.int qq), .val (.int (2 : Int32)), .val (.int (1 : Int32)), .val (.int (1 : Int32)), .val (.ref b132), .val (.int (1 : Int32)), .unset] []))
      refine Go.step (fun _ k => XS.iload X164.here hx rfl (hb hby at_114) rfl  k) ?_
      show Go _ _ _ _ _ _ _ (T164.setTop (mkF m 116 #[.val (.int qa), .val (.int qb), .val (.int qc), .val (.int qp), .val (.int qq), .val (.int (2 : Int32)), .val (.int (1 : Int32)), .val (.int (1 : Int32)), .val (.ref b132), .val (.int (1 : Int32)), .unset] [(.int (1 : Int32))]))
      refine Go.step (fun _ k => XS.iconst X164.here hx rfl (hb hby at_116) k) ?_
      show Go _ _ _ _ _ _ _ (T164.setTop (mkF m 117 #[.val (.int qa), .val (.int qb), .val (.int qc), .val (.int qp), .val (.int qq), .val (.int (2 : Int32)), .val (.int (1 : Int32)), .val (.int (1 : Int32)), .val (.ref b132), .val (.int (1 : Int32)), .unset] [(.int (1 : Int32)), (.int (1 : Int32))]))
      have hc117 : (1 : Int32) = (1 : Int32) := by decide
      refine Go.step (fun _ k => XS.icmpNo X164.here hx rfl (hb hby at_117) rfl (teq hc117).2 k) ?_
      show Go _ _ _ _ _ _ _ (T164.setTop (mkF m 120 #[.val (.int qa), .val (.int qb), .val (.int qc), .val (.int qp), .val (.int qq), .val (.int (2 : Int32)), .val (.int (1 : Int32)), .val (.int (1 : Int32)), .val (.ref b132), .val (.int (1 : Int32)), .unset] []))
      refine Go.step (fun _ k => XS.aload X164.here hx rfl (hb hby at_120) rfl rfl  k) ?_
      show Go _ _ _ _ _ _ _ (T164.setTop (mkF m 122 #[.val (.int qa), .val (.int qb), .val (.int qc), .val (.int qp), .val (.int qq), .val (.int (2 : Int32)), .val (.int (1 : Int32)), .val (.int (1 : Int32)), .val (.ref b132), .val (.int (1 : Int32)), .unset] [(.ref b132)]))
      refine Go.step (fun _ k => XS.iload X164.here hx rfl (hb hby at_122) rfl  k) ?_
      show Go _ _ _ _ _ _ _ (T164.setTop (mkF m 124 #[.val (.int qa), .val (.int qb), .val (.int qc), .val (.int qp), .val (.int qq), .val (.int (2 : Int32)), .val (.int (1 : Int32)), .val (.int (1 : Int32)), .val (.ref b132), .val (.int (1 : Int32)), .unset] [(.int qq), (.ref b132)]))
      refine Go.step (fun _ k => XS.iload X164.here hx rfl (hb hby at_124) rfl  k) ?_
      show Go _ _ _ _ _ _ _ (T164.setTop (mkF m 126 #[.val (.int qa), .val (.int qb), .val (.int qc), .val (.int qp), .val (.int qq), .val (.int (2 : Int32)), .val (.int (1 : Int32)), .val (.int (1 : Int32)), .val (.ref b132), .val (.int (1 : Int32)), .unset] [(.int qq), (.int qq), (.ref b132)]))
      have f168 : Al Z T164.heap b_150 (32768 : Int32) f2_158 := (c158_4.keep K164 (ninS (Ne.symm c150_8) nin0))
      have pq169 : ¬ (1 : Int32) = (32768 : Int32) := (by decide)
      have pq170 : ¬ (1 : Int32) < 0 := (by decide)
      have pq171 : (1 : Int32) < (32768 : Int32) := (by decide)
      obtain ⟨cq172, kq172, q172a, q172b, q172c⟩ := isOf hZ rfl c164_0
      obtain ⟨_, _, ⟨T172, L172, k172, n172⟩, -, X172, ⟨Lc172, hQ172, l172, y172, z172⟩, st172⟩ := X164.virtualBack hx (y := (⟨"com/example/tree_automata_reducer/treeautomatareducer/reduce/PairStack", "push", "(II)V"⟩ : MethodName)) (z := (⟨"com/example/tree_automata_reducer/treeautomatareducer/reduce/PairStack", "push", "(II)V"⟩ : MethodName)) hown (mvT hZ (hw _ (List.mem_of_getElem? (i := 48) rfl))) (mvT hZ (hw _ (List.mem_of_getElem? (i := 49) rfl))) (notFace_of_selects (args := #[]) (mvT hZ (hw _ (List.mem_of_getElem? (i := 51) rfl)))) (mvT hZ (hw _ (List.mem_of_getElem? (i := 51) rfl))) (mvT hZ (hw _ (List.mem_of_getElem? (i := 50) rfl))) (by decide) (backOf (W := 0) (rmpB l Z aZ hw [] b132 qq qq (1 : Int32) (1 : Int64) b_150 f2_158 t1_164 t2_164 T164.heap n0 z165 c164_0 c164_1f c164_2 c164_3f f168 c164_4 c164_5 c150_8 gn132 gn150_0 pq169 pq170 pq171) hZ (hw _ (List.mem_of_getElem? (i := 52) rfl)) (hw _ (List.mem_of_getElem? (i := 3) rfl)) (by decide) (by decide)) q172a q172c (g := (mkF m 126 #[.val (.int qa), .val (.int qb), .val (.int qc), .val (.int qp), .val (.int qq), .val (.int (2 : Int32)), .val (.int (1 : Int32)), .val (.int (1 : Int32)), .val (.ref b132), .val (.int (1 : Int32)), .unset] [(.int qq), (.int qq), (.ref b132)])) rfl (by rw [hml]; rfl) (Steps.refl _) (argsL := [(.int qq), (.int qq)]) (rest := []) (lenOf pd_10 rfl) rfl (by show 2 * 0 + _ ≤ _; exact Nat.le_of_eq rfl) (hb hby at_126) (fun _ _ => ⟨rfl, rfl, (by decide : 4 + 0 ≤ _), (by decide : 32788 + 0 ≤ _)⟩)
      dsimp only [Pt.U, Pt.locs, Pt.cells, Pt.slots] at X172 l172 y172 z172 st172 hQ172
      subst l172 y172 z172
      obtain ⟨f2_172, rfl, Nq172, K172, c172_0, c172_1, c172_2, c172_3, c172_4, c172_5, c172_6⟩ := hQ172
      have N172 := Fr.app N164 Nq172
      refine Go.tr st172 ?_
      have z173 : n0 ≤ T172.heap.size := Nat.le_trans z165 K172.1
      have sqz173 : h0.size ≤ T172.heap.size := Nat.le_trans sqz165 K172.1
      have c172_1f : Fld Z T172.heap b132 "com/example/tree_automata_reducer/treeautomatareducer/reduce/PairStack" "size" "J" (.long (2 : Int64)) := c172_1
      have c172_3f : Fld Z T172.heap b132 "com/example/tree_automata_reducer/treeautomatareducer/reduce/PairStack" "inBlock" "I" (.int (2 : Int32)) := c172_3
      show Go _ _ _ _ _ _ _ (T172.setTop (mkF m 129 #[.val (.int qa), .val (.int qb), .val (.int qc), .val (.int qp), .val (.int qq), .val (.int (2 : Int32)), .val (.int (1 : Int32)), .val (.int (1 : Int32)), .val (.ref b132), .val (.int (1 : Int32)), .unset] []))
      refine Go.step (fun _ k => XS.iload X172.here hx rfl (hb hby at_129) rfl  k) ?_
      show Go _ _ _ _ _ _ _ (T172.setTop (mkF m 131 #[.val (.int qa), .val (.int qb), .val (.int qc), .val (.int qp), .val (.int qq), .val (.int (2 : Int32)), .val (.int (1 : Int32)), .val (.int (1 : Int32)), .val (.ref b132), .val (.int (1 : Int32)), .unset] [(.int (2 : Int32))]))
      refine Go.step (fun _ k => XS.iload X172.here hx rfl (hb hby at_131) rfl  k) ?_
      show Go _ _ _ _ _ _ _ (T172.setTop (mkF m 133 #[.val (.int qa), .val (.int qb), .val (.int qc), .val (.int qp), .val (.int qq), .val (.int (2 : Int32)), .val (.int (1 : Int32)), .val (.int (1 : Int32)), .val (.ref b132), .val (.int (1 : Int32)), .unset] [(.int (1 : Int32)), (.int (2 : Int32))]))
      refine Go.step (fun _ k => XS.isub X172.here hx rfl (hb hby at_133) rfl k) ?_
      show Go _ _ _ _ _ _ _ (T172.setTop (mkF m 134 #[.val (.int qa), .val (.int qb), .val (.int qc), .val (.int qp), .val (.int qq), .val (.int (2 : Int32)), .val (.int (1 : Int32)), .val (.int (1 : Int32)), .val (.ref b132), .val (.int (1 : Int32)), .unset] [(.int (1 : Int32))]))
      refine Go.step (fun _ k => XS.iload X172.here hx rfl (hb hby at_134) rfl  k) ?_
      show Go _ _ _ _ _ _ _ (T172.setTop (mkF m 136 #[.val (.int qa), .val (.int qb), .val (.int qc), .val (.int qp), .val (.int qq), .val (.int (2 : Int32)), .val (.int (1 : Int32)), .val (.int (1 : Int32)), .val (.ref b132), .val (.int (1 : Int32)), .unset] [(.int (1 : Int32)), (.int (1 : Int32))]))
      refine Go.step (fun _ k => XS.iadd X172.here hx rfl (hb hby at_136) rfl k) ?_
      show Go _ _ _ _ _ _ _ (T172.setTop (mkF m 137 #[.val (.int qa), .val (.int qb), .val (.int qc), .val (.int qp), .val (.int qq), .val (.int (2 : Int32)), .val (.int (1 : Int32)), .val (.int (1 : Int32)), .val (.ref b132), .val (.int (1 : Int32)), .unset] [(.int (2 : Int32))]))
      have hc137 : ¬ ((2 : Int32) = (0 : Int32)) := by decide
      refine Go.step (fun _ k => XS.ifYes X172.here hx rfl (pc0 := 137) (pc' := 144) rfl (hb hby at_137) rfl ((if0 _ _).trans (feq hc137).2) (by decide) (by decide) k) ?_
      show Go _ _ _ _ _ _ _ (T172.setTop (mkF m 144 #[.val (.int qa), .val (.int qb), .val (.int qc), .val (.int qp), .val (.int qq), .val (.int (2 : Int32)), .val (.int (1 : Int32)), .val (.int (1 : Int32)), .val (.ref b132), .val (.int (1 : Int32)), .unset] []))
      refine Go.step (fun _ k => XS.iconst X172.here hx rfl (hb hby at_144) k) ?_
      show Go _ _ _ _ _ _ _ (T172.setTop (mkF m 145 #[.val (.int qa), .val (.int qb), .val (.int qc), .val (.int qp), .val (.int qq), .val (.int (2 : Int32)), .val (.int (1 : Int32)), .val (.int (1 : Int32)), .val (.ref b132), .val (.int (1 : Int32)), .unset] [(.int (0 : Int32))]))
      refine Go.step (fun _ k => XS.istore X172.here hx rfl (hb hby at_145) rfl (l' := #[.val (.int qa), .val (.int qb), .val (.int qc), .val (.int qp), .val (.int qq), .val (.int (2 : Int32)), .val (.int (1 : Int32)), .val (.int (1 : Int32)), .val (.ref b132), .val (.int (1 : Int32)), .val (.int (0 : Int32))]) rfl k) ?_
      show Go _ _ _ _ _ _ _ (T172.setTop (mkF m 147 #[.val (.int qa), .val (.int qb), .val (.int qc), .val (.int qp), .val (.int qq), .val (.int (2 : Int32)), .val (.int (1 : Int32)), .val (.int (1 : Int32)), .val (.ref b132), .val (.int (1 : Int32)), .val (.int (0 : Int32))] []))
      refine Go.step (fun _ k => XS.iload X172.here hx rfl (hb hby at_147) rfl  k) ?_
      show Go _ _ _ _ _ _ _ (T172.setTop (mkF m 149 #[.val (.int qa), .val (.int qb), .val (.int qc), .val (.int qp), .val (.int qq), .val (.int (2 : Int32)), .val (.int (1 : Int32)), .val (.int (1 : Int32)), .val (.ref b132), .val (.int (1 : Int32)), .val (.int (0 : Int32))] [(.int (1 : Int32))]))
      have hc149 : ¬ ((1 : Int32) = (0 : Int32)) := by decide
      refine Go.step (fun _ k => XS.ifNo X172.here hx rfl (hb hby at_149) rfl ((if0 _ _).trans (feq hc149).1) k) ?_
      show Go _ _ _ _ _ _ _ (T172.setTop (mkF m 152 #[.val (.int qa), .val (.int qb), .val (.int qc), .val (.int qp), .val (.int qq), .val (.int (2 : Int32)), .val (.int (1 : Int32)), .val (.int (1 : Int32)), .val (.ref b132), .val (.int (1 : Int32)), .val (.int (0 : Int32))] []))
      refine Go.step (fun _ k => XS.aload X172.here hx rfl (hb hby at_152) rfl rfl  k) ?_
      show Go _ _ _ _ _ _ _ (T172.setTop (mkF m 154 #[.val (.int qa), .val (.int qb), .val (.int qc), .val (.int qp), .val (.int qq), .val (.int (2 : Int32)), .val (.int (1 : Int32)), .val (.int (1 : Int32)), .val (.ref b132), .val (.int (1 : Int32)), .val (.int (0 : Int32))] [(.ref b132)]))
      obtain ⟨cq175, kq175, q175a, q175b, q175c⟩ := isOf hZ rfl c172_0
      obtain ⟨_, _, ⟨T175, L175, k175, n175⟩, -, X175, ⟨Lc175, hQ175, l175, y175, z175⟩, st175⟩ := X172.virtualBack hx (y := (⟨"com/example/tree_automata_reducer/treeautomatareducer/reduce/PairStack", "isEmpty", "()Z"⟩ : MethodName)) (z := (⟨"com/example/tree_automata_reducer/treeautomatareducer/reduce/PairStack", "isEmpty", "()Z"⟩ : MethodName)) hown (mvT hZ (hw _ (List.mem_of_getElem? (i := 41) rfl))) (mvT hZ (hw _ (List.mem_of_getElem? (i := 42) rfl))) (notFace_of_selects (args := #[]) (mvT hZ (hw _ (List.mem_of_getElem? (i := 44) rfl)))) (mvT hZ (hw _ (List.mem_of_getElem? (i := 44) rfl))) (mvT hZ (hw _ (List.mem_of_getElem? (i := 43) rfl))) (by decide) (backOf (W := 0) (rm6 l Z aZ hw [] b132 (2 : Int64) T172.heap n0 z173 c172_1f) hZ (hw _ (List.mem_of_getElem? (i := 45) rfl)) (hw _ (List.mem_of_getElem? (i := 3) rfl)) (by decide) (by decide)) q175a q175c (g := (mkF m 154 #[.val (.int qa), .val (.int qb), .val (.int qc), .val (.int qp), .val (.int qq), .val (.int (2 : Int32)), .val (.int (1 : Int32)), .val (.int (1 : Int32)), .val (.ref b132), .val (.int (1 : Int32)), .val (.int (0 : Int32))] [(.ref b132)])) rfl (by rw [hml]; rfl) (Steps.refl _) (argsL := []) (rest := []) (lenOf pd_9 rfl) rfl (by show 2 * 0 + _ ≤ _; exact Nat.le_of_eq rfl) (hb hby at_154) (fun _ _ => ⟨rfl, rfl, (by decide : 4 + 0 ≤ _), (by decide : 32788 + 0 ≤ _)⟩)
      dsimp only [Pt.U, Pt.locs, Pt.cells, Pt.slots] at X175 l175 y175 z175 st175 hQ175
      subst l175 y175 z175
      obtain ⟨rfl, Nq175, e175⟩ := hQ175
      have N175 := Fr.app N172 Nq175
      refine Go.tr st175 ?_
      show Go _ _ _ _ _ _ _ (T175.setTop (mkF m 157 #[.val (.int qa), .val (.int qb), .val (.int qc), .val (.int qp), .val (.int qq), .val (.int (2 : Int32)), .val (.int (1 : Int32)), .val (.int (1 : Int32)), .val (.ref b132), .val (.int (1 : Int32)), .val (.int (0 : Int32))] [(.int (if (2 : Int64) = 0 then (1 : Int32) else 0))]))
      refine Go.step (fun _ k => XS.iload X175.here hx rfl (hb hby at_157) rfl  k) ?_
      show Go _ _ _ _ _ _ _ (T175.setTop (mkF m 159 #[.val (.int qa), .val (.int qb), .val (.int qc), .val (.int qp), .val (.int qq), .val (.int (2 : Int32)), .val (.int (1 : Int32)), .val (.int (1 : Int32)), .val (.ref b132), .val (.int (1 : Int32)), .val (.int (0 : Int32))] [(.int (0 : Int32)), (.int (if (2 : Int64) = 0 then (1 : Int32) else 0))]))
      have hc159 : (if (2 : Int64) = 0 then (1 : Int32) else 0) = (0 : Int32) := by decide
      refine Go.step (fun _ k => XS.icmpNo X175.here hx rfl (hb hby at_159) rfl (teq hc159).2 k) ?_
      show Go _ _ _ _ _ _ _ (T175.setTop (mkF m 162 #[.val (.int qa), .val (.int qb), .val (.int qc), .val (.int qp), .val (.int qq), .val (.int (2 : Int32)), .val (.int (1 : Int32)), .val (.int (1 : Int32)), .val (.ref b132), .val (.int (1 : Int32)), .val (.int (0 : Int32))] []))
      refine Go.step (fun _ k => XS.iconst X175.here hx rfl (hb hby at_162) k) ?_
      show Go _ _ _ _ _ _ _ (T175.setTop (mkF m 163 #[.val (.int qa), .val (.int qb), .val (.int qc), .val (.int qp), .val (.int qq), .val (.int (2 : Int32)), .val (.int (1 : Int32)), .val (.int (1 : Int32)), .val (.ref b132), .val (.int (1 : Int32)), .val (.int (0 : Int32))] [(.int (1 : Int32))]))
      refine Go.step (fun _ k => XS.goto X175.here hx rfl (pc0 := 163) (pc' := 167) rfl (hb hby at_163) (by decide) (by decide) k) ?_
      show Go _ _ _ _ _ _ _ (T175.setTop (mkF m 167 #[.val (.int qa), .val (.int qb), .val (.int qc), .val (.int qp), .val (.int qq), .val (.int (2 : Int32)), .val (.int (1 : Int32)), .val (.int (1 : Int32)), .val (.ref b132), .val (.int (1 : Int32)), .val (.int (0 : Int32))] [(.int (1 : Int32))]))
      refine Go.retN X175 hx (t := .boolean) Bd.returns (by simp) hlk (hb hby at_167) ?_ (by decide) (by decide)
      rw [e175]
      exact ⟨(by first | rfl | (simp_all [own_nb1, own_nb0]; done)), N175⟩
  · skip
    subst h1 h2
    show Go _ _ _ _ _ _ _ (s₁.setTop (mkF m 21 #[.val (.int qa), .val (.int qb), .val (.int qc), .val (.int qp), .val (.int qq), .val (.int (2 : Int32)), .val (.int (2 : Int32)), .val (.int kq), .unset, .unset, .unset] []))
    obtain ⟨T176, h176, X176, e176, E176, A176, D176, -, st176⟩ := newO X0 hx hZ hown (hw _ (List.mem_of_getElem? (i := 1) rfl)) (hw _ (List.mem_of_getElem? (i := 2) rfl)) (hw _ (List.mem_of_getElem? (i := 3) rfl)) e0 (g := (mkF m 21 #[.val (.int qa), .val (.int qb), .val (.int qc), .val (.int qp), .val (.int qq), .val (.int (2 : Int32)), .val (.int (2 : Int32)), .val (.int kq), .unset, .unset, .unset] [])) rfl (hb hby at_21) (by decide) (by decide)
    obtain ⟨b176, g176⟩ : ∃ z, z = h0.size := ⟨_, rfl⟩
    rw [← g176] at A176 D176 st176
    refine Go.step st176 ?_
    have gn176 : n0 ≤ b176 := Nat.le_trans Z0 (Nat.le_of_eq g176.symm)
    have sz176 : h0.size ≤ b176 := Nat.le_trans sq0 (Nat.le_of_eq g176.symm)
    have z177 : n0 ≤ h176.size := Nat.le_trans Z0 E176.1
    have sqz177 : h0.size ≤ h176.size := Nat.le_trans sq0 E176.1
    have f179 : Fld Z h176 b176 "com/example/tree_automata_reducer/treeautomatareducer/reduce/PairStack" "blocks" "Ljava/util/List;" .null := D176 (Or.inr (hw _ (List.mem_of_getElem? (i := 35) rfl))) (ty := (.object "java/util/List")) (by decide)
    have f180 : Fld Z h176 b176 "com/example/tree_automata_reducer/treeautomatareducer/reduce/PairStack" "blockNumber" "I" (.int (0 : Int32)) := D176 (Or.inl (hw _ (List.mem_of_getElem? (i := 37) rfl))) (ty := .int) (by decide)
    have f181 : Fld Z h176 b176 "com/example/tree_automata_reducer/treeautomatareducer/reduce/PairStack" "inBlock" "I" (.int (0 : Int32)) := D176 (Or.inl (hw _ (List.mem_of_getElem? (i := 40) rfl))) (ty := .int) (by decide)
    have f182 : Fld Z h176 b176 "com/example/tree_automata_reducer/treeautomatareducer/reduce/PairStack" "size" "J" (.long (0 : Int64)) := D176 (Or.inl (hw _ (List.mem_of_getElem? (i := 47) rfl))) (ty := .long) (by decide)
    have f183 : Fld Z h176 b176 "com/example/tree_automata_reducer/treeautomatareducer/reduce/PairStack" "block" "[J" .null := D176 (Or.inl (hw _ (List.mem_of_getElem? (i := 121) rfl))) (ty := (.array .long)) (by decide)
    have f184 : Fld Z h176 b176 "com/example/tree_automata_reducer/treeautomatareducer/reduce/PairStack" "first" "I" (.int (0 : Int32)) := D176 (Or.inl (hw _ (List.mem_of_getElem? (i := 129) rfl))) (ty := .int) (by decide)
    have f185 : Fld Z h176 b176 "com/example/tree_automata_reducer/treeautomatareducer/reduce/PairStack" "second" "I" (.int (0 : Int32)) := D176 (Or.inl (hw _ (List.mem_of_getElem? (i := 131) rfl))) (ty := .int) (by decide)
    show Go _ _ _ _ _ _ _ (T176.setTop (mkF m 24 #[.val (.int qa), .val (.int qb), .val (.int qc), .val (.int qp), .val (.int qq), .val (.int (2 : Int32)), .val (.int (2 : Int32)), .val (.int kq), .unset, .unset, .unset] [(.ref b176)]))
    refine Go.step (fun _ k => XS.dup X176.here hx rfl (hb hby at_24) rfl rfl k) ?_
    show Go _ _ _ _ _ _ _ (T176.setTop (mkF m 25 #[.val (.int qa), .val (.int qb), .val (.int qc), .val (.int qp), .val (.int qq), .val (.int (2 : Int32)), .val (.int (2 : Int32)), .val (.int kq), .unset, .unset, .unset] [(.ref b176), (.ref b176)]))
    have f186 : Old Z n0 h176 := (O_0.ext E176)
    obtain ⟨_, _, ⟨T187, L187, k187, n187⟩, -, X187, ⟨Lc187, hQ187, l187, y187, z187⟩, st187⟩ := X176.specialBack hx (y := (⟨"com/example/tree_automata_reducer/treeautomatareducer/reduce/PairStack", "<init>", "()V"⟩ : MethodName)) rfl hown (mvT hZ (hw _ (List.mem_of_getElem? (i := 4) rfl))) (mvT hZ (hw _ (List.mem_of_getElem? (i := 5) rfl))) (mvT hZ (hw _ (List.mem_of_getElem? (i := 6) rfl))) (by decide) (backOf (W := 1) (rm1 l Z aZ hw [] b176 w0 h176 n0 z177 f186 S_1 A176 f179 f182 f183 f180 f181 f184 f185 gn176) hZ (hw _ (List.mem_of_getElem? (i := 6) rfl)) (hw _ (List.mem_of_getElem? (i := 3) rfl)) (by decide) (by decide)) (g := (mkF m 25 #[.val (.int qa), .val (.int qb), .val (.int qc), .val (.int qp), .val (.int qq), .val (.int (2 : Int32)), .val (.int (2 : Int32)), .val (.int kq), .unset, .unset, .unset] [(.ref b176), (.ref b176)])) rfl (by rw [hml]; rfl) (Steps.refl _) (a := b176) (argsL := []) (rest := [(.ref b176)]) (lenOf pd_0 rfl) rfl (by show 2 * 0 + _ ≤ _; exact Nat.le_of_eq rfl) (hb hby at_25) (fun _ _ => ⟨rfl, e176, (by decide : 1 + 1 ≤ _), (by decide : 7 + 3 ≤ _)⟩)
    dsimp only [Pt.U, Pt.locs, Pt.cells, Pt.slots] at X187 l187 y187 z187 st187 hQ187
    subst l187 y187 z187
    obtain ⟨l0_187, rfl, Nq187, K187, c187_0, c187_1, c187_2, c187_3, c187_4, c187_5, c187_6, c187_7, c187_8, c187_9, c187_10, c187_11, c187_12, c187_13⟩ := hQ187
    have N187 := Fr.app N0 Nq187
    refine Go.tr st187 ?_
    have ne188 : b176 ≠ l0_187 := Nat.ne_of_lt (Nat.lt_of_lt_of_le A176.lt c187_0)
    have gn187_0 : n0 ≤ l0_187 := Nat.le_trans z177 c187_0
    have sz187_0 : h0.size ≤ l0_187 := Nat.le_trans sqz177 c187_0
    have z189 : n0 ≤ T187.heap.size := Nat.le_trans z177 K187.1
    have sqz189 : h0.size ≤ T187.heap.size := Nat.le_trans sqz177 K187.1
    show Go _ _ _ _ _ _ _ (T187.setTop (mkF m 28 #[.val (.int qa), .val (.int qb), .val (.int qc), .val (.int qp), .val (.int qq), .val (.int (2 : Int32)), .val (.int (2 : Int32)), .val (.int kq), .unset, .unset, .unset] [(.ref b176)]))
    refine Go.step (fun _ k => XS.astore X187.here hx rfl (hb hby at_28) rfl rfl (l' := #[.val (.int qa), .val (.int qb), .val (.int qc), .val (.int qp), .val (.int qq), .val (.int (2 : Int32)), .val (.int (2 : Int32)), .val (.int kq), .val (.ref b176), .unset, .unset]) rfl k) ?_
    show Go _ _ _ _ _ _ _ (T187.setTop (mkF m 30 #[.val (.int qa), .val (.int qb), .val (.int qc), .val (.int qp), .val (.int qq), .val (.int (2 : Int32)), .val (.int (2 : Int32)), .val (.int kq), .val (.ref b176), .unset, .unset] []))
    refine Go.step (fun _ k => XS.aload X187.here hx rfl (hb hby at_30) rfl rfl  k) ?_
    show Go _ _ _ _ _ _ _ (T187.setTop (mkF m 32 #[.val (.int qa), .val (.int qb), .val (.int qc), .val (.int qp), .val (.int qq), .val (.int (2 : Int32)), .val (.int (2 : Int32)), .val (.int kq), .val (.ref b176), .unset, .unset] [(.ref b176)]))
    obtain ⟨cq191, kq191, q191a, q191b, q191c⟩ := isOf hZ rfl c187_1
    obtain ⟨_, _, ⟨T191, L191, k191, n191⟩, -, X191, ⟨Lc191, hQ191, l191, y191, z191⟩, st191⟩ := X187.virtualBack hx (y := (⟨"com/example/tree_automata_reducer/treeautomatareducer/reduce/PairStack", "isEmpty", "()Z"⟩ : MethodName)) (z := (⟨"com/example/tree_automata_reducer/treeautomatareducer/reduce/PairStack", "isEmpty", "()Z"⟩ : MethodName)) hown (mvT hZ (hw _ (List.mem_of_getElem? (i := 41) rfl))) (mvT hZ (hw _ (List.mem_of_getElem? (i := 42) rfl))) (notFace_of_selects (args := #[]) (mvT hZ (hw _ (List.mem_of_getElem? (i := 44) rfl)))) (mvT hZ (hw _ (List.mem_of_getElem? (i := 44) rfl))) (mvT hZ (hw _ (List.mem_of_getElem? (i := 43) rfl))) (by decide) (backOf (W := 0) (rm6 l Z aZ hw [] b176 (0 : Int64) T187.heap n0 z189 c187_3) hZ (hw _ (List.mem_of_getElem? (i := 45) rfl)) (hw _ (List.mem_of_getElem? (i := 3) rfl)) (by decide) (by decide)) q191a q191c (g := (mkF m 32 #[.val (.int qa), .val (.int qb), .val (.int qc), .val (.int qp), .val (.int qq), .val (.int (2 : Int32)), .val (.int (2 : Int32)), .val (.int kq), .val (.ref b176), .unset, .unset] [(.ref b176)])) rfl (by rw [hml]; rfl) (Steps.refl _) (argsL := []) (rest := []) (lenOf pd_9 rfl) rfl (by show 2 * 0 + _ ≤ _; exact Nat.le_of_eq rfl) (hb hby at_32) (fun _ _ => ⟨rfl, rfl, (by decide : 2 + 0 ≤ _), (by decide : 10 + 0 ≤ _)⟩)
    dsimp only [Pt.U, Pt.locs, Pt.cells, Pt.slots] at X191 l191 y191 z191 st191 hQ191
    subst l191 y191 z191
    obtain ⟨rfl, Nq191, e191⟩ := hQ191
    have N191 := Fr.app N187 Nq191
    refine Go.tr st191 ?_
    show Go _ _ _ _ _ _ _ (T191.setTop (mkF m 35 #[.val (.int qa), .val (.int qb), .val (.int qc), .val (.int qp), .val (.int qq), .val (.int (2 : Int32)), .val (.int (2 : Int32)), .val (.int kq), .val (.ref b176), .unset, .unset] [(.int (if (0 : Int64) = 0 then (1 : Int32) else 0))]))
    have sv192 : (if (0 : Int64) = 0 then (1 : Int32) else 0) = (1 : Int32) := if_pos rfl
    rw [sv192]
    show Go _ _ _ _ _ _ _ (T191.setTop (mkF m 35 #[.val (.int qa), .val (.int qb), .val (.int qc), .val (.int qp), .val (.int qq), .val (.int (2 : Int32)), .val (.int (2 : Int32)), .val (.int kq), .val (.ref b176), .unset, .unset] [(.int (1 : Int32))]))
    refine Go.step (fun _ k => XS.istore X191.here hx rfl (hb hby at_35) rfl (l' := #[.val (.int qa), .val (.int qb), .val (.int qc), .val (.int qp), .val (.int qq), .val (.int (2 : Int32)), .val (.int (2 : Int32)), .val (.int kq), .val (.ref b176), .val (.int (1 : Int32)), .unset]) rfl k) ?_
    show Go _ _ _ _ _ _ _ (T191.setTop (mkF m 37 #[.val (.int qa), .val (.int qb), .val (.int qc), .val (.int qp), .val (.int qq), .val (.int (2 : Int32)), .val (.int (2 : Int32)), .val (.int kq), .val (.ref b176), .val (.int (1 : Int32)), .unset] []))
    refine Go.step (fun _ k => XS.iload X191.here hx rfl (hb hby at_37) rfl  k) ?_
    show Go _ _ _ _ _ _ _ (T191.setTop (mkF m 39 #[.val (.int qa), .val (.int qb), .val (.int qc), .val (.int qp), .val (.int qq), .val (.int (2 : Int32)), .val (.int (2 : Int32)), .val (.int kq), .val (.ref b176), .val (.int (1 : Int32)), .unset] [(.int (2 : Int32))]))
    refine Go.step (fun _ k => XS.iconst X191.here hx rfl (hb hby at_39) k) ?_
    show Go _ _ _ _ _ _ _ (T191.setTop (mkF m 40 #[.val (.int qa), .val (.int qb), .val (.int qc), .val (.int qp), .val (.int qq), .val (.int (2 : Int32)), .val (.int (2 : Int32)), .val (.int kq), .val (.ref b176), .val (.int (1 : Int32)), .unset] [(.int (1 : Int32)), (.int (2 : Int32))]))
    have hc40 : ¬ ((2 : Int32) < (1 : Int32)) := by decide
    refine Go.step (fun _ k => XS.icmpNo X191.here hx rfl (hb hby at_40) rfl (flt hc40).1 k) ?_
    show Go _ _ _ _ _ _ _ (T191.setTop (mkF m 43 #[.val (.int qa), .val (.int qb), .val (.int qc), .val (.int qp), .val (.int qq), .val (.int (2 : Int32)), .val (.int (2 : Int32)), .val (.int kq), .val (.ref b176), .val (.int (1 : Int32)), .unset] []))
    refine Go.step (fun _ k => XS.aload X191.here hx rfl (hb hby at_43) rfl rfl  k) ?_
    show Go _ _ _ _ _ _ _ (T191.setTop (mkF m 45 #[.val (.int qa), .val (.int qb), .val (.int qc), .val (.int qp), .val (.int qq), .val (.int (2 : Int32)), .val (.int (2 : Int32)), .val (.int kq), .val (.ref b176), .val (.int (1 : Int32)), .unset] [(.ref b176)]))
    refine Go.step (fun _ k => XS.iloadN X191.here hx rfl (hb hby at_45) rfl  k) ?_
    show Go _ _ _ _ _ _ _ (T191.setTop (mkF m 46 #[.val (.int qa), .val (.int qb), .val (.int qc), .val (.int qp), .val (.int qq), .val (.int (2 : Int32)), .val (.int (2 : Int32)), .val (.int kq), .val (.ref b176), .val (.int (1 : Int32)), .unset] [(.int qp), (.ref b176)]))
    refine Go.step (fun _ k => XS.iload X191.here hx rfl (hb hby at_46) rfl  k) ?_
    show Go _ _ _ _ _ _ _ (T191.setTop (mkF m 48 #[.val (.int qa), .val (.int qb), .val (.int qc), .val (.int qp), .val (.int qq), .val (.int (2 : Int32)), .val (.int (2 : Int32)), .val (.int kq), .val (.ref b176), .val (.int (1 : Int32)), .unset] [(.int qq), (.int qp), (.ref b176)]))
    have f193 : Old Z n0 T187.heap := (f186.keep K187 (allS gn176 all0))
    obtain ⟨cq194, kq194, q194a, q194b, q194c⟩ := isOf hZ e191 c187_1
    obtain ⟨_, _, ⟨T194, L194, k194, n194⟩, -, X194, ⟨Lc194, hQ194, l194, y194, z194⟩, st194⟩ := X191.virtualBack hx (y := (⟨"com/example/tree_automata_reducer/treeautomatareducer/reduce/PairStack", "push", "(II)V"⟩ : MethodName)) (z := (⟨"com/example/tree_automata_reducer/treeautomatareducer/reduce/PairStack", "push", "(II)V"⟩ : MethodName)) hown (mvT hZ (hw _ (List.mem_of_getElem? (i := 48) rfl))) (mvT hZ (hw _ (List.mem_of_getElem? (i := 49) rfl))) (notFace_of_selects (args := #[]) (mvT hZ (hw _ (List.mem_of_getElem? (i := 51) rfl)))) (mvT hZ (hw _ (List.mem_of_getElem? (i := 51) rfl))) (mvT hZ (hw _ (List.mem_of_getElem? (i := 50) rfl))) (by decide) (backOf (W := 0) (rmpA l Z aZ hw [] b176 qp qq w0 l0_187 T187.heap n0 z189 f193 S_1 A_2 c187_1 c187_2 c187_3 c187_4 c187_5 c187_6 c187_7 c187_8 c187_9 c187_10 c187_11 c187_12 c187_13 gn176 gn187_0) hZ (hw _ (List.mem_of_getElem? (i := 52) rfl)) (hw _ (List.mem_of_getElem? (i := 3) rfl)) (by decide) (by decide)) q194a q194c (g := (mkF m 48 #[.val (.int qa), .val (.int qb), .val (.int qc), .val (.int qp), .val (.int qq), .val (.int (2 : Int32)), .val (.int (2 : Int32)), .val (.int kq), .val (.ref b176), .val (.int (1 : Int32)), .unset] [(.int qq), (.int qp), (.ref b176)])) rfl (by rw [hml]; rfl) (Steps.refl _) (argsL := [(.int qp), (.int qq)]) (rest := []) (lenOf pd_10 rfl) rfl (by show 2 * 0 + _ ≤ _; exact Nat.le_of_eq rfl) (hb hby at_48) (fun _ _ => ⟨rfl, e191, (by decide : 2 + 2 ≤ _), (by decide : 10 + 32778 ≤ _)⟩)
    dsimp only [Pt.U, Pt.locs, Pt.cells, Pt.slots] at X194 l194 y194 z194 st194 hQ194
    subst l194 y194 z194
    obtain ⟨b_194, f2_194, rfl, Nq194, K194, c194_0, c194_1, c194_2, c194_3, c194_4, c194_5, c194_6, c194_7, c194_8⟩ := hQ194
    have N194 := Fr.app N191 Nq194
    refine Go.tr st194 ?_
    have ne195 : b176 ≠ b_194 := Nat.ne_of_lt (Nat.lt_of_lt_of_le c187_1.lt c194_0)
    have ne196 : l0_187 ≠ b_194 := Nat.ne_of_lt (Nat.lt_of_lt_of_le c187_9.lt c194_0)
    have gn194_0 : n0 ≤ b_194 := Nat.le_trans z189 c194_0
    have sz194_0 : h0.size ≤ b_194 := Nat.le_trans sqz189 c194_0
    have z197 : n0 ≤ T194.heap.size := Nat.le_trans z189 K194.1
    have sqz197 : h0.size ≤ T194.heap.size := Nat.le_trans sqz189 K194.1
    show Go _ _ _ _ _ _ _ (T194.setTop (mkF m 51 #[.val (.int qa), .val (.int qb), .val (.int qc), .val (.int qp), .val (.int qq), .val (.int (2 : Int32)), .val (.int (2 : Int32)), .val (.int kq), .val (.ref b176), .val (.int (1 : Int32)), .unset] []))
    refine Go.step (fun _ k => XS.iload X194.here hx rfl (hb hby at_51) rfl  k) ?_
    show Go _ _ _ _ _ _ _ (T194.setTop (mkF m 53 #[.val (.int qa), .val (.int qb), .val (.int qc), .val (.int qp), .val (.int qq), .val (.int (2 : Int32)), .val (.int (2 : Int32)), .val (.int kq), .val (.ref b176), .val (.int (1 : Int32)), .unset] [(.int (2 : Int32))]))
    refine Go.step (fun _ k => XS.iconst X194.here hx rfl (hb hby at_53) k) ?_
    show Go _ _ _ _ _ _ _ (T194.setTop (mkF m 54 #[.val (.int qa), .val (.int qb), .val (.int qc), .val (.int qp), .val (.int qq), .val (.int (2 : Int32)), .val (.int (2 : Int32)), .val (.int kq), .val (.ref b176), .val (.int (1 : Int32)), .unset] [(.int (2 : Int32)), (.int (2 : Int32))]))
    have hc54 : ¬ ((2 : Int32) < (2 : Int32)) := by decide
    refine Go.step (fun _ k => XS.icmpNo X194.here hx rfl (hb hby at_54) rfl (flt hc54).1 k) ?_
    show Go _ _ _ _ _ _ _ (T194.setTop (mkF m 57 #[.val (.int qa), .val (.int qb), .val (.int qc), .val (.int qp), .val (.int qq), .val (.int (2 : Int32)), .val (.int (2 : Int32)), .val (.int kq), .val (.ref b176), .val (.int (1 : Int32)), .unset] []))
    refine Go.step (fun _ k => XS.aload X194.here hx rfl (hb hby at_57) rfl rfl  k) ?_
    show Go _ _ _ _ _ _ _ (T194.setTop (mkF m 59 #[.val (.int qa), .val (.int qb), .val (.int qc), .val (.int qp), .val (.int qq), .val (.int (2 : Int32)), .val (.int (2 : Int32)), .val (.int kq), .val (.ref b176), .val (.int (1 : Int32)), .unset] [(.ref b176)]))
    refine Go.step (fun _ k => XS.iload X194.here hx rfl (hb hby at_59) rfl  k) ?_
    show Go _ _ _ _ _ _ _ (T194.setTop (mkF m 61 #[.val (.int qa), .val (.int qb), .val (.int qc), .val (.int qp), .val (.int qq), .val (.int (2 : Int32)), .val (.int (2 : Int32)), .val (.int kq), .val (.ref b176), .val (.int (1 : Int32)), .unset] [(.int qq), (.ref b176)]))
    refine Go.step (fun _ k => XS.iloadN X194.here hx rfl (hb hby at_61) rfl  k) ?_
    show Go _ _ _ _ _ _ _ (T194.setTop (mkF m 62 #[.val (.int qa), .val (.int qb), .val (.int qc), .val (.int qp), .val (.int qq), .val (.int (2 : Int32)), .val (.int (2 : Int32)), .val (.int kq), .val (.ref b176), .val (.int (1 : Int32)), .unset] [(.int qp), (.int qq), (.ref b176)]))
    have pq199 : ¬ (1 : Int32) = (32768 : Int32) := (by decide)
    have pq200 : ¬ (1 : Int32) < 0 := (by decide)
    have pq201 : (1 : Int32) < (32768 : Int32) := (by decide)
    obtain ⟨cq202, kq202, q202a, q202b, q202c⟩ := isOf hZ rfl c194_1
    obtain ⟨_, _, ⟨T202, L202, k202, n202⟩, -, X202, ⟨Lc202, hQ202, l202, y202, z202⟩, st202⟩ := X194.virtualBack hx (y := (⟨"com/example/tree_automata_reducer/treeautomatareducer/reduce/PairStack", "push", "(II)V"⟩ : MethodName)) (z := (⟨"com/example/tree_automata_reducer/treeautomatareducer/reduce/PairStack", "push", "(II)V"⟩ : MethodName)) hown (mvT hZ (hw _ (List.mem_of_getElem? (i := 48) rfl))) (mvT hZ (hw _ (List.mem_of_getElem? (i := 49) rfl))) (notFace_of_selects (args := #[]) (mvT hZ (hw _ (List.mem_of_getElem? (i := 51) rfl)))) (mvT hZ (hw _ (List.mem_of_getElem? (i := 51) rfl))) (mvT hZ (hw _ (List.mem_of_getElem? (i := 50) rfl))) (by decide) (backOf (W := 0) (rmpB l Z aZ hw [] b176 qq qp (1 : Int32) (1 : Int64) b_194 f2_194 (0 : Int32) (0 : Int32) T194.heap n0 z197 c194_1 c194_2 c194_3 c194_4 c194_5 c194_6 c194_7 c194_8 gn176 gn194_0 pq199 pq200 pq201) hZ (hw _ (List.mem_of_getElem? (i := 52) rfl)) (hw _ (List.mem_of_getElem? (i := 3) rfl)) (by decide) (by decide)) q202a q202c (g := (mkF m 62 #[.val (.int qa), .val (.int qb), .val (.int qc), .val (.int qp), .val (.int qq), .val (.int (2 : Int32)), .val (.int (2 : Int32)), .val (.int kq), .val (.ref b176), .val (.int (1 : Int32)), .unset] [(.int qp), (.int qq), (.ref b176)])) rfl (by rw [hml]; rfl) (Steps.refl _) (argsL := [(.int qq), (.int qp)]) (rest := []) (lenOf pd_10 rfl) rfl (by show 2 * 0 + _ ≤ _; exact Nat.le_of_eq rfl) (hb hby at_62) (fun _ _ => ⟨rfl, rfl, (by decide : 4 + 0 ≤ _), (by decide : 32788 + 0 ≤ _)⟩)
    dsimp only [Pt.U, Pt.locs, Pt.cells, Pt.slots] at X202 l202 y202 z202 st202 hQ202
    subst l202 y202 z202
    obtain ⟨f2_202, rfl, Nq202, K202, c202_0, c202_1, c202_2, c202_3, c202_4, c202_5, c202_6⟩ := hQ202
    have N202 := Fr.app N194 Nq202
    refine Go.tr st202 ?_
    have z203 : n0 ≤ T202.heap.size := Nat.le_trans z197 K202.1
    have sqz203 : h0.size ≤ T202.heap.size := Nat.le_trans sqz197 K202.1
    have c202_1f : Fld Z T202.heap b176 "com/example/tree_automata_reducer/treeautomatareducer/reduce/PairStack" "size" "J" (.long (2 : Int64)) := c202_1
    have c202_3f : Fld Z T202.heap b176 "com/example/tree_automata_reducer/treeautomatareducer/reduce/PairStack" "inBlock" "I" (.int (2 : Int32)) := c202_3
    show Go _ _ _ _ _ _ _ (T202.setTop (mkF m 65 #[.val (.int qa), .val (.int qb), .val (.int qc), .val (.int qp), .val (.int qq), .val (.int (2 : Int32)), .val (.int (2 : Int32)), .val (.int kq), .val (.ref b176), .val (.int (1 : Int32)), .unset] []))
    refine Go.step (fun _ k => XS.iload X202.here hx rfl (hb hby at_65) rfl  k) ?_
    show Go _ _ _ _ _ _ _ (T202.setTop (mkF m 67 #[.val (.int qa), .val (.int qb), .val (.int qc), .val (.int qp), .val (.int qq), .val (.int (2 : Int32)), .val (.int (2 : Int32)), .val (.int kq), .val (.ref b176), .val (.int (1 : Int32)), .unset] [(.int (2 : Int32))]))
    refine Go.step (fun _ k => XS.iconst X202.here hx rfl (hb hby at_67) k) ?_
    show Go _ _ _ _ _ _ _ (T202.setTop (mkF m 68 #[.val (.int qa), .val (.int qb), .val (.int qc), .val (.int qp), .val (.int qq), .val (.int (2 : Int32)), .val (.int (2 : Int32)), .val (.int kq), .val (.ref b176), .val (.int (1 : Int32)), .unset] [(.int (3 : Int32)), (.int (2 : Int32))]))
    have hc68 : (2 : Int32) < (3 : Int32) := by decide
    refine Go.step (fun _ k => XS.icmpYes X202.here hx rfl (pc0 := 68) (pc' := 81) rfl (hb hby at_68) rfl (tlt hc68).1 (by decide) (by decide) k) ?_
    show Go _ _ _ _ _ _ _ (T202.setTop (mkF m 81 #[.val (.int qa), .val (.int qb), .val (.int qc), .val (.int qp), .val (.int qq), .val (.int (2 : Int32)), .val (.int (2 : Int32)), .val (.int kq), .val (.ref b176), .val (.int (1 : Int32)), .unset] []))
    refine Go.step (fun _ k => XS.iload X202.here hx rfl (hb hby at_81) rfl  k) ?_
    show Go _ _ _ _ _ _ _ (T202.setTop (mkF m 83 #[.val (.int qa), .val (.int qb), .val (.int qc), .val (.int qp), .val (.int qq), .val (.int (2 : Int32)), .val (.int (2 : Int32)), .val (.int kq), .val (.ref b176), .val (.int (1 : Int32)), .unset] [(.int (2 : Int32))]))
    refine Go.step (fun _ k => XS.iconst X202.here hx rfl (hb hby at_83) k) ?_
    show Go _ _ _ _ _ _ _ (T202.setTop (mkF m 84 #[.val (.int qa), .val (.int qb), .val (.int qc), .val (.int qp), .val (.int qq), .val (.int (2 : Int32)), .val (.int (2 : Int32)), .val (.int kq), .val (.ref b176), .val (.int (1 : Int32)), .unset] [(.int (1 : Int32)), (.int (2 : Int32))]))
    have hc84 : ¬ ((2 : Int32) < (1 : Int32)) := hc40
    refine Go.step (fun _ k => XS.icmpNo X202.here hx rfl (hb hby at_84) rfl (flt hc84).1 k) ?_
    show Go _ _ _ _ _ _ _ (T202.setTop (mkF m 87 #[.val (.int qa), .val (.int qb), .val (.int qc), .val (.int qp), .val (.int qq), .val (.int (2 : Int32)), .val (.int (2 : Int32)), .val (.int kq), .val (.ref b176), .val (.int (1 : Int32)), .unset] []))
    refine Go.step (fun _ k => XS.aload X202.here hx rfl (hb hby at_87) rfl rfl  k) ?_
    show Go _ _ _ _ _ _ _ (T202.setTop (mkF m 89 #[.val (.int qa), .val (.int qb), .val (.int qc), .val (.int qp), .val (.int qq), .val (.int (2 : Int32)), .val (.int (2 : Int32)), .val (.int kq), .val (.ref b176), .val (.int (1 : Int32)), .unset] [(.ref b176)]))
    have pq205 : ¬ (2 : Int32) = 0 := (by decide)
    have pq206 : ¬ (2 : Int32) - 1 < 0 := (by decide)
    have pq207 : (2 : Int32) - 1 < (32768 : Int32) := (by decide)
    obtain ⟨cq208, kq208, q208a, q208b, q208c⟩ := isOf hZ rfl c202_0
    obtain ⟨_, _, ⟨T208, L208, k208, n208⟩, -, X208, ⟨Lc208, hQ208, l208, y208, z208⟩, st208⟩ := X202.virtualBack hx (y := (⟨"com/example/tree_automata_reducer/treeautomatareducer/reduce/PairStack", "pop", "()V"⟩ : MethodName)) (z := (⟨"com/example/tree_automata_reducer/treeautomatareducer/reduce/PairStack", "pop", "()V"⟩ : MethodName)) hown (mvT hZ (hw _ (List.mem_of_getElem? (i := 123) rfl))) (mvT hZ (hw _ (List.mem_of_getElem? (i := 124) rfl))) (notFace_of_selects (args := #[]) (mvT hZ (hw _ (List.mem_of_getElem? (i := 126) rfl)))) (mvT hZ (hw _ (List.mem_of_getElem? (i := 126) rfl))) (mvT hZ (hw _ (List.mem_of_getElem? (i := 125) rfl))) (by decide) (backOf (W := 0) (rm18 l Z aZ hw [] b176 (2 : Int32) (2 : Int64) b_194 f2_202 (0 : Int32) (0 : Int32) T202.heap n0 z203 c202_0 c202_1f c202_2 c202_3f c202_4 c202_5 c202_6 c194_8 gn176 pq205 pq206 pq207) hZ (hw _ (List.mem_of_getElem? (i := 127) rfl)) (hw _ (List.mem_of_getElem? (i := 3) rfl)) (by decide) (by decide)) q208a q208c (g := (mkF m 89 #[.val (.int qa), .val (.int qb), .val (.int qc), .val (.int qp), .val (.int qq), .val (.int (2 : Int32)), .val (.int (2 : Int32)), .val (.int kq), .val (.ref b176), .val (.int (1 : Int32)), .unset] [(.ref b176)])) rfl (by rw [hml]; rfl) (Steps.refl _) (argsL := []) (rest := []) (lenOf pd_0 rfl) rfl (by show 2 * 0 + _ ≤ _; exact Nat.le_of_eq rfl) (hb hby at_89) (fun _ _ => ⟨rfl, rfl, (by decide : 4 + 0 ≤ _), (by decide : 32788 + 0 ≤ _)⟩)
    dsimp only [Pt.U, Pt.locs, Pt.cells, Pt.slots] at X208 l208 y208 z208 st208 hQ208
    subst l208 y208 z208
    obtain ⟨t1_208, t2_208, rfl, Nq208, K208, c208_0, c208_1, c208_2, c208_3, c208_4, c208_5⟩ := hQ208
    have N208 := Fr.app N202 Nq208
    refine Go.tr st208 ?_
    have z209 : n0 ≤ T208.heap.size := Nat.le_trans z203 K208.1
    have sqz209 : h0.size ≤ T208.heap.size := Nat.le_trans sqz203 K208.1
    have c208_1f : Fld Z T208.heap b176 "com/example/tree_automata_reducer/treeautomatareducer/reduce/PairStack" "size" "J" (.long (1 : Int64)) := c208_1
    have c208_3f : Fld Z T208.heap b176 "com/example/tree_automata_reducer/treeautomatareducer/reduce/PairStack" "inBlock" "I" (.int (1 : Int32)) := c208_3
    show Go _ _ _ _ _ _ _ (T208.setTop (mkF m 92 #[.val (.int qa), .val (.int qb), .val (.int qc), .val (.int qp), .val (.int qq), .val (.int (2 : Int32)), .val (.int (2 : Int32)), .val (.int kq), .val (.ref b176), .val (.int (1 : Int32)), .unset] []))
    refine Go.step (fun _ k => XS.iload X208.here hx rfl (hb hby at_92) rfl  k) ?_
    show Go _ _ _ _ _ _ _ (T208.setTop (mkF m 94 #[.val (.int qa), .val (.int qb), .val (.int qc), .val (.int qp), .val (.int qq), .val (.int (2 : Int32)), .val (.int (2 : Int32)), .val (.int kq), .val (.ref b176), .val (.int (1 : Int32)), .unset] [(.int (2 : Int32))]))
    refine Go.step (fun _ k => XS.iconst X208.here hx rfl (hb hby at_94) k) ?_
    show Go _ _ _ _ _ _ _ (T208.setTop (mkF m 95 #[.val (.int qa), .val (.int qb), .val (.int qc), .val (.int qp), .val (.int qq), .val (.int (2 : Int32)), .val (.int (2 : Int32)), .val (.int kq), .val (.ref b176), .val (.int (1 : Int32)), .unset] [(.int (2 : Int32)), (.int (2 : Int32))]))
    have hc95 : ¬ ((2 : Int32) < (2 : Int32)) := hc54
    refine Go.step (fun _ k => XS.icmpNo X208.here hx rfl (hb hby at_95) rfl (flt hc95).1 k) ?_
    show Go _ _ _ _ _ _ _ (T208.setTop (mkF m 98 #[.val (.int qa), .val (.int qb), .val (.int qc), .val (.int qp), .val (.int qq), .val (.int (2 : Int32)), .val (.int (2 : Int32)), .val (.int kq), .val (.ref b176), .val (.int (1 : Int32)), .unset] []))
    refine Go.step (fun _ k => XS.aload X208.here hx rfl (hb hby at_98) rfl rfl  k) ?_
    show Go _ _ _ _ _ _ _ (T208.setTop (mkF m 100 #[.val (.int qa), .val (.int qb), .val (.int qc), .val (.int qp), .val (.int qq), .val (.int (2 : Int32)), .val (.int (2 : Int32)), .val (.int kq), .val (.ref b176), .val (.int (1 : Int32)), .unset] [(.ref b176)]))
    have f211 : Al Z T208.heap b_194 (32768 : Int32) f2_202 := (c202_4.keep K208 (ninS (Ne.symm c194_8) nin0))
    have pq212 : ¬ (1 : Int32) = 0 := (by decide)
    have pq213 : ¬ (1 : Int32) - 1 < 0 := (by decide)
    have pq214 : (1 : Int32) - 1 < (32768 : Int32) := (by decide)
    obtain ⟨cq215, kq215, q215a, q215b, q215c⟩ := isOf hZ rfl c208_0
    obtain ⟨_, _, ⟨T215, L215, k215, n215⟩, -, X215, ⟨Lc215, hQ215, l215, y215, z215⟩, st215⟩ := X208.virtualBack hx (y := (⟨"com/example/tree_automata_reducer/treeautomatareducer/reduce/PairStack", "pop", "()V"⟩ : MethodName)) (z := (⟨"com/example/tree_automata_reducer/treeautomatareducer/reduce/PairStack", "pop", "()V"⟩ : MethodName)) hown (mvT hZ (hw _ (List.mem_of_getElem? (i := 123) rfl))) (mvT hZ (hw _ (List.mem_of_getElem? (i := 124) rfl))) (notFace_of_selects (args := #[]) (mvT hZ (hw _ (List.mem_of_getElem? (i := 126) rfl)))) (mvT hZ (hw _ (List.mem_of_getElem? (i := 126) rfl))) (mvT hZ (hw _ (List.mem_of_getElem? (i := 125) rfl))) (by decide) (backOf (W := 0) (rm18 l Z aZ hw [] b176 (1 : Int32) (1 : Int64) b_194 f2_202 t1_208 t2_208 T208.heap n0 z209 c208_0 c208_1f c208_2 c208_3f f211 c208_4 c208_5 c194_8 gn176 pq212 pq213 pq214) hZ (hw _ (List.mem_of_getElem? (i := 127) rfl)) (hw _ (List.mem_of_getElem? (i := 3) rfl)) (by decide) (by decide)) q215a q215c (g := (mkF m 100 #[.val (.int qa), .val (.int qb), .val (.int qc), .val (.int qp), .val (.int qq), .val (.int (2 : Int32)), .val (.int (2 : Int32)), .val (.int kq), .val (.ref b176), .val (.int (1 : Int32)), .unset] [(.ref b176)])) rfl (by rw [hml]; rfl) (Steps.refl _) (argsL := []) (rest := []) (lenOf pd_0 rfl) rfl (by show 2 * 0 + _ ≤ _; exact Nat.le_of_eq rfl) (hb hby at_100) (fun _ _ => ⟨rfl, rfl, (by decide : 4 + 0 ≤ _), (by decide : 32788 + 0 ≤ _)⟩)
    dsimp only [Pt.U, Pt.locs, Pt.cells, Pt.slots] at X215 l215 y215 z215 st215 hQ215
    subst l215 y215 z215
    obtain ⟨t1_215, t2_215, rfl, Nq215, K215, c215_0, c215_1, c215_2, c215_3, c215_4, c215_5⟩ := hQ215
    have N215 := Fr.app N208 Nq215
    refine Go.tr st215 ?_
    have z216 : n0 ≤ T215.heap.size := Nat.le_trans z209 K215.1
    have sqz216 : h0.size ≤ T215.heap.size := Nat.le_trans sqz209 K215.1
    have c215_1f : Fld Z T215.heap b176 "com/example/tree_automata_reducer/treeautomatareducer/reduce/PairStack" "size" "J" (.long (0 : Int64)) := c215_1
    have c215_3f : Fld Z T215.heap b176 "com/example/tree_automata_reducer/treeautomatareducer/reduce/PairStack" "inBlock" "I" (.int (0 : Int32)) := c215_3
    show Go _ _ _ _ _ _ _ (T215.setTop (mkF m 103 #[.val (.int qa), .val (.int qb), .val (.int qc), .val (.int qp), .val (.int qq), .val (.int (2 : Int32)), .val (.int (2 : Int32)), .val (.int kq), .val (.ref b176), .val (.int (1 : Int32)), .unset] []))
    refine Go.step (fun _ k => XS.iload X215.here hx rfl (hb hby at_103) rfl  k) ?_
    show Go _ _ _ _ _ _ _ (T215.setTop (mkF m 105 #[.val (.int qa), .val (.int qb), .val (.int qc), .val (.int qp), .val (.int qq), .val (.int (2 : Int32)), .val (.int (2 : Int32)), .val (.int kq), .val (.ref b176), .val (.int (1 : Int32)), .unset] [(.int (2 : Int32))]))
    refine Go.step (fun _ k => XS.iconst X215.here hx rfl (hb hby at_105) k) ?_
    show Go _ _ _ _ _ _ _ (T215.setTop (mkF m 106 #[.val (.int qa), .val (.int qb), .val (.int qc), .val (.int qp), .val (.int qq), .val (.int (2 : Int32)), .val (.int (2 : Int32)), .val (.int kq), .val (.ref b176), .val (.int (1 : Int32)), .unset] [(.int (3 : Int32)), (.int (2 : Int32))]))
    have hc106 : (2 : Int32) < (3 : Int32) := hc68
    refine Go.step (fun _ k => XS.icmpYes X215.here hx rfl (pc0 := 106) (pc' := 114) rfl (hb hby at_106) rfl (tlt hc106).1 (by decide) (by decide) k) ?_
    rcases hkq with h1 | h1
    · skip
      subst h1
      show Go _ _ _ _ _ _ _ (T215.setTop (mkF m 114 #[.val (.int qa), .val (.int qb), .val (.int qc), .val (.int qp), .val (.int qq), .val (.int (2 : Int32)), .val (.int (2 : Int32)), .val (.int (0 : Int32)), .val (.ref b176), .val (.int (1 : Int32)), .unset] []))
      refine Go.step (fun _ k => XS.iload X215.here hx rfl (hb hby at_114) rfl  k) ?_
      show Go _ _ _ _ _ _ _ (T215.setTop (mkF m 116 #[.val (.int qa), .val (.int qb), .val (.int qc), .val (.int qp), .val (.int qq), .val (.int (2 : Int32)), .val (.int (2 : Int32)), .val (.int (0 : Int32)), .val (.ref b176), .val (.int (1 : Int32)), .unset] [(.int (0 : Int32))]))
      refine Go.step (fun _ k => XS.iconst X215.here hx rfl (hb hby at_116) k) ?_
      show Go _ _ _ _ _ _ _ (T215.setTop (mkF m 117 #[.val (.int qa), .val (.int qb), .val (.int qc), .val (.int qp), .val (.int qq), .val (.int (2 : Int32)), .val (.int (2 : Int32)), .val (.int (0 : Int32)), .val (.ref b176), .val (.int (1 : Int32)), .unset] [(.int (1 : Int32)), (.int (0 : Int32))]))
      have hc117 : ¬ ((0 : Int32) = (1 : Int32)) := by decide
      refine Go.step (fun _ k => XS.icmpYes X215.here hx rfl (pc0 := 117) (pc' := 129) rfl (hb hby at_117) rfl (feq hc117).2 (by decide) (by decide) k) ?_
      show Go _ _ _ _ _ _ _ (T215.setTop (mkF m 129 #[.val (.int qa), .val (.int qb), .val (.int qc), .val (.int qp), .val (.int qq), .val (.int (2 : Int32)), .val (.int (2 : Int32)), .val (.int (0 : Int32)), .val (.ref b176), .val (.int (1 : Int32)), .unset] []))
      refine Go.step (fun _ k => XS.iload X215.here hx rfl (hb hby at_129) rfl  k) ?_
      show Go _ _ _ _ _ _ _ (T215.setTop (mkF m 131 #[.val (.int qa), .val (.int qb), .val (.int qc), .val (.int qp), .val (.int qq), .val (.int (2 : Int32)), .val (.int (2 : Int32)), .val (.int (0 : Int32)), .val (.ref b176), .val (.int (1 : Int32)), .unset] [(.int (2 : Int32))]))
      refine Go.step (fun _ k => XS.iload X215.here hx rfl (hb hby at_131) rfl  k) ?_
      show Go _ _ _ _ _ _ _ (T215.setTop (mkF m 133 #[.val (.int qa), .val (.int qb), .val (.int qc), .val (.int qp), .val (.int qq), .val (.int (2 : Int32)), .val (.int (2 : Int32)), .val (.int (0 : Int32)), .val (.ref b176), .val (.int (1 : Int32)), .unset] [(.int (2 : Int32)), (.int (2 : Int32))]))
      refine Go.step (fun _ k => XS.isub X215.here hx rfl (hb hby at_133) rfl k) ?_
      show Go _ _ _ _ _ _ _ (T215.setTop (mkF m 134 #[.val (.int qa), .val (.int qb), .val (.int qc), .val (.int qp), .val (.int qq), .val (.int (2 : Int32)), .val (.int (2 : Int32)), .val (.int (0 : Int32)), .val (.ref b176), .val (.int (1 : Int32)), .unset] [(.int (0 : Int32))]))
      refine Go.step (fun _ k => XS.iload X215.here hx rfl (hb hby at_134) rfl  k) ?_
      show Go _ _ _ _ _ _ _ (T215.setTop (mkF m 136 #[.val (.int qa), .val (.int qb), .val (.int qc), .val (.int qp), .val (.int qq), .val (.int (2 : Int32)), .val (.int (2 : Int32)), .val (.int (0 : Int32)), .val (.ref b176), .val (.int (1 : Int32)), .unset] [(.int (0 : Int32)), (.int (0 : Int32))]))
      refine Go.step (fun _ k => XS.iadd X215.here hx rfl (hb hby at_136) rfl k) ?_
      show Go _ _ _ _ _ _ _ (T215.setTop (mkF m 137 #[.val (.int qa), .val (.int qb), .val (.int qc), .val (.int qp), .val (.int qq), .val (.int (2 : Int32)), .val (.int (2 : Int32)), .val (.int (0 : Int32)), .val (.ref b176), .val (.int (1 : Int32)), .unset] [(.int (0 : Int32))]))
      have hc137 : (0 : Int32) = (0 : Int32) := by decide
      refine Go.step (fun _ k => XS.ifNo X215.here hx rfl (hb hby at_137) rfl ((if0 _ _).trans (teq hc137).2) k) ?_
      show Go _ _ _ _ _ _ _ (T215.setTop (mkF m 140 #[.val (.int qa), .val (.int qb), .val (.int qc), .val (.int qp), .val (.int qq), .val (.int (2 : Int32)), .val (.int (2 : Int32)), .val (.int (0 : Int32)), .val (.ref b176), .val (.int (1 : Int32)), .unset] []))
      refine Go.step (fun _ k => XS.iconst X215.here hx rfl (hb hby at_140) k) ?_
      show Go _ _ _ _ _ _ _ (T215.setTop (mkF m 141 #[.val (.int qa), .val (.int qb), .val (.int qc), .val (.int qp), .val (.int qq), .val (.int (2 : Int32)), .val (.int (2 : Int32)), .val (.int (0 : Int32)), .val (.ref b176), .val (.int (1 : Int32)), .unset] [(.int (1 : Int32))]))
      refine Go.step (fun _ k => XS.goto X215.here hx rfl (pc0 := 141) (pc' := 145) rfl (hb hby at_141) (by decide) (by decide) k) ?_
      show Go _ _ _ _ _ _ _ (T215.setTop (mkF m 145 #[.val (.int qa), .val (.int qb), .val (.int qc), .val (.int qp), .val (.int qq), .val (.int (2 : Int32)), .val (.int (2 : Int32)), .val (.int (0 : Int32)), .val (.ref b176), .val (.int (1 : Int32)), .unset] [(.int (1 : Int32))]))
      refine Go.step (fun _ k => XS.istore X215.here hx rfl (hb hby at_145) rfl (l' := #[.val (.int qa), .val (.int qb), .val (.int qc), .val (.int qp), .val (.int qq), .val (.int (2 : Int32)), .val (.int (2 : Int32)), .val (.int (0 : Int32)), .val (.ref b176), .val (.int (1 : Int32)), .val (.int (1 : Int32))]) rfl k) ?_
      show Go _ _ _ _ _ _ _ (T215.setTop (mkF m 147 #[.val (.int qa), .val (.int qb), .val (.int qc), .val (.int qp), .val (.int qq), .val (.int (2 : Int32)), .val (.int (2 : Int32)), .val (.int (0 : Int32)), .val (.ref b176), .val (.int (1 : Int32)), .val (.int (1 : Int32))] []))
      refine Go.step (fun _ k => XS.iload X215.here hx rfl (hb hby at_147) rfl  k) ?_
      show Go _ _ _ _ _ _ _ (T215.setTop (mkF m 149 #[.val (.int qa), .val (.int qb), .val (.int qc), .val (.int qp), .val (.int qq), .val (.int (2 : Int32)), .val (.int (2 : Int32)), .val (.int (0 : Int32)), .val (.ref b176), .val (.int (1 : Int32)), .val (.int (1 : Int32))] [(.int (1 : Int32))]))
      have hc149 : ¬ ((1 : Int32) = (0 : Int32)) := by decide
      refine Go.step (fun _ k => XS.ifNo X215.here hx rfl (hb hby at_149) rfl ((if0 _ _).trans (feq hc149).1) k) ?_
      show Go _ _ _ _ _ _ _ (T215.setTop (mkF m 152 #[.val (.int qa), .val (.int qb), .val (.int qc), .val (.int qp), .val (.int qq), .val (.int (2 : Int32)), .val (.int (2 : Int32)), .val (.int (0 : Int32)), .val (.ref b176), .val (.int (1 : Int32)), .val (.int (1 : Int32))] []))
      refine Go.step (fun _ k => XS.aload X215.here hx rfl (hb hby at_152) rfl rfl  k) ?_
      show Go _ _ _ _ _ _ _ (T215.setTop (mkF m 154 #[.val (.int qa), .val (.int qb), .val (.int qc), .val (.int qp), .val (.int qq), .val (.int (2 : Int32)), .val (.int (2 : Int32)), .val (.int (0 : Int32)), .val (.ref b176), .val (.int (1 : Int32)), .val (.int (1 : Int32))] [(.ref b176)]))
      obtain ⟨cq218, kq218, q218a, q218b, q218c⟩ := isOf hZ rfl c215_0
      obtain ⟨_, _, ⟨T218, L218, k218, n218⟩, -, X218, ⟨Lc218, hQ218, l218, y218, z218⟩, st218⟩ := X215.virtualBack hx (y := (⟨"com/example/tree_automata_reducer/treeautomatareducer/reduce/PairStack", "isEmpty", "()Z"⟩ : MethodName)) (z := (⟨"com/example/tree_automata_reducer/treeautomatareducer/reduce/PairStack", "isEmpty", "()Z"⟩ : MethodName)) hown (mvT hZ (hw _ (List.mem_of_getElem? (i := 41) rfl))) (mvT hZ (hw _ (List.mem_of_getElem? (i := 42) rfl))) (notFace_of_selects (args := #[]) (mvT hZ (hw _ (List.mem_of_getElem? (i := 44) rfl)))) (mvT hZ (hw _ (List.mem_of_getElem? (i := 44) rfl))) (mvT hZ (hw _ (List.mem_of_getElem? (i := 43) rfl))) (by decide) (backOf (W := 0) (rm6 l Z aZ hw [] b176 (0 : Int64) T215.heap n0 z216 c215_1f) hZ (hw _ (List.mem_of_getElem? (i := 45) rfl)) (hw _ (List.mem_of_getElem? (i := 3) rfl)) (by decide) (by decide)) q218a q218c (g := (mkF m 154 #[.val (.int qa), .val (.int qb), .val (.int qc), .val (.int qp), .val (.int qq), .val (.int (2 : Int32)), .val (.int (2 : Int32)), .val (.int (0 : Int32)), .val (.ref b176), .val (.int (1 : Int32)), .val (.int (1 : Int32))] [(.ref b176)])) rfl (by rw [hml]; rfl) (Steps.refl _) (argsL := []) (rest := []) (lenOf pd_9 rfl) rfl (by show 2 * 0 + _ ≤ _; exact Nat.le_of_eq rfl) (hb hby at_154) (fun _ _ => ⟨rfl, rfl, (by decide : 4 + 0 ≤ _), (by decide : 32788 + 0 ≤ _)⟩)
      dsimp only [Pt.U, Pt.locs, Pt.cells, Pt.slots] at X218 l218 y218 z218 st218 hQ218
      subst l218 y218 z218
      obtain ⟨rfl, Nq218, e218⟩ := hQ218
      have N218 := Fr.app N215 Nq218
      refine Go.tr st218 ?_
      show Go _ _ _ _ _ _ _ (T218.setTop (mkF m 157 #[.val (.int qa), .val (.int qb), .val (.int qc), .val (.int qp), .val (.int qq), .val (.int (2 : Int32)), .val (.int (2 : Int32)), .val (.int (0 : Int32)), .val (.ref b176), .val (.int (1 : Int32)), .val (.int (1 : Int32))] [(.int (if (0 : Int64) = 0 then (1 : Int32) else 0))]))
      refine Go.step (fun _ k => XS.iload X218.here hx rfl (hb hby at_157) rfl  k) ?_
      show Go _ _ _ _ _ _ _ (T218.setTop (mkF m 159 #[.val (.int qa), .val (.int qb), .val (.int qc), .val (.int qp), .val (.int qq), .val (.int (2 : Int32)), .val (.int (2 : Int32)), .val (.int (0 : Int32)), .val (.ref b176), .val (.int (1 : Int32)), .val (.int (1 : Int32))] [(.int (1 : Int32)), (.int (if (0 : Int64) = 0 then (1 : Int32) else 0))]))
      have hc159 : (if (0 : Int64) = 0 then (1 : Int32) else 0) = (1 : Int32) := by decide
      refine Go.step (fun _ k => XS.icmpNo X218.here hx rfl (hb hby at_159) rfl (teq hc159).2 k) ?_
      show Go _ _ _ _ _ _ _ (T218.setTop (mkF m 162 #[.val (.int qa), .val (.int qb), .val (.int qc), .val (.int qp), .val (.int qq), .val (.int (2 : Int32)), .val (.int (2 : Int32)), .val (.int (0 : Int32)), .val (.ref b176), .val (.int (1 : Int32)), .val (.int (1 : Int32))] []))
      refine Go.step (fun _ k => XS.iconst X218.here hx rfl (hb hby at_162) k) ?_
      show Go _ _ _ _ _ _ _ (T218.setTop (mkF m 163 #[.val (.int qa), .val (.int qb), .val (.int qc), .val (.int qp), .val (.int qq), .val (.int (2 : Int32)), .val (.int (2 : Int32)), .val (.int (0 : Int32)), .val (.ref b176), .val (.int (1 : Int32)), .val (.int (1 : Int32))] [(.int (1 : Int32))]))
      refine Go.step (fun _ k => XS.goto X218.here hx rfl (pc0 := 163) (pc' := 167) rfl (hb hby at_163) (by decide) (by decide) k) ?_
      show Go _ _ _ _ _ _ _ (T218.setTop (mkF m 167 #[.val (.int qa), .val (.int qb), .val (.int qc), .val (.int qp), .val (.int qq), .val (.int (2 : Int32)), .val (.int (2 : Int32)), .val (.int (0 : Int32)), .val (.ref b176), .val (.int (1 : Int32)), .val (.int (1 : Int32))] [(.int (1 : Int32))]))
      refine Go.retN X218 hx (t := .boolean) Bd.returns (by simp) hlk (hb hby at_167) ?_ (by decide) (by decide)
      rw [e218]
      exact ⟨(by first | rfl | (simp_all [own_nb1, own_nb0]; done)), N218⟩
    · skip
      subst h1
      show Go _ _ _ _ _ _ _ (T215.setTop (mkF m 114 #[.val (.int qa), .val (.int qb), .val (.int qc), .val (.int qp), .val (.int qq), .val (.int (2 : Int32)), .val (.int (2 : Int32)), .val (.int (1 : Int32)), .val (.ref b176), .val (.int (1 : Int32)), .unset] []))
      refine Go.step (fun _ k => XS.iload X215.here hx rfl (hb hby at_114) rfl  k) ?_
      show Go _ _ _ _ _ _ _ (T215.setTop (mkF m 116 #[.val (.int qa), .val (.int qb), .val (.int qc), .val (.int qp), .val (.int qq), .val (.int (2 : Int32)), .val (.int (2 : Int32)), .val (.int (1 : Int32)), .val (.ref b176), .val (.int (1 : Int32)), .unset] [(.int (1 : Int32))]))
      refine Go.step (fun _ k => XS.iconst X215.here hx rfl (hb hby at_116) k) ?_
      show Go _ _ _ _ _ _ _ (T215.setTop (mkF m 117 #[.val (.int qa), .val (.int qb), .val (.int qc), .val (.int qp), .val (.int qq), .val (.int (2 : Int32)), .val (.int (2 : Int32)), .val (.int (1 : Int32)), .val (.ref b176), .val (.int (1 : Int32)), .unset] [(.int (1 : Int32)), (.int (1 : Int32))]))
      have hc117 : (1 : Int32) = (1 : Int32) := by decide
      refine Go.step (fun _ k => XS.icmpNo X215.here hx rfl (hb hby at_117) rfl (teq hc117).2 k) ?_
      show Go _ _ _ _ _ _ _ (T215.setTop (mkF m 120 #[.val (.int qa), .val (.int qb), .val (.int qc), .val (.int qp), .val (.int qq), .val (.int (2 : Int32)), .val (.int (2 : Int32)), .val (.int (1 : Int32)), .val (.ref b176), .val (.int (1 : Int32)), .unset] []))
      refine Go.step (fun _ k => XS.aload X215.here hx rfl (hb hby at_120) rfl rfl  k) ?_
      show Go _ _ _ _ _ _ _ (T215.setTop (mkF m 122 #[.val (.int qa), .val (.int qb), .val (.int qc), .val (.int qp), .val (.int qq), .val (.int (2 : Int32)), .val (.int (2 : Int32)), .val (.int (1 : Int32)), .val (.ref b176), .val (.int (1 : Int32)), .unset] [(.ref b176)]))
      refine Go.step (fun _ k => XS.iload X215.here hx rfl (hb hby at_122) rfl  k) ?_
      show Go _ _ _ _ _ _ _ (T215.setTop (mkF m 124 #[.val (.int qa), .val (.int qb), .val (.int qc), .val (.int qp), .val (.int qq), .val (.int (2 : Int32)), .val (.int (2 : Int32)), .val (.int (1 : Int32)), .val (.ref b176), .val (.int (1 : Int32)), .unset] [(.int qq), (.ref b176)]))
      refine Go.step (fun _ k => XS.iload X215.here hx rfl (hb hby at_124) rfl  k) ?_
      show Go _ _ _ _ _ _ _ (T215.setTop (mkF m 126 #[.val (.int qa), .val (.int qb), .val (.int qc), .val (.int qp), .val (.int qq), .val (.int (2 : Int32)), .val (.int (2 : Int32)), .val (.int (1 : Int32)), .val (.ref b176), .val (.int (1 : Int32)), .unset] [(.int qq), (.int qq), (.ref b176)]))
      have f219 : Al Z T215.heap b_194 (32768 : Int32) f2_202 := (f211.keep K215 (ninS (Ne.symm c194_8) nin0))
      have pq220 : ¬ (0 : Int32) = (32768 : Int32) := (by decide)
      have pq221 : ¬ (0 : Int32) < 0 := (by decide)
      have pq222 : (0 : Int32) < (32768 : Int32) := (by decide)
      obtain ⟨cq223, kq223, q223a, q223b, q223c⟩ := isOf hZ rfl c215_0
      obtain ⟨_, _, ⟨T223, L223, k223, n223⟩, -, X223, ⟨Lc223, hQ223, l223, y223, z223⟩, st223⟩ := X215.virtualBack hx (y := (⟨"com/example/tree_automata_reducer/treeautomatareducer/reduce/PairStack", "push", "(II)V"⟩ : MethodName)) (z := (⟨"com/example/tree_automata_reducer/treeautomatareducer/reduce/PairStack", "push", "(II)V"⟩ : MethodName)) hown (mvT hZ (hw _ (List.mem_of_getElem? (i := 48) rfl))) (mvT hZ (hw _ (List.mem_of_getElem? (i := 49) rfl))) (notFace_of_selects (args := #[]) (mvT hZ (hw _ (List.mem_of_getElem? (i := 51) rfl)))) (mvT hZ (hw _ (List.mem_of_getElem? (i := 51) rfl))) (mvT hZ (hw _ (List.mem_of_getElem? (i := 50) rfl))) (by decide) (backOf (W := 0) (rmpB l Z aZ hw [] b176 qq qq (0 : Int32) (0 : Int64) b_194 f2_202 t1_215 t2_215 T215.heap n0 z216 c215_0 c215_1f c215_2 c215_3f f219 c215_4 c215_5 c194_8 gn176 gn194_0 pq220 pq221 pq222) hZ (hw _ (List.mem_of_getElem? (i := 52) rfl)) (hw _ (List.mem_of_getElem? (i := 3) rfl)) (by decide) (by decide)) q223a q223c (g := (mkF m 126 #[.val (.int qa), .val (.int qb), .val (.int qc), .val (.int qp), .val (.int qq), .val (.int (2 : Int32)), .val (.int (2 : Int32)), .val (.int (1 : Int32)), .val (.ref b176), .val (.int (1 : Int32)), .unset] [(.int qq), (.int qq), (.ref b176)])) rfl (by rw [hml]; rfl) (Steps.refl _) (argsL := [(.int qq), (.int qq)]) (rest := []) (lenOf pd_10 rfl) rfl (by show 2 * 0 + _ ≤ _; exact Nat.le_of_eq rfl) (hb hby at_126) (fun _ _ => ⟨rfl, rfl, (by decide : 4 + 0 ≤ _), (by decide : 32788 + 0 ≤ _)⟩)
      dsimp only [Pt.U, Pt.locs, Pt.cells, Pt.slots] at X223 l223 y223 z223 st223 hQ223
      subst l223 y223 z223
      obtain ⟨f2_223, rfl, Nq223, K223, c223_0, c223_1, c223_2, c223_3, c223_4, c223_5, c223_6⟩ := hQ223
      have N223 := Fr.app N215 Nq223
      refine Go.tr st223 ?_
      have z224 : n0 ≤ T223.heap.size := Nat.le_trans z216 K223.1
      have sqz224 : h0.size ≤ T223.heap.size := Nat.le_trans sqz216 K223.1
      have c223_1f : Fld Z T223.heap b176 "com/example/tree_automata_reducer/treeautomatareducer/reduce/PairStack" "size" "J" (.long (1 : Int64)) := c223_1
      have c223_3f : Fld Z T223.heap b176 "com/example/tree_automata_reducer/treeautomatareducer/reduce/PairStack" "inBlock" "I" (.int (1 : Int32)) := c223_3
      show Go _ _ _ _ _ _ _ (T223.setTop (mkF m 129 #[.val (.int qa), .val (.int qb), .val (.int qc), .val (.int qp), .val (.int qq), .val (.int (2 : Int32)), .val (.int (2 : Int32)), .val (.int (1 : Int32)), .val (.ref b176), .val (.int (1 : Int32)), .unset] []))
      refine Go.step (fun _ k => XS.iload X223.here hx rfl (hb hby at_129) rfl  k) ?_
      show Go _ _ _ _ _ _ _ (T223.setTop (mkF m 131 #[.val (.int qa), .val (.int qb), .val (.int qc), .val (.int qp), .val (.int qq), .val (.int (2 : Int32)), .val (.int (2 : Int32)), .val (.int (1 : Int32)), .val (.ref b176), .val (.int (1 : Int32)), .unset] [(.int (2 : Int32))]))
      refine Go.step (fun _ k => XS.iload X223.here hx rfl (hb hby at_131) rfl  k) ?_
      show Go _ _ _ _ _ _ _ (T223.setTop (mkF m 133 #[.val (.int qa), .val (.int qb), .val (.int qc), .val (.int qp), .val (.int qq), .val (.int (2 : Int32)), .val (.int (2 : Int32)), .val (.int (1 : Int32)), .val (.ref b176), .val (.int (1 : Int32)), .unset] [(.int (2 : Int32)), (.int (2 : Int32))]))
      refine Go.step (fun _ k => XS.isub X223.here hx rfl (hb hby at_133) rfl k) ?_
      show Go _ _ _ _ _ _ _ (T223.setTop (mkF m 134 #[.val (.int qa), .val (.int qb), .val (.int qc), .val (.int qp), .val (.int qq), .val (.int (2 : Int32)), .val (.int (2 : Int32)), .val (.int (1 : Int32)), .val (.ref b176), .val (.int (1 : Int32)), .unset] [(.int (0 : Int32))]))
      refine Go.step (fun _ k => XS.iload X223.here hx rfl (hb hby at_134) rfl  k) ?_
      show Go _ _ _ _ _ _ _ (T223.setTop (mkF m 136 #[.val (.int qa), .val (.int qb), .val (.int qc), .val (.int qp), .val (.int qq), .val (.int (2 : Int32)), .val (.int (2 : Int32)), .val (.int (1 : Int32)), .val (.ref b176), .val (.int (1 : Int32)), .unset] [(.int (1 : Int32)), (.int (0 : Int32))]))
      refine Go.step (fun _ k => XS.iadd X223.here hx rfl (hb hby at_136) rfl k) ?_
      show Go _ _ _ _ _ _ _ (T223.setTop (mkF m 137 #[.val (.int qa), .val (.int qb), .val (.int qc), .val (.int qp), .val (.int qq), .val (.int (2 : Int32)), .val (.int (2 : Int32)), .val (.int (1 : Int32)), .val (.ref b176), .val (.int (1 : Int32)), .unset] [(.int (1 : Int32))]))
      have hc137 : ¬ ((1 : Int32) = (0 : Int32)) := by decide
      refine Go.step (fun _ k => XS.ifYes X223.here hx rfl (pc0 := 137) (pc' := 144) rfl (hb hby at_137) rfl ((if0 _ _).trans (feq hc137).2) (by decide) (by decide) k) ?_
      show Go _ _ _ _ _ _ _ (T223.setTop (mkF m 144 #[.val (.int qa), .val (.int qb), .val (.int qc), .val (.int qp), .val (.int qq), .val (.int (2 : Int32)), .val (.int (2 : Int32)), .val (.int (1 : Int32)), .val (.ref b176), .val (.int (1 : Int32)), .unset] []))
      refine Go.step (fun _ k => XS.iconst X223.here hx rfl (hb hby at_144) k) ?_
      show Go _ _ _ _ _ _ _ (T223.setTop (mkF m 145 #[.val (.int qa), .val (.int qb), .val (.int qc), .val (.int qp), .val (.int qq), .val (.int (2 : Int32)), .val (.int (2 : Int32)), .val (.int (1 : Int32)), .val (.ref b176), .val (.int (1 : Int32)), .unset] [(.int (0 : Int32))]))
      refine Go.step (fun _ k => XS.istore X223.here hx rfl (hb hby at_145) rfl (l' := #[.val (.int qa), .val (.int qb), .val (.int qc), .val (.int qp), .val (.int qq), .val (.int (2 : Int32)), .val (.int (2 : Int32)), .val (.int (1 : Int32)), .val (.ref b176), .val (.int (1 : Int32)), .val (.int (0 : Int32))]) rfl k) ?_
      show Go _ _ _ _ _ _ _ (T223.setTop (mkF m 147 #[.val (.int qa), .val (.int qb), .val (.int qc), .val (.int qp), .val (.int qq), .val (.int (2 : Int32)), .val (.int (2 : Int32)), .val (.int (1 : Int32)), .val (.ref b176), .val (.int (1 : Int32)), .val (.int (0 : Int32))] []))
      refine Go.step (fun _ k => XS.iload X223.here hx rfl (hb hby at_147) rfl  k) ?_
      show Go _ _ _ _ _ _ _ (T223.setTop (mkF m 149 #[.val (.int qa), .val (.int qb), .val (.int qc), .val (.int qp), .val (.int qq), .val (.int (2 : Int32)), .val (.int (2 : Int32)), .val (.int (1 : Int32)), .val (.ref b176), .val (.int (1 : Int32)), .val (.int (0 : Int32))] [(.int (1 : Int32))]))
      have hc149 : ¬ ((1 : Int32) = (0 : Int32)) := hc137
      refine Go.step (fun _ k => XS.ifNo X223.here hx rfl (hb hby at_149) rfl ((if0 _ _).trans (feq hc149).1) k) ?_
      show Go _ _ _ _ _ _ _ (T223.setTop (mkF m 152 #[.val (.int qa), .val (.int qb), .val (.int qc), .val (.int qp), .val (.int qq), .val (.int (2 : Int32)), .val (.int (2 : Int32)), .val (.int (1 : Int32)), .val (.ref b176), .val (.int (1 : Int32)), .val (.int (0 : Int32))] []))
      refine Go.step (fun _ k => XS.aload X223.here hx rfl (hb hby at_152) rfl rfl  k) ?_
      show Go _ _ _ _ _ _ _ (T223.setTop (mkF m 154 #[.val (.int qa), .val (.int qb), .val (.int qc), .val (.int qp), .val (.int qq), .val (.int (2 : Int32)), .val (.int (2 : Int32)), .val (.int (1 : Int32)), .val (.ref b176), .val (.int (1 : Int32)), .val (.int (0 : Int32))] [(.ref b176)]))
      obtain ⟨cq226, kq226, q226a, q226b, q226c⟩ := isOf hZ rfl c223_0
      obtain ⟨_, _, ⟨T226, L226, k226, n226⟩, -, X226, ⟨Lc226, hQ226, l226, y226, z226⟩, st226⟩ := X223.virtualBack hx (y := (⟨"com/example/tree_automata_reducer/treeautomatareducer/reduce/PairStack", "isEmpty", "()Z"⟩ : MethodName)) (z := (⟨"com/example/tree_automata_reducer/treeautomatareducer/reduce/PairStack", "isEmpty", "()Z"⟩ : MethodName)) hown (mvT hZ (hw _ (List.mem_of_getElem? (i := 41) rfl))) (mvT hZ (hw _ (List.mem_of_getElem? (i := 42) rfl))) (notFace_of_selects (args := #[]) (mvT hZ (hw _ (List.mem_of_getElem? (i := 44) rfl)))) (mvT hZ (hw _ (List.mem_of_getElem? (i := 44) rfl))) (mvT hZ (hw _ (List.mem_of_getElem? (i := 43) rfl))) (by decide) (backOf (W := 0) (rm6 l Z aZ hw [] b176 (1 : Int64) T223.heap n0 z224 c223_1f) hZ (hw _ (List.mem_of_getElem? (i := 45) rfl)) (hw _ (List.mem_of_getElem? (i := 3) rfl)) (by decide) (by decide)) q226a q226c (g := (mkF m 154 #[.val (.int qa), .val (.int qb), .val (.int qc), .val (.int qp), .val (.int qq), .val (.int (2 : Int32)), .val (.int (2 : Int32)), .val (.int (1 : Int32)), .val (.ref b176), .val (.int (1 : Int32)), .val (.int (0 : Int32))] [(.ref b176)])) rfl (by rw [hml]; rfl) (Steps.refl _) (argsL := []) (rest := []) (lenOf pd_9 rfl) rfl (by show 2 * 0 + _ ≤ _; exact Nat.le_of_eq rfl) (hb hby at_154) (fun _ _ => ⟨rfl, rfl, (by decide : 4 + 0 ≤ _), (by decide : 32788 + 0 ≤ _)⟩)
      dsimp only [Pt.U, Pt.locs, Pt.cells, Pt.slots] at X226 l226 y226 z226 st226 hQ226
      subst l226 y226 z226
      obtain ⟨rfl, Nq226, e226⟩ := hQ226
      have N226 := Fr.app N223 Nq226
      refine Go.tr st226 ?_
      show Go _ _ _ _ _ _ _ (T226.setTop (mkF m 157 #[.val (.int qa), .val (.int qb), .val (.int qc), .val (.int qp), .val (.int qq), .val (.int (2 : Int32)), .val (.int (2 : Int32)), .val (.int (1 : Int32)), .val (.ref b176), .val (.int (1 : Int32)), .val (.int (0 : Int32))] [(.int (if (1 : Int64) = 0 then (1 : Int32) else 0))]))
      refine Go.step (fun _ k => XS.iload X226.here hx rfl (hb hby at_157) rfl  k) ?_
      show Go _ _ _ _ _ _ _ (T226.setTop (mkF m 159 #[.val (.int qa), .val (.int qb), .val (.int qc), .val (.int qp), .val (.int qq), .val (.int (2 : Int32)), .val (.int (2 : Int32)), .val (.int (1 : Int32)), .val (.ref b176), .val (.int (1 : Int32)), .val (.int (0 : Int32))] [(.int (0 : Int32)), (.int (if (1 : Int64) = 0 then (1 : Int32) else 0))]))
      have hc159 : (if (1 : Int64) = 0 then (1 : Int32) else 0) = (0 : Int32) := by decide
      refine Go.step (fun _ k => XS.icmpNo X226.here hx rfl (hb hby at_159) rfl (teq hc159).2 k) ?_
      show Go _ _ _ _ _ _ _ (T226.setTop (mkF m 162 #[.val (.int qa), .val (.int qb), .val (.int qc), .val (.int qp), .val (.int qq), .val (.int (2 : Int32)), .val (.int (2 : Int32)), .val (.int (1 : Int32)), .val (.ref b176), .val (.int (1 : Int32)), .val (.int (0 : Int32))] []))
      refine Go.step (fun _ k => XS.iconst X226.here hx rfl (hb hby at_162) k) ?_
      show Go _ _ _ _ _ _ _ (T226.setTop (mkF m 163 #[.val (.int qa), .val (.int qb), .val (.int qc), .val (.int qp), .val (.int qq), .val (.int (2 : Int32)), .val (.int (2 : Int32)), .val (.int (1 : Int32)), .val (.ref b176), .val (.int (1 : Int32)), .val (.int (0 : Int32))] [(.int (1 : Int32))]))
      refine Go.step (fun _ k => XS.goto X226.here hx rfl (pc0 := 163) (pc' := 167) rfl (hb hby at_163) (by decide) (by decide) k) ?_
      show Go _ _ _ _ _ _ _ (T226.setTop (mkF m 167 #[.val (.int qa), .val (.int qb), .val (.int qc), .val (.int qp), .val (.int qq), .val (.int (2 : Int32)), .val (.int (2 : Int32)), .val (.int (1 : Int32)), .val (.ref b176), .val (.int (1 : Int32)), .val (.int (0 : Int32))] [(.int (1 : Int32))]))
      refine Go.retN X226 hx (t := .boolean) Bd.returns (by simp) hlk (hb hby at_167) ?_ (by decide) (by decide)
      rw [e226]
      exact ⟨(by first | rfl | (simp_all [own_nb1, own_nb0]; done)), N226⟩
  · skip
    subst h1 h2
    show Go _ _ _ _ _ _ _ (s₁.setTop (mkF m 21 #[.val (.int qa), .val (.int qb), .val (.int qc), .val (.int qp), .val (.int qq), .val (.int (3 : Int32)), .val (.int (0 : Int32)), .val (.int kq), .unset, .unset, .unset] []))
    obtain ⟨T227, h227, X227, e227, E227, A227, D227, -, st227⟩ := newO X0 hx hZ hown (hw _ (List.mem_of_getElem? (i := 1) rfl)) (hw _ (List.mem_of_getElem? (i := 2) rfl)) (hw _ (List.mem_of_getElem? (i := 3) rfl)) e0 (g := (mkF m 21 #[.val (.int qa), .val (.int qb), .val (.int qc), .val (.int qp), .val (.int qq), .val (.int (3 : Int32)), .val (.int (0 : Int32)), .val (.int kq), .unset, .unset, .unset] [])) rfl (hb hby at_21) (by decide) (by decide)
    obtain ⟨b227, g227⟩ : ∃ z, z = h0.size := ⟨_, rfl⟩
    rw [← g227] at A227 D227 st227
    refine Go.step st227 ?_
    have gn227 : n0 ≤ b227 := Nat.le_trans Z0 (Nat.le_of_eq g227.symm)
    have sz227 : h0.size ≤ b227 := Nat.le_trans sq0 (Nat.le_of_eq g227.symm)
    have z228 : n0 ≤ h227.size := Nat.le_trans Z0 E227.1
    have sqz228 : h0.size ≤ h227.size := Nat.le_trans sq0 E227.1
    have f230 : Fld Z h227 b227 "com/example/tree_automata_reducer/treeautomatareducer/reduce/PairStack" "blocks" "Ljava/util/List;" .null := D227 (Or.inr (hw _ (List.mem_of_getElem? (i := 35) rfl))) (ty := (.object "java/util/List")) (by decide)
    have f231 : Fld Z h227 b227 "com/example/tree_automata_reducer/treeautomatareducer/reduce/PairStack" "blockNumber" "I" (.int (0 : Int32)) := D227 (Or.inl (hw _ (List.mem_of_getElem? (i := 37) rfl))) (ty := .int) (by decide)
    have f232 : Fld Z h227 b227 "com/example/tree_automata_reducer/treeautomatareducer/reduce/PairStack" "inBlock" "I" (.int (0 : Int32)) := D227 (Or.inl (hw _ (List.mem_of_getElem? (i := 40) rfl))) (ty := .int) (by decide)
    have f233 : Fld Z h227 b227 "com/example/tree_automata_reducer/treeautomatareducer/reduce/PairStack" "size" "J" (.long (0 : Int64)) := D227 (Or.inl (hw _ (List.mem_of_getElem? (i := 47) rfl))) (ty := .long) (by decide)
    have f234 : Fld Z h227 b227 "com/example/tree_automata_reducer/treeautomatareducer/reduce/PairStack" "block" "[J" .null := D227 (Or.inl (hw _ (List.mem_of_getElem? (i := 121) rfl))) (ty := (.array .long)) (by decide)
    have f235 : Fld Z h227 b227 "com/example/tree_automata_reducer/treeautomatareducer/reduce/PairStack" "first" "I" (.int (0 : Int32)) := D227 (Or.inl (hw _ (List.mem_of_getElem? (i := 129) rfl))) (ty := .int) (by decide)
    have f236 : Fld Z h227 b227 "com/example/tree_automata_reducer/treeautomatareducer/reduce/PairStack" "second" "I" (.int (0 : Int32)) := D227 (Or.inl (hw _ (List.mem_of_getElem? (i := 131) rfl))) (ty := .int) (by decide)
    show Go _ _ _ _ _ _ _ (T227.setTop (mkF m 24 #[.val (.int qa), .val (.int qb), .val (.int qc), .val (.int qp), .val (.int qq), .val (.int (3 : Int32)), .val (.int (0 : Int32)), .val (.int kq), .unset, .unset, .unset] [(.ref b227)]))
    refine Go.step (fun _ k => XS.dup X227.here hx rfl (hb hby at_24) rfl rfl k) ?_
    show Go _ _ _ _ _ _ _ (T227.setTop (mkF m 25 #[.val (.int qa), .val (.int qb), .val (.int qc), .val (.int qp), .val (.int qq), .val (.int (3 : Int32)), .val (.int (0 : Int32)), .val (.int kq), .unset, .unset, .unset] [(.ref b227), (.ref b227)]))
    have f237 : Old Z n0 h227 := (O_0.ext E227)
    obtain ⟨_, _, ⟨T238, L238, k238, n238⟩, -, X238, ⟨Lc238, hQ238, l238, y238, z238⟩, st238⟩ := X227.specialBack hx (y := (⟨"com/example/tree_automata_reducer/treeautomatareducer/reduce/PairStack", "<init>", "()V"⟩ : MethodName)) rfl hown (mvT hZ (hw _ (List.mem_of_getElem? (i := 4) rfl))) (mvT hZ (hw _ (List.mem_of_getElem? (i := 5) rfl))) (mvT hZ (hw _ (List.mem_of_getElem? (i := 6) rfl))) (by decide) (backOf (W := 1) (rm1 l Z aZ hw [] b227 w0 h227 n0 z228 f237 S_1 A227 f230 f233 f234 f231 f232 f235 f236 gn227) hZ (hw _ (List.mem_of_getElem? (i := 6) rfl)) (hw _ (List.mem_of_getElem? (i := 3) rfl)) (by decide) (by decide)) (g := (mkF m 25 #[.val (.int qa), .val (.int qb), .val (.int qc), .val (.int qp), .val (.int qq), .val (.int (3 : Int32)), .val (.int (0 : Int32)), .val (.int kq), .unset, .unset, .unset] [(.ref b227), (.ref b227)])) rfl (by rw [hml]; rfl) (Steps.refl _) (a := b227) (argsL := []) (rest := [(.ref b227)]) (lenOf pd_0 rfl) rfl (by show 2 * 0 + _ ≤ _; exact Nat.le_of_eq rfl) (hb hby at_25) (fun _ _ => ⟨rfl, e227, (by decide : 1 + 1 ≤ _), (by decide : 7 + 3 ≤ _)⟩)
    dsimp only [Pt.U, Pt.locs, Pt.cells, Pt.slots] at X238 l238 y238 z238 st238 hQ238
    subst l238 y238 z238
    obtain ⟨l0_238, rfl, Nq238, K238, c238_0, c238_1, c238_2, c238_3, c238_4, c238_5, c238_6, c238_7, c238_8, c238_9, c238_10, c238_11, c238_12, c238_13⟩ := hQ238
    have N238 := Fr.app N0 Nq238
    refine Go.tr st238 ?_
    have ne239 : b227 ≠ l0_238 := Nat.ne_of_lt (Nat.lt_of_lt_of_le A227.lt c238_0)
    have gn238_0 : n0 ≤ l0_238 := Nat.le_trans z228 c238_0
    have sz238_0 : h0.size ≤ l0_238 := Nat.le_trans sqz228 c238_0
    have z240 : n0 ≤ T238.heap.size := Nat.le_trans z228 K238.1
    have sqz240 : h0.size ≤ T238.heap.size := Nat.le_trans sqz228 K238.1
    show Go _ _ _ _ _ _ _ (T238.setTop (mkF m 28 #[.val (.int qa), .val (.int qb), .val (.int qc), .val (.int qp), .val (.int qq), .val (.int (3 : Int32)), .val (.int (0 : Int32)), .val (.int kq), .unset, .unset, .unset] [(.ref b227)]))
    refine Go.step (fun _ k => XS.astore X238.here hx rfl (hb hby at_28) rfl rfl (l' := #[.val (.int qa), .val (.int qb), .val (.int qc), .val (.int qp), .val (.int qq), .val (.int (3 : Int32)), .val (.int (0 : Int32)), .val (.int kq), .val (.ref b227), .unset, .unset]) rfl k) ?_
    show Go _ _ _ _ _ _ _ (T238.setTop (mkF m 30 #[.val (.int qa), .val (.int qb), .val (.int qc), .val (.int qp), .val (.int qq), .val (.int (3 : Int32)), .val (.int (0 : Int32)), .val (.int kq), .val (.ref b227), .unset, .unset] []))
    refine Go.step (fun _ k => XS.aload X238.here hx rfl (hb hby at_30) rfl rfl  k) ?_
    show Go _ _ _ _ _ _ _ (T238.setTop (mkF m 32 #[.val (.int qa), .val (.int qb), .val (.int qc), .val (.int qp), .val (.int qq), .val (.int (3 : Int32)), .val (.int (0 : Int32)), .val (.int kq), .val (.ref b227), .unset, .unset] [(.ref b227)]))
    obtain ⟨cq242, kq242, q242a, q242b, q242c⟩ := isOf hZ rfl c238_1
    obtain ⟨_, _, ⟨T242, L242, k242, n242⟩, -, X242, ⟨Lc242, hQ242, l242, y242, z242⟩, st242⟩ := X238.virtualBack hx (y := (⟨"com/example/tree_automata_reducer/treeautomatareducer/reduce/PairStack", "isEmpty", "()Z"⟩ : MethodName)) (z := (⟨"com/example/tree_automata_reducer/treeautomatareducer/reduce/PairStack", "isEmpty", "()Z"⟩ : MethodName)) hown (mvT hZ (hw _ (List.mem_of_getElem? (i := 41) rfl))) (mvT hZ (hw _ (List.mem_of_getElem? (i := 42) rfl))) (notFace_of_selects (args := #[]) (mvT hZ (hw _ (List.mem_of_getElem? (i := 44) rfl)))) (mvT hZ (hw _ (List.mem_of_getElem? (i := 44) rfl))) (mvT hZ (hw _ (List.mem_of_getElem? (i := 43) rfl))) (by decide) (backOf (W := 0) (rm6 l Z aZ hw [] b227 (0 : Int64) T238.heap n0 z240 c238_3) hZ (hw _ (List.mem_of_getElem? (i := 45) rfl)) (hw _ (List.mem_of_getElem? (i := 3) rfl)) (by decide) (by decide)) q242a q242c (g := (mkF m 32 #[.val (.int qa), .val (.int qb), .val (.int qc), .val (.int qp), .val (.int qq), .val (.int (3 : Int32)), .val (.int (0 : Int32)), .val (.int kq), .val (.ref b227), .unset, .unset] [(.ref b227)])) rfl (by rw [hml]; rfl) (Steps.refl _) (argsL := []) (rest := []) (lenOf pd_9 rfl) rfl (by show 2 * 0 + _ ≤ _; exact Nat.le_of_eq rfl) (hb hby at_32) (fun _ _ => ⟨rfl, rfl, (by decide : 2 + 0 ≤ _), (by decide : 10 + 0 ≤ _)⟩)
    dsimp only [Pt.U, Pt.locs, Pt.cells, Pt.slots] at X242 l242 y242 z242 st242 hQ242
    subst l242 y242 z242
    obtain ⟨rfl, Nq242, e242⟩ := hQ242
    have N242 := Fr.app N238 Nq242
    refine Go.tr st242 ?_
    show Go _ _ _ _ _ _ _ (T242.setTop (mkF m 35 #[.val (.int qa), .val (.int qb), .val (.int qc), .val (.int qp), .val (.int qq), .val (.int (3 : Int32)), .val (.int (0 : Int32)), .val (.int kq), .val (.ref b227), .unset, .unset] [(.int (if (0 : Int64) = 0 then (1 : Int32) else 0))]))
    have sv243 : (if (0 : Int64) = 0 then (1 : Int32) else 0) = (1 : Int32) := if_pos rfl
    rw [sv243]
    show Go _ _ _ _ _ _ _ (T242.setTop (mkF m 35 #[.val (.int qa), .val (.int qb), .val (.int qc), .val (.int qp), .val (.int qq), .val (.int (3 : Int32)), .val (.int (0 : Int32)), .val (.int kq), .val (.ref b227), .unset, .unset] [(.int (1 : Int32))]))
    refine Go.step (fun _ k => XS.istore X242.here hx rfl (hb hby at_35) rfl (l' := #[.val (.int qa), .val (.int qb), .val (.int qc), .val (.int qp), .val (.int qq), .val (.int (3 : Int32)), .val (.int (0 : Int32)), .val (.int kq), .val (.ref b227), .val (.int (1 : Int32)), .unset]) rfl k) ?_
    show Go _ _ _ _ _ _ _ (T242.setTop (mkF m 37 #[.val (.int qa), .val (.int qb), .val (.int qc), .val (.int qp), .val (.int qq), .val (.int (3 : Int32)), .val (.int (0 : Int32)), .val (.int kq), .val (.ref b227), .val (.int (1 : Int32)), .unset] []))
    refine Go.step (fun _ k => XS.iload X242.here hx rfl (hb hby at_37) rfl  k) ?_
    show Go _ _ _ _ _ _ _ (T242.setTop (mkF m 39 #[.val (.int qa), .val (.int qb), .val (.int qc), .val (.int qp), .val (.int qq), .val (.int (3 : Int32)), .val (.int (0 : Int32)), .val (.int kq), .val (.ref b227), .val (.int (1 : Int32)), .unset] [(.int (3 : Int32))]))
    refine Go.step (fun _ k => XS.iconst X242.here hx rfl (hb hby at_39) k) ?_
    show Go _ _ _ _ _ _ _ (T242.setTop (mkF m 40 #[.val (.int qa), .val (.int qb), .val (.int qc), .val (.int qp), .val (.int qq), .val (.int (3 : Int32)), .val (.int (0 : Int32)), .val (.int kq), .val (.ref b227), .val (.int (1 : Int32)), .unset] [(.int (1 : Int32)), (.int (3 : Int32))]))
    have hc40 : ¬ ((3 : Int32) < (1 : Int32)) := by decide
    refine Go.step (fun _ k => XS.icmpNo X242.here hx rfl (hb hby at_40) rfl (flt hc40).1 k) ?_
    show Go _ _ _ _ _ _ _ (T242.setTop (mkF m 43 #[.val (.int qa), .val (.int qb), .val (.int qc), .val (.int qp), .val (.int qq), .val (.int (3 : Int32)), .val (.int (0 : Int32)), .val (.int kq), .val (.ref b227), .val (.int (1 : Int32)), .unset] []))
    refine Go.step (fun _ k => XS.aload X242.here hx rfl (hb hby at_43) rfl rfl  k) ?_
    show Go _ _ _ _ _ _ _ (T242.setTop (mkF m 45 #[.val (.int qa), .val (.int qb), .val (.int qc), .val (.int qp), .val (.int qq), .val (.int (3 : Int32)), .val (.int (0 : Int32)), .val (.int kq), .val (.ref b227), .val (.int (1 : Int32)), .unset] [(.ref b227)]))
    refine Go.step (fun _ k => XS.iloadN X242.here hx rfl (hb hby at_45) rfl  k) ?_
    show Go _ _ _ _ _ _ _ (T242.setTop (mkF m 46 #[.val (.int qa), .val (.int qb), .val (.int qc), .val (.int qp), .val (.int qq), .val (.int (3 : Int32)), .val (.int (0 : Int32)), .val (.int kq), .val (.ref b227), .val (.int (1 : Int32)), .unset] [(.int qp), (.ref b227)]))
    refine Go.step (fun _ k => XS.iload X242.here hx rfl (hb hby at_46) rfl  k) ?_
    show Go _ _ _ _ _ _ _ (T242.setTop (mkF m 48 #[.val (.int qa), .val (.int qb), .val (.int qc), .val (.int qp), .val (.int qq), .val (.int (3 : Int32)), .val (.int (0 : Int32)), .val (.int kq), .val (.ref b227), .val (.int (1 : Int32)), .unset] [(.int qq), (.int qp), (.ref b227)]))
    have f244 : Old Z n0 T238.heap := (f237.keep K238 (allS gn227 all0))
    obtain ⟨cq245, kq245, q245a, q245b, q245c⟩ := isOf hZ e242 c238_1
    obtain ⟨_, _, ⟨T245, L245, k245, n245⟩, -, X245, ⟨Lc245, hQ245, l245, y245, z245⟩, st245⟩ := X242.virtualBack hx (y := (⟨"com/example/tree_automata_reducer/treeautomatareducer/reduce/PairStack", "push", "(II)V"⟩ : MethodName)) (z := (⟨"com/example/tree_automata_reducer/treeautomatareducer/reduce/PairStack", "push", "(II)V"⟩ : MethodName)) hown (mvT hZ (hw _ (List.mem_of_getElem? (i := 48) rfl))) (mvT hZ (hw _ (List.mem_of_getElem? (i := 49) rfl))) (notFace_of_selects (args := #[]) (mvT hZ (hw _ (List.mem_of_getElem? (i := 51) rfl)))) (mvT hZ (hw _ (List.mem_of_getElem? (i := 51) rfl))) (mvT hZ (hw _ (List.mem_of_getElem? (i := 50) rfl))) (by decide) (backOf (W := 0) (rmpA l Z aZ hw [] b227 qp qq w0 l0_238 T238.heap n0 z240 f244 S_1 A_2 c238_1 c238_2 c238_3 c238_4 c238_5 c238_6 c238_7 c238_8 c238_9 c238_10 c238_11 c238_12 c238_13 gn227 gn238_0) hZ (hw _ (List.mem_of_getElem? (i := 52) rfl)) (hw _ (List.mem_of_getElem? (i := 3) rfl)) (by decide) (by decide)) q245a q245c (g := (mkF m 48 #[.val (.int qa), .val (.int qb), .val (.int qc), .val (.int qp), .val (.int qq), .val (.int (3 : Int32)), .val (.int (0 : Int32)), .val (.int kq), .val (.ref b227), .val (.int (1 : Int32)), .unset] [(.int qq), (.int qp), (.ref b227)])) rfl (by rw [hml]; rfl) (Steps.refl _) (argsL := [(.int qp), (.int qq)]) (rest := []) (lenOf pd_10 rfl) rfl (by show 2 * 0 + _ ≤ _; exact Nat.le_of_eq rfl) (hb hby at_48) (fun _ _ => ⟨rfl, e242, (by decide : 2 + 2 ≤ _), (by decide : 10 + 32778 ≤ _)⟩)
    dsimp only [Pt.U, Pt.locs, Pt.cells, Pt.slots] at X245 l245 y245 z245 st245 hQ245
    subst l245 y245 z245
    obtain ⟨b_245, f2_245, rfl, Nq245, K245, c245_0, c245_1, c245_2, c245_3, c245_4, c245_5, c245_6, c245_7, c245_8⟩ := hQ245
    have N245 := Fr.app N242 Nq245
    refine Go.tr st245 ?_
    have ne246 : b227 ≠ b_245 := Nat.ne_of_lt (Nat.lt_of_lt_of_le c238_1.lt c245_0)
    have ne247 : l0_238 ≠ b_245 := Nat.ne_of_lt (Nat.lt_of_lt_of_le c238_9.lt c245_0)
    have gn245_0 : n0 ≤ b_245 := Nat.le_trans z240 c245_0
    have sz245_0 : h0.size ≤ b_245 := Nat.le_trans sqz240 c245_0
    have z248 : n0 ≤ T245.heap.size := Nat.le_trans z240 K245.1
    have sqz248 : h0.size ≤ T245.heap.size := Nat.le_trans sqz240 K245.1
    show Go _ _ _ _ _ _ _ (T245.setTop (mkF m 51 #[.val (.int qa), .val (.int qb), .val (.int qc), .val (.int qp), .val (.int qq), .val (.int (3 : Int32)), .val (.int (0 : Int32)), .val (.int kq), .val (.ref b227), .val (.int (1 : Int32)), .unset] []))
    refine Go.step (fun _ k => XS.iload X245.here hx rfl (hb hby at_51) rfl  k) ?_
    show Go _ _ _ _ _ _ _ (T245.setTop (mkF m 53 #[.val (.int qa), .val (.int qb), .val (.int qc), .val (.int qp), .val (.int qq), .val (.int (3 : Int32)), .val (.int (0 : Int32)), .val (.int kq), .val (.ref b227), .val (.int (1 : Int32)), .unset] [(.int (3 : Int32))]))
    refine Go.step (fun _ k => XS.iconst X245.here hx rfl (hb hby at_53) k) ?_
    show Go _ _ _ _ _ _ _ (T245.setTop (mkF m 54 #[.val (.int qa), .val (.int qb), .val (.int qc), .val (.int qp), .val (.int qq), .val (.int (3 : Int32)), .val (.int (0 : Int32)), .val (.int kq), .val (.ref b227), .val (.int (1 : Int32)), .unset] [(.int (2 : Int32)), (.int (3 : Int32))]))
    have hc54 : ¬ ((3 : Int32) < (2 : Int32)) := by decide
    refine Go.step (fun _ k => XS.icmpNo X245.here hx rfl (hb hby at_54) rfl (flt hc54).1 k) ?_
    show Go _ _ _ _ _ _ _ (T245.setTop (mkF m 57 #[.val (.int qa), .val (.int qb), .val (.int qc), .val (.int qp), .val (.int qq), .val (.int (3 : Int32)), .val (.int (0 : Int32)), .val (.int kq), .val (.ref b227), .val (.int (1 : Int32)), .unset] []))
    refine Go.step (fun _ k => XS.aload X245.here hx rfl (hb hby at_57) rfl rfl  k) ?_
    show Go _ _ _ _ _ _ _ (T245.setTop (mkF m 59 #[.val (.int qa), .val (.int qb), .val (.int qc), .val (.int qp), .val (.int qq), .val (.int (3 : Int32)), .val (.int (0 : Int32)), .val (.int kq), .val (.ref b227), .val (.int (1 : Int32)), .unset] [(.ref b227)]))
    refine Go.step (fun _ k => XS.iload X245.here hx rfl (hb hby at_59) rfl  k) ?_
    show Go _ _ _ _ _ _ _ (T245.setTop (mkF m 61 #[.val (.int qa), .val (.int qb), .val (.int qc), .val (.int qp), .val (.int qq), .val (.int (3 : Int32)), .val (.int (0 : Int32)), .val (.int kq), .val (.ref b227), .val (.int (1 : Int32)), .unset] [(.int qq), (.ref b227)]))
    refine Go.step (fun _ k => XS.iloadN X245.here hx rfl (hb hby at_61) rfl  k) ?_
    show Go _ _ _ _ _ _ _ (T245.setTop (mkF m 62 #[.val (.int qa), .val (.int qb), .val (.int qc), .val (.int qp), .val (.int qq), .val (.int (3 : Int32)), .val (.int (0 : Int32)), .val (.int kq), .val (.ref b227), .val (.int (1 : Int32)), .unset] [(.int qp), (.int qq), (.ref b227)]))
    have pq250 : ¬ (1 : Int32) = (32768 : Int32) := (by decide)
    have pq251 : ¬ (1 : Int32) < 0 := (by decide)
    have pq252 : (1 : Int32) < (32768 : Int32) := (by decide)
    obtain ⟨cq253, kq253, q253a, q253b, q253c⟩ := isOf hZ rfl c245_1
    obtain ⟨_, _, ⟨T253, L253, k253, n253⟩, -, X253, ⟨Lc253, hQ253, l253, y253, z253⟩, st253⟩ := X245.virtualBack hx (y := (⟨"com/example/tree_automata_reducer/treeautomatareducer/reduce/PairStack", "push", "(II)V"⟩ : MethodName)) (z := (⟨"com/example/tree_automata_reducer/treeautomatareducer/reduce/PairStack", "push", "(II)V"⟩ : MethodName)) hown (mvT hZ (hw _ (List.mem_of_getElem? (i := 48) rfl))) (mvT hZ (hw _ (List.mem_of_getElem? (i := 49) rfl))) (notFace_of_selects (args := #[]) (mvT hZ (hw _ (List.mem_of_getElem? (i := 51) rfl)))) (mvT hZ (hw _ (List.mem_of_getElem? (i := 51) rfl))) (mvT hZ (hw _ (List.mem_of_getElem? (i := 50) rfl))) (by decide) (backOf (W := 0) (rmpB l Z aZ hw [] b227 qq qp (1 : Int32) (1 : Int64) b_245 f2_245 (0 : Int32) (0 : Int32) T245.heap n0 z248 c245_1 c245_2 c245_3 c245_4 c245_5 c245_6 c245_7 c245_8 gn227 gn245_0 pq250 pq251 pq252) hZ (hw _ (List.mem_of_getElem? (i := 52) rfl)) (hw _ (List.mem_of_getElem? (i := 3) rfl)) (by decide) (by decide)) q253a q253c (g := (mkF m 62 #[.val (.int qa), .val (.int qb), .val (.int qc), .val (.int qp), .val (.int qq), .val (.int (3 : Int32)), .val (.int (0 : Int32)), .val (.int kq), .val (.ref b227), .val (.int (1 : Int32)), .unset] [(.int qp), (.int qq), (.ref b227)])) rfl (by rw [hml]; rfl) (Steps.refl _) (argsL := [(.int qq), (.int qp)]) (rest := []) (lenOf pd_10 rfl) rfl (by show 2 * 0 + _ ≤ _; exact Nat.le_of_eq rfl) (hb hby at_62) (fun _ _ => ⟨rfl, rfl, (by decide : 4 + 0 ≤ _), (by decide : 32788 + 0 ≤ _)⟩)
    dsimp only [Pt.U, Pt.locs, Pt.cells, Pt.slots] at X253 l253 y253 z253 st253 hQ253
    subst l253 y253 z253
    obtain ⟨f2_253, rfl, Nq253, K253, c253_0, c253_1, c253_2, c253_3, c253_4, c253_5, c253_6⟩ := hQ253
    have N253 := Fr.app N245 Nq253
    refine Go.tr st253 ?_
    have z254 : n0 ≤ T253.heap.size := Nat.le_trans z248 K253.1
    have sqz254 : h0.size ≤ T253.heap.size := Nat.le_trans sqz248 K253.1
    have c253_1f : Fld Z T253.heap b227 "com/example/tree_automata_reducer/treeautomatareducer/reduce/PairStack" "size" "J" (.long (2 : Int64)) := c253_1
    have c253_3f : Fld Z T253.heap b227 "com/example/tree_automata_reducer/treeautomatareducer/reduce/PairStack" "inBlock" "I" (.int (2 : Int32)) := c253_3
    show Go _ _ _ _ _ _ _ (T253.setTop (mkF m 65 #[.val (.int qa), .val (.int qb), .val (.int qc), .val (.int qp), .val (.int qq), .val (.int (3 : Int32)), .val (.int (0 : Int32)), .val (.int kq), .val (.ref b227), .val (.int (1 : Int32)), .unset] []))
    refine Go.step (fun _ k => XS.iload X253.here hx rfl (hb hby at_65) rfl  k) ?_
    show Go _ _ _ _ _ _ _ (T253.setTop (mkF m 67 #[.val (.int qa), .val (.int qb), .val (.int qc), .val (.int qp), .val (.int qq), .val (.int (3 : Int32)), .val (.int (0 : Int32)), .val (.int kq), .val (.ref b227), .val (.int (1 : Int32)), .unset] [(.int (3 : Int32))]))
    refine Go.step (fun _ k => XS.iconst X253.here hx rfl (hb hby at_67) k) ?_
    show Go _ _ _ _ _ _ _ (T253.setTop (mkF m 68 #[.val (.int qa), .val (.int qb), .val (.int qc), .val (.int qp), .val (.int qq), .val (.int (3 : Int32)), .val (.int (0 : Int32)), .val (.int kq), .val (.ref b227), .val (.int (1 : Int32)), .unset] [(.int (3 : Int32)), (.int (3 : Int32))]))
    have hc68 : ¬ ((3 : Int32) < (3 : Int32)) := by decide
    refine Go.step (fun _ k => XS.icmpNo X253.here hx rfl (hb hby at_68) rfl (flt hc68).1 k) ?_
    show Go _ _ _ _ _ _ _ (T253.setTop (mkF m 71 #[.val (.int qa), .val (.int qb), .val (.int qc), .val (.int qp), .val (.int qq), .val (.int (3 : Int32)), .val (.int (0 : Int32)), .val (.int kq), .val (.ref b227), .val (.int (1 : Int32)), .unset] []))
    refine Go.step (fun _ k => XS.aload X253.here hx rfl (hb hby at_71) rfl rfl  k) ?_
    show Go _ _ _ _ _ _ _ (T253.setTop (mkF m 73 #[.val (.int qa), .val (.int qb), .val (.int qc), .val (.int qp), .val (.int qq), .val (.int (3 : Int32)), .val (.int (0 : Int32)), .val (.int kq), .val (.ref b227), .val (.int (1 : Int32)), .unset] [(.ref b227)]))
    refine Go.step (fun _ k => XS.iloadN X253.here hx rfl (hb hby at_73) rfl  k) ?_
    show Go _ _ _ _ _ _ _ (T253.setTop (mkF m 74 #[.val (.int qa), .val (.int qb), .val (.int qc), .val (.int qp), .val (.int qq), .val (.int (3 : Int32)), .val (.int (0 : Int32)), .val (.int kq), .val (.ref b227), .val (.int (1 : Int32)), .unset] [(.int qp), (.ref b227)]))
    refine Go.step (fun _ k => XS.iload X253.here hx rfl (hb hby at_74) rfl  k) ?_
    show Go _ _ _ _ _ _ _ (T253.setTop (mkF m 76 #[.val (.int qa), .val (.int qb), .val (.int qc), .val (.int qp), .val (.int qq), .val (.int (3 : Int32)), .val (.int (0 : Int32)), .val (.int kq), .val (.ref b227), .val (.int (1 : Int32)), .unset] [(.int qq), (.int qp), (.ref b227)]))
    refine Go.step (fun _ k => XS.ixor X253.here hx rfl (hb hby at_76) rfl k) ?_
    show Go _ _ _ _ _ _ _ (T253.setTop (mkF m 77 #[.val (.int qa), .val (.int qb), .val (.int qc), .val (.int qp), .val (.int qq), .val (.int (3 : Int32)), .val (.int (0 : Int32)), .val (.int kq), .val (.ref b227), .val (.int (1 : Int32)), .unset] [(.int (qp ^^^ qq)), (.ref b227)]))
    refine Go.step (fun _ k => XS.iloadN X253.here hx rfl (hb hby at_77) rfl  k) ?_
    show Go _ _ _ _ _ _ _ (T253.setTop (mkF m 78 #[.val (.int qa), .val (.int qb), .val (.int qc), .val (.int qp), .val (.int qq), .val (.int (3 : Int32)), .val (.int (0 : Int32)), .val (.int kq), .val (.ref b227), .val (.int (1 : Int32)), .unset] [(.int qp), (.int (qp ^^^ qq)), (.ref b227)]))
    have pq256 : ¬ (2 : Int32) = (32768 : Int32) := (by decide)
    have pq257 : ¬ (2 : Int32) < 0 := (by decide)
    have pq258 : (2 : Int32) < (32768 : Int32) := (by decide)
    obtain ⟨cq259, kq259, q259a, q259b, q259c⟩ := isOf hZ rfl c253_0
    obtain ⟨_, _, ⟨T259, L259, k259, n259⟩, -, X259, ⟨Lc259, hQ259, l259, y259, z259⟩, st259⟩ := X253.virtualBack hx (y := (⟨"com/example/tree_automata_reducer/treeautomatareducer/reduce/PairStack", "push", "(II)V"⟩ : MethodName)) (z := (⟨"com/example/tree_automata_reducer/treeautomatareducer/reduce/PairStack", "push", "(II)V"⟩ : MethodName)) hown (mvT hZ (hw _ (List.mem_of_getElem? (i := 48) rfl))) (mvT hZ (hw _ (List.mem_of_getElem? (i := 49) rfl))) (notFace_of_selects (args := #[]) (mvT hZ (hw _ (List.mem_of_getElem? (i := 51) rfl)))) (mvT hZ (hw _ (List.mem_of_getElem? (i := 51) rfl))) (mvT hZ (hw _ (List.mem_of_getElem? (i := 50) rfl))) (by decide) (backOf (W := 0) (rmpB l Z aZ hw [] b227 (qp ^^^ qq) qp (2 : Int32) (2 : Int64) b_245 f2_253 (0 : Int32) (0 : Int32) T253.heap n0 z254 c253_0 c253_1f c253_2 c253_3f c253_4 c253_5 c253_6 c245_8 gn227 gn245_0 pq256 pq257 pq258) hZ (hw _ (List.mem_of_getElem? (i := 52) rfl)) (hw _ (List.mem_of_getElem? (i := 3) rfl)) (by decide) (by decide)) q259a q259c (g := (mkF m 78 #[.val (.int qa), .val (.int qb), .val (.int qc), .val (.int qp), .val (.int qq), .val (.int (3 : Int32)), .val (.int (0 : Int32)), .val (.int kq), .val (.ref b227), .val (.int (1 : Int32)), .unset] [(.int qp), (.int (qp ^^^ qq)), (.ref b227)])) rfl (by rw [hml]; rfl) (Steps.refl _) (argsL := [(.int (qp ^^^ qq)), (.int qp)]) (rest := []) (lenOf pd_10 rfl) rfl (by show 2 * 0 + _ ≤ _; exact Nat.le_of_eq rfl) (hb hby at_78) (fun _ _ => ⟨rfl, rfl, (by decide : 4 + 0 ≤ _), (by decide : 32788 + 0 ≤ _)⟩)
    dsimp only [Pt.U, Pt.locs, Pt.cells, Pt.slots] at X259 l259 y259 z259 st259 hQ259
    subst l259 y259 z259
    obtain ⟨f2_259, rfl, Nq259, K259, c259_0, c259_1, c259_2, c259_3, c259_4, c259_5, c259_6⟩ := hQ259
    have N259 := Fr.app N253 Nq259
    refine Go.tr st259 ?_
    have z260 : n0 ≤ T259.heap.size := Nat.le_trans z254 K259.1
    have sqz260 : h0.size ≤ T259.heap.size := Nat.le_trans sqz254 K259.1
    have c259_1f : Fld Z T259.heap b227 "com/example/tree_automata_reducer/treeautomatareducer/reduce/PairStack" "size" "J" (.long (3 : Int64)) := c259_1
    have c259_3f : Fld Z T259.heap b227 "com/example/tree_automata_reducer/treeautomatareducer/reduce/PairStack" "inBlock" "I" (.int (3 : Int32)) := c259_3
    show Go _ _ _ _ _ _ _ (T259.setTop (mkF m 81 #[.val (.int qa), .val (.int qb), .val (.int qc), .val (.int qp), .val (.int qq), .val (.int (3 : Int32)), .val (.int (0 : Int32)), .val (.int kq), .val (.ref b227), .val (.int (1 : Int32)), .unset] []))
    refine Go.step (fun _ k => XS.iload X259.here hx rfl (hb hby at_81) rfl  k) ?_
    show Go _ _ _ _ _ _ _ (T259.setTop (mkF m 83 #[.val (.int qa), .val (.int qb), .val (.int qc), .val (.int qp), .val (.int qq), .val (.int (3 : Int32)), .val (.int (0 : Int32)), .val (.int kq), .val (.ref b227), .val (.int (1 : Int32)), .unset] [(.int (0 : Int32))]))
    refine Go.step (fun _ k => XS.iconst X259.here hx rfl (hb hby at_83) k) ?_
    show Go _ _ _ _ _ _ _ (T259.setTop (mkF m 84 #[.val (.int qa), .val (.int qb), .val (.int qc), .val (.int qp), .val (.int qq), .val (.int (3 : Int32)), .val (.int (0 : Int32)), .val (.int kq), .val (.ref b227), .val (.int (1 : Int32)), .unset] [(.int (1 : Int32)), (.int (0 : Int32))]))
    have hc84 : (0 : Int32) < (1 : Int32) := by decide
    refine Go.step (fun _ k => XS.icmpYes X259.here hx rfl (pc0 := 84) (pc' := 92) rfl (hb hby at_84) rfl (tlt hc84).1 (by decide) (by decide) k) ?_
    show Go _ _ _ _ _ _ _ (T259.setTop (mkF m 92 #[.val (.int qa), .val (.int qb), .val (.int qc), .val (.int qp), .val (.int qq), .val (.int (3 : Int32)), .val (.int (0 : Int32)), .val (.int kq), .val (.ref b227), .val (.int (1 : Int32)), .unset] []))
    refine Go.step (fun _ k => XS.iload X259.here hx rfl (hb hby at_92) rfl  k) ?_
    show Go _ _ _ _ _ _ _ (T259.setTop (mkF m 94 #[.val (.int qa), .val (.int qb), .val (.int qc), .val (.int qp), .val (.int qq), .val (.int (3 : Int32)), .val (.int (0 : Int32)), .val (.int kq), .val (.ref b227), .val (.int (1 : Int32)), .unset] [(.int (0 : Int32))]))
    refine Go.step (fun _ k => XS.iconst X259.here hx rfl (hb hby at_94) k) ?_
    show Go _ _ _ _ _ _ _ (T259.setTop (mkF m 95 #[.val (.int qa), .val (.int qb), .val (.int qc), .val (.int qp), .val (.int qq), .val (.int (3 : Int32)), .val (.int (0 : Int32)), .val (.int kq), .val (.ref b227), .val (.int (1 : Int32)), .unset] [(.int (2 : Int32)), (.int (0 : Int32))]))
    have hc95 : (0 : Int32) < (2 : Int32) := by decide
    refine Go.step (fun _ k => XS.icmpYes X259.here hx rfl (pc0 := 95) (pc' := 103) rfl (hb hby at_95) rfl (tlt hc95).1 (by decide) (by decide) k) ?_
    show Go _ _ _ _ _ _ _ (T259.setTop (mkF m 103 #[.val (.int qa), .val (.int qb), .val (.int qc), .val (.int qp), .val (.int qq), .val (.int (3 : Int32)), .val (.int (0 : Int32)), .val (.int kq), .val (.ref b227), .val (.int (1 : Int32)), .unset] []))
    refine Go.step (fun _ k => XS.iload X259.here hx rfl (hb hby at_103) rfl  k) ?_
    show Go _ _ _ _ _ _ _ (T259.setTop (mkF m 105 #[.val (.int qa), .val (.int qb), .val (.int qc), .val (.int qp), .val (.int qq), .val (.int (3 : Int32)), .val (.int (0 : Int32)), .val (.int kq), .val (.ref b227), .val (.int (1 : Int32)), .unset] [(.int (0 : Int32))]))
    refine Go.step (fun _ k => XS.iconst X259.here hx rfl (hb hby at_105) k) ?_
    show Go _ _ _ _ _ _ _ (T259.setTop (mkF m 106 #[.val (.int qa), .val (.int qb), .val (.int qc), .val (.int qp), .val (.int qq), .val (.int (3 : Int32)), .val (.int (0 : Int32)), .val (.int kq), .val (.ref b227), .val (.int (1 : Int32)), .unset] [(.int (3 : Int32)), (.int (0 : Int32))]))
    have hc106 : (0 : Int32) < (3 : Int32) := by decide
    refine Go.step (fun _ k => XS.icmpYes X259.here hx rfl (pc0 := 106) (pc' := 114) rfl (hb hby at_106) rfl (tlt hc106).1 (by decide) (by decide) k) ?_
    rcases hkq with h1 | h1
    · skip
      subst h1
      show Go _ _ _ _ _ _ _ (T259.setTop (mkF m 114 #[.val (.int qa), .val (.int qb), .val (.int qc), .val (.int qp), .val (.int qq), .val (.int (3 : Int32)), .val (.int (0 : Int32)), .val (.int (0 : Int32)), .val (.ref b227), .val (.int (1 : Int32)), .unset] []))
      refine Go.step (fun _ k => XS.iload X259.here hx rfl (hb hby at_114) rfl  k) ?_
      show Go _ _ _ _ _ _ _ (T259.setTop (mkF m 116 #[.val (.int qa), .val (.int qb), .val (.int qc), .val (.int qp), .val (.int qq), .val (.int (3 : Int32)), .val (.int (0 : Int32)), .val (.int (0 : Int32)), .val (.ref b227), .val (.int (1 : Int32)), .unset] [(.int (0 : Int32))]))
      refine Go.step (fun _ k => XS.iconst X259.here hx rfl (hb hby at_116) k) ?_
      show Go _ _ _ _ _ _ _ (T259.setTop (mkF m 117 #[.val (.int qa), .val (.int qb), .val (.int qc), .val (.int qp), .val (.int qq), .val (.int (3 : Int32)), .val (.int (0 : Int32)), .val (.int (0 : Int32)), .val (.ref b227), .val (.int (1 : Int32)), .unset] [(.int (1 : Int32)), (.int (0 : Int32))]))
      have hc117 : ¬ ((0 : Int32) = (1 : Int32)) := by decide
      refine Go.step (fun _ k => XS.icmpYes X259.here hx rfl (pc0 := 117) (pc' := 129) rfl (hb hby at_117) rfl (feq hc117).2 (by decide) (by decide) k) ?_
      show Go _ _ _ _ _ _ _ (T259.setTop (mkF m 129 #[.val (.int qa), .val (.int qb), .val (.int qc), .val (.int qp), .val (.int qq), .val (.int (3 : Int32)), .val (.int (0 : Int32)), .val (.int (0 : Int32)), .val (.ref b227), .val (.int (1 : Int32)), .unset] []))
      refine Go.step (fun _ k => XS.iload X259.here hx rfl (hb hby at_129) rfl  k) ?_
      show Go _ _ _ _ _ _ _ (T259.setTop (mkF m 131 #[.val (.int qa), .val (.int qb), .val (.int qc), .val (.int qp), .val (.int qq), .val (.int (3 : Int32)), .val (.int (0 : Int32)), .val (.int (0 : Int32)), .val (.ref b227), .val (.int (1 : Int32)), .unset] [(.int (3 : Int32))]))
      refine Go.step (fun _ k => XS.iload X259.here hx rfl (hb hby at_131) rfl  k) ?_
      show Go _ _ _ _ _ _ _ (T259.setTop (mkF m 133 #[.val (.int qa), .val (.int qb), .val (.int qc), .val (.int qp), .val (.int qq), .val (.int (3 : Int32)), .val (.int (0 : Int32)), .val (.int (0 : Int32)), .val (.ref b227), .val (.int (1 : Int32)), .unset] [(.int (0 : Int32)), (.int (3 : Int32))]))
      refine Go.step (fun _ k => XS.isub X259.here hx rfl (hb hby at_133) rfl k) ?_
      show Go _ _ _ _ _ _ _ (T259.setTop (mkF m 134 #[.val (.int qa), .val (.int qb), .val (.int qc), .val (.int qp), .val (.int qq), .val (.int (3 : Int32)), .val (.int (0 : Int32)), .val (.int (0 : Int32)), .val (.ref b227), .val (.int (1 : Int32)), .unset] [(.int (3 : Int32))]))
      refine Go.step (fun _ k => XS.iload X259.here hx rfl (hb hby at_134) rfl  k) ?_
      show Go _ _ _ _ _ _ _ (T259.setTop (mkF m 136 #[.val (.int qa), .val (.int qb), .val (.int qc), .val (.int qp), .val (.int qq), .val (.int (3 : Int32)), .val (.int (0 : Int32)), .val (.int (0 : Int32)), .val (.ref b227), .val (.int (1 : Int32)), .unset] [(.int (0 : Int32)), (.int (3 : Int32))]))
      refine Go.step (fun _ k => XS.iadd X259.here hx rfl (hb hby at_136) rfl k) ?_
      show Go _ _ _ _ _ _ _ (T259.setTop (mkF m 137 #[.val (.int qa), .val (.int qb), .val (.int qc), .val (.int qp), .val (.int qq), .val (.int (3 : Int32)), .val (.int (0 : Int32)), .val (.int (0 : Int32)), .val (.ref b227), .val (.int (1 : Int32)), .unset] [(.int (3 : Int32))]))
      have hc137 : ¬ ((3 : Int32) = (0 : Int32)) := by decide
      refine Go.step (fun _ k => XS.ifYes X259.here hx rfl (pc0 := 137) (pc' := 144) rfl (hb hby at_137) rfl ((if0 _ _).trans (feq hc137).2) (by decide) (by decide) k) ?_
      show Go _ _ _ _ _ _ _ (T259.setTop (mkF m 144 #[.val (.int qa), .val (.int qb), .val (.int qc), .val (.int qp), .val (.int qq), .val (.int (3 : Int32)), .val (.int (0 : Int32)), .val (.int (0 : Int32)), .val (.ref b227), .val (.int (1 : Int32)), .unset] []))
      refine Go.step (fun _ k => XS.iconst X259.here hx rfl (hb hby at_144) k) ?_
      show Go _ _ _ _ _ _ _ (T259.setTop (mkF m 145 #[.val (.int qa), .val (.int qb), .val (.int qc), .val (.int qp), .val (.int qq), .val (.int (3 : Int32)), .val (.int (0 : Int32)), .val (.int (0 : Int32)), .val (.ref b227), .val (.int (1 : Int32)), .unset] [(.int (0 : Int32))]))
      refine Go.step (fun _ k => XS.istore X259.here hx rfl (hb hby at_145) rfl (l' := #[.val (.int qa), .val (.int qb), .val (.int qc), .val (.int qp), .val (.int qq), .val (.int (3 : Int32)), .val (.int (0 : Int32)), .val (.int (0 : Int32)), .val (.ref b227), .val (.int (1 : Int32)), .val (.int (0 : Int32))]) rfl k) ?_
      show Go _ _ _ _ _ _ _ (T259.setTop (mkF m 147 #[.val (.int qa), .val (.int qb), .val (.int qc), .val (.int qp), .val (.int qq), .val (.int (3 : Int32)), .val (.int (0 : Int32)), .val (.int (0 : Int32)), .val (.ref b227), .val (.int (1 : Int32)), .val (.int (0 : Int32))] []))
      refine Go.step (fun _ k => XS.iload X259.here hx rfl (hb hby at_147) rfl  k) ?_
      show Go _ _ _ _ _ _ _ (T259.setTop (mkF m 149 #[.val (.int qa), .val (.int qb), .val (.int qc), .val (.int qp), .val (.int qq), .val (.int (3 : Int32)), .val (.int (0 : Int32)), .val (.int (0 : Int32)), .val (.ref b227), .val (.int (1 : Int32)), .val (.int (0 : Int32))] [(.int (1 : Int32))]))
      have hc149 : ¬ ((1 : Int32) = (0 : Int32)) := by decide
      refine Go.step (fun _ k => XS.ifNo X259.here hx rfl (hb hby at_149) rfl ((if0 _ _).trans (feq hc149).1) k) ?_
      show Go _ _ _ _ _ _ _ (T259.setTop (mkF m 152 #[.val (.int qa), .val (.int qb), .val (.int qc), .val (.int qp), .val (.int qq), .val (.int (3 : Int32)), .val (.int (0 : Int32)), .val (.int (0 : Int32)), .val (.ref b227), .val (.int (1 : Int32)), .val (.int (0 : Int32))] []))
      refine Go.step (fun _ k => XS.aload X259.here hx rfl (hb hby at_152) rfl rfl  k) ?_
      show Go _ _ _ _ _ _ _ (T259.setTop (mkF m 154 #[.val (.int qa), .val (.int qb), .val (.int qc), .val (.int qp), .val (.int qq), .val (.int (3 : Int32)), .val (.int (0 : Int32)), .val (.int (0 : Int32)), .val (.ref b227), .val (.int (1 : Int32)), .val (.int (0 : Int32))] [(.ref b227)]))
      obtain ⟨cq262, kq262, q262a, q262b, q262c⟩ := isOf hZ rfl c259_0
      obtain ⟨_, _, ⟨T262, L262, k262, n262⟩, -, X262, ⟨Lc262, hQ262, l262, y262, z262⟩, st262⟩ := X259.virtualBack hx (y := (⟨"com/example/tree_automata_reducer/treeautomatareducer/reduce/PairStack", "isEmpty", "()Z"⟩ : MethodName)) (z := (⟨"com/example/tree_automata_reducer/treeautomatareducer/reduce/PairStack", "isEmpty", "()Z"⟩ : MethodName)) hown (mvT hZ (hw _ (List.mem_of_getElem? (i := 41) rfl))) (mvT hZ (hw _ (List.mem_of_getElem? (i := 42) rfl))) (notFace_of_selects (args := #[]) (mvT hZ (hw _ (List.mem_of_getElem? (i := 44) rfl)))) (mvT hZ (hw _ (List.mem_of_getElem? (i := 44) rfl))) (mvT hZ (hw _ (List.mem_of_getElem? (i := 43) rfl))) (by decide) (backOf (W := 0) (rm6 l Z aZ hw [] b227 (3 : Int64) T259.heap n0 z260 c259_1f) hZ (hw _ (List.mem_of_getElem? (i := 45) rfl)) (hw _ (List.mem_of_getElem? (i := 3) rfl)) (by decide) (by decide)) q262a q262c (g := (mkF m 154 #[.val (.int qa), .val (.int qb), .val (.int qc), .val (.int qp), .val (.int qq), .val (.int (3 : Int32)), .val (.int (0 : Int32)), .val (.int (0 : Int32)), .val (.ref b227), .val (.int (1 : Int32)), .val (.int (0 : Int32))] [(.ref b227)])) rfl (by rw [hml]; rfl) (Steps.refl _) (argsL := []) (rest := []) (lenOf pd_9 rfl) rfl (by show 2 * 0 + _ ≤ _; exact Nat.le_of_eq rfl) (hb hby at_154) (fun _ _ => ⟨rfl, rfl, (by decide : 4 + 0 ≤ _), (by decide : 32788 + 0 ≤ _)⟩)
      dsimp only [Pt.U, Pt.locs, Pt.cells, Pt.slots] at X262 l262 y262 z262 st262 hQ262
      subst l262 y262 z262
      obtain ⟨rfl, Nq262, e262⟩ := hQ262
      have N262 := Fr.app N259 Nq262
      refine Go.tr st262 ?_
      show Go _ _ _ _ _ _ _ (T262.setTop (mkF m 157 #[.val (.int qa), .val (.int qb), .val (.int qc), .val (.int qp), .val (.int qq), .val (.int (3 : Int32)), .val (.int (0 : Int32)), .val (.int (0 : Int32)), .val (.ref b227), .val (.int (1 : Int32)), .val (.int (0 : Int32))] [(.int (if (3 : Int64) = 0 then (1 : Int32) else 0))]))
      refine Go.step (fun _ k => XS.iload X262.here hx rfl (hb hby at_157) rfl  k) ?_
      show Go _ _ _ _ _ _ _ (T262.setTop (mkF m 159 #[.val (.int qa), .val (.int qb), .val (.int qc), .val (.int qp), .val (.int qq), .val (.int (3 : Int32)), .val (.int (0 : Int32)), .val (.int (0 : Int32)), .val (.ref b227), .val (.int (1 : Int32)), .val (.int (0 : Int32))] [(.int (0 : Int32)), (.int (if (3 : Int64) = 0 then (1 : Int32) else 0))]))
      have hc159 : (if (3 : Int64) = 0 then (1 : Int32) else 0) = (0 : Int32) := by decide
      refine Go.step (fun _ k => XS.icmpNo X262.here hx rfl (hb hby at_159) rfl (teq hc159).2 k) ?_
      show Go _ _ _ _ _ _ _ (T262.setTop (mkF m 162 #[.val (.int qa), .val (.int qb), .val (.int qc), .val (.int qp), .val (.int qq), .val (.int (3 : Int32)), .val (.int (0 : Int32)), .val (.int (0 : Int32)), .val (.ref b227), .val (.int (1 : Int32)), .val (.int (0 : Int32))] []))
      refine Go.step (fun _ k => XS.iconst X262.here hx rfl (hb hby at_162) k) ?_
      show Go _ _ _ _ _ _ _ (T262.setTop (mkF m 163 #[.val (.int qa), .val (.int qb), .val (.int qc), .val (.int qp), .val (.int qq), .val (.int (3 : Int32)), .val (.int (0 : Int32)), .val (.int (0 : Int32)), .val (.ref b227), .val (.int (1 : Int32)), .val (.int (0 : Int32))] [(.int (1 : Int32))]))
      refine Go.step (fun _ k => XS.goto X262.here hx rfl (pc0 := 163) (pc' := 167) rfl (hb hby at_163) (by decide) (by decide) k) ?_
      show Go _ _ _ _ _ _ _ (T262.setTop (mkF m 167 #[.val (.int qa), .val (.int qb), .val (.int qc), .val (.int qp), .val (.int qq), .val (.int (3 : Int32)), .val (.int (0 : Int32)), .val (.int (0 : Int32)), .val (.ref b227), .val (.int (1 : Int32)), .val (.int (0 : Int32))] [(.int (1 : Int32))]))
      refine Go.retN X262 hx (t := .boolean) Bd.returns (by simp) hlk (hb hby at_167) ?_ (by decide) (by decide)
      rw [e262]
      exact ⟨(by first | rfl | (simp_all [own_nb1, own_nb0]; done)), N262⟩
    · skip
      subst h1
      show Go _ _ _ _ _ _ _ (T259.setTop (mkF m 114 #[.val (.int qa), .val (.int qb), .val (.int qc), .val (.int qp), .val (.int qq), .val (.int (3 : Int32)), .val (.int (0 : Int32)), .val (.int (1 : Int32)), .val (.ref b227), .val (.int (1 : Int32)), .unset] []))
      refine Go.step (fun _ k => XS.iload X259.here hx rfl (hb hby at_114) rfl  k) ?_
      show Go _ _ _ _ _ _ _ (T259.setTop (mkF m 116 #[.val (.int qa), .val (.int qb), .val (.int qc), .val (.int qp), .val (.int qq), .val (.int (3 : Int32)), .val (.int (0 : Int32)), .val (.int (1 : Int32)), .val (.ref b227), .val (.int (1 : Int32)), .unset] [(.int (1 : Int32))]))
      refine Go.step (fun _ k => XS.iconst X259.here hx rfl (hb hby at_116) k) ?_
      show Go _ _ _ _ _ _ _ (T259.setTop (mkF m 117 #[.val (.int qa), .val (.int qb), .val (.int qc), .val (.int qp), .val (.int qq), .val (.int (3 : Int32)), .val (.int (0 : Int32)), .val (.int (1 : Int32)), .val (.ref b227), .val (.int (1 : Int32)), .unset] [(.int (1 : Int32)), (.int (1 : Int32))]))
      have hc117 : (1 : Int32) = (1 : Int32) := by decide
      refine Go.step (fun _ k => XS.icmpNo X259.here hx rfl (hb hby at_117) rfl (teq hc117).2 k) ?_
      show Go _ _ _ _ _ _ _ (T259.setTop (mkF m 120 #[.val (.int qa), .val (.int qb), .val (.int qc), .val (.int qp), .val (.int qq), .val (.int (3 : Int32)), .val (.int (0 : Int32)), .val (.int (1 : Int32)), .val (.ref b227), .val (.int (1 : Int32)), .unset] []))
      refine Go.step (fun _ k => XS.aload X259.here hx rfl (hb hby at_120) rfl rfl  k) ?_
      show Go _ _ _ _ _ _ _ (T259.setTop (mkF m 122 #[.val (.int qa), .val (.int qb), .val (.int qc), .val (.int qp), .val (.int qq), .val (.int (3 : Int32)), .val (.int (0 : Int32)), .val (.int (1 : Int32)), .val (.ref b227), .val (.int (1 : Int32)), .unset] [(.ref b227)]))
      refine Go.step (fun _ k => XS.iload X259.here hx rfl (hb hby at_122) rfl  k) ?_
      show Go _ _ _ _ _ _ _ (T259.setTop (mkF m 124 #[.val (.int qa), .val (.int qb), .val (.int qc), .val (.int qp), .val (.int qq), .val (.int (3 : Int32)), .val (.int (0 : Int32)), .val (.int (1 : Int32)), .val (.ref b227), .val (.int (1 : Int32)), .unset] [(.int qq), (.ref b227)]))
      refine Go.step (fun _ k => XS.iload X259.here hx rfl (hb hby at_124) rfl  k) ?_
      show Go _ _ _ _ _ _ _ (T259.setTop (mkF m 126 #[.val (.int qa), .val (.int qb), .val (.int qc), .val (.int qp), .val (.int qq), .val (.int (3 : Int32)), .val (.int (0 : Int32)), .val (.int (1 : Int32)), .val (.ref b227), .val (.int (1 : Int32)), .unset] [(.int qq), (.int qq), (.ref b227)]))
      have pq263 : ¬ (3 : Int32) = (32768 : Int32) := (by decide)
      have pq264 : ¬ (3 : Int32) < 0 := (by decide)
      have pq265 : (3 : Int32) < (32768 : Int32) := (by decide)
      obtain ⟨cq266, kq266, q266a, q266b, q266c⟩ := isOf hZ rfl c259_0
      obtain ⟨_, _, ⟨T266, L266, k266, n266⟩, -, X266, ⟨Lc266, hQ266, l266, y266, z266⟩, st266⟩ := X259.virtualBack hx (y := (⟨"com/example/tree_automata_reducer/treeautomatareducer/reduce/PairStack", "push", "(II)V"⟩ : MethodName)) (z := (⟨"com/example/tree_automata_reducer/treeautomatareducer/reduce/PairStack", "push", "(II)V"⟩ : MethodName)) hown (mvT hZ (hw _ (List.mem_of_getElem? (i := 48) rfl))) (mvT hZ (hw _ (List.mem_of_getElem? (i := 49) rfl))) (notFace_of_selects (args := #[]) (mvT hZ (hw _ (List.mem_of_getElem? (i := 51) rfl)))) (mvT hZ (hw _ (List.mem_of_getElem? (i := 51) rfl))) (mvT hZ (hw _ (List.mem_of_getElem? (i := 50) rfl))) (by decide) (backOf (W := 0) (rmpB l Z aZ hw [] b227 qq qq (3 : Int32) (3 : Int64) b_245 f2_259 (0 : Int32) (0 : Int32) T259.heap n0 z260 c259_0 c259_1f c259_2 c259_3f c259_4 c259_5 c259_6 c245_8 gn227 gn245_0 pq263 pq264 pq265) hZ (hw _ (List.mem_of_getElem? (i := 52) rfl)) (hw _ (List.mem_of_getElem? (i := 3) rfl)) (by decide) (by decide)) q266a q266c (g := (mkF m 126 #[.val (.int qa), .val (.int qb), .val (.int qc), .val (.int qp), .val (.int qq), .val (.int (3 : Int32)), .val (.int (0 : Int32)), .val (.int (1 : Int32)), .val (.ref b227), .val (.int (1 : Int32)), .unset] [(.int qq), (.int qq), (.ref b227)])) rfl (by rw [hml]; rfl) (Steps.refl _) (argsL := [(.int qq), (.int qq)]) (rest := []) (lenOf pd_10 rfl) rfl (by show 2 * 0 + _ ≤ _; exact Nat.le_of_eq rfl) (hb hby at_126) (fun _ _ => ⟨rfl, rfl, (by decide : 4 + 0 ≤ _), (by decide : 32788 + 0 ≤ _)⟩)
      dsimp only [Pt.U, Pt.locs, Pt.cells, Pt.slots] at X266 l266 y266 z266 st266 hQ266
      subst l266 y266 z266
      obtain ⟨f2_266, rfl, Nq266, K266, c266_0, c266_1, c266_2, c266_3, c266_4, c266_5, c266_6⟩ := hQ266
      have N266 := Fr.app N259 Nq266
      refine Go.tr st266 ?_
      have z267 : n0 ≤ T266.heap.size := Nat.le_trans z260 K266.1
      have sqz267 : h0.size ≤ T266.heap.size := Nat.le_trans sqz260 K266.1
      have c266_1f : Fld Z T266.heap b227 "com/example/tree_automata_reducer/treeautomatareducer/reduce/PairStack" "size" "J" (.long (4 : Int64)) := c266_1
      have c266_3f : Fld Z T266.heap b227 "com/example/tree_automata_reducer/treeautomatareducer/reduce/PairStack" "inBlock" "I" (.int (4 : Int32)) := c266_3
      show Go _ _ _ _ _ _ _ (T266.setTop (mkF m 129 #[.val (.int qa), .val (.int qb), .val (.int qc), .val (.int qp), .val (.int qq), .val (.int (3 : Int32)), .val (.int (0 : Int32)), .val (.int (1 : Int32)), .val (.ref b227), .val (.int (1 : Int32)), .unset] []))
      refine Go.step (fun _ k => XS.iload X266.here hx rfl (hb hby at_129) rfl  k) ?_
      show Go _ _ _ _ _ _ _ (T266.setTop (mkF m 131 #[.val (.int qa), .val (.int qb), .val (.int qc), .val (.int qp), .val (.int qq), .val (.int (3 : Int32)), .val (.int (0 : Int32)), .val (.int (1 : Int32)), .val (.ref b227), .val (.int (1 : Int32)), .unset] [(.int (3 : Int32))]))
      refine Go.step (fun _ k => XS.iload X266.here hx rfl (hb hby at_131) rfl  k) ?_
      show Go _ _ _ _ _ _ _ (T266.setTop (mkF m 133 #[.val (.int qa), .val (.int qb), .val (.int qc), .val (.int qp), .val (.int qq), .val (.int (3 : Int32)), .val (.int (0 : Int32)), .val (.int (1 : Int32)), .val (.ref b227), .val (.int (1 : Int32)), .unset] [(.int (0 : Int32)), (.int (3 : Int32))]))
      refine Go.step (fun _ k => XS.isub X266.here hx rfl (hb hby at_133) rfl k) ?_
      show Go _ _ _ _ _ _ _ (T266.setTop (mkF m 134 #[.val (.int qa), .val (.int qb), .val (.int qc), .val (.int qp), .val (.int qq), .val (.int (3 : Int32)), .val (.int (0 : Int32)), .val (.int (1 : Int32)), .val (.ref b227), .val (.int (1 : Int32)), .unset] [(.int (3 : Int32))]))
      refine Go.step (fun _ k => XS.iload X266.here hx rfl (hb hby at_134) rfl  k) ?_
      show Go _ _ _ _ _ _ _ (T266.setTop (mkF m 136 #[.val (.int qa), .val (.int qb), .val (.int qc), .val (.int qp), .val (.int qq), .val (.int (3 : Int32)), .val (.int (0 : Int32)), .val (.int (1 : Int32)), .val (.ref b227), .val (.int (1 : Int32)), .unset] [(.int (1 : Int32)), (.int (3 : Int32))]))
      refine Go.step (fun _ k => XS.iadd X266.here hx rfl (hb hby at_136) rfl k) ?_
      show Go _ _ _ _ _ _ _ (T266.setTop (mkF m 137 #[.val (.int qa), .val (.int qb), .val (.int qc), .val (.int qp), .val (.int qq), .val (.int (3 : Int32)), .val (.int (0 : Int32)), .val (.int (1 : Int32)), .val (.ref b227), .val (.int (1 : Int32)), .unset] [(.int (4 : Int32))]))
      have hc137 : ¬ ((4 : Int32) = (0 : Int32)) := by decide
      refine Go.step (fun _ k => XS.ifYes X266.here hx rfl (pc0 := 137) (pc' := 144) rfl (hb hby at_137) rfl ((if0 _ _).trans (feq hc137).2) (by decide) (by decide) k) ?_
      show Go _ _ _ _ _ _ _ (T266.setTop (mkF m 144 #[.val (.int qa), .val (.int qb), .val (.int qc), .val (.int qp), .val (.int qq), .val (.int (3 : Int32)), .val (.int (0 : Int32)), .val (.int (1 : Int32)), .val (.ref b227), .val (.int (1 : Int32)), .unset] []))
      refine Go.step (fun _ k => XS.iconst X266.here hx rfl (hb hby at_144) k) ?_
      show Go _ _ _ _ _ _ _ (T266.setTop (mkF m 145 #[.val (.int qa), .val (.int qb), .val (.int qc), .val (.int qp), .val (.int qq), .val (.int (3 : Int32)), .val (.int (0 : Int32)), .val (.int (1 : Int32)), .val (.ref b227), .val (.int (1 : Int32)), .unset] [(.int (0 : Int32))]))
      refine Go.step (fun _ k => XS.istore X266.here hx rfl (hb hby at_145) rfl (l' := #[.val (.int qa), .val (.int qb), .val (.int qc), .val (.int qp), .val (.int qq), .val (.int (3 : Int32)), .val (.int (0 : Int32)), .val (.int (1 : Int32)), .val (.ref b227), .val (.int (1 : Int32)), .val (.int (0 : Int32))]) rfl k) ?_
      show Go _ _ _ _ _ _ _ (T266.setTop (mkF m 147 #[.val (.int qa), .val (.int qb), .val (.int qc), .val (.int qp), .val (.int qq), .val (.int (3 : Int32)), .val (.int (0 : Int32)), .val (.int (1 : Int32)), .val (.ref b227), .val (.int (1 : Int32)), .val (.int (0 : Int32))] []))
      refine Go.step (fun _ k => XS.iload X266.here hx rfl (hb hby at_147) rfl  k) ?_
      show Go _ _ _ _ _ _ _ (T266.setTop (mkF m 149 #[.val (.int qa), .val (.int qb), .val (.int qc), .val (.int qp), .val (.int qq), .val (.int (3 : Int32)), .val (.int (0 : Int32)), .val (.int (1 : Int32)), .val (.ref b227), .val (.int (1 : Int32)), .val (.int (0 : Int32))] [(.int (1 : Int32))]))
      have hc149 : ¬ ((1 : Int32) = (0 : Int32)) := by decide
      refine Go.step (fun _ k => XS.ifNo X266.here hx rfl (hb hby at_149) rfl ((if0 _ _).trans (feq hc149).1) k) ?_
      show Go _ _ _ _ _ _ _ (T266.setTop (mkF m 152 #[.val (.int qa), .val (.int qb), .val (.int qc), .val (.int qp), .val (.int qq), .val (.int (3 : Int32)), .val (.int (0 : Int32)), .val (.int (1 : Int32)), .val (.ref b227), .val (.int (1 : Int32)), .val (.int (0 : Int32))] []))
      refine Go.step (fun _ k => XS.aload X266.here hx rfl (hb hby at_152) rfl rfl  k) ?_
      show Go _ _ _ _ _ _ _ (T266.setTop (mkF m 154 #[.val (.int qa), .val (.int qb), .val (.int qc), .val (.int qp), .val (.int qq), .val (.int (3 : Int32)), .val (.int (0 : Int32)), .val (.int (1 : Int32)), .val (.ref b227), .val (.int (1 : Int32)), .val (.int (0 : Int32))] [(.ref b227)]))
      obtain ⟨cq269, kq269, q269a, q269b, q269c⟩ := isOf hZ rfl c266_0
      obtain ⟨_, _, ⟨T269, L269, k269, n269⟩, -, X269, ⟨Lc269, hQ269, l269, y269, z269⟩, st269⟩ := X266.virtualBack hx (y := (⟨"com/example/tree_automata_reducer/treeautomatareducer/reduce/PairStack", "isEmpty", "()Z"⟩ : MethodName)) (z := (⟨"com/example/tree_automata_reducer/treeautomatareducer/reduce/PairStack", "isEmpty", "()Z"⟩ : MethodName)) hown (mvT hZ (hw _ (List.mem_of_getElem? (i := 41) rfl))) (mvT hZ (hw _ (List.mem_of_getElem? (i := 42) rfl))) (notFace_of_selects (args := #[]) (mvT hZ (hw _ (List.mem_of_getElem? (i := 44) rfl)))) (mvT hZ (hw _ (List.mem_of_getElem? (i := 44) rfl))) (mvT hZ (hw _ (List.mem_of_getElem? (i := 43) rfl))) (by decide) (backOf (W := 0) (rm6 l Z aZ hw [] b227 (4 : Int64) T266.heap n0 z267 c266_1f) hZ (hw _ (List.mem_of_getElem? (i := 45) rfl)) (hw _ (List.mem_of_getElem? (i := 3) rfl)) (by decide) (by decide)) q269a q269c (g := (mkF m 154 #[.val (.int qa), .val (.int qb), .val (.int qc), .val (.int qp), .val (.int qq), .val (.int (3 : Int32)), .val (.int (0 : Int32)), .val (.int (1 : Int32)), .val (.ref b227), .val (.int (1 : Int32)), .val (.int (0 : Int32))] [(.ref b227)])) rfl (by rw [hml]; rfl) (Steps.refl _) (argsL := []) (rest := []) (lenOf pd_9 rfl) rfl (by show 2 * 0 + _ ≤ _; exact Nat.le_of_eq rfl) (hb hby at_154) (fun _ _ => ⟨rfl, rfl, (by decide : 4 + 0 ≤ _), (by decide : 32788 + 0 ≤ _)⟩)
      dsimp only [Pt.U, Pt.locs, Pt.cells, Pt.slots] at X269 l269 y269 z269 st269 hQ269
      subst l269 y269 z269
      obtain ⟨rfl, Nq269, e269⟩ := hQ269
      have N269 := Fr.app N266 Nq269
      refine Go.tr st269 ?_
      show Go _ _ _ _ _ _ _ (T269.setTop (mkF m 157 #[.val (.int qa), .val (.int qb), .val (.int qc), .val (.int qp), .val (.int qq), .val (.int (3 : Int32)), .val (.int (0 : Int32)), .val (.int (1 : Int32)), .val (.ref b227), .val (.int (1 : Int32)), .val (.int (0 : Int32))] [(.int (if (4 : Int64) = 0 then (1 : Int32) else 0))]))
      refine Go.step (fun _ k => XS.iload X269.here hx rfl (hb hby at_157) rfl  k) ?_
      show Go _ _ _ _ _ _ _ (T269.setTop (mkF m 159 #[.val (.int qa), .val (.int qb), .val (.int qc), .val (.int qp), .val (.int qq), .val (.int (3 : Int32)), .val (.int (0 : Int32)), .val (.int (1 : Int32)), .val (.ref b227), .val (.int (1 : Int32)), .val (.int (0 : Int32))] [(.int (0 : Int32)), (.int (if (4 : Int64) = 0 then (1 : Int32) else 0))]))
      have hc159 : (if (4 : Int64) = 0 then (1 : Int32) else 0) = (0 : Int32) := by decide
      refine Go.step (fun _ k => XS.icmpNo X269.here hx rfl (hb hby at_159) rfl (teq hc159).2 k) ?_
      show Go _ _ _ _ _ _ _ (T269.setTop (mkF m 162 #[.val (.int qa), .val (.int qb), .val (.int qc), .val (.int qp), .val (.int qq), .val (.int (3 : Int32)), .val (.int (0 : Int32)), .val (.int (1 : Int32)), .val (.ref b227), .val (.int (1 : Int32)), .val (.int (0 : Int32))] []))
      refine Go.step (fun _ k => XS.iconst X269.here hx rfl (hb hby at_162) k) ?_
      show Go _ _ _ _ _ _ _ (T269.setTop (mkF m 163 #[.val (.int qa), .val (.int qb), .val (.int qc), .val (.int qp), .val (.int qq), .val (.int (3 : Int32)), .val (.int (0 : Int32)), .val (.int (1 : Int32)), .val (.ref b227), .val (.int (1 : Int32)), .val (.int (0 : Int32))] [(.int (1 : Int32))]))
      refine Go.step (fun _ k => XS.goto X269.here hx rfl (pc0 := 163) (pc' := 167) rfl (hb hby at_163) (by decide) (by decide) k) ?_
      show Go _ _ _ _ _ _ _ (T269.setTop (mkF m 167 #[.val (.int qa), .val (.int qb), .val (.int qc), .val (.int qp), .val (.int qq), .val (.int (3 : Int32)), .val (.int (0 : Int32)), .val (.int (1 : Int32)), .val (.ref b227), .val (.int (1 : Int32)), .val (.int (0 : Int32))] [(.int (1 : Int32))]))
      refine Go.retN X269 hx (t := .boolean) Bd.returns (by simp) hlk (hb hby at_167) ?_ (by decide) (by decide)
      rw [e269]
      exact ⟨(by first | rfl | (simp_all [own_nb1, own_nb0]; done)), N269⟩
  · skip
    subst h1 h2
    show Go _ _ _ _ _ _ _ (s₁.setTop (mkF m 21 #[.val (.int qa), .val (.int qb), .val (.int qc), .val (.int qp), .val (.int qq), .val (.int (3 : Int32)), .val (.int (1 : Int32)), .val (.int kq), .unset, .unset, .unset] []))
    obtain ⟨T270, h270, X270, e270, E270, A270, D270, -, st270⟩ := newO X0 hx hZ hown (hw _ (List.mem_of_getElem? (i := 1) rfl)) (hw _ (List.mem_of_getElem? (i := 2) rfl)) (hw _ (List.mem_of_getElem? (i := 3) rfl)) e0 (g := (mkF m 21 #[.val (.int qa), .val (.int qb), .val (.int qc), .val (.int qp), .val (.int qq), .val (.int (3 : Int32)), .val (.int (1 : Int32)), .val (.int kq), .unset, .unset, .unset] [])) rfl (hb hby at_21) (by decide) (by decide)
    obtain ⟨b270, g270⟩ : ∃ z, z = h0.size := ⟨_, rfl⟩
    rw [← g270] at A270 D270 st270
    refine Go.step st270 ?_
    have gn270 : n0 ≤ b270 := Nat.le_trans Z0 (Nat.le_of_eq g270.symm)
    have sz270 : h0.size ≤ b270 := Nat.le_trans sq0 (Nat.le_of_eq g270.symm)
    have z271 : n0 ≤ h270.size := Nat.le_trans Z0 E270.1
    have sqz271 : h0.size ≤ h270.size := Nat.le_trans sq0 E270.1
    have f273 : Fld Z h270 b270 "com/example/tree_automata_reducer/treeautomatareducer/reduce/PairStack" "blocks" "Ljava/util/List;" .null := D270 (Or.inr (hw _ (List.mem_of_getElem? (i := 35) rfl))) (ty := (.object "java/util/List")) (by decide)
    have f274 : Fld Z h270 b270 "com/example/tree_automata_reducer/treeautomatareducer/reduce/PairStack" "blockNumber" "I" (.int (0 : Int32)) := D270 (Or.inl (hw _ (List.mem_of_getElem? (i := 37) rfl))) (ty := .int) (by decide)
    have f275 : Fld Z h270 b270 "com/example/tree_automata_reducer/treeautomatareducer/reduce/PairStack" "inBlock" "I" (.int (0 : Int32)) := D270 (Or.inl (hw _ (List.mem_of_getElem? (i := 40) rfl))) (ty := .int) (by decide)
    have f276 : Fld Z h270 b270 "com/example/tree_automata_reducer/treeautomatareducer/reduce/PairStack" "size" "J" (.long (0 : Int64)) := D270 (Or.inl (hw _ (List.mem_of_getElem? (i := 47) rfl))) (ty := .long) (by decide)
    have f277 : Fld Z h270 b270 "com/example/tree_automata_reducer/treeautomatareducer/reduce/PairStack" "block" "[J" .null := D270 (Or.inl (hw _ (List.mem_of_getElem? (i := 121) rfl))) (ty := (.array .long)) (by decide)
    have f278 : Fld Z h270 b270 "com/example/tree_automata_reducer/treeautomatareducer/reduce/PairStack" "first" "I" (.int (0 : Int32)) := D270 (Or.inl (hw _ (List.mem_of_getElem? (i := 129) rfl))) (ty := .int) (by decide)
    have f279 : Fld Z h270 b270 "com/example/tree_automata_reducer/treeautomatareducer/reduce/PairStack" "second" "I" (.int (0 : Int32)) := D270 (Or.inl (hw _ (List.mem_of_getElem? (i := 131) rfl))) (ty := .int) (by decide)
    show Go _ _ _ _ _ _ _ (T270.setTop (mkF m 24 #[.val (.int qa), .val (.int qb), .val (.int qc), .val (.int qp), .val (.int qq), .val (.int (3 : Int32)), .val (.int (1 : Int32)), .val (.int kq), .unset, .unset, .unset] [(.ref b270)]))
    refine Go.step (fun _ k => XS.dup X270.here hx rfl (hb hby at_24) rfl rfl k) ?_
    show Go _ _ _ _ _ _ _ (T270.setTop (mkF m 25 #[.val (.int qa), .val (.int qb), .val (.int qc), .val (.int qp), .val (.int qq), .val (.int (3 : Int32)), .val (.int (1 : Int32)), .val (.int kq), .unset, .unset, .unset] [(.ref b270), (.ref b270)]))
    have f280 : Old Z n0 h270 := (O_0.ext E270)
    obtain ⟨_, _, ⟨T281, L281, k281, n281⟩, -, X281, ⟨Lc281, hQ281, l281, y281, z281⟩, st281⟩ := X270.specialBack hx (y := (⟨"com/example/tree_automata_reducer/treeautomatareducer/reduce/PairStack", "<init>", "()V"⟩ : MethodName)) rfl hown (mvT hZ (hw _ (List.mem_of_getElem? (i := 4) rfl))) (mvT hZ (hw _ (List.mem_of_getElem? (i := 5) rfl))) (mvT hZ (hw _ (List.mem_of_getElem? (i := 6) rfl))) (by decide) (backOf (W := 1) (rm1 l Z aZ hw [] b270 w0 h270 n0 z271 f280 S_1 A270 f273 f276 f277 f274 f275 f278 f279 gn270) hZ (hw _ (List.mem_of_getElem? (i := 6) rfl)) (hw _ (List.mem_of_getElem? (i := 3) rfl)) (by decide) (by decide)) (g := (mkF m 25 #[.val (.int qa), .val (.int qb), .val (.int qc), .val (.int qp), .val (.int qq), .val (.int (3 : Int32)), .val (.int (1 : Int32)), .val (.int kq), .unset, .unset, .unset] [(.ref b270), (.ref b270)])) rfl (by rw [hml]; rfl) (Steps.refl _) (a := b270) (argsL := []) (rest := [(.ref b270)]) (lenOf pd_0 rfl) rfl (by show 2 * 0 + _ ≤ _; exact Nat.le_of_eq rfl) (hb hby at_25) (fun _ _ => ⟨rfl, e270, (by decide : 1 + 1 ≤ _), (by decide : 7 + 3 ≤ _)⟩)
    dsimp only [Pt.U, Pt.locs, Pt.cells, Pt.slots] at X281 l281 y281 z281 st281 hQ281
    subst l281 y281 z281
    obtain ⟨l0_281, rfl, Nq281, K281, c281_0, c281_1, c281_2, c281_3, c281_4, c281_5, c281_6, c281_7, c281_8, c281_9, c281_10, c281_11, c281_12, c281_13⟩ := hQ281
    have N281 := Fr.app N0 Nq281
    refine Go.tr st281 ?_
    have ne282 : b270 ≠ l0_281 := Nat.ne_of_lt (Nat.lt_of_lt_of_le A270.lt c281_0)
    have gn281_0 : n0 ≤ l0_281 := Nat.le_trans z271 c281_0
    have sz281_0 : h0.size ≤ l0_281 := Nat.le_trans sqz271 c281_0
    have z283 : n0 ≤ T281.heap.size := Nat.le_trans z271 K281.1
    have sqz283 : h0.size ≤ T281.heap.size := Nat.le_trans sqz271 K281.1
    show Go _ _ _ _ _ _ _ (T281.setTop (mkF m 28 #[.val (.int qa), .val (.int qb), .val (.int qc), .val (.int qp), .val (.int qq), .val (.int (3 : Int32)), .val (.int (1 : Int32)), .val (.int kq), .unset, .unset, .unset] [(.ref b270)]))
    refine Go.step (fun _ k => XS.astore X281.here hx rfl (hb hby at_28) rfl rfl (l' := #[.val (.int qa), .val (.int qb), .val (.int qc), .val (.int qp), .val (.int qq), .val (.int (3 : Int32)), .val (.int (1 : Int32)), .val (.int kq), .val (.ref b270), .unset, .unset]) rfl k) ?_
    show Go _ _ _ _ _ _ _ (T281.setTop (mkF m 30 #[.val (.int qa), .val (.int qb), .val (.int qc), .val (.int qp), .val (.int qq), .val (.int (3 : Int32)), .val (.int (1 : Int32)), .val (.int kq), .val (.ref b270), .unset, .unset] []))
    refine Go.step (fun _ k => XS.aload X281.here hx rfl (hb hby at_30) rfl rfl  k) ?_
    show Go _ _ _ _ _ _ _ (T281.setTop (mkF m 32 #[.val (.int qa), .val (.int qb), .val (.int qc), .val (.int qp), .val (.int qq), .val (.int (3 : Int32)), .val (.int (1 : Int32)), .val (.int kq), .val (.ref b270), .unset, .unset] [(.ref b270)]))
    obtain ⟨cq285, kq285, q285a, q285b, q285c⟩ := isOf hZ rfl c281_1
    obtain ⟨_, _, ⟨T285, L285, k285, n285⟩, -, X285, ⟨Lc285, hQ285, l285, y285, z285⟩, st285⟩ := X281.virtualBack hx (y := (⟨"com/example/tree_automata_reducer/treeautomatareducer/reduce/PairStack", "isEmpty", "()Z"⟩ : MethodName)) (z := (⟨"com/example/tree_automata_reducer/treeautomatareducer/reduce/PairStack", "isEmpty", "()Z"⟩ : MethodName)) hown (mvT hZ (hw _ (List.mem_of_getElem? (i := 41) rfl))) (mvT hZ (hw _ (List.mem_of_getElem? (i := 42) rfl))) (notFace_of_selects (args := #[]) (mvT hZ (hw _ (List.mem_of_getElem? (i := 44) rfl)))) (mvT hZ (hw _ (List.mem_of_getElem? (i := 44) rfl))) (mvT hZ (hw _ (List.mem_of_getElem? (i := 43) rfl))) (by decide) (backOf (W := 0) (rm6 l Z aZ hw [] b270 (0 : Int64) T281.heap n0 z283 c281_3) hZ (hw _ (List.mem_of_getElem? (i := 45) rfl)) (hw _ (List.mem_of_getElem? (i := 3) rfl)) (by decide) (by decide)) q285a q285c (g := (mkF m 32 #[.val (.int qa), .val (.int qb), .val (.int qc), .val (.int qp), .val (.int qq), .val (.int (3 : Int32)), .val (.int (1 : Int32)), .val (.int kq), .val (.ref b270), .unset, .unset] [(.ref b270)])) rfl (by rw [hml]; rfl) (Steps.refl _) (argsL := []) (rest := []) (lenOf pd_9 rfl) rfl (by show 2 * 0 + _ ≤ _; exact Nat.le_of_eq rfl) (hb hby at_32) (fun _ _ => ⟨rfl, rfl, (by decide : 2 + 0 ≤ _), (by decide : 10 + 0 ≤ _)⟩)
    dsimp only [Pt.U, Pt.locs, Pt.cells, Pt.slots] at X285 l285 y285 z285 st285 hQ285
    subst l285 y285 z285
    obtain ⟨rfl, Nq285, e285⟩ := hQ285
    have N285 := Fr.app N281 Nq285
    refine Go.tr st285 ?_
    show Go _ _ _ _ _ _ _ (T285.setTop (mkF m 35 #[.val (.int qa), .val (.int qb), .val (.int qc), .val (.int qp), .val (.int qq), .val (.int (3 : Int32)), .val (.int (1 : Int32)), .val (.int kq), .val (.ref b270), .unset, .unset] [(.int (if (0 : Int64) = 0 then (1 : Int32) else 0))]))
    have sv286 : (if (0 : Int64) = 0 then (1 : Int32) else 0) = (1 : Int32) := if_pos rfl
    rw [sv286]
    show Go _ _ _ _ _ _ _ (T285.setTop (mkF m 35 #[.val (.int qa), .val (.int qb), .val (.int qc), .val (.int qp), .val (.int qq), .val (.int (3 : Int32)), .val (.int (1 : Int32)), .val (.int kq), .val (.ref b270), .unset, .unset] [(.int (1 : Int32))]))
    refine Go.step (fun _ k => XS.istore X285.here hx rfl (hb hby at_35) rfl (l' := #[.val (.int qa), .val (.int qb), .val (.int qc), .val (.int qp), .val (.int qq), .val (.int (3 : Int32)), .val (.int (1 : Int32)), .val (.int kq), .val (.ref b270), .val (.int (1 : Int32)), .unset]) rfl k) ?_
    show Go _ _ _ _ _ _ _ (T285.setTop (mkF m 37 #[.val (.int qa), .val (.int qb), .val (.int qc), .val (.int qp), .val (.int qq), .val (.int (3 : Int32)), .val (.int (1 : Int32)), .val (.int kq), .val (.ref b270), .val (.int (1 : Int32)), .unset] []))
    refine Go.step (fun _ k => XS.iload X285.here hx rfl (hb hby at_37) rfl  k) ?_
    show Go _ _ _ _ _ _ _ (T285.setTop (mkF m 39 #[.val (.int qa), .val (.int qb), .val (.int qc), .val (.int qp), .val (.int qq), .val (.int (3 : Int32)), .val (.int (1 : Int32)), .val (.int kq), .val (.ref b270), .val (.int (1 : Int32)), .unset] [(.int (3 : Int32))]))
    refine Go.step (fun _ k => XS.iconst X285.here hx rfl (hb hby at_39) k) ?_
    show Go _ _ _ _ _ _ _ (T285.setTop (mkF m 40 #[.val (.int qa), .val (.int qb), .val (.int qc), .val (.int qp), .val (.int qq), .val (.int (3 : Int32)), .val (.int (1 : Int32)), .val (.int kq), .val (.ref b270), .val (.int (1 : Int32)), .unset] [(.int (1 : Int32)), (.int (3 : Int32))]))
    have hc40 : ¬ ((3 : Int32) < (1 : Int32)) := by decide
    refine Go.step (fun _ k => XS.icmpNo X285.here hx rfl (hb hby at_40) rfl (flt hc40).1 k) ?_
    show Go _ _ _ _ _ _ _ (T285.setTop (mkF m 43 #[.val (.int qa), .val (.int qb), .val (.int qc), .val (.int qp), .val (.int qq), .val (.int (3 : Int32)), .val (.int (1 : Int32)), .val (.int kq), .val (.ref b270), .val (.int (1 : Int32)), .unset] []))
    refine Go.step (fun _ k => XS.aload X285.here hx rfl (hb hby at_43) rfl rfl  k) ?_
    show Go _ _ _ _ _ _ _ (T285.setTop (mkF m 45 #[.val (.int qa), .val (.int qb), .val (.int qc), .val (.int qp), .val (.int qq), .val (.int (3 : Int32)), .val (.int (1 : Int32)), .val (.int kq), .val (.ref b270), .val (.int (1 : Int32)), .unset] [(.ref b270)]))
    refine Go.step (fun _ k => XS.iloadN X285.here hx rfl (hb hby at_45) rfl  k) ?_
    show Go _ _ _ _ _ _ _ (T285.setTop (mkF m 46 #[.val (.int qa), .val (.int qb), .val (.int qc), .val (.int qp), .val (.int qq), .val (.int (3 : Int32)), .val (.int (1 : Int32)), .val (.int kq), .val (.ref b270), .val (.int (1 : Int32)), .unset] [(.int qp), (.ref b270)]))
    refine Go.step (fun _ k => XS.iload X285.here hx rfl (hb hby at_46) rfl  k) ?_
    show Go _ _ _ _ _ _ _ (T285.setTop (mkF m 48 #[.val (.int qa), .val (.int qb), .val (.int qc), .val (.int qp), .val (.int qq), .val (.int (3 : Int32)), .val (.int (1 : Int32)), .val (.int kq), .val (.ref b270), .val (.int (1 : Int32)), .unset] [(.int qq), (.int qp), (.ref b270)]))
    have f287 : Old Z n0 T281.heap := (f280.keep K281 (allS gn270 all0))
    obtain ⟨cq288, kq288, q288a, q288b, q288c⟩ := isOf hZ e285 c281_1
    obtain ⟨_, _, ⟨T288, L288, k288, n288⟩, -, X288, ⟨Lc288, hQ288, l288, y288, z288⟩, st288⟩ := X285.virtualBack hx (y := (⟨"com/example/tree_automata_reducer/treeautomatareducer/reduce/PairStack", "push", "(II)V"⟩ : MethodName)) (z := (⟨"com/example/tree_automata_reducer/treeautomatareducer/reduce/PairStack", "push", "(II)V"⟩ : MethodName)) hown (mvT hZ (hw _ (List.mem_of_getElem? (i := 48) rfl))) (mvT hZ (hw _ (List.mem_of_getElem? (i := 49) rfl))) (notFace_of_selects (args := #[]) (mvT hZ (hw _ (List.mem_of_getElem? (i := 51) rfl)))) (mvT hZ (hw _ (List.mem_of_getElem? (i := 51) rfl))) (mvT hZ (hw _ (List.mem_of_getElem? (i := 50) rfl))) (by decide) (backOf (W := 0) (rmpA l Z aZ hw [] b270 qp qq w0 l0_281 T281.heap n0 z283 f287 S_1 A_2 c281_1 c281_2 c281_3 c281_4 c281_5 c281_6 c281_7 c281_8 c281_9 c281_10 c281_11 c281_12 c281_13 gn270 gn281_0) hZ (hw _ (List.mem_of_getElem? (i := 52) rfl)) (hw _ (List.mem_of_getElem? (i := 3) rfl)) (by decide) (by decide)) q288a q288c (g := (mkF m 48 #[.val (.int qa), .val (.int qb), .val (.int qc), .val (.int qp), .val (.int qq), .val (.int (3 : Int32)), .val (.int (1 : Int32)), .val (.int kq), .val (.ref b270), .val (.int (1 : Int32)), .unset] [(.int qq), (.int qp), (.ref b270)])) rfl (by rw [hml]; rfl) (Steps.refl _) (argsL := [(.int qp), (.int qq)]) (rest := []) (lenOf pd_10 rfl) rfl (by show 2 * 0 + _ ≤ _; exact Nat.le_of_eq rfl) (hb hby at_48) (fun _ _ => ⟨rfl, e285, (by decide : 2 + 2 ≤ _), (by decide : 10 + 32778 ≤ _)⟩)
    dsimp only [Pt.U, Pt.locs, Pt.cells, Pt.slots] at X288 l288 y288 z288 st288 hQ288
    subst l288 y288 z288
    obtain ⟨b_288, f2_288, rfl, Nq288, K288, c288_0, c288_1, c288_2, c288_3, c288_4, c288_5, c288_6, c288_7, c288_8⟩ := hQ288
    have N288 := Fr.app N285 Nq288
    refine Go.tr st288 ?_
    have ne289 : b270 ≠ b_288 := Nat.ne_of_lt (Nat.lt_of_lt_of_le c281_1.lt c288_0)
    have ne290 : l0_281 ≠ b_288 := Nat.ne_of_lt (Nat.lt_of_lt_of_le c281_9.lt c288_0)
    have gn288_0 : n0 ≤ b_288 := Nat.le_trans z283 c288_0
    have sz288_0 : h0.size ≤ b_288 := Nat.le_trans sqz283 c288_0
    have z291 : n0 ≤ T288.heap.size := Nat.le_trans z283 K288.1
    have sqz291 : h0.size ≤ T288.heap.size := Nat.le_trans sqz283 K288.1
    show Go _ _ _ _ _ _ _ (T288.setTop (mkF m 51 #[.val (.int qa), .val (.int qb), .val (.int qc), .val (.int qp), .val (.int qq), .val (.int (3 : Int32)), .val (.int (1 : Int32)), .val (.int kq), .val (.ref b270), .val (.int (1 : Int32)), .unset] []))
    refine Go.step (fun _ k => XS.iload X288.here hx rfl (hb hby at_51) rfl  k) ?_
    show Go _ _ _ _ _ _ _ (T288.setTop (mkF m 53 #[.val (.int qa), .val (.int qb), .val (.int qc), .val (.int qp), .val (.int qq), .val (.int (3 : Int32)), .val (.int (1 : Int32)), .val (.int kq), .val (.ref b270), .val (.int (1 : Int32)), .unset] [(.int (3 : Int32))]))
    refine Go.step (fun _ k => XS.iconst X288.here hx rfl (hb hby at_53) k) ?_
    show Go _ _ _ _ _ _ _ (T288.setTop (mkF m 54 #[.val (.int qa), .val (.int qb), .val (.int qc), .val (.int qp), .val (.int qq), .val (.int (3 : Int32)), .val (.int (1 : Int32)), .val (.int kq), .val (.ref b270), .val (.int (1 : Int32)), .unset] [(.int (2 : Int32)), (.int (3 : Int32))]))
    have hc54 : ¬ ((3 : Int32) < (2 : Int32)) := by decide
    refine Go.step (fun _ k => XS.icmpNo X288.here hx rfl (hb hby at_54) rfl (flt hc54).1 k) ?_
    show Go _ _ _ _ _ _ _ (T288.setTop (mkF m 57 #[.val (.int qa), .val (.int qb), .val (.int qc), .val (.int qp), .val (.int qq), .val (.int (3 : Int32)), .val (.int (1 : Int32)), .val (.int kq), .val (.ref b270), .val (.int (1 : Int32)), .unset] []))
    refine Go.step (fun _ k => XS.aload X288.here hx rfl (hb hby at_57) rfl rfl  k) ?_
    show Go _ _ _ _ _ _ _ (T288.setTop (mkF m 59 #[.val (.int qa), .val (.int qb), .val (.int qc), .val (.int qp), .val (.int qq), .val (.int (3 : Int32)), .val (.int (1 : Int32)), .val (.int kq), .val (.ref b270), .val (.int (1 : Int32)), .unset] [(.ref b270)]))
    refine Go.step (fun _ k => XS.iload X288.here hx rfl (hb hby at_59) rfl  k) ?_
    show Go _ _ _ _ _ _ _ (T288.setTop (mkF m 61 #[.val (.int qa), .val (.int qb), .val (.int qc), .val (.int qp), .val (.int qq), .val (.int (3 : Int32)), .val (.int (1 : Int32)), .val (.int kq), .val (.ref b270), .val (.int (1 : Int32)), .unset] [(.int qq), (.ref b270)]))
    refine Go.step (fun _ k => XS.iloadN X288.here hx rfl (hb hby at_61) rfl  k) ?_
    show Go _ _ _ _ _ _ _ (T288.setTop (mkF m 62 #[.val (.int qa), .val (.int qb), .val (.int qc), .val (.int qp), .val (.int qq), .val (.int (3 : Int32)), .val (.int (1 : Int32)), .val (.int kq), .val (.ref b270), .val (.int (1 : Int32)), .unset] [(.int qp), (.int qq), (.ref b270)]))
    have pq293 : ¬ (1 : Int32) = (32768 : Int32) := (by decide)
    have pq294 : ¬ (1 : Int32) < 0 := (by decide)
    have pq295 : (1 : Int32) < (32768 : Int32) := (by decide)
    obtain ⟨cq296, kq296, q296a, q296b, q296c⟩ := isOf hZ rfl c288_1
    obtain ⟨_, _, ⟨T296, L296, k296, n296⟩, -, X296, ⟨Lc296, hQ296, l296, y296, z296⟩, st296⟩ := X288.virtualBack hx (y := (⟨"com/example/tree_automata_reducer/treeautomatareducer/reduce/PairStack", "push", "(II)V"⟩ : MethodName)) (z := (⟨"com/example/tree_automata_reducer/treeautomatareducer/reduce/PairStack", "push", "(II)V"⟩ : MethodName)) hown (mvT hZ (hw _ (List.mem_of_getElem? (i := 48) rfl))) (mvT hZ (hw _ (List.mem_of_getElem? (i := 49) rfl))) (notFace_of_selects (args := #[]) (mvT hZ (hw _ (List.mem_of_getElem? (i := 51) rfl)))) (mvT hZ (hw _ (List.mem_of_getElem? (i := 51) rfl))) (mvT hZ (hw _ (List.mem_of_getElem? (i := 50) rfl))) (by decide) (backOf (W := 0) (rmpB l Z aZ hw [] b270 qq qp (1 : Int32) (1 : Int64) b_288 f2_288 (0 : Int32) (0 : Int32) T288.heap n0 z291 c288_1 c288_2 c288_3 c288_4 c288_5 c288_6 c288_7 c288_8 gn270 gn288_0 pq293 pq294 pq295) hZ (hw _ (List.mem_of_getElem? (i := 52) rfl)) (hw _ (List.mem_of_getElem? (i := 3) rfl)) (by decide) (by decide)) q296a q296c (g := (mkF m 62 #[.val (.int qa), .val (.int qb), .val (.int qc), .val (.int qp), .val (.int qq), .val (.int (3 : Int32)), .val (.int (1 : Int32)), .val (.int kq), .val (.ref b270), .val (.int (1 : Int32)), .unset] [(.int qp), (.int qq), (.ref b270)])) rfl (by rw [hml]; rfl) (Steps.refl _) (argsL := [(.int qq), (.int qp)]) (rest := []) (lenOf pd_10 rfl) rfl (by show 2 * 0 + _ ≤ _; exact Nat.le_of_eq rfl) (hb hby at_62) (fun _ _ => ⟨rfl, rfl, (by decide : 4 + 0 ≤ _), (by decide : 32788 + 0 ≤ _)⟩)
    dsimp only [Pt.U, Pt.locs, Pt.cells, Pt.slots] at X296 l296 y296 z296 st296 hQ296
    subst l296 y296 z296
    obtain ⟨f2_296, rfl, Nq296, K296, c296_0, c296_1, c296_2, c296_3, c296_4, c296_5, c296_6⟩ := hQ296
    have N296 := Fr.app N288 Nq296
    refine Go.tr st296 ?_
    have z297 : n0 ≤ T296.heap.size := Nat.le_trans z291 K296.1
    have sqz297 : h0.size ≤ T296.heap.size := Nat.le_trans sqz291 K296.1
    have c296_1f : Fld Z T296.heap b270 "com/example/tree_automata_reducer/treeautomatareducer/reduce/PairStack" "size" "J" (.long (2 : Int64)) := c296_1
    have c296_3f : Fld Z T296.heap b270 "com/example/tree_automata_reducer/treeautomatareducer/reduce/PairStack" "inBlock" "I" (.int (2 : Int32)) := c296_3
    show Go _ _ _ _ _ _ _ (T296.setTop (mkF m 65 #[.val (.int qa), .val (.int qb), .val (.int qc), .val (.int qp), .val (.int qq), .val (.int (3 : Int32)), .val (.int (1 : Int32)), .val (.int kq), .val (.ref b270), .val (.int (1 : Int32)), .unset] []))
    refine Go.step (fun _ k => XS.iload X296.here hx rfl (hb hby at_65) rfl  k) ?_
    show Go _ _ _ _ _ _ _ (T296.setTop (mkF m 67 #[.val (.int qa), .val (.int qb), .val (.int qc), .val (.int qp), .val (.int qq), .val (.int (3 : Int32)), .val (.int (1 : Int32)), .val (.int kq), .val (.ref b270), .val (.int (1 : Int32)), .unset] [(.int (3 : Int32))]))
    refine Go.step (fun _ k => XS.iconst X296.here hx rfl (hb hby at_67) k) ?_
    show Go _ _ _ _ _ _ _ (T296.setTop (mkF m 68 #[.val (.int qa), .val (.int qb), .val (.int qc), .val (.int qp), .val (.int qq), .val (.int (3 : Int32)), .val (.int (1 : Int32)), .val (.int kq), .val (.ref b270), .val (.int (1 : Int32)), .unset] [(.int (3 : Int32)), (.int (3 : Int32))]))
    have hc68 : ¬ ((3 : Int32) < (3 : Int32)) := by decide
    refine Go.step (fun _ k => XS.icmpNo X296.here hx rfl (hb hby at_68) rfl (flt hc68).1 k) ?_
    show Go _ _ _ _ _ _ _ (T296.setTop (mkF m 71 #[.val (.int qa), .val (.int qb), .val (.int qc), .val (.int qp), .val (.int qq), .val (.int (3 : Int32)), .val (.int (1 : Int32)), .val (.int kq), .val (.ref b270), .val (.int (1 : Int32)), .unset] []))
    refine Go.step (fun _ k => XS.aload X296.here hx rfl (hb hby at_71) rfl rfl  k) ?_
    show Go _ _ _ _ _ _ _ (T296.setTop (mkF m 73 #[.val (.int qa), .val (.int qb), .val (.int qc), .val (.int qp), .val (.int qq), .val (.int (3 : Int32)), .val (.int (1 : Int32)), .val (.int kq), .val (.ref b270), .val (.int (1 : Int32)), .unset] [(.ref b270)]))
    refine Go.step (fun _ k => XS.iloadN X296.here hx rfl (hb hby at_73) rfl  k) ?_
    show Go _ _ _ _ _ _ _ (T296.setTop (mkF m 74 #[.val (.int qa), .val (.int qb), .val (.int qc), .val (.int qp), .val (.int qq), .val (.int (3 : Int32)), .val (.int (1 : Int32)), .val (.int kq), .val (.ref b270), .val (.int (1 : Int32)), .unset] [(.int qp), (.ref b270)]))
    refine Go.step (fun _ k => XS.iload X296.here hx rfl (hb hby at_74) rfl  k) ?_
    show Go _ _ _ _ _ _ _ (T296.setTop (mkF m 76 #[.val (.int qa), .val (.int qb), .val (.int qc), .val (.int qp), .val (.int qq), .val (.int (3 : Int32)), .val (.int (1 : Int32)), .val (.int kq), .val (.ref b270), .val (.int (1 : Int32)), .unset] [(.int qq), (.int qp), (.ref b270)]))
    refine Go.step (fun _ k => XS.ixor X296.here hx rfl (hb hby at_76) rfl k) ?_
    show Go _ _ _ _ _ _ _ (T296.setTop (mkF m 77 #[.val (.int qa), .val (.int qb), .val (.int qc), .val (.int qp), .val (.int qq), .val (.int (3 : Int32)), .val (.int (1 : Int32)), .val (.int kq), .val (.ref b270), .val (.int (1 : Int32)), .unset] [(.int (qp ^^^ qq)), (.ref b270)]))
    refine Go.step (fun _ k => XS.iloadN X296.here hx rfl (hb hby at_77) rfl  k) ?_
    show Go _ _ _ _ _ _ _ (T296.setTop (mkF m 78 #[.val (.int qa), .val (.int qb), .val (.int qc), .val (.int qp), .val (.int qq), .val (.int (3 : Int32)), .val (.int (1 : Int32)), .val (.int kq), .val (.ref b270), .val (.int (1 : Int32)), .unset] [(.int qp), (.int (qp ^^^ qq)), (.ref b270)]))
    have pq299 : ¬ (2 : Int32) = (32768 : Int32) := (by decide)
    have pq300 : ¬ (2 : Int32) < 0 := (by decide)
    have pq301 : (2 : Int32) < (32768 : Int32) := (by decide)
    obtain ⟨cq302, kq302, q302a, q302b, q302c⟩ := isOf hZ rfl c296_0
    obtain ⟨_, _, ⟨T302, L302, k302, n302⟩, -, X302, ⟨Lc302, hQ302, l302, y302, z302⟩, st302⟩ := X296.virtualBack hx (y := (⟨"com/example/tree_automata_reducer/treeautomatareducer/reduce/PairStack", "push", "(II)V"⟩ : MethodName)) (z := (⟨"com/example/tree_automata_reducer/treeautomatareducer/reduce/PairStack", "push", "(II)V"⟩ : MethodName)) hown (mvT hZ (hw _ (List.mem_of_getElem? (i := 48) rfl))) (mvT hZ (hw _ (List.mem_of_getElem? (i := 49) rfl))) (notFace_of_selects (args := #[]) (mvT hZ (hw _ (List.mem_of_getElem? (i := 51) rfl)))) (mvT hZ (hw _ (List.mem_of_getElem? (i := 51) rfl))) (mvT hZ (hw _ (List.mem_of_getElem? (i := 50) rfl))) (by decide) (backOf (W := 0) (rmpB l Z aZ hw [] b270 (qp ^^^ qq) qp (2 : Int32) (2 : Int64) b_288 f2_296 (0 : Int32) (0 : Int32) T296.heap n0 z297 c296_0 c296_1f c296_2 c296_3f c296_4 c296_5 c296_6 c288_8 gn270 gn288_0 pq299 pq300 pq301) hZ (hw _ (List.mem_of_getElem? (i := 52) rfl)) (hw _ (List.mem_of_getElem? (i := 3) rfl)) (by decide) (by decide)) q302a q302c (g := (mkF m 78 #[.val (.int qa), .val (.int qb), .val (.int qc), .val (.int qp), .val (.int qq), .val (.int (3 : Int32)), .val (.int (1 : Int32)), .val (.int kq), .val (.ref b270), .val (.int (1 : Int32)), .unset] [(.int qp), (.int (qp ^^^ qq)), (.ref b270)])) rfl (by rw [hml]; rfl) (Steps.refl _) (argsL := [(.int (qp ^^^ qq)), (.int qp)]) (rest := []) (lenOf pd_10 rfl) rfl (by show 2 * 0 + _ ≤ _; exact Nat.le_of_eq rfl) (hb hby at_78) (fun _ _ => ⟨rfl, rfl, (by decide : 4 + 0 ≤ _), (by decide : 32788 + 0 ≤ _)⟩)
    dsimp only [Pt.U, Pt.locs, Pt.cells, Pt.slots] at X302 l302 y302 z302 st302 hQ302
    subst l302 y302 z302
    obtain ⟨f2_302, rfl, Nq302, K302, c302_0, c302_1, c302_2, c302_3, c302_4, c302_5, c302_6⟩ := hQ302
    have N302 := Fr.app N296 Nq302
    refine Go.tr st302 ?_
    have z303 : n0 ≤ T302.heap.size := Nat.le_trans z297 K302.1
    have sqz303 : h0.size ≤ T302.heap.size := Nat.le_trans sqz297 K302.1
    have c302_1f : Fld Z T302.heap b270 "com/example/tree_automata_reducer/treeautomatareducer/reduce/PairStack" "size" "J" (.long (3 : Int64)) := c302_1
    have c302_3f : Fld Z T302.heap b270 "com/example/tree_automata_reducer/treeautomatareducer/reduce/PairStack" "inBlock" "I" (.int (3 : Int32)) := c302_3
    show Go _ _ _ _ _ _ _ (T302.setTop (mkF m 81 #[.val (.int qa), .val (.int qb), .val (.int qc), .val (.int qp), .val (.int qq), .val (.int (3 : Int32)), .val (.int (1 : Int32)), .val (.int kq), .val (.ref b270), .val (.int (1 : Int32)), .unset] []))
    refine Go.step (fun _ k => XS.iload X302.here hx rfl (hb hby at_81) rfl  k) ?_
    show Go _ _ _ _ _ _ _ (T302.setTop (mkF m 83 #[.val (.int qa), .val (.int qb), .val (.int qc), .val (.int qp), .val (.int qq), .val (.int (3 : Int32)), .val (.int (1 : Int32)), .val (.int kq), .val (.ref b270), .val (.int (1 : Int32)), .unset] [(.int (1 : Int32))]))
    refine Go.step (fun _ k => XS.iconst X302.here hx rfl (hb hby at_83) k) ?_
    show Go _ _ _ _ _ _ _ (T302.setTop (mkF m 84 #[.val (.int qa), .val (.int qb), .val (.int qc), .val (.int qp), .val (.int qq), .val (.int (3 : Int32)), .val (.int (1 : Int32)), .val (.int kq), .val (.ref b270), .val (.int (1 : Int32)), .unset] [(.int (1 : Int32)), (.int (1 : Int32))]))
    have hc84 : ¬ ((1 : Int32) < (1 : Int32)) := by decide
    refine Go.step (fun _ k => XS.icmpNo X302.here hx rfl (hb hby at_84) rfl (flt hc84).1 k) ?_
    show Go _ _ _ _ _ _ _ (T302.setTop (mkF m 87 #[.val (.int qa), .val (.int qb), .val (.int qc), .val (.int qp), .val (.int qq), .val (.int (3 : Int32)), .val (.int (1 : Int32)), .val (.int kq), .val (.ref b270), .val (.int (1 : Int32)), .unset] []))
    refine Go.step (fun _ k => XS.aload X302.here hx rfl (hb hby at_87) rfl rfl  k) ?_
    show Go _ _ _ _ _ _ _ (T302.setTop (mkF m 89 #[.val (.int qa), .val (.int qb), .val (.int qc), .val (.int qp), .val (.int qq), .val (.int (3 : Int32)), .val (.int (1 : Int32)), .val (.int kq), .val (.ref b270), .val (.int (1 : Int32)), .unset] [(.ref b270)]))
    have pq305 : ¬ (3 : Int32) = 0 := (by decide)
    have pq306 : ¬ (3 : Int32) - 1 < 0 := (by decide)
    have pq307 : (3 : Int32) - 1 < (32768 : Int32) := (by decide)
    obtain ⟨cq308, kq308, q308a, q308b, q308c⟩ := isOf hZ rfl c302_0
    obtain ⟨_, _, ⟨T308, L308, k308, n308⟩, -, X308, ⟨Lc308, hQ308, l308, y308, z308⟩, st308⟩ := X302.virtualBack hx (y := (⟨"com/example/tree_automata_reducer/treeautomatareducer/reduce/PairStack", "pop", "()V"⟩ : MethodName)) (z := (⟨"com/example/tree_automata_reducer/treeautomatareducer/reduce/PairStack", "pop", "()V"⟩ : MethodName)) hown (mvT hZ (hw _ (List.mem_of_getElem? (i := 123) rfl))) (mvT hZ (hw _ (List.mem_of_getElem? (i := 124) rfl))) (notFace_of_selects (args := #[]) (mvT hZ (hw _ (List.mem_of_getElem? (i := 126) rfl)))) (mvT hZ (hw _ (List.mem_of_getElem? (i := 126) rfl))) (mvT hZ (hw _ (List.mem_of_getElem? (i := 125) rfl))) (by decide) (backOf (W := 0) (rm18 l Z aZ hw [] b270 (3 : Int32) (3 : Int64) b_288 f2_302 (0 : Int32) (0 : Int32) T302.heap n0 z303 c302_0 c302_1f c302_2 c302_3f c302_4 c302_5 c302_6 c288_8 gn270 pq305 pq306 pq307) hZ (hw _ (List.mem_of_getElem? (i := 127) rfl)) (hw _ (List.mem_of_getElem? (i := 3) rfl)) (by decide) (by decide)) q308a q308c (g := (mkF m 89 #[.val (.int qa), .val (.int qb), .val (.int qc), .val (.int qp), .val (.int qq), .val (.int (3 : Int32)), .val (.int (1 : Int32)), .val (.int kq), .val (.ref b270), .val (.int (1 : Int32)), .unset] [(.ref b270)])) rfl (by rw [hml]; rfl) (Steps.refl _) (argsL := []) (rest := []) (lenOf pd_0 rfl) rfl (by show 2 * 0 + _ ≤ _; exact Nat.le_of_eq rfl) (hb hby at_89) (fun _ _ => ⟨rfl, rfl, (by decide : 4 + 0 ≤ _), (by decide : 32788 + 0 ≤ _)⟩)
    dsimp only [Pt.U, Pt.locs, Pt.cells, Pt.slots] at X308 l308 y308 z308 st308 hQ308
    subst l308 y308 z308
    obtain ⟨t1_308, t2_308, rfl, Nq308, K308, c308_0, c308_1, c308_2, c308_3, c308_4, c308_5⟩ := hQ308
    have N308 := Fr.app N302 Nq308
    refine Go.tr st308 ?_
    have z309 : n0 ≤ T308.heap.size := Nat.le_trans z303 K308.1
    have sqz309 : h0.size ≤ T308.heap.size := Nat.le_trans sqz303 K308.1
    have c308_1f : Fld Z T308.heap b270 "com/example/tree_automata_reducer/treeautomatareducer/reduce/PairStack" "size" "J" (.long (2 : Int64)) := c308_1
    have c308_3f : Fld Z T308.heap b270 "com/example/tree_automata_reducer/treeautomatareducer/reduce/PairStack" "inBlock" "I" (.int (2 : Int32)) := c308_3
    show Go _ _ _ _ _ _ _ (T308.setTop (mkF m 92 #[.val (.int qa), .val (.int qb), .val (.int qc), .val (.int qp), .val (.int qq), .val (.int (3 : Int32)), .val (.int (1 : Int32)), .val (.int kq), .val (.ref b270), .val (.int (1 : Int32)), .unset] []))
    refine Go.step (fun _ k => XS.iload X308.here hx rfl (hb hby at_92) rfl  k) ?_
    show Go _ _ _ _ _ _ _ (T308.setTop (mkF m 94 #[.val (.int qa), .val (.int qb), .val (.int qc), .val (.int qp), .val (.int qq), .val (.int (3 : Int32)), .val (.int (1 : Int32)), .val (.int kq), .val (.ref b270), .val (.int (1 : Int32)), .unset] [(.int (1 : Int32))]))
    refine Go.step (fun _ k => XS.iconst X308.here hx rfl (hb hby at_94) k) ?_
    show Go _ _ _ _ _ _ _ (T308.setTop (mkF m 95 #[.val (.int qa), .val (.int qb), .val (.int qc), .val (.int qp), .val (.int qq), .val (.int (3 : Int32)), .val (.int (1 : Int32)), .val (.int kq), .val (.ref b270), .val (.int (1 : Int32)), .unset] [(.int (2 : Int32)), (.int (1 : Int32))]))
    have hc95 : (1 : Int32) < (2 : Int32) := by decide
    refine Go.step (fun _ k => XS.icmpYes X308.here hx rfl (pc0 := 95) (pc' := 103) rfl (hb hby at_95) rfl (tlt hc95).1 (by decide) (by decide) k) ?_
    show Go _ _ _ _ _ _ _ (T308.setTop (mkF m 103 #[.val (.int qa), .val (.int qb), .val (.int qc), .val (.int qp), .val (.int qq), .val (.int (3 : Int32)), .val (.int (1 : Int32)), .val (.int kq), .val (.ref b270), .val (.int (1 : Int32)), .unset] []))
    refine Go.step (fun _ k => XS.iload X308.here hx rfl (hb hby at_103) rfl  k) ?_
    show Go _ _ _ _ _ _ _ (T308.setTop (mkF m 105 #[.val (.int qa), .val (.int qb), .val (.int qc), .val (.int qp), .val (.int qq), .val (.int (3 : Int32)), .val (.int (1 : Int32)), .val (.int kq), .val (.ref b270), .val (.int (1 : Int32)), .unset] [(.int (1 : Int32))]))
    refine Go.step (fun _ k => XS.iconst X308.here hx rfl (hb hby at_105) k) ?_
    show Go _ _ _ _ _ _ _ (T308.setTop (mkF m 106 #[.val (.int qa), .val (.int qb), .val (.int qc), .val (.int qp), .val (.int qq), .val (.int (3 : Int32)), .val (.int (1 : Int32)), .val (.int kq), .val (.ref b270), .val (.int (1 : Int32)), .unset] [(.int (3 : Int32)), (.int (1 : Int32))]))
    have hc106 : (1 : Int32) < (3 : Int32) := by decide
    refine Go.step (fun _ k => XS.icmpYes X308.here hx rfl (pc0 := 106) (pc' := 114) rfl (hb hby at_106) rfl (tlt hc106).1 (by decide) (by decide) k) ?_
    rcases hkq with h1 | h1
    · skip
      subst h1
      show Go _ _ _ _ _ _ _ (T308.setTop (mkF m 114 #[.val (.int qa), .val (.int qb), .val (.int qc), .val (.int qp), .val (.int qq), .val (.int (3 : Int32)), .val (.int (1 : Int32)), .val (.int (0 : Int32)), .val (.ref b270), .val (.int (1 : Int32)), .unset] []))
      refine Go.step (fun _ k => XS.iload X308.here hx rfl (hb hby at_114) rfl  k) ?_
      show Go _ _ _ _ _ _ _ (T308.setTop (mkF m 116 #[.val (.int qa), .val (.int qb), .val (.int qc), .val (.int qp), .val (.int qq), .val (.int (3 : Int32)), .val (.int (1 : Int32)), .val (.int (0 : Int32)), .val (.ref b270), .val (.int (1 : Int32)), .unset] [(.int (0 : Int32))]))
      refine Go.step (fun _ k => XS.iconst X308.here hx rfl (hb hby at_116) k) ?_
      show Go _ _ _ _ _ _ _ (T308.setTop (mkF m 117 #[.val (.int qa), .val (.int qb), .val (.int qc), .val (.int qp), .val (.int qq), .val (.int (3 : Int32)), .val (.int (1 : Int32)), .val (.int (0 : Int32)), .val (.ref b270), .val (.int (1 : Int32)), .unset] [(.int (1 : Int32)), (.int (0 : Int32))]))
      have hc117 : ¬ ((0 : Int32) = (1 : Int32)) := by decide
      refine Go.step (fun _ k => XS.icmpYes X308.here hx rfl (pc0 := 117) (pc' := 129) rfl (hb hby at_117) rfl (feq hc117).2 (by decide) (by decide) k) ?_
      show Go _ _ _ _ _ _ _ (T308.setTop (mkF m 129 #[.val (.int qa), .val (.int qb), .val (.int qc), .val (.int qp), .val (.int qq), .val (.int (3 : Int32)), .val (.int (1 : Int32)), .val (.int (0 : Int32)), .val (.ref b270), .val (.int (1 : Int32)), .unset] []))
      refine Go.step (fun _ k => XS.iload X308.here hx rfl (hb hby at_129) rfl  k) ?_
      show Go _ _ _ _ _ _ _ (T308.setTop (mkF m 131 #[.val (.int qa), .val (.int qb), .val (.int qc), .val (.int qp), .val (.int qq), .val (.int (3 : Int32)), .val (.int (1 : Int32)), .val (.int (0 : Int32)), .val (.ref b270), .val (.int (1 : Int32)), .unset] [(.int (3 : Int32))]))
      refine Go.step (fun _ k => XS.iload X308.here hx rfl (hb hby at_131) rfl  k) ?_
      show Go _ _ _ _ _ _ _ (T308.setTop (mkF m 133 #[.val (.int qa), .val (.int qb), .val (.int qc), .val (.int qp), .val (.int qq), .val (.int (3 : Int32)), .val (.int (1 : Int32)), .val (.int (0 : Int32)), .val (.ref b270), .val (.int (1 : Int32)), .unset] [(.int (1 : Int32)), (.int (3 : Int32))]))
      refine Go.step (fun _ k => XS.isub X308.here hx rfl (hb hby at_133) rfl k) ?_
      show Go _ _ _ _ _ _ _ (T308.setTop (mkF m 134 #[.val (.int qa), .val (.int qb), .val (.int qc), .val (.int qp), .val (.int qq), .val (.int (3 : Int32)), .val (.int (1 : Int32)), .val (.int (0 : Int32)), .val (.ref b270), .val (.int (1 : Int32)), .unset] [(.int (2 : Int32))]))
      refine Go.step (fun _ k => XS.iload X308.here hx rfl (hb hby at_134) rfl  k) ?_
      show Go _ _ _ _ _ _ _ (T308.setTop (mkF m 136 #[.val (.int qa), .val (.int qb), .val (.int qc), .val (.int qp), .val (.int qq), .val (.int (3 : Int32)), .val (.int (1 : Int32)), .val (.int (0 : Int32)), .val (.ref b270), .val (.int (1 : Int32)), .unset] [(.int (0 : Int32)), (.int (2 : Int32))]))
      refine Go.step (fun _ k => XS.iadd X308.here hx rfl (hb hby at_136) rfl k) ?_
      show Go _ _ _ _ _ _ _ (T308.setTop (mkF m 137 #[.val (.int qa), .val (.int qb), .val (.int qc), .val (.int qp), .val (.int qq), .val (.int (3 : Int32)), .val (.int (1 : Int32)), .val (.int (0 : Int32)), .val (.ref b270), .val (.int (1 : Int32)), .unset] [(.int (2 : Int32))]))
      have hc137 : ¬ ((2 : Int32) = (0 : Int32)) := by decide
      refine Go.step (fun _ k => XS.ifYes X308.here hx rfl (pc0 := 137) (pc' := 144) rfl (hb hby at_137) rfl ((if0 _ _).trans (feq hc137).2) (by decide) (by decide) k) ?_
      show Go _ _ _ _ _ _ _ (T308.setTop (mkF m 144 #[.val (.int qa), .val (.int qb), .val (.int qc), .val (.int qp), .val (.int qq), .val (.int (3 : Int32)), .val (.int (1 : Int32)), .val (.int (0 : Int32)), .val (.ref b270), .val (.int (1 : Int32)), .unset] []))
      refine Go.step (fun _ k => XS.iconst X308.here hx rfl (hb hby at_144) k) ?_
      show Go _ _ _ _ _ _ _ (T308.setTop (mkF m 145 #[.val (.int qa), .val (.int qb), .val (.int qc), .val (.int qp), .val (.int qq), .val (.int (3 : Int32)), .val (.int (1 : Int32)), .val (.int (0 : Int32)), .val (.ref b270), .val (.int (1 : Int32)), .unset] [(.int (0 : Int32))]))
      refine Go.step (fun _ k => XS.istore X308.here hx rfl (hb hby at_145) rfl (l' := #[.val (.int qa), .val (.int qb), .val (.int qc), .val (.int qp), .val (.int qq), .val (.int (3 : Int32)), .val (.int (1 : Int32)), .val (.int (0 : Int32)), .val (.ref b270), .val (.int (1 : Int32)), .val (.int (0 : Int32))]) rfl k) ?_
      show Go _ _ _ _ _ _ _ (T308.setTop (mkF m 147 #[.val (.int qa), .val (.int qb), .val (.int qc), .val (.int qp), .val (.int qq), .val (.int (3 : Int32)), .val (.int (1 : Int32)), .val (.int (0 : Int32)), .val (.ref b270), .val (.int (1 : Int32)), .val (.int (0 : Int32))] []))
      refine Go.step (fun _ k => XS.iload X308.here hx rfl (hb hby at_147) rfl  k) ?_
      show Go _ _ _ _ _ _ _ (T308.setTop (mkF m 149 #[.val (.int qa), .val (.int qb), .val (.int qc), .val (.int qp), .val (.int qq), .val (.int (3 : Int32)), .val (.int (1 : Int32)), .val (.int (0 : Int32)), .val (.ref b270), .val (.int (1 : Int32)), .val (.int (0 : Int32))] [(.int (1 : Int32))]))
      have hc149 : ¬ ((1 : Int32) = (0 : Int32)) := by decide
      refine Go.step (fun _ k => XS.ifNo X308.here hx rfl (hb hby at_149) rfl ((if0 _ _).trans (feq hc149).1) k) ?_
      show Go _ _ _ _ _ _ _ (T308.setTop (mkF m 152 #[.val (.int qa), .val (.int qb), .val (.int qc), .val (.int qp), .val (.int qq), .val (.int (3 : Int32)), .val (.int (1 : Int32)), .val (.int (0 : Int32)), .val (.ref b270), .val (.int (1 : Int32)), .val (.int (0 : Int32))] []))
      refine Go.step (fun _ k => XS.aload X308.here hx rfl (hb hby at_152) rfl rfl  k) ?_
      show Go _ _ _ _ _ _ _ (T308.setTop (mkF m 154 #[.val (.int qa), .val (.int qb), .val (.int qc), .val (.int qp), .val (.int qq), .val (.int (3 : Int32)), .val (.int (1 : Int32)), .val (.int (0 : Int32)), .val (.ref b270), .val (.int (1 : Int32)), .val (.int (0 : Int32))] [(.ref b270)]))
      obtain ⟨cq311, kq311, q311a, q311b, q311c⟩ := isOf hZ rfl c308_0
      obtain ⟨_, _, ⟨T311, L311, k311, n311⟩, -, X311, ⟨Lc311, hQ311, l311, y311, z311⟩, st311⟩ := X308.virtualBack hx (y := (⟨"com/example/tree_automata_reducer/treeautomatareducer/reduce/PairStack", "isEmpty", "()Z"⟩ : MethodName)) (z := (⟨"com/example/tree_automata_reducer/treeautomatareducer/reduce/PairStack", "isEmpty", "()Z"⟩ : MethodName)) hown (mvT hZ (hw _ (List.mem_of_getElem? (i := 41) rfl))) (mvT hZ (hw _ (List.mem_of_getElem? (i := 42) rfl))) (notFace_of_selects (args := #[]) (mvT hZ (hw _ (List.mem_of_getElem? (i := 44) rfl)))) (mvT hZ (hw _ (List.mem_of_getElem? (i := 44) rfl))) (mvT hZ (hw _ (List.mem_of_getElem? (i := 43) rfl))) (by decide) (backOf (W := 0) (rm6 l Z aZ hw [] b270 (2 : Int64) T308.heap n0 z309 c308_1f) hZ (hw _ (List.mem_of_getElem? (i := 45) rfl)) (hw _ (List.mem_of_getElem? (i := 3) rfl)) (by decide) (by decide)) q311a q311c (g := (mkF m 154 #[.val (.int qa), .val (.int qb), .val (.int qc), .val (.int qp), .val (.int qq), .val (.int (3 : Int32)), .val (.int (1 : Int32)), .val (.int (0 : Int32)), .val (.ref b270), .val (.int (1 : Int32)), .val (.int (0 : Int32))] [(.ref b270)])) rfl (by rw [hml]; rfl) (Steps.refl _) (argsL := []) (rest := []) (lenOf pd_9 rfl) rfl (by show 2 * 0 + _ ≤ _; exact Nat.le_of_eq rfl) (hb hby at_154) (fun _ _ => ⟨rfl, rfl, (by decide : 4 + 0 ≤ _), (by decide : 32788 + 0 ≤ _)⟩)
      dsimp only [Pt.U, Pt.locs, Pt.cells, Pt.slots] at X311 l311 y311 z311 st311 hQ311
      subst l311 y311 z311
      obtain ⟨rfl, Nq311, e311⟩ := hQ311
      have N311 := Fr.app N308 Nq311
      refine Go.tr st311 ?_
      show Go _ _ _ _ _ _ _ (T311.setTop (mkF m 157 #[.val (.int qa), .val (.int qb), .val (.int qc), .val (.int qp), .val (.int qq), .val (.int (3 : Int32)), .val (.int (1 : Int32)), .val (.int (0 : Int32)), .val (.ref b270), .val (.int (1 : Int32)), .val (.int (0 : Int32))] [(.int (if (2 : Int64) = 0 then (1 : Int32) else 0))]))
      refine Go.step (fun _ k => XS.iload X311.here hx rfl (hb hby at_157) rfl  k) ?_
      show Go _ _ _ _ _ _ _ (T311.setTop (mkF m 159 #[.val (.int qa), .val (.int qb), .val (.int qc), .val (.int qp), .val (.int qq), .val (.int (3 : Int32)), .val (.int (1 : Int32)), .val (.int (0 : Int32)), .val (.ref b270), .val (.int (1 : Int32)), .val (.int (0 : Int32))] [(.int (0 : Int32)), (.int (if (2 : Int64) = 0 then (1 : Int32) else 0))]))
      have hc159 : (if (2 : Int64) = 0 then (1 : Int32) else 0) = (0 : Int32) := by decide
      refine Go.step (fun _ k => XS.icmpNo X311.here hx rfl (hb hby at_159) rfl (teq hc159).2 k) ?_
      show Go _ _ _ _ _ _ _ (T311.setTop (mkF m 162 #[.val (.int qa), .val (.int qb), .val (.int qc), .val (.int qp), .val (.int qq), .val (.int (3 : Int32)), .val (.int (1 : Int32)), .val (.int (0 : Int32)), .val (.ref b270), .val (.int (1 : Int32)), .val (.int (0 : Int32))] []))
      refine Go.step (fun _ k => XS.iconst X311.here hx rfl (hb hby at_162) k) ?_
      show Go _ _ _ _ _ _ _ (T311.setTop (mkF m 163 #[.val (.int qa), .val (.int qb), .val (.int qc), .val (.int qp), .val (.int qq), .val (.int (3 : Int32)), .val (.int (1 : Int32)), .val (.int (0 : Int32)), .val (.ref b270), .val (.int (1 : Int32)), .val (.int (0 : Int32))] [(.int (1 : Int32))]))
      refine Go.step (fun _ k => XS.goto X311.here hx rfl (pc0 := 163) (pc' := 167) rfl (hb hby at_163) (by decide) (by decide) k) ?_
      show Go _ _ _ _ _ _ _ (T311.setTop (mkF m 167 #[.val (.int qa), .val (.int qb), .val (.int qc), .val (.int qp), .val (.int qq), .val (.int (3 : Int32)), .val (.int (1 : Int32)), .val (.int (0 : Int32)), .val (.ref b270), .val (.int (1 : Int32)), .val (.int (0 : Int32))] [(.int (1 : Int32))]))
      refine Go.retN X311 hx (t := .boolean) Bd.returns (by simp) hlk (hb hby at_167) ?_ (by decide) (by decide)
      rw [e311]
      exact ⟨(by first | rfl | (simp_all [own_nb1, own_nb0]; done)), N311⟩
    · skip
      subst h1
      show Go _ _ _ _ _ _ _ (T308.setTop (mkF m 114 #[.val (.int qa), .val (.int qb), .val (.int qc), .val (.int qp), .val (.int qq), .val (.int (3 : Int32)), .val (.int (1 : Int32)), .val (.int (1 : Int32)), .val (.ref b270), .val (.int (1 : Int32)), .unset] []))
      refine Go.step (fun _ k => XS.iload X308.here hx rfl (hb hby at_114) rfl  k) ?_
      show Go _ _ _ _ _ _ _ (T308.setTop (mkF m 116 #[.val (.int qa), .val (.int qb), .val (.int qc), .val (.int qp), .val (.int qq), .val (.int (3 : Int32)), .val (.int (1 : Int32)), .val (.int (1 : Int32)), .val (.ref b270), .val (.int (1 : Int32)), .unset] [(.int (1 : Int32))]))
      refine Go.step (fun _ k => XS.iconst X308.here hx rfl (hb hby at_116) k) ?_
      show Go _ _ _ _ _ _ _ (T308.setTop (mkF m 117 #[.val (.int qa), .val (.int qb), .val (.int qc), .val (.int qp), .val (.int qq), .val (.int (3 : Int32)), .val (.int (1 : Int32)), .val (.int (1 : Int32)), .val (.ref b270), .val (.int (1 : Int32)), .unset] [(.int (1 : Int32)), (.int (1 : Int32))]))
      have hc117 : (1 : Int32) = (1 : Int32) := by decide
      refine Go.step (fun _ k => XS.icmpNo X308.here hx rfl (hb hby at_117) rfl (teq hc117).2 k) ?_
      show Go _ _ _ _ _ _ _ (T308.setTop (mkF m 120 #[.val (.int qa), .val (.int qb), .val (.int qc), .val (.int qp), .val (.int qq), .val (.int (3 : Int32)), .val (.int (1 : Int32)), .val (.int (1 : Int32)), .val (.ref b270), .val (.int (1 : Int32)), .unset] []))
      refine Go.step (fun _ k => XS.aload X308.here hx rfl (hb hby at_120) rfl rfl  k) ?_
      show Go _ _ _ _ _ _ _ (T308.setTop (mkF m 122 #[.val (.int qa), .val (.int qb), .val (.int qc), .val (.int qp), .val (.int qq), .val (.int (3 : Int32)), .val (.int (1 : Int32)), .val (.int (1 : Int32)), .val (.ref b270), .val (.int (1 : Int32)), .unset] [(.ref b270)]))
      refine Go.step (fun _ k => XS.iload X308.here hx rfl (hb hby at_122) rfl  k) ?_
      show Go _ _ _ _ _ _ _ (T308.setTop (mkF m 124 #[.val (.int qa), .val (.int qb), .val (.int qc), .val (.int qp), .val (.int qq), .val (.int (3 : Int32)), .val (.int (1 : Int32)), .val (.int (1 : Int32)), .val (.ref b270), .val (.int (1 : Int32)), .unset] [(.int qq), (.ref b270)]))
      refine Go.step (fun _ k => XS.iload X308.here hx rfl (hb hby at_124) rfl  k) ?_
      show Go _ _ _ _ _ _ _ (T308.setTop (mkF m 126 #[.val (.int qa), .val (.int qb), .val (.int qc), .val (.int qp), .val (.int qq), .val (.int (3 : Int32)), .val (.int (1 : Int32)), .val (.int (1 : Int32)), .val (.ref b270), .val (.int (1 : Int32)), .unset] [(.int qq), (.int qq), (.ref b270)]))
      have f312 : Al Z T308.heap b_288 (32768 : Int32) f2_302 := (c302_4.keep K308 (ninS (Ne.symm c288_8) nin0))
      have pq313 : ¬ (2 : Int32) = (32768 : Int32) := (by decide)
      have pq314 : ¬ (2 : Int32) < 0 := (by decide)
      have pq315 : (2 : Int32) < (32768 : Int32) := (by decide)
      obtain ⟨cq316, kq316, q316a, q316b, q316c⟩ := isOf hZ rfl c308_0
      obtain ⟨_, _, ⟨T316, L316, k316, n316⟩, -, X316, ⟨Lc316, hQ316, l316, y316, z316⟩, st316⟩ := X308.virtualBack hx (y := (⟨"com/example/tree_automata_reducer/treeautomatareducer/reduce/PairStack", "push", "(II)V"⟩ : MethodName)) (z := (⟨"com/example/tree_automata_reducer/treeautomatareducer/reduce/PairStack", "push", "(II)V"⟩ : MethodName)) hown (mvT hZ (hw _ (List.mem_of_getElem? (i := 48) rfl))) (mvT hZ (hw _ (List.mem_of_getElem? (i := 49) rfl))) (notFace_of_selects (args := #[]) (mvT hZ (hw _ (List.mem_of_getElem? (i := 51) rfl)))) (mvT hZ (hw _ (List.mem_of_getElem? (i := 51) rfl))) (mvT hZ (hw _ (List.mem_of_getElem? (i := 50) rfl))) (by decide) (backOf (W := 0) (rmpB l Z aZ hw [] b270 qq qq (2 : Int32) (2 : Int64) b_288 f2_302 t1_308 t2_308 T308.heap n0 z309 c308_0 c308_1f c308_2 c308_3f f312 c308_4 c308_5 c288_8 gn270 gn288_0 pq313 pq314 pq315) hZ (hw _ (List.mem_of_getElem? (i := 52) rfl)) (hw _ (List.mem_of_getElem? (i := 3) rfl)) (by decide) (by decide)) q316a q316c (g := (mkF m 126 #[.val (.int qa), .val (.int qb), .val (.int qc), .val (.int qp), .val (.int qq), .val (.int (3 : Int32)), .val (.int (1 : Int32)), .val (.int (1 : Int32)), .val (.ref b270), .val (.int (1 : Int32)), .unset] [(.int qq), (.int qq), (.ref b270)])) rfl (by rw [hml]; rfl) (Steps.refl _) (argsL := [(.int qq), (.int qq)]) (rest := []) (lenOf pd_10 rfl) rfl (by show 2 * 0 + _ ≤ _; exact Nat.le_of_eq rfl) (hb hby at_126) (fun _ _ => ⟨rfl, rfl, (by decide : 4 + 0 ≤ _), (by decide : 32788 + 0 ≤ _)⟩)
      dsimp only [Pt.U, Pt.locs, Pt.cells, Pt.slots] at X316 l316 y316 z316 st316 hQ316
      subst l316 y316 z316
      obtain ⟨f2_316, rfl, Nq316, K316, c316_0, c316_1, c316_2, c316_3, c316_4, c316_5, c316_6⟩ := hQ316
      have N316 := Fr.app N308 Nq316
      refine Go.tr st316 ?_
      have z317 : n0 ≤ T316.heap.size := Nat.le_trans z309 K316.1
      have sqz317 : h0.size ≤ T316.heap.size := Nat.le_trans sqz309 K316.1
      have c316_1f : Fld Z T316.heap b270 "com/example/tree_automata_reducer/treeautomatareducer/reduce/PairStack" "size" "J" (.long (3 : Int64)) := c316_1
      have c316_3f : Fld Z T316.heap b270 "com/example/tree_automata_reducer/treeautomatareducer/reduce/PairStack" "inBlock" "I" (.int (3 : Int32)) := c316_3
      show Go _ _ _ _ _ _ _ (T316.setTop (mkF m 129 #[.val (.int qa), .val (.int qb), .val (.int qc), .val (.int qp), .val (.int qq), .val (.int (3 : Int32)), .val (.int (1 : Int32)), .val (.int (1 : Int32)), .val (.ref b270), .val (.int (1 : Int32)), .unset] []))
      refine Go.step (fun _ k => XS.iload X316.here hx rfl (hb hby at_129) rfl  k) ?_
      show Go _ _ _ _ _ _ _ (T316.setTop (mkF m 131 #[.val (.int qa), .val (.int qb), .val (.int qc), .val (.int qp), .val (.int qq), .val (.int (3 : Int32)), .val (.int (1 : Int32)), .val (.int (1 : Int32)), .val (.ref b270), .val (.int (1 : Int32)), .unset] [(.int (3 : Int32))]))
      refine Go.step (fun _ k => XS.iload X316.here hx rfl (hb hby at_131) rfl  k) ?_
      show Go _ _ _ _ _ _ _ (T316.setTop (mkF m 133 #[.val (.int qa), .val (.int qb), .val (.int qc), .val (.int qp), .val (.int qq), .val (.int (3 : Int32)), .val (.int (1 : Int32)), .val (.int (1 : Int32)), .val (.ref b270), .val (.int (1 : Int32)), .unset] [(.int (1 : Int32)), (.int (3 : Int32))]))
      refine Go.step (fun _ k => XS.isub X316.here hx rfl (hb hby at_133) rfl k) ?_
      show Go _ _ _ _ _ _ _ (T316.setTop (mkF m 134 #[.val (.int qa), .val (.int qb), .val (.int qc), .val (.int qp), .val (.int qq), .val (.int (3 : Int32)), .val (.int (1 : Int32)), .val (.int (1 : Int32)), .val (.ref b270), .val (.int (1 : Int32)), .unset] [(.int (2 : Int32))]))
      refine Go.step (fun _ k => XS.iload X316.here hx rfl (hb hby at_134) rfl  k) ?_
      show Go _ _ _ _ _ _ _ (T316.setTop (mkF m 136 #[.val (.int qa), .val (.int qb), .val (.int qc), .val (.int qp), .val (.int qq), .val (.int (3 : Int32)), .val (.int (1 : Int32)), .val (.int (1 : Int32)), .val (.ref b270), .val (.int (1 : Int32)), .unset] [(.int (1 : Int32)), (.int (2 : Int32))]))
      refine Go.step (fun _ k => XS.iadd X316.here hx rfl (hb hby at_136) rfl k) ?_
      show Go _ _ _ _ _ _ _ (T316.setTop (mkF m 137 #[.val (.int qa), .val (.int qb), .val (.int qc), .val (.int qp), .val (.int qq), .val (.int (3 : Int32)), .val (.int (1 : Int32)), .val (.int (1 : Int32)), .val (.ref b270), .val (.int (1 : Int32)), .unset] [(.int (3 : Int32))]))
      have hc137 : ¬ ((3 : Int32) = (0 : Int32)) := by decide
      refine Go.step (fun _ k => XS.ifYes X316.here hx rfl (pc0 := 137) (pc' := 144) rfl (hb hby at_137) rfl ((if0 _ _).trans (feq hc137).2) (by decide) (by decide) k) ?_
      show Go _ _ _ _ _ _ _ (T316.setTop (mkF m 144 #[.val (.int qa), .val (.int qb), .val (.int qc), .val (.int qp), .val (.int qq), .val (.int (3 : Int32)), .val (.int (1 : Int32)), .val (.int (1 : Int32)), .val (.ref b270), .val (.int (1 : Int32)), .unset] []))
      refine Go.step (fun _ k => XS.iconst X316.here hx rfl (hb hby at_144) k) ?_
      show Go _ _ _ _ _ _ _ (T316.setTop (mkF m 145 #[.val (.int qa), .val (.int qb), .val (.int qc), .val (.int qp), .val (.int qq), .val (.int (3 : Int32)), .val (.int (1 : Int32)), .val (.int (1 : Int32)), .val (.ref b270), .val (.int (1 : Int32)), .unset] [(.int (0 : Int32))]))
      refine Go.step (fun _ k => XS.istore X316.here hx rfl (hb hby at_145) rfl (l' := #[.val (.int qa), .val (.int qb), .val (.int qc), .val (.int qp), .val (.int qq), .val (.int (3 : Int32)), .val (.int (1 : Int32)), .val (.int (1 : Int32)), .val (.ref b270), .val (.int (1 : Int32)), .val (.int (0 : Int32))]) rfl k) ?_
      show Go _ _ _ _ _ _ _ (T316.setTop (mkF m 147 #[.val (.int qa), .val (.int qb), .val (.int qc), .val (.int qp), .val (.int qq), .val (.int (3 : Int32)), .val (.int (1 : Int32)), .val (.int (1 : Int32)), .val (.ref b270), .val (.int (1 : Int32)), .val (.int (0 : Int32))] []))
      refine Go.step (fun _ k => XS.iload X316.here hx rfl (hb hby at_147) rfl  k) ?_
      show Go _ _ _ _ _ _ _ (T316.setTop (mkF m 149 #[.val (.int qa), .val (.int qb), .val (.int qc), .val (.int qp), .val (.int qq), .val (.int (3 : Int32)), .val (.int (1 : Int32)), .val (.int (1 : Int32)), .val (.ref b270), .val (.int (1 : Int32)), .val (.int (0 : Int32))] [(.int (1 : Int32))]))
      have hc149 : ¬ ((1 : Int32) = (0 : Int32)) := by decide
      refine Go.step (fun _ k => XS.ifNo X316.here hx rfl (hb hby at_149) rfl ((if0 _ _).trans (feq hc149).1) k) ?_
      show Go _ _ _ _ _ _ _ (T316.setTop (mkF m 152 #[.val (.int qa), .val (.int qb), .val (.int qc), .val (.int qp), .val (.int qq), .val (.int (3 : Int32)), .val (.int (1 : Int32)), .val (.int (1 : Int32)), .val (.ref b270), .val (.int (1 : Int32)), .val (.int (0 : Int32))] []))
      refine Go.step (fun _ k => XS.aload X316.here hx rfl (hb hby at_152) rfl rfl  k) ?_
      show Go _ _ _ _ _ _ _ (T316.setTop (mkF m 154 #[.val (.int qa), .val (.int qb), .val (.int qc), .val (.int qp), .val (.int qq), .val (.int (3 : Int32)), .val (.int (1 : Int32)), .val (.int (1 : Int32)), .val (.ref b270), .val (.int (1 : Int32)), .val (.int (0 : Int32))] [(.ref b270)]))
      obtain ⟨cq319, kq319, q319a, q319b, q319c⟩ := isOf hZ rfl c316_0
      obtain ⟨_, _, ⟨T319, L319, k319, n319⟩, -, X319, ⟨Lc319, hQ319, l319, y319, z319⟩, st319⟩ := X316.virtualBack hx (y := (⟨"com/example/tree_automata_reducer/treeautomatareducer/reduce/PairStack", "isEmpty", "()Z"⟩ : MethodName)) (z := (⟨"com/example/tree_automata_reducer/treeautomatareducer/reduce/PairStack", "isEmpty", "()Z"⟩ : MethodName)) hown (mvT hZ (hw _ (List.mem_of_getElem? (i := 41) rfl))) (mvT hZ (hw _ (List.mem_of_getElem? (i := 42) rfl))) (notFace_of_selects (args := #[]) (mvT hZ (hw _ (List.mem_of_getElem? (i := 44) rfl)))) (mvT hZ (hw _ (List.mem_of_getElem? (i := 44) rfl))) (mvT hZ (hw _ (List.mem_of_getElem? (i := 43) rfl))) (by decide) (backOf (W := 0) (rm6 l Z aZ hw [] b270 (3 : Int64) T316.heap n0 z317 c316_1f) hZ (hw _ (List.mem_of_getElem? (i := 45) rfl)) (hw _ (List.mem_of_getElem? (i := 3) rfl)) (by decide) (by decide)) q319a q319c (g := (mkF m 154 #[.val (.int qa), .val (.int qb), .val (.int qc), .val (.int qp), .val (.int qq), .val (.int (3 : Int32)), .val (.int (1 : Int32)), .val (.int (1 : Int32)), .val (.ref b270), .val (.int (1 : Int32)), .val (.int (0 : Int32))] [(.ref b270)])) rfl (by rw [hml]; rfl) (Steps.refl _) (argsL := []) (rest := []) (lenOf pd_9 rfl) rfl (by show 2 * 0 + _ ≤ _; exact Nat.le_of_eq rfl) (hb hby at_154) (fun _ _ => ⟨rfl, rfl, (by decide : 4 + 0 ≤ _), (by decide : 32788 + 0 ≤ _)⟩)
      dsimp only [Pt.U, Pt.locs, Pt.cells, Pt.slots] at X319 l319 y319 z319 st319 hQ319
      subst l319 y319 z319
      obtain ⟨rfl, Nq319, e319⟩ := hQ319
      have N319 := Fr.app N316 Nq319
      refine Go.tr st319 ?_
      show Go _ _ _ _ _ _ _ (T319.setTop (mkF m 157 #[.val (.int qa), .val (.int qb), .val (.int qc), .val (.int qp), .val (.int qq), .val (.int (3 : Int32)), .val (.int (1 : Int32)), .val (.int (1 : Int32)), .val (.ref b270), .val (.int (1 : Int32)), .val (.int (0 : Int32))] [(.int (if (3 : Int64) = 0 then (1 : Int32) else 0))]))
      refine Go.step (fun _ k => XS.iload X319.here hx rfl (hb hby at_157) rfl  k) ?_
      show Go _ _ _ _ _ _ _ (T319.setTop (mkF m 159 #[.val (.int qa), .val (.int qb), .val (.int qc), .val (.int qp), .val (.int qq), .val (.int (3 : Int32)), .val (.int (1 : Int32)), .val (.int (1 : Int32)), .val (.ref b270), .val (.int (1 : Int32)), .val (.int (0 : Int32))] [(.int (0 : Int32)), (.int (if (3 : Int64) = 0 then (1 : Int32) else 0))]))
      have hc159 : (if (3 : Int64) = 0 then (1 : Int32) else 0) = (0 : Int32) := by decide
      refine Go.step (fun _ k => XS.icmpNo X319.here hx rfl (hb hby at_159) rfl (teq hc159).2 k) ?_
      show Go _ _ _ _ _ _ _ (T319.setTop (mkF m 162 #[.val (.int qa), .val (.int qb), .val (.int qc), .val (.int qp), .val (.int qq), .val (.int (3 : Int32)), .val (.int (1 : Int32)), .val (.int (1 : Int32)), .val (.ref b270), .val (.int (1 : Int32)), .val (.int (0 : Int32))] []))
      refine Go.step (fun _ k => XS.iconst X319.here hx rfl (hb hby at_162) k) ?_
      show Go _ _ _ _ _ _ _ (T319.setTop (mkF m 163 #[.val (.int qa), .val (.int qb), .val (.int qc), .val (.int qp), .val (.int qq), .val (.int (3 : Int32)), .val (.int (1 : Int32)), .val (.int (1 : Int32)), .val (.ref b270), .val (.int (1 : Int32)), .val (.int (0 : Int32))] [(.int (1 : Int32))]))
      refine Go.step (fun _ k => XS.goto X319.here hx rfl (pc0 := 163) (pc' := 167) rfl (hb hby at_163) (by decide) (by decide) k) ?_
      show Go _ _ _ _ _ _ _ (T319.setTop (mkF m 167 #[.val (.int qa), .val (.int qb), .val (.int qc), .val (.int qp), .val (.int qq), .val (.int (3 : Int32)), .val (.int (1 : Int32)), .val (.int (1 : Int32)), .val (.ref b270), .val (.int (1 : Int32)), .val (.int (0 : Int32))] [(.int (1 : Int32))]))
      refine Go.retN X319 hx (t := .boolean) Bd.returns (by simp) hlk (hb hby at_167) ?_ (by decide) (by decide)
      rw [e319]
      exact ⟨(by first | rfl | (simp_all [own_nb1, own_nb0]; done)), N319⟩
  · skip
    subst h1 h2
    show Go _ _ _ _ _ _ _ (s₁.setTop (mkF m 21 #[.val (.int qa), .val (.int qb), .val (.int qc), .val (.int qp), .val (.int qq), .val (.int (3 : Int32)), .val (.int (2 : Int32)), .val (.int kq), .unset, .unset, .unset] []))
    obtain ⟨T320, h320, X320, e320, E320, A320, D320, -, st320⟩ := newO X0 hx hZ hown (hw _ (List.mem_of_getElem? (i := 1) rfl)) (hw _ (List.mem_of_getElem? (i := 2) rfl)) (hw _ (List.mem_of_getElem? (i := 3) rfl)) e0 (g := (mkF m 21 #[.val (.int qa), .val (.int qb), .val (.int qc), .val (.int qp), .val (.int qq), .val (.int (3 : Int32)), .val (.int (2 : Int32)), .val (.int kq), .unset, .unset, .unset] [])) rfl (hb hby at_21) (by decide) (by decide)
    obtain ⟨b320, g320⟩ : ∃ z, z = h0.size := ⟨_, rfl⟩
    rw [← g320] at A320 D320 st320
    refine Go.step st320 ?_
    have gn320 : n0 ≤ b320 := Nat.le_trans Z0 (Nat.le_of_eq g320.symm)
    have sz320 : h0.size ≤ b320 := Nat.le_trans sq0 (Nat.le_of_eq g320.symm)
    have z321 : n0 ≤ h320.size := Nat.le_trans Z0 E320.1
    have sqz321 : h0.size ≤ h320.size := Nat.le_trans sq0 E320.1
    have f323 : Fld Z h320 b320 "com/example/tree_automata_reducer/treeautomatareducer/reduce/PairStack" "blocks" "Ljava/util/List;" .null := D320 (Or.inr (hw _ (List.mem_of_getElem? (i := 35) rfl))) (ty := (.object "java/util/List")) (by decide)
    have f324 : Fld Z h320 b320 "com/example/tree_automata_reducer/treeautomatareducer/reduce/PairStack" "blockNumber" "I" (.int (0 : Int32)) := D320 (Or.inl (hw _ (List.mem_of_getElem? (i := 37) rfl))) (ty := .int) (by decide)
    have f325 : Fld Z h320 b320 "com/example/tree_automata_reducer/treeautomatareducer/reduce/PairStack" "inBlock" "I" (.int (0 : Int32)) := D320 (Or.inl (hw _ (List.mem_of_getElem? (i := 40) rfl))) (ty := .int) (by decide)
    have f326 : Fld Z h320 b320 "com/example/tree_automata_reducer/treeautomatareducer/reduce/PairStack" "size" "J" (.long (0 : Int64)) := D320 (Or.inl (hw _ (List.mem_of_getElem? (i := 47) rfl))) (ty := .long) (by decide)
    have f327 : Fld Z h320 b320 "com/example/tree_automata_reducer/treeautomatareducer/reduce/PairStack" "block" "[J" .null := D320 (Or.inl (hw _ (List.mem_of_getElem? (i := 121) rfl))) (ty := (.array .long)) (by decide)
    have f328 : Fld Z h320 b320 "com/example/tree_automata_reducer/treeautomatareducer/reduce/PairStack" "first" "I" (.int (0 : Int32)) := D320 (Or.inl (hw _ (List.mem_of_getElem? (i := 129) rfl))) (ty := .int) (by decide)
    have f329 : Fld Z h320 b320 "com/example/tree_automata_reducer/treeautomatareducer/reduce/PairStack" "second" "I" (.int (0 : Int32)) := D320 (Or.inl (hw _ (List.mem_of_getElem? (i := 131) rfl))) (ty := .int) (by decide)
    show Go _ _ _ _ _ _ _ (T320.setTop (mkF m 24 #[.val (.int qa), .val (.int qb), .val (.int qc), .val (.int qp), .val (.int qq), .val (.int (3 : Int32)), .val (.int (2 : Int32)), .val (.int kq), .unset, .unset, .unset] [(.ref b320)]))
    refine Go.step (fun _ k => XS.dup X320.here hx rfl (hb hby at_24) rfl rfl k) ?_
    show Go _ _ _ _ _ _ _ (T320.setTop (mkF m 25 #[.val (.int qa), .val (.int qb), .val (.int qc), .val (.int qp), .val (.int qq), .val (.int (3 : Int32)), .val (.int (2 : Int32)), .val (.int kq), .unset, .unset, .unset] [(.ref b320), (.ref b320)]))
    have f330 : Old Z n0 h320 := (O_0.ext E320)
    obtain ⟨_, _, ⟨T331, L331, k331, n331⟩, -, X331, ⟨Lc331, hQ331, l331, y331, z331⟩, st331⟩ := X320.specialBack hx (y := (⟨"com/example/tree_automata_reducer/treeautomatareducer/reduce/PairStack", "<init>", "()V"⟩ : MethodName)) rfl hown (mvT hZ (hw _ (List.mem_of_getElem? (i := 4) rfl))) (mvT hZ (hw _ (List.mem_of_getElem? (i := 5) rfl))) (mvT hZ (hw _ (List.mem_of_getElem? (i := 6) rfl))) (by decide) (backOf (W := 1) (rm1 l Z aZ hw [] b320 w0 h320 n0 z321 f330 S_1 A320 f323 f326 f327 f324 f325 f328 f329 gn320) hZ (hw _ (List.mem_of_getElem? (i := 6) rfl)) (hw _ (List.mem_of_getElem? (i := 3) rfl)) (by decide) (by decide)) (g := (mkF m 25 #[.val (.int qa), .val (.int qb), .val (.int qc), .val (.int qp), .val (.int qq), .val (.int (3 : Int32)), .val (.int (2 : Int32)), .val (.int kq), .unset, .unset, .unset] [(.ref b320), (.ref b320)])) rfl (by rw [hml]; rfl) (Steps.refl _) (a := b320) (argsL := []) (rest := [(.ref b320)]) (lenOf pd_0 rfl) rfl (by show 2 * 0 + _ ≤ _; exact Nat.le_of_eq rfl) (hb hby at_25) (fun _ _ => ⟨rfl, e320, (by decide : 1 + 1 ≤ _), (by decide : 7 + 3 ≤ _)⟩)
    dsimp only [Pt.U, Pt.locs, Pt.cells, Pt.slots] at X331 l331 y331 z331 st331 hQ331
    subst l331 y331 z331
    obtain ⟨l0_331, rfl, Nq331, K331, c331_0, c331_1, c331_2, c331_3, c331_4, c331_5, c331_6, c331_7, c331_8, c331_9, c331_10, c331_11, c331_12, c331_13⟩ := hQ331
    have N331 := Fr.app N0 Nq331
    refine Go.tr st331 ?_
    have ne332 : b320 ≠ l0_331 := Nat.ne_of_lt (Nat.lt_of_lt_of_le A320.lt c331_0)
    have gn331_0 : n0 ≤ l0_331 := Nat.le_trans z321 c331_0
    have sz331_0 : h0.size ≤ l0_331 := Nat.le_trans sqz321 c331_0
    have z333 : n0 ≤ T331.heap.size := Nat.le_trans z321 K331.1
    have sqz333 : h0.size ≤ T331.heap.size := Nat.le_trans sqz321 K331.1
    show Go _ _ _ _ _ _ _ (T331.setTop (mkF m 28 #[.val (.int qa), .val (.int qb), .val (.int qc), .val (.int qp), .val (.int qq), .val (.int (3 : Int32)), .val (.int (2 : Int32)), .val (.int kq), .unset, .unset, .unset] [(.ref b320)]))
    refine Go.step (fun _ k => XS.astore X331.here hx rfl (hb hby at_28) rfl rfl (l' := #[.val (.int qa), .val (.int qb), .val (.int qc), .val (.int qp), .val (.int qq), .val (.int (3 : Int32)), .val (.int (2 : Int32)), .val (.int kq), .val (.ref b320), .unset, .unset]) rfl k) ?_
    show Go _ _ _ _ _ _ _ (T331.setTop (mkF m 30 #[.val (.int qa), .val (.int qb), .val (.int qc), .val (.int qp), .val (.int qq), .val (.int (3 : Int32)), .val (.int (2 : Int32)), .val (.int kq), .val (.ref b320), .unset, .unset] []))
    refine Go.step (fun _ k => XS.aload X331.here hx rfl (hb hby at_30) rfl rfl  k) ?_
    show Go _ _ _ _ _ _ _ (T331.setTop (mkF m 32 #[.val (.int qa), .val (.int qb), .val (.int qc), .val (.int qp), .val (.int qq), .val (.int (3 : Int32)), .val (.int (2 : Int32)), .val (.int kq), .val (.ref b320), .unset, .unset] [(.ref b320)]))
    obtain ⟨cq335, kq335, q335a, q335b, q335c⟩ := isOf hZ rfl c331_1
    obtain ⟨_, _, ⟨T335, L335, k335, n335⟩, -, X335, ⟨Lc335, hQ335, l335, y335, z335⟩, st335⟩ := X331.virtualBack hx (y := (⟨"com/example/tree_automata_reducer/treeautomatareducer/reduce/PairStack", "isEmpty", "()Z"⟩ : MethodName)) (z := (⟨"com/example/tree_automata_reducer/treeautomatareducer/reduce/PairStack", "isEmpty", "()Z"⟩ : MethodName)) hown (mvT hZ (hw _ (List.mem_of_getElem? (i := 41) rfl))) (mvT hZ (hw _ (List.mem_of_getElem? (i := 42) rfl))) (notFace_of_selects (args := #[]) (mvT hZ (hw _ (List.mem_of_getElem? (i := 44) rfl)))) (mvT hZ (hw _ (List.mem_of_getElem? (i := 44) rfl))) (mvT hZ (hw _ (List.mem_of_getElem? (i := 43) rfl))) (by decide) (backOf (W := 0) (rm6 l Z aZ hw [] b320 (0 : Int64) T331.heap n0 z333 c331_3) hZ (hw _ (List.mem_of_getElem? (i := 45) rfl)) (hw _ (List.mem_of_getElem? (i := 3) rfl)) (by decide) (by decide)) q335a q335c (g := (mkF m 32 #[.val (.int qa), .val (.int qb), .val (.int qc), .val (.int qp), .val (.int qq), .val (.int (3 : Int32)), .val (.int (2 : Int32)), .val (.int kq), .val (.ref b320), .unset, .unset] [(.ref b320)])) rfl (by rw [hml]; rfl) (Steps.refl _) (argsL := []) (rest := []) (lenOf pd_9 rfl) rfl (by show 2 * 0 + _ ≤ _; exact Nat.le_of_eq rfl) (hb hby at_32) (fun _ _ => ⟨rfl, rfl, (by decide : 2 + 0 ≤ _), (by decide : 10 + 0 ≤ _)⟩)
    dsimp only [Pt.U, Pt.locs, Pt.cells, Pt.slots] at X335 l335 y335 z335 st335 hQ335
    subst l335 y335 z335
    obtain ⟨rfl, Nq335, e335⟩ := hQ335
    have N335 := Fr.app N331 Nq335
    refine Go.tr st335 ?_
    show Go _ _ _ _ _ _ _ (T335.setTop (mkF m 35 #[.val (.int qa), .val (.int qb), .val (.int qc), .val (.int qp), .val (.int qq), .val (.int (3 : Int32)), .val (.int (2 : Int32)), .val (.int kq), .val (.ref b320), .unset, .unset] [(.int (if (0 : Int64) = 0 then (1 : Int32) else 0))]))
    have sv336 : (if (0 : Int64) = 0 then (1 : Int32) else 0) = (1 : Int32) := if_pos rfl
    rw [sv336]
    show Go _ _ _ _ _ _ _ (T335.setTop (mkF m 35 #[.val (.int qa), .val (.int qb), .val (.int qc), .val (.int qp), .val (.int qq), .val (.int (3 : Int32)), .val (.int (2 : Int32)), .val (.int kq), .val (.ref b320), .unset, .unset] [(.int (1 : Int32))]))
    refine Go.step (fun _ k => XS.istore X335.here hx rfl (hb hby at_35) rfl (l' := #[.val (.int qa), .val (.int qb), .val (.int qc), .val (.int qp), .val (.int qq), .val (.int (3 : Int32)), .val (.int (2 : Int32)), .val (.int kq), .val (.ref b320), .val (.int (1 : Int32)), .unset]) rfl k) ?_
    show Go _ _ _ _ _ _ _ (T335.setTop (mkF m 37 #[.val (.int qa), .val (.int qb), .val (.int qc), .val (.int qp), .val (.int qq), .val (.int (3 : Int32)), .val (.int (2 : Int32)), .val (.int kq), .val (.ref b320), .val (.int (1 : Int32)), .unset] []))
    refine Go.step (fun _ k => XS.iload X335.here hx rfl (hb hby at_37) rfl  k) ?_
    show Go _ _ _ _ _ _ _ (T335.setTop (mkF m 39 #[.val (.int qa), .val (.int qb), .val (.int qc), .val (.int qp), .val (.int qq), .val (.int (3 : Int32)), .val (.int (2 : Int32)), .val (.int kq), .val (.ref b320), .val (.int (1 : Int32)), .unset] [(.int (3 : Int32))]))
    refine Go.step (fun _ k => XS.iconst X335.here hx rfl (hb hby at_39) k) ?_
    show Go _ _ _ _ _ _ _ (T335.setTop (mkF m 40 #[.val (.int qa), .val (.int qb), .val (.int qc), .val (.int qp), .val (.int qq), .val (.int (3 : Int32)), .val (.int (2 : Int32)), .val (.int kq), .val (.ref b320), .val (.int (1 : Int32)), .unset] [(.int (1 : Int32)), (.int (3 : Int32))]))
    have hc40 : ¬ ((3 : Int32) < (1 : Int32)) := by decide
    refine Go.step (fun _ k => XS.icmpNo X335.here hx rfl (hb hby at_40) rfl (flt hc40).1 k) ?_
    show Go _ _ _ _ _ _ _ (T335.setTop (mkF m 43 #[.val (.int qa), .val (.int qb), .val (.int qc), .val (.int qp), .val (.int qq), .val (.int (3 : Int32)), .val (.int (2 : Int32)), .val (.int kq), .val (.ref b320), .val (.int (1 : Int32)), .unset] []))
    refine Go.step (fun _ k => XS.aload X335.here hx rfl (hb hby at_43) rfl rfl  k) ?_
    show Go _ _ _ _ _ _ _ (T335.setTop (mkF m 45 #[.val (.int qa), .val (.int qb), .val (.int qc), .val (.int qp), .val (.int qq), .val (.int (3 : Int32)), .val (.int (2 : Int32)), .val (.int kq), .val (.ref b320), .val (.int (1 : Int32)), .unset] [(.ref b320)]))
    refine Go.step (fun _ k => XS.iloadN X335.here hx rfl (hb hby at_45) rfl  k) ?_
    show Go _ _ _ _ _ _ _ (T335.setTop (mkF m 46 #[.val (.int qa), .val (.int qb), .val (.int qc), .val (.int qp), .val (.int qq), .val (.int (3 : Int32)), .val (.int (2 : Int32)), .val (.int kq), .val (.ref b320), .val (.int (1 : Int32)), .unset] [(.int qp), (.ref b320)]))
    refine Go.step (fun _ k => XS.iload X335.here hx rfl (hb hby at_46) rfl  k) ?_
    show Go _ _ _ _ _ _ _ (T335.setTop (mkF m 48 #[.val (.int qa), .val (.int qb), .val (.int qc), .val (.int qp), .val (.int qq), .val (.int (3 : Int32)), .val (.int (2 : Int32)), .val (.int kq), .val (.ref b320), .val (.int (1 : Int32)), .unset] [(.int qq), (.int qp), (.ref b320)]))
    have f337 : Old Z n0 T331.heap := (f330.keep K331 (allS gn320 all0))
    obtain ⟨cq338, kq338, q338a, q338b, q338c⟩ := isOf hZ e335 c331_1
    obtain ⟨_, _, ⟨T338, L338, k338, n338⟩, -, X338, ⟨Lc338, hQ338, l338, y338, z338⟩, st338⟩ := X335.virtualBack hx (y := (⟨"com/example/tree_automata_reducer/treeautomatareducer/reduce/PairStack", "push", "(II)V"⟩ : MethodName)) (z := (⟨"com/example/tree_automata_reducer/treeautomatareducer/reduce/PairStack", "push", "(II)V"⟩ : MethodName)) hown (mvT hZ (hw _ (List.mem_of_getElem? (i := 48) rfl))) (mvT hZ (hw _ (List.mem_of_getElem? (i := 49) rfl))) (notFace_of_selects (args := #[]) (mvT hZ (hw _ (List.mem_of_getElem? (i := 51) rfl)))) (mvT hZ (hw _ (List.mem_of_getElem? (i := 51) rfl))) (mvT hZ (hw _ (List.mem_of_getElem? (i := 50) rfl))) (by decide) (backOf (W := 0) (rmpA l Z aZ hw [] b320 qp qq w0 l0_331 T331.heap n0 z333 f337 S_1 A_2 c331_1 c331_2 c331_3 c331_4 c331_5 c331_6 c331_7 c331_8 c331_9 c331_10 c331_11 c331_12 c331_13 gn320 gn331_0) hZ (hw _ (List.mem_of_getElem? (i := 52) rfl)) (hw _ (List.mem_of_getElem? (i := 3) rfl)) (by decide) (by decide)) q338a q338c (g := (mkF m 48 #[.val (.int qa), .val (.int qb), .val (.int qc), .val (.int qp), .val (.int qq), .val (.int (3 : Int32)), .val (.int (2 : Int32)), .val (.int kq), .val (.ref b320), .val (.int (1 : Int32)), .unset] [(.int qq), (.int qp), (.ref b320)])) rfl (by rw [hml]; rfl) (Steps.refl _) (argsL := [(.int qp), (.int qq)]) (rest := []) (lenOf pd_10 rfl) rfl (by show 2 * 0 + _ ≤ _; exact Nat.le_of_eq rfl) (hb hby at_48) (fun _ _ => ⟨rfl, e335, (by decide : 2 + 2 ≤ _), (by decide : 10 + 32778 ≤ _)⟩)
    dsimp only [Pt.U, Pt.locs, Pt.cells, Pt.slots] at X338 l338 y338 z338 st338 hQ338
    subst l338 y338 z338
    obtain ⟨b_338, f2_338, rfl, Nq338, K338, c338_0, c338_1, c338_2, c338_3, c338_4, c338_5, c338_6, c338_7, c338_8⟩ := hQ338
    have N338 := Fr.app N335 Nq338
    refine Go.tr st338 ?_
    have ne339 : b320 ≠ b_338 := Nat.ne_of_lt (Nat.lt_of_lt_of_le c331_1.lt c338_0)
    have ne340 : l0_331 ≠ b_338 := Nat.ne_of_lt (Nat.lt_of_lt_of_le c331_9.lt c338_0)
    have gn338_0 : n0 ≤ b_338 := Nat.le_trans z333 c338_0
    have sz338_0 : h0.size ≤ b_338 := Nat.le_trans sqz333 c338_0
    have z341 : n0 ≤ T338.heap.size := Nat.le_trans z333 K338.1
    have sqz341 : h0.size ≤ T338.heap.size := Nat.le_trans sqz333 K338.1
    show Go _ _ _ _ _ _ _ (T338.setTop (mkF m 51 #[.val (.int qa), .val (.int qb), .val (.int qc), .val (.int qp), .val (.int qq), .val (.int (3 : Int32)), .val (.int (2 : Int32)), .val (.int kq), .val (.ref b320), .val (.int (1 : Int32)), .unset] []))
    refine Go.step (fun _ k => XS.iload X338.here hx rfl (hb hby at_51) rfl  k) ?_
    show Go _ _ _ _ _ _ _ (T338.setTop (mkF m 53 #[.val (.int qa), .val (.int qb), .val (.int qc), .val (.int qp), .val (.int qq), .val (.int (3 : Int32)), .val (.int (2 : Int32)), .val (.int kq), .val (.ref b320), .val (.int (1 : Int32)), .unset] [(.int (3 : Int32))]))
    refine Go.step (fun _ k => XS.iconst X338.here hx rfl (hb hby at_53) k) ?_
    show Go _ _ _ _ _ _ _ (T338.setTop (mkF m 54 #[.val (.int qa), .val (.int qb), .val (.int qc), .val (.int qp), .val (.int qq), .val (.int (3 : Int32)), .val (.int (2 : Int32)), .val (.int kq), .val (.ref b320), .val (.int (1 : Int32)), .unset] [(.int (2 : Int32)), (.int (3 : Int32))]))
    have hc54 : ¬ ((3 : Int32) < (2 : Int32)) := by decide
    refine Go.step (fun _ k => XS.icmpNo X338.here hx rfl (hb hby at_54) rfl (flt hc54).1 k) ?_
    show Go _ _ _ _ _ _ _ (T338.setTop (mkF m 57 #[.val (.int qa), .val (.int qb), .val (.int qc), .val (.int qp), .val (.int qq), .val (.int (3 : Int32)), .val (.int (2 : Int32)), .val (.int kq), .val (.ref b320), .val (.int (1 : Int32)), .unset] []))
    refine Go.step (fun _ k => XS.aload X338.here hx rfl (hb hby at_57) rfl rfl  k) ?_
    show Go _ _ _ _ _ _ _ (T338.setTop (mkF m 59 #[.val (.int qa), .val (.int qb), .val (.int qc), .val (.int qp), .val (.int qq), .val (.int (3 : Int32)), .val (.int (2 : Int32)), .val (.int kq), .val (.ref b320), .val (.int (1 : Int32)), .unset] [(.ref b320)]))
    refine Go.step (fun _ k => XS.iload X338.here hx rfl (hb hby at_59) rfl  k) ?_
    show Go _ _ _ _ _ _ _ (T338.setTop (mkF m 61 #[.val (.int qa), .val (.int qb), .val (.int qc), .val (.int qp), .val (.int qq), .val (.int (3 : Int32)), .val (.int (2 : Int32)), .val (.int kq), .val (.ref b320), .val (.int (1 : Int32)), .unset] [(.int qq), (.ref b320)]))
    refine Go.step (fun _ k => XS.iloadN X338.here hx rfl (hb hby at_61) rfl  k) ?_
    show Go _ _ _ _ _ _ _ (T338.setTop (mkF m 62 #[.val (.int qa), .val (.int qb), .val (.int qc), .val (.int qp), .val (.int qq), .val (.int (3 : Int32)), .val (.int (2 : Int32)), .val (.int kq), .val (.ref b320), .val (.int (1 : Int32)), .unset] [(.int qp), (.int qq), (.ref b320)]))
    have pq343 : ¬ (1 : Int32) = (32768 : Int32) := (by decide)
    have pq344 : ¬ (1 : Int32) < 0 := (by decide)
    have pq345 : (1 : Int32) < (32768 : Int32) := (by decide)
    obtain ⟨cq346, kq346, q346a, q346b, q346c⟩ := isOf hZ rfl c338_1
    obtain ⟨_, _, ⟨T346, L346, k346, n346⟩, -, X346, ⟨Lc346, hQ346, l346, y346, z346⟩, st346⟩ := X338.virtualBack hx (y := (⟨"com/example/tree_automata_reducer/treeautomatareducer/reduce/PairStack", "push", "(II)V"⟩ : MethodName)) (z := (⟨"com/example/tree_automata_reducer/treeautomatareducer/reduce/PairStack", "push", "(II)V"⟩ : MethodName)) hown (mvT hZ (hw _ (List.mem_of_getElem? (i := 48) rfl))) (mvT hZ (hw _ (List.mem_of_getElem? (i := 49) rfl))) (notFace_of_selects (args := #[]) (mvT hZ (hw _ (List.mem_of_getElem? (i := 51) rfl)))) (mvT hZ (hw _ (List.mem_of_getElem? (i := 51) rfl))) (mvT hZ (hw _ (List.mem_of_getElem? (i := 50) rfl))) (by decide) (backOf (W := 0) (rmpB l Z aZ hw [] b320 qq qp (1 : Int32) (1 : Int64) b_338 f2_338 (0 : Int32) (0 : Int32) T338.heap n0 z341 c338_1 c338_2 c338_3 c338_4 c338_5 c338_6 c338_7 c338_8 gn320 gn338_0 pq343 pq344 pq345) hZ (hw _ (List.mem_of_getElem? (i := 52) rfl)) (hw _ (List.mem_of_getElem? (i := 3) rfl)) (by decide) (by decide)) q346a q346c (g := (mkF m 62 #[.val (.int qa), .val (.int qb), .val (.int qc), .val (.int qp), .val (.int qq), .val (.int (3 : Int32)), .val (.int (2 : Int32)), .val (.int kq), .val (.ref b320), .val (.int (1 : Int32)), .unset] [(.int qp), (.int qq), (.ref b320)])) rfl (by rw [hml]; rfl) (Steps.refl _) (argsL := [(.int qq), (.int qp)]) (rest := []) (lenOf pd_10 rfl) rfl (by show 2 * 0 + _ ≤ _; exact Nat.le_of_eq rfl) (hb hby at_62) (fun _ _ => ⟨rfl, rfl, (by decide : 4 + 0 ≤ _), (by decide : 32788 + 0 ≤ _)⟩)
    dsimp only [Pt.U, Pt.locs, Pt.cells, Pt.slots] at X346 l346 y346 z346 st346 hQ346
    subst l346 y346 z346
    obtain ⟨f2_346, rfl, Nq346, K346, c346_0, c346_1, c346_2, c346_3, c346_4, c346_5, c346_6⟩ := hQ346
    have N346 := Fr.app N338 Nq346
    refine Go.tr st346 ?_
    have z347 : n0 ≤ T346.heap.size := Nat.le_trans z341 K346.1
    have sqz347 : h0.size ≤ T346.heap.size := Nat.le_trans sqz341 K346.1
    have c346_1f : Fld Z T346.heap b320 "com/example/tree_automata_reducer/treeautomatareducer/reduce/PairStack" "size" "J" (.long (2 : Int64)) := c346_1
    have c346_3f : Fld Z T346.heap b320 "com/example/tree_automata_reducer/treeautomatareducer/reduce/PairStack" "inBlock" "I" (.int (2 : Int32)) := c346_3
    show Go _ _ _ _ _ _ _ (T346.setTop (mkF m 65 #[.val (.int qa), .val (.int qb), .val (.int qc), .val (.int qp), .val (.int qq), .val (.int (3 : Int32)), .val (.int (2 : Int32)), .val (.int kq), .val (.ref b320), .val (.int (1 : Int32)), .unset] []))
    refine Go.step (fun _ k => XS.iload X346.here hx rfl (hb hby at_65) rfl  k) ?_
    show Go _ _ _ _ _ _ _ (T346.setTop (mkF m 67 #[.val (.int qa), .val (.int qb), .val (.int qc), .val (.int qp), .val (.int qq), .val (.int (3 : Int32)), .val (.int (2 : Int32)), .val (.int kq), .val (.ref b320), .val (.int (1 : Int32)), .unset] [(.int (3 : Int32))]))
    refine Go.step (fun _ k => XS.iconst X346.here hx rfl (hb hby at_67) k) ?_
    show Go _ _ _ _ _ _ _ (T346.setTop (mkF m 68 #[.val (.int qa), .val (.int qb), .val (.int qc), .val (.int qp), .val (.int qq), .val (.int (3 : Int32)), .val (.int (2 : Int32)), .val (.int kq), .val (.ref b320), .val (.int (1 : Int32)), .unset] [(.int (3 : Int32)), (.int (3 : Int32))]))
    have hc68 : ¬ ((3 : Int32) < (3 : Int32)) := by decide
    refine Go.step (fun _ k => XS.icmpNo X346.here hx rfl (hb hby at_68) rfl (flt hc68).1 k) ?_
    show Go _ _ _ _ _ _ _ (T346.setTop (mkF m 71 #[.val (.int qa), .val (.int qb), .val (.int qc), .val (.int qp), .val (.int qq), .val (.int (3 : Int32)), .val (.int (2 : Int32)), .val (.int kq), .val (.ref b320), .val (.int (1 : Int32)), .unset] []))
    refine Go.step (fun _ k => XS.aload X346.here hx rfl (hb hby at_71) rfl rfl  k) ?_
    show Go _ _ _ _ _ _ _ (T346.setTop (mkF m 73 #[.val (.int qa), .val (.int qb), .val (.int qc), .val (.int qp), .val (.int qq), .val (.int (3 : Int32)), .val (.int (2 : Int32)), .val (.int kq), .val (.ref b320), .val (.int (1 : Int32)), .unset] [(.ref b320)]))
    refine Go.step (fun _ k => XS.iloadN X346.here hx rfl (hb hby at_73) rfl  k) ?_
    show Go _ _ _ _ _ _ _ (T346.setTop (mkF m 74 #[.val (.int qa), .val (.int qb), .val (.int qc), .val (.int qp), .val (.int qq), .val (.int (3 : Int32)), .val (.int (2 : Int32)), .val (.int kq), .val (.ref b320), .val (.int (1 : Int32)), .unset] [(.int qp), (.ref b320)]))
    refine Go.step (fun _ k => XS.iload X346.here hx rfl (hb hby at_74) rfl  k) ?_
    show Go _ _ _ _ _ _ _ (T346.setTop (mkF m 76 #[.val (.int qa), .val (.int qb), .val (.int qc), .val (.int qp), .val (.int qq), .val (.int (3 : Int32)), .val (.int (2 : Int32)), .val (.int kq), .val (.ref b320), .val (.int (1 : Int32)), .unset] [(.int qq), (.int qp), (.ref b320)]))
    refine Go.step (fun _ k => XS.ixor X346.here hx rfl (hb hby at_76) rfl k) ?_
    show Go _ _ _ _ _ _ _ (T346.setTop (mkF m 77 #[.val (.int qa), .val (.int qb), .val (.int qc), .val (.int qp), .val (.int qq), .val (.int (3 : Int32)), .val (.int (2 : Int32)), .val (.int kq), .val (.ref b320), .val (.int (1 : Int32)), .unset] [(.int (qp ^^^ qq)), (.ref b320)]))
    refine Go.step (fun _ k => XS.iloadN X346.here hx rfl (hb hby at_77) rfl  k) ?_
    show Go _ _ _ _ _ _ _ (T346.setTop (mkF m 78 #[.val (.int qa), .val (.int qb), .val (.int qc), .val (.int qp), .val (.int qq), .val (.int (3 : Int32)), .val (.int (2 : Int32)), .val (.int kq), .val (.ref b320), .val (.int (1 : Int32)), .unset] [(.int qp), (.int (qp ^^^ qq)), (.ref b320)]))
    have pq349 : ¬ (2 : Int32) = (32768 : Int32) := (by decide)
    have pq350 : ¬ (2 : Int32) < 0 := (by decide)
    have pq351 : (2 : Int32) < (32768 : Int32) := (by decide)
    obtain ⟨cq352, kq352, q352a, q352b, q352c⟩ := isOf hZ rfl c346_0
    obtain ⟨_, _, ⟨T352, L352, k352, n352⟩, -, X352, ⟨Lc352, hQ352, l352, y352, z352⟩, st352⟩ := X346.virtualBack hx (y := (⟨"com/example/tree_automata_reducer/treeautomatareducer/reduce/PairStack", "push", "(II)V"⟩ : MethodName)) (z := (⟨"com/example/tree_automata_reducer/treeautomatareducer/reduce/PairStack", "push", "(II)V"⟩ : MethodName)) hown (mvT hZ (hw _ (List.mem_of_getElem? (i := 48) rfl))) (mvT hZ (hw _ (List.mem_of_getElem? (i := 49) rfl))) (notFace_of_selects (args := #[]) (mvT hZ (hw _ (List.mem_of_getElem? (i := 51) rfl)))) (mvT hZ (hw _ (List.mem_of_getElem? (i := 51) rfl))) (mvT hZ (hw _ (List.mem_of_getElem? (i := 50) rfl))) (by decide) (backOf (W := 0) (rmpB l Z aZ hw [] b320 (qp ^^^ qq) qp (2 : Int32) (2 : Int64) b_338 f2_346 (0 : Int32) (0 : Int32) T346.heap n0 z347 c346_0 c346_1f c346_2 c346_3f c346_4 c346_5 c346_6 c338_8 gn320 gn338_0 pq349 pq350 pq351) hZ (hw _ (List.mem_of_getElem? (i := 52) rfl)) (hw _ (List.mem_of_getElem? (i := 3) rfl)) (by decide) (by decide)) q352a q352c (g := (mkF m 78 #[.val (.int qa), .val (.int qb), .val (.int qc), .val (.int qp), .val (.int qq), .val (.int (3 : Int32)), .val (.int (2 : Int32)), .val (.int kq), .val (.ref b320), .val (.int (1 : Int32)), .unset] [(.int qp), (.int (qp ^^^ qq)), (.ref b320)])) rfl (by rw [hml]; rfl) (Steps.refl _) (argsL := [(.int (qp ^^^ qq)), (.int qp)]) (rest := []) (lenOf pd_10 rfl) rfl (by show 2 * 0 + _ ≤ _; exact Nat.le_of_eq rfl) (hb hby at_78) (fun _ _ => ⟨rfl, rfl, (by decide : 4 + 0 ≤ _), (by decide : 32788 + 0 ≤ _)⟩)
    dsimp only [Pt.U, Pt.locs, Pt.cells, Pt.slots] at X352 l352 y352 z352 st352 hQ352
    subst l352 y352 z352
    obtain ⟨f2_352, rfl, Nq352, K352, c352_0, c352_1, c352_2, c352_3, c352_4, c352_5, c352_6⟩ := hQ352
    have N352 := Fr.app N346 Nq352
    refine Go.tr st352 ?_
    have z353 : n0 ≤ T352.heap.size := Nat.le_trans z347 K352.1
    have sqz353 : h0.size ≤ T352.heap.size := Nat.le_trans sqz347 K352.1
    have c352_1f : Fld Z T352.heap b320 "com/example/tree_automata_reducer/treeautomatareducer/reduce/PairStack" "size" "J" (.long (3 : Int64)) := c352_1
    have c352_3f : Fld Z T352.heap b320 "com/example/tree_automata_reducer/treeautomatareducer/reduce/PairStack" "inBlock" "I" (.int (3 : Int32)) := c352_3
    show Go _ _ _ _ _ _ _ (T352.setTop (mkF m 81 #[.val (.int qa), .val (.int qb), .val (.int qc), .val (.int qp), .val (.int qq), .val (.int (3 : Int32)), .val (.int (2 : Int32)), .val (.int kq), .val (.ref b320), .val (.int (1 : Int32)), .unset] []))
    refine Go.step (fun _ k => XS.iload X352.here hx rfl (hb hby at_81) rfl  k) ?_
    show Go _ _ _ _ _ _ _ (T352.setTop (mkF m 83 #[.val (.int qa), .val (.int qb), .val (.int qc), .val (.int qp), .val (.int qq), .val (.int (3 : Int32)), .val (.int (2 : Int32)), .val (.int kq), .val (.ref b320), .val (.int (1 : Int32)), .unset] [(.int (2 : Int32))]))
    refine Go.step (fun _ k => XS.iconst X352.here hx rfl (hb hby at_83) k) ?_
    show Go _ _ _ _ _ _ _ (T352.setTop (mkF m 84 #[.val (.int qa), .val (.int qb), .val (.int qc), .val (.int qp), .val (.int qq), .val (.int (3 : Int32)), .val (.int (2 : Int32)), .val (.int kq), .val (.ref b320), .val (.int (1 : Int32)), .unset] [(.int (1 : Int32)), (.int (2 : Int32))]))
    have hc84 : ¬ ((2 : Int32) < (1 : Int32)) := by decide
    refine Go.step (fun _ k => XS.icmpNo X352.here hx rfl (hb hby at_84) rfl (flt hc84).1 k) ?_
    show Go _ _ _ _ _ _ _ (T352.setTop (mkF m 87 #[.val (.int qa), .val (.int qb), .val (.int qc), .val (.int qp), .val (.int qq), .val (.int (3 : Int32)), .val (.int (2 : Int32)), .val (.int kq), .val (.ref b320), .val (.int (1 : Int32)), .unset] []))
    refine Go.step (fun _ k => XS.aload X352.here hx rfl (hb hby at_87) rfl rfl  k) ?_
    show Go _ _ _ _ _ _ _ (T352.setTop (mkF m 89 #[.val (.int qa), .val (.int qb), .val (.int qc), .val (.int qp), .val (.int qq), .val (.int (3 : Int32)), .val (.int (2 : Int32)), .val (.int kq), .val (.ref b320), .val (.int (1 : Int32)), .unset] [(.ref b320)]))
    have pq355 : ¬ (3 : Int32) = 0 := (by decide)
    have pq356 : ¬ (3 : Int32) - 1 < 0 := (by decide)
    have pq357 : (3 : Int32) - 1 < (32768 : Int32) := (by decide)
    obtain ⟨cq358, kq358, q358a, q358b, q358c⟩ := isOf hZ rfl c352_0
    obtain ⟨_, _, ⟨T358, L358, k358, n358⟩, -, X358, ⟨Lc358, hQ358, l358, y358, z358⟩, st358⟩ := X352.virtualBack hx (y := (⟨"com/example/tree_automata_reducer/treeautomatareducer/reduce/PairStack", "pop", "()V"⟩ : MethodName)) (z := (⟨"com/example/tree_automata_reducer/treeautomatareducer/reduce/PairStack", "pop", "()V"⟩ : MethodName)) hown (mvT hZ (hw _ (List.mem_of_getElem? (i := 123) rfl))) (mvT hZ (hw _ (List.mem_of_getElem? (i := 124) rfl))) (notFace_of_selects (args := #[]) (mvT hZ (hw _ (List.mem_of_getElem? (i := 126) rfl)))) (mvT hZ (hw _ (List.mem_of_getElem? (i := 126) rfl))) (mvT hZ (hw _ (List.mem_of_getElem? (i := 125) rfl))) (by decide) (backOf (W := 0) (rm18 l Z aZ hw [] b320 (3 : Int32) (3 : Int64) b_338 f2_352 (0 : Int32) (0 : Int32) T352.heap n0 z353 c352_0 c352_1f c352_2 c352_3f c352_4 c352_5 c352_6 c338_8 gn320 pq355 pq356 pq357) hZ (hw _ (List.mem_of_getElem? (i := 127) rfl)) (hw _ (List.mem_of_getElem? (i := 3) rfl)) (by decide) (by decide)) q358a q358c (g := (mkF m 89 #[.val (.int qa), .val (.int qb), .val (.int qc), .val (.int qp), .val (.int qq), .val (.int (3 : Int32)), .val (.int (2 : Int32)), .val (.int kq), .val (.ref b320), .val (.int (1 : Int32)), .unset] [(.ref b320)])) rfl (by rw [hml]; rfl) (Steps.refl _) (argsL := []) (rest := []) (lenOf pd_0 rfl) rfl (by show 2 * 0 + _ ≤ _; exact Nat.le_of_eq rfl) (hb hby at_89) (fun _ _ => ⟨rfl, rfl, (by decide : 4 + 0 ≤ _), (by decide : 32788 + 0 ≤ _)⟩)
    dsimp only [Pt.U, Pt.locs, Pt.cells, Pt.slots] at X358 l358 y358 z358 st358 hQ358
    subst l358 y358 z358
    obtain ⟨t1_358, t2_358, rfl, Nq358, K358, c358_0, c358_1, c358_2, c358_3, c358_4, c358_5⟩ := hQ358
    have N358 := Fr.app N352 Nq358
    refine Go.tr st358 ?_
    have z359 : n0 ≤ T358.heap.size := Nat.le_trans z353 K358.1
    have sqz359 : h0.size ≤ T358.heap.size := Nat.le_trans sqz353 K358.1
    have c358_1f : Fld Z T358.heap b320 "com/example/tree_automata_reducer/treeautomatareducer/reduce/PairStack" "size" "J" (.long (2 : Int64)) := c358_1
    have c358_3f : Fld Z T358.heap b320 "com/example/tree_automata_reducer/treeautomatareducer/reduce/PairStack" "inBlock" "I" (.int (2 : Int32)) := c358_3
    show Go _ _ _ _ _ _ _ (T358.setTop (mkF m 92 #[.val (.int qa), .val (.int qb), .val (.int qc), .val (.int qp), .val (.int qq), .val (.int (3 : Int32)), .val (.int (2 : Int32)), .val (.int kq), .val (.ref b320), .val (.int (1 : Int32)), .unset] []))
    refine Go.step (fun _ k => XS.iload X358.here hx rfl (hb hby at_92) rfl  k) ?_
    show Go _ _ _ _ _ _ _ (T358.setTop (mkF m 94 #[.val (.int qa), .val (.int qb), .val (.int qc), .val (.int qp), .val (.int qq), .val (.int (3 : Int32)), .val (.int (2 : Int32)), .val (.int kq), .val (.ref b320), .val (.int (1 : Int32)), .unset] [(.int (2 : Int32))]))
    refine Go.step (fun _ k => XS.iconst X358.here hx rfl (hb hby at_94) k) ?_
    show Go _ _ _ _ _ _ _ (T358.setTop (mkF m 95 #[.val (.int qa), .val (.int qb), .val (.int qc), .val (.int qp), .val (.int qq), .val (.int (3 : Int32)), .val (.int (2 : Int32)), .val (.int kq), .val (.ref b320), .val (.int (1 : Int32)), .unset] [(.int (2 : Int32)), (.int (2 : Int32))]))
    have hc95 : ¬ ((2 : Int32) < (2 : Int32)) := by decide
    refine Go.step (fun _ k => XS.icmpNo X358.here hx rfl (hb hby at_95) rfl (flt hc95).1 k) ?_
    show Go _ _ _ _ _ _ _ (T358.setTop (mkF m 98 #[.val (.int qa), .val (.int qb), .val (.int qc), .val (.int qp), .val (.int qq), .val (.int (3 : Int32)), .val (.int (2 : Int32)), .val (.int kq), .val (.ref b320), .val (.int (1 : Int32)), .unset] []))
    refine Go.step (fun _ k => XS.aload X358.here hx rfl (hb hby at_98) rfl rfl  k) ?_
    show Go _ _ _ _ _ _ _ (T358.setTop (mkF m 100 #[.val (.int qa), .val (.int qb), .val (.int qc), .val (.int qp), .val (.int qq), .val (.int (3 : Int32)), .val (.int (2 : Int32)), .val (.int kq), .val (.ref b320), .val (.int (1 : Int32)), .unset] [(.ref b320)]))
    have f361 : Al Z T358.heap b_338 (32768 : Int32) f2_352 := (c352_4.keep K358 (ninS (Ne.symm c338_8) nin0))
    have pq362 : ¬ (2 : Int32) = 0 := (by decide)
    have pq363 : ¬ (2 : Int32) - 1 < 0 := (by decide)
    have pq364 : (2 : Int32) - 1 < (32768 : Int32) := (by decide)
    obtain ⟨cq365, kq365, q365a, q365b, q365c⟩ := isOf hZ rfl c358_0
    obtain ⟨_, _, ⟨T365, L365, k365, n365⟩, -, X365, ⟨Lc365, hQ365, l365, y365, z365⟩, st365⟩ := X358.virtualBack hx (y := (⟨"com/example/tree_automata_reducer/treeautomatareducer/reduce/PairStack", "pop", "()V"⟩ : MethodName)) (z := (⟨"com/example/tree_automata_reducer/treeautomatareducer/reduce/PairStack", "pop", "()V"⟩ : MethodName)) hown (mvT hZ (hw _ (List.mem_of_getElem? (i := 123) rfl))) (mvT hZ (hw _ (List.mem_of_getElem? (i := 124) rfl))) (notFace_of_selects (args := #[]) (mvT hZ (hw _ (List.mem_of_getElem? (i := 126) rfl)))) (mvT hZ (hw _ (List.mem_of_getElem? (i := 126) rfl))) (mvT hZ (hw _ (List.mem_of_getElem? (i := 125) rfl))) (by decide) (backOf (W := 0) (rm18 l Z aZ hw [] b320 (2 : Int32) (2 : Int64) b_338 f2_352 t1_358 t2_358 T358.heap n0 z359 c358_0 c358_1f c358_2 c358_3f f361 c358_4 c358_5 c338_8 gn320 pq362 pq363 pq364) hZ (hw _ (List.mem_of_getElem? (i := 127) rfl)) (hw _ (List.mem_of_getElem? (i := 3) rfl)) (by decide) (by decide)) q365a q365c (g := (mkF m 100 #[.val (.int qa), .val (.int qb), .val (.int qc), .val (.int qp), .val (.int qq), .val (.int (3 : Int32)), .val (.int (2 : Int32)), .val (.int kq), .val (.ref b320), .val (.int (1 : Int32)), .unset] [(.ref b320)])) rfl (by rw [hml]; rfl) (Steps.refl _) (argsL := []) (rest := []) (lenOf pd_0 rfl) rfl (by show 2 * 0 + _ ≤ _; exact Nat.le_of_eq rfl) (hb hby at_100) (fun _ _ => ⟨rfl, rfl, (by decide : 4 + 0 ≤ _), (by decide : 32788 + 0 ≤ _)⟩)
    dsimp only [Pt.U, Pt.locs, Pt.cells, Pt.slots] at X365 l365 y365 z365 st365 hQ365
    subst l365 y365 z365
    obtain ⟨t1_365, t2_365, rfl, Nq365, K365, c365_0, c365_1, c365_2, c365_3, c365_4, c365_5⟩ := hQ365
    have N365 := Fr.app N358 Nq365
    refine Go.tr st365 ?_
    have z366 : n0 ≤ T365.heap.size := Nat.le_trans z359 K365.1
    have sqz366 : h0.size ≤ T365.heap.size := Nat.le_trans sqz359 K365.1
    have c365_1f : Fld Z T365.heap b320 "com/example/tree_automata_reducer/treeautomatareducer/reduce/PairStack" "size" "J" (.long (1 : Int64)) := c365_1
    have c365_3f : Fld Z T365.heap b320 "com/example/tree_automata_reducer/treeautomatareducer/reduce/PairStack" "inBlock" "I" (.int (1 : Int32)) := c365_3
    show Go _ _ _ _ _ _ _ (T365.setTop (mkF m 103 #[.val (.int qa), .val (.int qb), .val (.int qc), .val (.int qp), .val (.int qq), .val (.int (3 : Int32)), .val (.int (2 : Int32)), .val (.int kq), .val (.ref b320), .val (.int (1 : Int32)), .unset] []))
    refine Go.step (fun _ k => XS.iload X365.here hx rfl (hb hby at_103) rfl  k) ?_
    show Go _ _ _ _ _ _ _ (T365.setTop (mkF m 105 #[.val (.int qa), .val (.int qb), .val (.int qc), .val (.int qp), .val (.int qq), .val (.int (3 : Int32)), .val (.int (2 : Int32)), .val (.int kq), .val (.ref b320), .val (.int (1 : Int32)), .unset] [(.int (2 : Int32))]))
    refine Go.step (fun _ k => XS.iconst X365.here hx rfl (hb hby at_105) k) ?_
    show Go _ _ _ _ _ _ _ (T365.setTop (mkF m 106 #[.val (.int qa), .val (.int qb), .val (.int qc), .val (.int qp), .val (.int qq), .val (.int (3 : Int32)), .val (.int (2 : Int32)), .val (.int kq), .val (.ref b320), .val (.int (1 : Int32)), .unset] [(.int (3 : Int32)), (.int (2 : Int32))]))
    have hc106 : (2 : Int32) < (3 : Int32) := by decide
    refine Go.step (fun _ k => XS.icmpYes X365.here hx rfl (pc0 := 106) (pc' := 114) rfl (hb hby at_106) rfl (tlt hc106).1 (by decide) (by decide) k) ?_
    rcases hkq with h1 | h1
    · skip
      subst h1
      show Go _ _ _ _ _ _ _ (T365.setTop (mkF m 114 #[.val (.int qa), .val (.int qb), .val (.int qc), .val (.int qp), .val (.int qq), .val (.int (3 : Int32)), .val (.int (2 : Int32)), .val (.int (0 : Int32)), .val (.ref b320), .val (.int (1 : Int32)), .unset] []))
      refine Go.step (fun _ k => XS.iload X365.here hx rfl (hb hby at_114) rfl  k) ?_
      show Go _ _ _ _ _ _ _ (T365.setTop (mkF m 116 #[.val (.int qa), .val (.int qb), .val (.int qc), .val (.int qp), .val (.int qq), .val (.int (3 : Int32)), .val (.int (2 : Int32)), .val (.int (0 : Int32)), .val (.ref b320), .val (.int (1 : Int32)), .unset] [(.int (0 : Int32))]))
      refine Go.step (fun _ k => XS.iconst X365.here hx rfl (hb hby at_116) k) ?_
      show Go _ _ _ _ _ _ _ (T365.setTop (mkF m 117 #[.val (.int qa), .val (.int qb), .val (.int qc), .val (.int qp), .val (.int qq), .val (.int (3 : Int32)), .val (.int (2 : Int32)), .val (.int (0 : Int32)), .val (.ref b320), .val (.int (1 : Int32)), .unset] [(.int (1 : Int32)), (.int (0 : Int32))]))
      have hc117 : ¬ ((0 : Int32) = (1 : Int32)) := by decide
      refine Go.step (fun _ k => XS.icmpYes X365.here hx rfl (pc0 := 117) (pc' := 129) rfl (hb hby at_117) rfl (feq hc117).2 (by decide) (by decide) k) ?_
      show Go _ _ _ _ _ _ _ (T365.setTop (mkF m 129 #[.val (.int qa), .val (.int qb), .val (.int qc), .val (.int qp), .val (.int qq), .val (.int (3 : Int32)), .val (.int (2 : Int32)), .val (.int (0 : Int32)), .val (.ref b320), .val (.int (1 : Int32)), .unset] []))
      refine Go.step (fun _ k => XS.iload X365.here hx rfl (hb hby at_129) rfl  k) ?_
      show Go _ _ _ _ _ _ _ (T365.setTop (mkF m 131 #[.val (.int qa), .val (.int qb), .val (.int qc), .val (.int qp), .val (.int qq), .val (.int (3 : Int32)), .val (.int (2 : Int32)), .val (.int (0 : Int32)), .val (.ref b320), .val (.int (1 : Int32)), .unset] [(.int (3 : Int32))]))
      refine Go.step (fun _ k => XS.iload X365.here hx rfl (hb hby at_131) rfl  k) ?_
      show Go _ _ _ _ _ _ _ (T365.setTop (mkF m 133 #[.val (.int qa), .val (.int qb), .val (.int qc), .val (.int qp), .val (.int qq), .val (.int (3 : Int32)), .val (.int (2 : Int32)), .val (.int (0 : Int32)), .val (.ref b320), .val (.int (1 : Int32)), .unset] [(.int (2 : Int32)), (.int (3 : Int32))]))
      refine Go.step (fun _ k => XS.isub X365.here hx rfl (hb hby at_133) rfl k) ?_
      show Go _ _ _ _ _ _ _ (T365.setTop (mkF m 134 #[.val (.int qa), .val (.int qb), .val (.int qc), .val (.int qp), .val (.int qq), .val (.int (3 : Int32)), .val (.int (2 : Int32)), .val (.int (0 : Int32)), .val (.ref b320), .val (.int (1 : Int32)), .unset] [(.int (1 : Int32))]))
      refine Go.step (fun _ k => XS.iload X365.here hx rfl (hb hby at_134) rfl  k) ?_
      show Go _ _ _ _ _ _ _ (T365.setTop (mkF m 136 #[.val (.int qa), .val (.int qb), .val (.int qc), .val (.int qp), .val (.int qq), .val (.int (3 : Int32)), .val (.int (2 : Int32)), .val (.int (0 : Int32)), .val (.ref b320), .val (.int (1 : Int32)), .unset] [(.int (0 : Int32)), (.int (1 : Int32))]))
      refine Go.step (fun _ k => XS.iadd X365.here hx rfl (hb hby at_136) rfl k) ?_
      show Go _ _ _ _ _ _ _ (T365.setTop (mkF m 137 #[.val (.int qa), .val (.int qb), .val (.int qc), .val (.int qp), .val (.int qq), .val (.int (3 : Int32)), .val (.int (2 : Int32)), .val (.int (0 : Int32)), .val (.ref b320), .val (.int (1 : Int32)), .unset] [(.int (1 : Int32))]))
      have hc137 : ¬ ((1 : Int32) = (0 : Int32)) := by decide
      refine Go.step (fun _ k => XS.ifYes X365.here hx rfl (pc0 := 137) (pc' := 144) rfl (hb hby at_137) rfl ((if0 _ _).trans (feq hc137).2) (by decide) (by decide) k) ?_
      show Go _ _ _ _ _ _ _ (T365.setTop (mkF m 144 #[.val (.int qa), .val (.int qb), .val (.int qc), .val (.int qp), .val (.int qq), .val (.int (3 : Int32)), .val (.int (2 : Int32)), .val (.int (0 : Int32)), .val (.ref b320), .val (.int (1 : Int32)), .unset] []))
      refine Go.step (fun _ k => XS.iconst X365.here hx rfl (hb hby at_144) k) ?_
      show Go _ _ _ _ _ _ _ (T365.setTop (mkF m 145 #[.val (.int qa), .val (.int qb), .val (.int qc), .val (.int qp), .val (.int qq), .val (.int (3 : Int32)), .val (.int (2 : Int32)), .val (.int (0 : Int32)), .val (.ref b320), .val (.int (1 : Int32)), .unset] [(.int (0 : Int32))]))
      refine Go.step (fun _ k => XS.istore X365.here hx rfl (hb hby at_145) rfl (l' := #[.val (.int qa), .val (.int qb), .val (.int qc), .val (.int qp), .val (.int qq), .val (.int (3 : Int32)), .val (.int (2 : Int32)), .val (.int (0 : Int32)), .val (.ref b320), .val (.int (1 : Int32)), .val (.int (0 : Int32))]) rfl k) ?_
      show Go _ _ _ _ _ _ _ (T365.setTop (mkF m 147 #[.val (.int qa), .val (.int qb), .val (.int qc), .val (.int qp), .val (.int qq), .val (.int (3 : Int32)), .val (.int (2 : Int32)), .val (.int (0 : Int32)), .val (.ref b320), .val (.int (1 : Int32)), .val (.int (0 : Int32))] []))
      refine Go.step (fun _ k => XS.iload X365.here hx rfl (hb hby at_147) rfl  k) ?_
      show Go _ _ _ _ _ _ _ (T365.setTop (mkF m 149 #[.val (.int qa), .val (.int qb), .val (.int qc), .val (.int qp), .val (.int qq), .val (.int (3 : Int32)), .val (.int (2 : Int32)), .val (.int (0 : Int32)), .val (.ref b320), .val (.int (1 : Int32)), .val (.int (0 : Int32))] [(.int (1 : Int32))]))
      have hc149 : ¬ ((1 : Int32) = (0 : Int32)) := hc137
      refine Go.step (fun _ k => XS.ifNo X365.here hx rfl (hb hby at_149) rfl ((if0 _ _).trans (feq hc149).1) k) ?_
      show Go _ _ _ _ _ _ _ (T365.setTop (mkF m 152 #[.val (.int qa), .val (.int qb), .val (.int qc), .val (.int qp), .val (.int qq), .val (.int (3 : Int32)), .val (.int (2 : Int32)), .val (.int (0 : Int32)), .val (.ref b320), .val (.int (1 : Int32)), .val (.int (0 : Int32))] []))
      refine Go.step (fun _ k => XS.aload X365.here hx rfl (hb hby at_152) rfl rfl  k) ?_
      show Go _ _ _ _ _ _ _ (T365.setTop (mkF m 154 #[.val (.int qa), .val (.int qb), .val (.int qc), .val (.int qp), .val (.int qq), .val (.int (3 : Int32)), .val (.int (2 : Int32)), .val (.int (0 : Int32)), .val (.ref b320), .val (.int (1 : Int32)), .val (.int (0 : Int32))] [(.ref b320)]))
      obtain ⟨cq368, kq368, q368a, q368b, q368c⟩ := isOf hZ rfl c365_0
      obtain ⟨_, _, ⟨T368, L368, k368, n368⟩, -, X368, ⟨Lc368, hQ368, l368, y368, z368⟩, st368⟩ := X365.virtualBack hx (y := (⟨"com/example/tree_automata_reducer/treeautomatareducer/reduce/PairStack", "isEmpty", "()Z"⟩ : MethodName)) (z := (⟨"com/example/tree_automata_reducer/treeautomatareducer/reduce/PairStack", "isEmpty", "()Z"⟩ : MethodName)) hown (mvT hZ (hw _ (List.mem_of_getElem? (i := 41) rfl))) (mvT hZ (hw _ (List.mem_of_getElem? (i := 42) rfl))) (notFace_of_selects (args := #[]) (mvT hZ (hw _ (List.mem_of_getElem? (i := 44) rfl)))) (mvT hZ (hw _ (List.mem_of_getElem? (i := 44) rfl))) (mvT hZ (hw _ (List.mem_of_getElem? (i := 43) rfl))) (by decide) (backOf (W := 0) (rm6 l Z aZ hw [] b320 (1 : Int64) T365.heap n0 z366 c365_1f) hZ (hw _ (List.mem_of_getElem? (i := 45) rfl)) (hw _ (List.mem_of_getElem? (i := 3) rfl)) (by decide) (by decide)) q368a q368c (g := (mkF m 154 #[.val (.int qa), .val (.int qb), .val (.int qc), .val (.int qp), .val (.int qq), .val (.int (3 : Int32)), .val (.int (2 : Int32)), .val (.int (0 : Int32)), .val (.ref b320), .val (.int (1 : Int32)), .val (.int (0 : Int32))] [(.ref b320)])) rfl (by rw [hml]; rfl) (Steps.refl _) (argsL := []) (rest := []) (lenOf pd_9 rfl) rfl (by show 2 * 0 + _ ≤ _; exact Nat.le_of_eq rfl) (hb hby at_154) (fun _ _ => ⟨rfl, rfl, (by decide : 4 + 0 ≤ _), (by decide : 32788 + 0 ≤ _)⟩)
      dsimp only [Pt.U, Pt.locs, Pt.cells, Pt.slots] at X368 l368 y368 z368 st368 hQ368
      subst l368 y368 z368
      obtain ⟨rfl, Nq368, e368⟩ := hQ368
      have N368 := Fr.app N365 Nq368
      refine Go.tr st368 ?_
      show Go _ _ _ _ _ _ _ (T368.setTop (mkF m 157 #[.val (.int qa), .val (.int qb), .val (.int qc), .val (.int qp), .val (.int qq), .val (.int (3 : Int32)), .val (.int (2 : Int32)), .val (.int (0 : Int32)), .val (.ref b320), .val (.int (1 : Int32)), .val (.int (0 : Int32))] [(.int (if (1 : Int64) = 0 then (1 : Int32) else 0))]))
      refine Go.step (fun _ k => XS.iload X368.here hx rfl (hb hby at_157) rfl  k) ?_
      show Go _ _ _ _ _ _ _ (T368.setTop (mkF m 159 #[.val (.int qa), .val (.int qb), .val (.int qc), .val (.int qp), .val (.int qq), .val (.int (3 : Int32)), .val (.int (2 : Int32)), .val (.int (0 : Int32)), .val (.ref b320), .val (.int (1 : Int32)), .val (.int (0 : Int32))] [(.int (0 : Int32)), (.int (if (1 : Int64) = 0 then (1 : Int32) else 0))]))
      have hc159 : (if (1 : Int64) = 0 then (1 : Int32) else 0) = (0 : Int32) := by decide
      refine Go.step (fun _ k => XS.icmpNo X368.here hx rfl (hb hby at_159) rfl (teq hc159).2 k) ?_
      show Go _ _ _ _ _ _ _ (T368.setTop (mkF m 162 #[.val (.int qa), .val (.int qb), .val (.int qc), .val (.int qp), .val (.int qq), .val (.int (3 : Int32)), .val (.int (2 : Int32)), .val (.int (0 : Int32)), .val (.ref b320), .val (.int (1 : Int32)), .val (.int (0 : Int32))] []))
      refine Go.step (fun _ k => XS.iconst X368.here hx rfl (hb hby at_162) k) ?_
      show Go _ _ _ _ _ _ _ (T368.setTop (mkF m 163 #[.val (.int qa), .val (.int qb), .val (.int qc), .val (.int qp), .val (.int qq), .val (.int (3 : Int32)), .val (.int (2 : Int32)), .val (.int (0 : Int32)), .val (.ref b320), .val (.int (1 : Int32)), .val (.int (0 : Int32))] [(.int (1 : Int32))]))
      refine Go.step (fun _ k => XS.goto X368.here hx rfl (pc0 := 163) (pc' := 167) rfl (hb hby at_163) (by decide) (by decide) k) ?_
      show Go _ _ _ _ _ _ _ (T368.setTop (mkF m 167 #[.val (.int qa), .val (.int qb), .val (.int qc), .val (.int qp), .val (.int qq), .val (.int (3 : Int32)), .val (.int (2 : Int32)), .val (.int (0 : Int32)), .val (.ref b320), .val (.int (1 : Int32)), .val (.int (0 : Int32))] [(.int (1 : Int32))]))
      refine Go.retN X368 hx (t := .boolean) Bd.returns (by simp) hlk (hb hby at_167) ?_ (by decide) (by decide)
      rw [e368]
      exact ⟨(by first | rfl | (simp_all [own_nb1, own_nb0]; done)), N368⟩
    · skip
      subst h1
      show Go _ _ _ _ _ _ _ (T365.setTop (mkF m 114 #[.val (.int qa), .val (.int qb), .val (.int qc), .val (.int qp), .val (.int qq), .val (.int (3 : Int32)), .val (.int (2 : Int32)), .val (.int (1 : Int32)), .val (.ref b320), .val (.int (1 : Int32)), .unset] []))
      refine Go.step (fun _ k => XS.iload X365.here hx rfl (hb hby at_114) rfl  k) ?_
      show Go _ _ _ _ _ _ _ (T365.setTop (mkF m 116 #[.val (.int qa), .val (.int qb), .val (.int qc), .val (.int qp), .val (.int qq), .val (.int (3 : Int32)), .val (.int (2 : Int32)), .val (.int (1 : Int32)), .val (.ref b320), .val (.int (1 : Int32)), .unset] [(.int (1 : Int32))]))
      refine Go.step (fun _ k => XS.iconst X365.here hx rfl (hb hby at_116) k) ?_
      show Go _ _ _ _ _ _ _ (T365.setTop (mkF m 117 #[.val (.int qa), .val (.int qb), .val (.int qc), .val (.int qp), .val (.int qq), .val (.int (3 : Int32)), .val (.int (2 : Int32)), .val (.int (1 : Int32)), .val (.ref b320), .val (.int (1 : Int32)), .unset] [(.int (1 : Int32)), (.int (1 : Int32))]))
      have hc117 : (1 : Int32) = (1 : Int32) := by decide
      refine Go.step (fun _ k => XS.icmpNo X365.here hx rfl (hb hby at_117) rfl (teq hc117).2 k) ?_
      show Go _ _ _ _ _ _ _ (T365.setTop (mkF m 120 #[.val (.int qa), .val (.int qb), .val (.int qc), .val (.int qp), .val (.int qq), .val (.int (3 : Int32)), .val (.int (2 : Int32)), .val (.int (1 : Int32)), .val (.ref b320), .val (.int (1 : Int32)), .unset] []))
      refine Go.step (fun _ k => XS.aload X365.here hx rfl (hb hby at_120) rfl rfl  k) ?_
      show Go _ _ _ _ _ _ _ (T365.setTop (mkF m 122 #[.val (.int qa), .val (.int qb), .val (.int qc), .val (.int qp), .val (.int qq), .val (.int (3 : Int32)), .val (.int (2 : Int32)), .val (.int (1 : Int32)), .val (.ref b320), .val (.int (1 : Int32)), .unset] [(.ref b320)]))
      refine Go.step (fun _ k => XS.iload X365.here hx rfl (hb hby at_122) rfl  k) ?_
      show Go _ _ _ _ _ _ _ (T365.setTop (mkF m 124 #[.val (.int qa), .val (.int qb), .val (.int qc), .val (.int qp), .val (.int qq), .val (.int (3 : Int32)), .val (.int (2 : Int32)), .val (.int (1 : Int32)), .val (.ref b320), .val (.int (1 : Int32)), .unset] [(.int qq), (.ref b320)]))
      refine Go.step (fun _ k => XS.iload X365.here hx rfl (hb hby at_124) rfl  k) ?_
      show Go _ _ _ _ _ _ _ (T365.setTop (mkF m 126 #[.val (.int qa), .val (.int qb), .val (.int qc), .val (.int qp), .val (.int qq), .val (.int (3 : Int32)), .val (.int (2 : Int32)), .val (.int (1 : Int32)), .val (.ref b320), .val (.int (1 : Int32)), .unset] [(.int qq), (.int qq), (.ref b320)]))
      have f369 : Al Z T365.heap b_338 (32768 : Int32) f2_352 := (f361.keep K365 (ninS (Ne.symm c338_8) nin0))
      have pq370 : ¬ (1 : Int32) = (32768 : Int32) := (by decide)
      have pq371 : ¬ (1 : Int32) < 0 := (by decide)
      have pq372 : (1 : Int32) < (32768 : Int32) := (by decide)
      obtain ⟨cq373, kq373, q373a, q373b, q373c⟩ := isOf hZ rfl c365_0
      obtain ⟨_, _, ⟨T373, L373, k373, n373⟩, -, X373, ⟨Lc373, hQ373, l373, y373, z373⟩, st373⟩ := X365.virtualBack hx (y := (⟨"com/example/tree_automata_reducer/treeautomatareducer/reduce/PairStack", "push", "(II)V"⟩ : MethodName)) (z := (⟨"com/example/tree_automata_reducer/treeautomatareducer/reduce/PairStack", "push", "(II)V"⟩ : MethodName)) hown (mvT hZ (hw _ (List.mem_of_getElem? (i := 48) rfl))) (mvT hZ (hw _ (List.mem_of_getElem? (i := 49) rfl))) (notFace_of_selects (args := #[]) (mvT hZ (hw _ (List.mem_of_getElem? (i := 51) rfl)))) (mvT hZ (hw _ (List.mem_of_getElem? (i := 51) rfl))) (mvT hZ (hw _ (List.mem_of_getElem? (i := 50) rfl))) (by decide) (backOf (W := 0) (rmpB l Z aZ hw [] b320 qq qq (1 : Int32) (1 : Int64) b_338 f2_352 t1_365 t2_365 T365.heap n0 z366 c365_0 c365_1f c365_2 c365_3f f369 c365_4 c365_5 c338_8 gn320 gn338_0 pq370 pq371 pq372) hZ (hw _ (List.mem_of_getElem? (i := 52) rfl)) (hw _ (List.mem_of_getElem? (i := 3) rfl)) (by decide) (by decide)) q373a q373c (g := (mkF m 126 #[.val (.int qa), .val (.int qb), .val (.int qc), .val (.int qp), .val (.int qq), .val (.int (3 : Int32)), .val (.int (2 : Int32)), .val (.int (1 : Int32)), .val (.ref b320), .val (.int (1 : Int32)), .unset] [(.int qq), (.int qq), (.ref b320)])) rfl (by rw [hml]; rfl) (Steps.refl _) (argsL := [(.int qq), (.int qq)]) (rest := []) (lenOf pd_10 rfl) rfl (by show 2 * 0 + _ ≤ _; exact Nat.le_of_eq rfl) (hb hby at_126) (fun _ _ => ⟨rfl, rfl, (by decide : 4 + 0 ≤ _), (by decide : 32788 + 0 ≤ _)⟩)
      dsimp only [Pt.U, Pt.locs, Pt.cells, Pt.slots] at X373 l373 y373 z373 st373 hQ373
      subst l373 y373 z373
      obtain ⟨f2_373, rfl, Nq373, K373, c373_0, c373_1, c373_2, c373_3, c373_4, c373_5, c373_6⟩ := hQ373
      have N373 := Fr.app N365 Nq373
      refine Go.tr st373 ?_
      have z374 : n0 ≤ T373.heap.size := Nat.le_trans z366 K373.1
      have sqz374 : h0.size ≤ T373.heap.size := Nat.le_trans sqz366 K373.1
      have c373_1f : Fld Z T373.heap b320 "com/example/tree_automata_reducer/treeautomatareducer/reduce/PairStack" "size" "J" (.long (2 : Int64)) := c373_1
      have c373_3f : Fld Z T373.heap b320 "com/example/tree_automata_reducer/treeautomatareducer/reduce/PairStack" "inBlock" "I" (.int (2 : Int32)) := c373_3
      show Go _ _ _ _ _ _ _ (T373.setTop (mkF m 129 #[.val (.int qa), .val (.int qb), .val (.int qc), .val (.int qp), .val (.int qq), .val (.int (3 : Int32)), .val (.int (2 : Int32)), .val (.int (1 : Int32)), .val (.ref b320), .val (.int (1 : Int32)), .unset] []))
      refine Go.step (fun _ k => XS.iload X373.here hx rfl (hb hby at_129) rfl  k) ?_
      show Go _ _ _ _ _ _ _ (T373.setTop (mkF m 131 #[.val (.int qa), .val (.int qb), .val (.int qc), .val (.int qp), .val (.int qq), .val (.int (3 : Int32)), .val (.int (2 : Int32)), .val (.int (1 : Int32)), .val (.ref b320), .val (.int (1 : Int32)), .unset] [(.int (3 : Int32))]))
      refine Go.step (fun _ k => XS.iload X373.here hx rfl (hb hby at_131) rfl  k) ?_
      show Go _ _ _ _ _ _ _ (T373.setTop (mkF m 133 #[.val (.int qa), .val (.int qb), .val (.int qc), .val (.int qp), .val (.int qq), .val (.int (3 : Int32)), .val (.int (2 : Int32)), .val (.int (1 : Int32)), .val (.ref b320), .val (.int (1 : Int32)), .unset] [(.int (2 : Int32)), (.int (3 : Int32))]))
      refine Go.step (fun _ k => XS.isub X373.here hx rfl (hb hby at_133) rfl k) ?_
      show Go _ _ _ _ _ _ _ (T373.setTop (mkF m 134 #[.val (.int qa), .val (.int qb), .val (.int qc), .val (.int qp), .val (.int qq), .val (.int (3 : Int32)), .val (.int (2 : Int32)), .val (.int (1 : Int32)), .val (.ref b320), .val (.int (1 : Int32)), .unset] [(.int (1 : Int32))]))
      refine Go.step (fun _ k => XS.iload X373.here hx rfl (hb hby at_134) rfl  k) ?_
      show Go _ _ _ _ _ _ _ (T373.setTop (mkF m 136 #[.val (.int qa), .val (.int qb), .val (.int qc), .val (.int qp), .val (.int qq), .val (.int (3 : Int32)), .val (.int (2 : Int32)), .val (.int (1 : Int32)), .val (.ref b320), .val (.int (1 : Int32)), .unset] [(.int (1 : Int32)), (.int (1 : Int32))]))
      refine Go.step (fun _ k => XS.iadd X373.here hx rfl (hb hby at_136) rfl k) ?_
      show Go _ _ _ _ _ _ _ (T373.setTop (mkF m 137 #[.val (.int qa), .val (.int qb), .val (.int qc), .val (.int qp), .val (.int qq), .val (.int (3 : Int32)), .val (.int (2 : Int32)), .val (.int (1 : Int32)), .val (.ref b320), .val (.int (1 : Int32)), .unset] [(.int (2 : Int32))]))
      have hc137 : ¬ ((2 : Int32) = (0 : Int32)) := by decide
      refine Go.step (fun _ k => XS.ifYes X373.here hx rfl (pc0 := 137) (pc' := 144) rfl (hb hby at_137) rfl ((if0 _ _).trans (feq hc137).2) (by decide) (by decide) k) ?_
      show Go _ _ _ _ _ _ _ (T373.setTop (mkF m 144 #[.val (.int qa), .val (.int qb), .val (.int qc), .val (.int qp), .val (.int qq), .val (.int (3 : Int32)), .val (.int (2 : Int32)), .val (.int (1 : Int32)), .val (.ref b320), .val (.int (1 : Int32)), .unset] []))
      refine Go.step (fun _ k => XS.iconst X373.here hx rfl (hb hby at_144) k) ?_
      show Go _ _ _ _ _ _ _ (T373.setTop (mkF m 145 #[.val (.int qa), .val (.int qb), .val (.int qc), .val (.int qp), .val (.int qq), .val (.int (3 : Int32)), .val (.int (2 : Int32)), .val (.int (1 : Int32)), .val (.ref b320), .val (.int (1 : Int32)), .unset] [(.int (0 : Int32))]))
      refine Go.step (fun _ k => XS.istore X373.here hx rfl (hb hby at_145) rfl (l' := #[.val (.int qa), .val (.int qb), .val (.int qc), .val (.int qp), .val (.int qq), .val (.int (3 : Int32)), .val (.int (2 : Int32)), .val (.int (1 : Int32)), .val (.ref b320), .val (.int (1 : Int32)), .val (.int (0 : Int32))]) rfl k) ?_
      show Go _ _ _ _ _ _ _ (T373.setTop (mkF m 147 #[.val (.int qa), .val (.int qb), .val (.int qc), .val (.int qp), .val (.int qq), .val (.int (3 : Int32)), .val (.int (2 : Int32)), .val (.int (1 : Int32)), .val (.ref b320), .val (.int (1 : Int32)), .val (.int (0 : Int32))] []))
      refine Go.step (fun _ k => XS.iload X373.here hx rfl (hb hby at_147) rfl  k) ?_
      show Go _ _ _ _ _ _ _ (T373.setTop (mkF m 149 #[.val (.int qa), .val (.int qb), .val (.int qc), .val (.int qp), .val (.int qq), .val (.int (3 : Int32)), .val (.int (2 : Int32)), .val (.int (1 : Int32)), .val (.ref b320), .val (.int (1 : Int32)), .val (.int (0 : Int32))] [(.int (1 : Int32))]))
      have hc149 : ¬ ((1 : Int32) = (0 : Int32)) := by decide
      refine Go.step (fun _ k => XS.ifNo X373.here hx rfl (hb hby at_149) rfl ((if0 _ _).trans (feq hc149).1) k) ?_
      show Go _ _ _ _ _ _ _ (T373.setTop (mkF m 152 #[.val (.int qa), .val (.int qb), .val (.int qc), .val (.int qp), .val (.int qq), .val (.int (3 : Int32)), .val (.int (2 : Int32)), .val (.int (1 : Int32)), .val (.ref b320), .val (.int (1 : Int32)), .val (.int (0 : Int32))] []))
      refine Go.step (fun _ k => XS.aload X373.here hx rfl (hb hby at_152) rfl rfl  k) ?_
      show Go _ _ _ _ _ _ _ (T373.setTop (mkF m 154 #[.val (.int qa), .val (.int qb), .val (.int qc), .val (.int qp), .val (.int qq), .val (.int (3 : Int32)), .val (.int (2 : Int32)), .val (.int (1 : Int32)), .val (.ref b320), .val (.int (1 : Int32)), .val (.int (0 : Int32))] [(.ref b320)]))
      obtain ⟨cq376, kq376, q376a, q376b, q376c⟩ := isOf hZ rfl c373_0
      obtain ⟨_, _, ⟨T376, L376, k376, n376⟩, -, X376, ⟨Lc376, hQ376, l376, y376, z376⟩, st376⟩ := X373.virtualBack hx (y := (⟨"com/example/tree_automata_reducer/treeautomatareducer/reduce/PairStack", "isEmpty", "()Z"⟩ : MethodName)) (z := (⟨"com/example/tree_automata_reducer/treeautomatareducer/reduce/PairStack", "isEmpty", "()Z"⟩ : MethodName)) hown (mvT hZ (hw _ (List.mem_of_getElem? (i := 41) rfl))) (mvT hZ (hw _ (List.mem_of_getElem? (i := 42) rfl))) (notFace_of_selects (args := #[]) (mvT hZ (hw _ (List.mem_of_getElem? (i := 44) rfl)))) (mvT hZ (hw _ (List.mem_of_getElem? (i := 44) rfl))) (mvT hZ (hw _ (List.mem_of_getElem? (i := 43) rfl))) (by decide) (backOf (W := 0) (rm6 l Z aZ hw [] b320 (2 : Int64) T373.heap n0 z374 c373_1f) hZ (hw _ (List.mem_of_getElem? (i := 45) rfl)) (hw _ (List.mem_of_getElem? (i := 3) rfl)) (by decide) (by decide)) q376a q376c (g := (mkF m 154 #[.val (.int qa), .val (.int qb), .val (.int qc), .val (.int qp), .val (.int qq), .val (.int (3 : Int32)), .val (.int (2 : Int32)), .val (.int (1 : Int32)), .val (.ref b320), .val (.int (1 : Int32)), .val (.int (0 : Int32))] [(.ref b320)])) rfl (by rw [hml]; rfl) (Steps.refl _) (argsL := []) (rest := []) (lenOf pd_9 rfl) rfl (by show 2 * 0 + _ ≤ _; exact Nat.le_of_eq rfl) (hb hby at_154) (fun _ _ => ⟨rfl, rfl, (by decide : 4 + 0 ≤ _), (by decide : 32788 + 0 ≤ _)⟩)
      dsimp only [Pt.U, Pt.locs, Pt.cells, Pt.slots] at X376 l376 y376 z376 st376 hQ376
      subst l376 y376 z376
      obtain ⟨rfl, Nq376, e376⟩ := hQ376
      have N376 := Fr.app N373 Nq376
      refine Go.tr st376 ?_
      show Go _ _ _ _ _ _ _ (T376.setTop (mkF m 157 #[.val (.int qa), .val (.int qb), .val (.int qc), .val (.int qp), .val (.int qq), .val (.int (3 : Int32)), .val (.int (2 : Int32)), .val (.int (1 : Int32)), .val (.ref b320), .val (.int (1 : Int32)), .val (.int (0 : Int32))] [(.int (if (2 : Int64) = 0 then (1 : Int32) else 0))]))
      refine Go.step (fun _ k => XS.iload X376.here hx rfl (hb hby at_157) rfl  k) ?_
      show Go _ _ _ _ _ _ _ (T376.setTop (mkF m 159 #[.val (.int qa), .val (.int qb), .val (.int qc), .val (.int qp), .val (.int qq), .val (.int (3 : Int32)), .val (.int (2 : Int32)), .val (.int (1 : Int32)), .val (.ref b320), .val (.int (1 : Int32)), .val (.int (0 : Int32))] [(.int (0 : Int32)), (.int (if (2 : Int64) = 0 then (1 : Int32) else 0))]))
      have hc159 : (if (2 : Int64) = 0 then (1 : Int32) else 0) = (0 : Int32) := by decide
      refine Go.step (fun _ k => XS.icmpNo X376.here hx rfl (hb hby at_159) rfl (teq hc159).2 k) ?_
      show Go _ _ _ _ _ _ _ (T376.setTop (mkF m 162 #[.val (.int qa), .val (.int qb), .val (.int qc), .val (.int qp), .val (.int qq), .val (.int (3 : Int32)), .val (.int (2 : Int32)), .val (.int (1 : Int32)), .val (.ref b320), .val (.int (1 : Int32)), .val (.int (0 : Int32))] []))
      refine Go.step (fun _ k => XS.iconst X376.here hx rfl (hb hby at_162) k) ?_
      show Go _ _ _ _ _ _ _ (T376.setTop (mkF m 163 #[.val (.int qa), .val (.int qb), .val (.int qc), .val (.int qp), .val (.int qq), .val (.int (3 : Int32)), .val (.int (2 : Int32)), .val (.int (1 : Int32)), .val (.ref b320), .val (.int (1 : Int32)), .val (.int (0 : Int32))] [(.int (1 : Int32))]))
      refine Go.step (fun _ k => XS.goto X376.here hx rfl (pc0 := 163) (pc' := 167) rfl (hb hby at_163) (by decide) (by decide) k) ?_
      show Go _ _ _ _ _ _ _ (T376.setTop (mkF m 167 #[.val (.int qa), .val (.int qb), .val (.int qc), .val (.int qp), .val (.int qq), .val (.int (3 : Int32)), .val (.int (2 : Int32)), .val (.int (1 : Int32)), .val (.ref b320), .val (.int (1 : Int32)), .val (.int (0 : Int32))] [(.int (1 : Int32))]))
      refine Go.retN X376 hx (t := .boolean) Bd.returns (by simp) hlk (hb hby at_167) ?_ (by decide) (by decide)
      rw [e376]
      exact ⟨(by first | rfl | (simp_all [own_nb1, own_nb0]; done)), N376⟩
  · skip
    subst h1 h2
    show Go _ _ _ _ _ _ _ (s₁.setTop (mkF m 21 #[.val (.int qa), .val (.int qb), .val (.int qc), .val (.int qp), .val (.int qq), .val (.int (3 : Int32)), .val (.int (3 : Int32)), .val (.int kq), .unset, .unset, .unset] []))
    obtain ⟨T377, h377, X377, e377, E377, A377, D377, -, st377⟩ := newO X0 hx hZ hown (hw _ (List.mem_of_getElem? (i := 1) rfl)) (hw _ (List.mem_of_getElem? (i := 2) rfl)) (hw _ (List.mem_of_getElem? (i := 3) rfl)) e0 (g := (mkF m 21 #[.val (.int qa), .val (.int qb), .val (.int qc), .val (.int qp), .val (.int qq), .val (.int (3 : Int32)), .val (.int (3 : Int32)), .val (.int kq), .unset, .unset, .unset] [])) rfl (hb hby at_21) (by decide) (by decide)
    obtain ⟨b377, g377⟩ : ∃ z, z = h0.size := ⟨_, rfl⟩
    rw [← g377] at A377 D377 st377
    refine Go.step st377 ?_
    have gn377 : n0 ≤ b377 := Nat.le_trans Z0 (Nat.le_of_eq g377.symm)
    have sz377 : h0.size ≤ b377 := Nat.le_trans sq0 (Nat.le_of_eq g377.symm)
    have z378 : n0 ≤ h377.size := Nat.le_trans Z0 E377.1
    have sqz378 : h0.size ≤ h377.size := Nat.le_trans sq0 E377.1
    have f380 : Fld Z h377 b377 "com/example/tree_automata_reducer/treeautomatareducer/reduce/PairStack" "blocks" "Ljava/util/List;" .null := D377 (Or.inr (hw _ (List.mem_of_getElem? (i := 35) rfl))) (ty := (.object "java/util/List")) (by decide)
    have f381 : Fld Z h377 b377 "com/example/tree_automata_reducer/treeautomatareducer/reduce/PairStack" "blockNumber" "I" (.int (0 : Int32)) := D377 (Or.inl (hw _ (List.mem_of_getElem? (i := 37) rfl))) (ty := .int) (by decide)
    have f382 : Fld Z h377 b377 "com/example/tree_automata_reducer/treeautomatareducer/reduce/PairStack" "inBlock" "I" (.int (0 : Int32)) := D377 (Or.inl (hw _ (List.mem_of_getElem? (i := 40) rfl))) (ty := .int) (by decide)
    have f383 : Fld Z h377 b377 "com/example/tree_automata_reducer/treeautomatareducer/reduce/PairStack" "size" "J" (.long (0 : Int64)) := D377 (Or.inl (hw _ (List.mem_of_getElem? (i := 47) rfl))) (ty := .long) (by decide)
    have f384 : Fld Z h377 b377 "com/example/tree_automata_reducer/treeautomatareducer/reduce/PairStack" "block" "[J" .null := D377 (Or.inl (hw _ (List.mem_of_getElem? (i := 121) rfl))) (ty := (.array .long)) (by decide)
    have f385 : Fld Z h377 b377 "com/example/tree_automata_reducer/treeautomatareducer/reduce/PairStack" "first" "I" (.int (0 : Int32)) := D377 (Or.inl (hw _ (List.mem_of_getElem? (i := 129) rfl))) (ty := .int) (by decide)
    have f386 : Fld Z h377 b377 "com/example/tree_automata_reducer/treeautomatareducer/reduce/PairStack" "second" "I" (.int (0 : Int32)) := D377 (Or.inl (hw _ (List.mem_of_getElem? (i := 131) rfl))) (ty := .int) (by decide)
    show Go _ _ _ _ _ _ _ (T377.setTop (mkF m 24 #[.val (.int qa), .val (.int qb), .val (.int qc), .val (.int qp), .val (.int qq), .val (.int (3 : Int32)), .val (.int (3 : Int32)), .val (.int kq), .unset, .unset, .unset] [(.ref b377)]))
    refine Go.step (fun _ k => XS.dup X377.here hx rfl (hb hby at_24) rfl rfl k) ?_
    show Go _ _ _ _ _ _ _ (T377.setTop (mkF m 25 #[.val (.int qa), .val (.int qb), .val (.int qc), .val (.int qp), .val (.int qq), .val (.int (3 : Int32)), .val (.int (3 : Int32)), .val (.int kq), .unset, .unset, .unset] [(.ref b377), (.ref b377)]))
    have f387 : Old Z n0 h377 := (O_0.ext E377)
    obtain ⟨_, _, ⟨T388, L388, k388, n388⟩, -, X388, ⟨Lc388, hQ388, l388, y388, z388⟩, st388⟩ := X377.specialBack hx (y := (⟨"com/example/tree_automata_reducer/treeautomatareducer/reduce/PairStack", "<init>", "()V"⟩ : MethodName)) rfl hown (mvT hZ (hw _ (List.mem_of_getElem? (i := 4) rfl))) (mvT hZ (hw _ (List.mem_of_getElem? (i := 5) rfl))) (mvT hZ (hw _ (List.mem_of_getElem? (i := 6) rfl))) (by decide) (backOf (W := 1) (rm1 l Z aZ hw [] b377 w0 h377 n0 z378 f387 S_1 A377 f380 f383 f384 f381 f382 f385 f386 gn377) hZ (hw _ (List.mem_of_getElem? (i := 6) rfl)) (hw _ (List.mem_of_getElem? (i := 3) rfl)) (by decide) (by decide)) (g := (mkF m 25 #[.val (.int qa), .val (.int qb), .val (.int qc), .val (.int qp), .val (.int qq), .val (.int (3 : Int32)), .val (.int (3 : Int32)), .val (.int kq), .unset, .unset, .unset] [(.ref b377), (.ref b377)])) rfl (by rw [hml]; rfl) (Steps.refl _) (a := b377) (argsL := []) (rest := [(.ref b377)]) (lenOf pd_0 rfl) rfl (by show 2 * 0 + _ ≤ _; exact Nat.le_of_eq rfl) (hb hby at_25) (fun _ _ => ⟨rfl, e377, (by decide : 1 + 1 ≤ _), (by decide : 7 + 3 ≤ _)⟩)
    dsimp only [Pt.U, Pt.locs, Pt.cells, Pt.slots] at X388 l388 y388 z388 st388 hQ388
    subst l388 y388 z388
    obtain ⟨l0_388, rfl, Nq388, K388, c388_0, c388_1, c388_2, c388_3, c388_4, c388_5, c388_6, c388_7, c388_8, c388_9, c388_10, c388_11, c388_12, c388_13⟩ := hQ388
    have N388 := Fr.app N0 Nq388
    refine Go.tr st388 ?_
    have ne389 : b377 ≠ l0_388 := Nat.ne_of_lt (Nat.lt_of_lt_of_le A377.lt c388_0)
    have gn388_0 : n0 ≤ l0_388 := Nat.le_trans z378 c388_0
    have sz388_0 : h0.size ≤ l0_388 := Nat.le_trans sqz378 c388_0
    have z390 : n0 ≤ T388.heap.size := Nat.le_trans z378 K388.1
    have sqz390 : h0.size ≤ T388.heap.size := Nat.le_trans sqz378 K388.1
    show Go _ _ _ _ _ _ _ (T388.setTop (mkF m 28 #[.val (.int qa), .val (.int qb), .val (.int qc), .val (.int qp), .val (.int qq), .val (.int (3 : Int32)), .val (.int (3 : Int32)), .val (.int kq), .unset, .unset, .unset] [(.ref b377)]))
    refine Go.step (fun _ k => XS.astore X388.here hx rfl (hb hby at_28) rfl rfl (l' := #[.val (.int qa), .val (.int qb), .val (.int qc), .val (.int qp), .val (.int qq), .val (.int (3 : Int32)), .val (.int (3 : Int32)), .val (.int kq), .val (.ref b377), .unset, .unset]) rfl k) ?_
    show Go _ _ _ _ _ _ _ (T388.setTop (mkF m 30 #[.val (.int qa), .val (.int qb), .val (.int qc), .val (.int qp), .val (.int qq), .val (.int (3 : Int32)), .val (.int (3 : Int32)), .val (.int kq), .val (.ref b377), .unset, .unset] []))
    refine Go.step (fun _ k => XS.aload X388.here hx rfl (hb hby at_30) rfl rfl  k) ?_
    show Go _ _ _ _ _ _ _ (T388.setTop (mkF m 32 #[.val (.int qa), .val (.int qb), .val (.int qc), .val (.int qp), .val (.int qq), .val (.int (3 : Int32)), .val (.int (3 : Int32)), .val (.int kq), .val (.ref b377), .unset, .unset] [(.ref b377)]))
    obtain ⟨cq392, kq392, q392a, q392b, q392c⟩ := isOf hZ rfl c388_1
    obtain ⟨_, _, ⟨T392, L392, k392, n392⟩, -, X392, ⟨Lc392, hQ392, l392, y392, z392⟩, st392⟩ := X388.virtualBack hx (y := (⟨"com/example/tree_automata_reducer/treeautomatareducer/reduce/PairStack", "isEmpty", "()Z"⟩ : MethodName)) (z := (⟨"com/example/tree_automata_reducer/treeautomatareducer/reduce/PairStack", "isEmpty", "()Z"⟩ : MethodName)) hown (mvT hZ (hw _ (List.mem_of_getElem? (i := 41) rfl))) (mvT hZ (hw _ (List.mem_of_getElem? (i := 42) rfl))) (notFace_of_selects (args := #[]) (mvT hZ (hw _ (List.mem_of_getElem? (i := 44) rfl)))) (mvT hZ (hw _ (List.mem_of_getElem? (i := 44) rfl))) (mvT hZ (hw _ (List.mem_of_getElem? (i := 43) rfl))) (by decide) (backOf (W := 0) (rm6 l Z aZ hw [] b377 (0 : Int64) T388.heap n0 z390 c388_3) hZ (hw _ (List.mem_of_getElem? (i := 45) rfl)) (hw _ (List.mem_of_getElem? (i := 3) rfl)) (by decide) (by decide)) q392a q392c (g := (mkF m 32 #[.val (.int qa), .val (.int qb), .val (.int qc), .val (.int qp), .val (.int qq), .val (.int (3 : Int32)), .val (.int (3 : Int32)), .val (.int kq), .val (.ref b377), .unset, .unset] [(.ref b377)])) rfl (by rw [hml]; rfl) (Steps.refl _) (argsL := []) (rest := []) (lenOf pd_9 rfl) rfl (by show 2 * 0 + _ ≤ _; exact Nat.le_of_eq rfl) (hb hby at_32) (fun _ _ => ⟨rfl, rfl, (by decide : 2 + 0 ≤ _), (by decide : 10 + 0 ≤ _)⟩)
    dsimp only [Pt.U, Pt.locs, Pt.cells, Pt.slots] at X392 l392 y392 z392 st392 hQ392
    subst l392 y392 z392
    obtain ⟨rfl, Nq392, e392⟩ := hQ392
    have N392 := Fr.app N388 Nq392
    refine Go.tr st392 ?_
    show Go _ _ _ _ _ _ _ (T392.setTop (mkF m 35 #[.val (.int qa), .val (.int qb), .val (.int qc), .val (.int qp), .val (.int qq), .val (.int (3 : Int32)), .val (.int (3 : Int32)), .val (.int kq), .val (.ref b377), .unset, .unset] [(.int (if (0 : Int64) = 0 then (1 : Int32) else 0))]))
    have sv393 : (if (0 : Int64) = 0 then (1 : Int32) else 0) = (1 : Int32) := if_pos rfl
    rw [sv393]
    show Go _ _ _ _ _ _ _ (T392.setTop (mkF m 35 #[.val (.int qa), .val (.int qb), .val (.int qc), .val (.int qp), .val (.int qq), .val (.int (3 : Int32)), .val (.int (3 : Int32)), .val (.int kq), .val (.ref b377), .unset, .unset] [(.int (1 : Int32))]))
    refine Go.step (fun _ k => XS.istore X392.here hx rfl (hb hby at_35) rfl (l' := #[.val (.int qa), .val (.int qb), .val (.int qc), .val (.int qp), .val (.int qq), .val (.int (3 : Int32)), .val (.int (3 : Int32)), .val (.int kq), .val (.ref b377), .val (.int (1 : Int32)), .unset]) rfl k) ?_
    show Go _ _ _ _ _ _ _ (T392.setTop (mkF m 37 #[.val (.int qa), .val (.int qb), .val (.int qc), .val (.int qp), .val (.int qq), .val (.int (3 : Int32)), .val (.int (3 : Int32)), .val (.int kq), .val (.ref b377), .val (.int (1 : Int32)), .unset] []))
    refine Go.step (fun _ k => XS.iload X392.here hx rfl (hb hby at_37) rfl  k) ?_
    show Go _ _ _ _ _ _ _ (T392.setTop (mkF m 39 #[.val (.int qa), .val (.int qb), .val (.int qc), .val (.int qp), .val (.int qq), .val (.int (3 : Int32)), .val (.int (3 : Int32)), .val (.int kq), .val (.ref b377), .val (.int (1 : Int32)), .unset] [(.int (3 : Int32))]))
    refine Go.step (fun _ k => XS.iconst X392.here hx rfl (hb hby at_39) k) ?_
    show Go _ _ _ _ _ _ _ (T392.setTop (mkF m 40 #[.val (.int qa), .val (.int qb), .val (.int qc), .val (.int qp), .val (.int qq), .val (.int (3 : Int32)), .val (.int (3 : Int32)), .val (.int kq), .val (.ref b377), .val (.int (1 : Int32)), .unset] [(.int (1 : Int32)), (.int (3 : Int32))]))
    have hc40 : ¬ ((3 : Int32) < (1 : Int32)) := by decide
    refine Go.step (fun _ k => XS.icmpNo X392.here hx rfl (hb hby at_40) rfl (flt hc40).1 k) ?_
    show Go _ _ _ _ _ _ _ (T392.setTop (mkF m 43 #[.val (.int qa), .val (.int qb), .val (.int qc), .val (.int qp), .val (.int qq), .val (.int (3 : Int32)), .val (.int (3 : Int32)), .val (.int kq), .val (.ref b377), .val (.int (1 : Int32)), .unset] []))
    refine Go.step (fun _ k => XS.aload X392.here hx rfl (hb hby at_43) rfl rfl  k) ?_
    show Go _ _ _ _ _ _ _ (T392.setTop (mkF m 45 #[.val (.int qa), .val (.int qb), .val (.int qc), .val (.int qp), .val (.int qq), .val (.int (3 : Int32)), .val (.int (3 : Int32)), .val (.int kq), .val (.ref b377), .val (.int (1 : Int32)), .unset] [(.ref b377)]))
    refine Go.step (fun _ k => XS.iloadN X392.here hx rfl (hb hby at_45) rfl  k) ?_
    show Go _ _ _ _ _ _ _ (T392.setTop (mkF m 46 #[.val (.int qa), .val (.int qb), .val (.int qc), .val (.int qp), .val (.int qq), .val (.int (3 : Int32)), .val (.int (3 : Int32)), .val (.int kq), .val (.ref b377), .val (.int (1 : Int32)), .unset] [(.int qp), (.ref b377)]))
    refine Go.step (fun _ k => XS.iload X392.here hx rfl (hb hby at_46) rfl  k) ?_
    show Go _ _ _ _ _ _ _ (T392.setTop (mkF m 48 #[.val (.int qa), .val (.int qb), .val (.int qc), .val (.int qp), .val (.int qq), .val (.int (3 : Int32)), .val (.int (3 : Int32)), .val (.int kq), .val (.ref b377), .val (.int (1 : Int32)), .unset] [(.int qq), (.int qp), (.ref b377)]))
    have f394 : Old Z n0 T388.heap := (f387.keep K388 (allS gn377 all0))
    obtain ⟨cq395, kq395, q395a, q395b, q395c⟩ := isOf hZ e392 c388_1
    obtain ⟨_, _, ⟨T395, L395, k395, n395⟩, -, X395, ⟨Lc395, hQ395, l395, y395, z395⟩, st395⟩ := X392.virtualBack hx (y := (⟨"com/example/tree_automata_reducer/treeautomatareducer/reduce/PairStack", "push", "(II)V"⟩ : MethodName)) (z := (⟨"com/example/tree_automata_reducer/treeautomatareducer/reduce/PairStack", "push", "(II)V"⟩ : MethodName)) hown (mvT hZ (hw _ (List.mem_of_getElem? (i := 48) rfl))) (mvT hZ (hw _ (List.mem_of_getElem? (i := 49) rfl))) (notFace_of_selects (args := #[]) (mvT hZ (hw _ (List.mem_of_getElem? (i := 51) rfl)))) (mvT hZ (hw _ (List.mem_of_getElem? (i := 51) rfl))) (mvT hZ (hw _ (List.mem_of_getElem? (i := 50) rfl))) (by decide) (backOf (W := 0) (rmpA l Z aZ hw [] b377 qp qq w0 l0_388 T388.heap n0 z390 f394 S_1 A_2 c388_1 c388_2 c388_3 c388_4 c388_5 c388_6 c388_7 c388_8 c388_9 c388_10 c388_11 c388_12 c388_13 gn377 gn388_0) hZ (hw _ (List.mem_of_getElem? (i := 52) rfl)) (hw _ (List.mem_of_getElem? (i := 3) rfl)) (by decide) (by decide)) q395a q395c (g := (mkF m 48 #[.val (.int qa), .val (.int qb), .val (.int qc), .val (.int qp), .val (.int qq), .val (.int (3 : Int32)), .val (.int (3 : Int32)), .val (.int kq), .val (.ref b377), .val (.int (1 : Int32)), .unset] [(.int qq), (.int qp), (.ref b377)])) rfl (by rw [hml]; rfl) (Steps.refl _) (argsL := [(.int qp), (.int qq)]) (rest := []) (lenOf pd_10 rfl) rfl (by show 2 * 0 + _ ≤ _; exact Nat.le_of_eq rfl) (hb hby at_48) (fun _ _ => ⟨rfl, e392, (by decide : 2 + 2 ≤ _), (by decide : 10 + 32778 ≤ _)⟩)
    dsimp only [Pt.U, Pt.locs, Pt.cells, Pt.slots] at X395 l395 y395 z395 st395 hQ395
    subst l395 y395 z395
    obtain ⟨b_395, f2_395, rfl, Nq395, K395, c395_0, c395_1, c395_2, c395_3, c395_4, c395_5, c395_6, c395_7, c395_8⟩ := hQ395
    have N395 := Fr.app N392 Nq395
    refine Go.tr st395 ?_
    have ne396 : b377 ≠ b_395 := Nat.ne_of_lt (Nat.lt_of_lt_of_le c388_1.lt c395_0)
    have ne397 : l0_388 ≠ b_395 := Nat.ne_of_lt (Nat.lt_of_lt_of_le c388_9.lt c395_0)
    have gn395_0 : n0 ≤ b_395 := Nat.le_trans z390 c395_0
    have sz395_0 : h0.size ≤ b_395 := Nat.le_trans sqz390 c395_0
    have z398 : n0 ≤ T395.heap.size := Nat.le_trans z390 K395.1
    have sqz398 : h0.size ≤ T395.heap.size := Nat.le_trans sqz390 K395.1
    show Go _ _ _ _ _ _ _ (T395.setTop (mkF m 51 #[.val (.int qa), .val (.int qb), .val (.int qc), .val (.int qp), .val (.int qq), .val (.int (3 : Int32)), .val (.int (3 : Int32)), .val (.int kq), .val (.ref b377), .val (.int (1 : Int32)), .unset] []))
    refine Go.step (fun _ k => XS.iload X395.here hx rfl (hb hby at_51) rfl  k) ?_
    show Go _ _ _ _ _ _ _ (T395.setTop (mkF m 53 #[.val (.int qa), .val (.int qb), .val (.int qc), .val (.int qp), .val (.int qq), .val (.int (3 : Int32)), .val (.int (3 : Int32)), .val (.int kq), .val (.ref b377), .val (.int (1 : Int32)), .unset] [(.int (3 : Int32))]))
    refine Go.step (fun _ k => XS.iconst X395.here hx rfl (hb hby at_53) k) ?_
    show Go _ _ _ _ _ _ _ (T395.setTop (mkF m 54 #[.val (.int qa), .val (.int qb), .val (.int qc), .val (.int qp), .val (.int qq), .val (.int (3 : Int32)), .val (.int (3 : Int32)), .val (.int kq), .val (.ref b377), .val (.int (1 : Int32)), .unset] [(.int (2 : Int32)), (.int (3 : Int32))]))
    have hc54 : ¬ ((3 : Int32) < (2 : Int32)) := by decide
    refine Go.step (fun _ k => XS.icmpNo X395.here hx rfl (hb hby at_54) rfl (flt hc54).1 k) ?_
    show Go _ _ _ _ _ _ _ (T395.setTop (mkF m 57 #[.val (.int qa), .val (.int qb), .val (.int qc), .val (.int qp), .val (.int qq), .val (.int (3 : Int32)), .val (.int (3 : Int32)), .val (.int kq), .val (.ref b377), .val (.int (1 : Int32)), .unset] []))
    refine Go.step (fun _ k => XS.aload X395.here hx rfl (hb hby at_57) rfl rfl  k) ?_
    show Go _ _ _ _ _ _ _ (T395.setTop (mkF m 59 #[.val (.int qa), .val (.int qb), .val (.int qc), .val (.int qp), .val (.int qq), .val (.int (3 : Int32)), .val (.int (3 : Int32)), .val (.int kq), .val (.ref b377), .val (.int (1 : Int32)), .unset] [(.ref b377)]))
    refine Go.step (fun _ k => XS.iload X395.here hx rfl (hb hby at_59) rfl  k) ?_
    show Go _ _ _ _ _ _ _ (T395.setTop (mkF m 61 #[.val (.int qa), .val (.int qb), .val (.int qc), .val (.int qp), .val (.int qq), .val (.int (3 : Int32)), .val (.int (3 : Int32)), .val (.int kq), .val (.ref b377), .val (.int (1 : Int32)), .unset] [(.int qq), (.ref b377)]))
    refine Go.step (fun _ k => XS.iloadN X395.here hx rfl (hb hby at_61) rfl  k) ?_
    show Go _ _ _ _ _ _ _ (T395.setTop (mkF m 62 #[.val (.int qa), .val (.int qb), .val (.int qc), .val (.int qp), .val (.int qq), .val (.int (3 : Int32)), .val (.int (3 : Int32)), .val (.int kq), .val (.ref b377), .val (.int (1 : Int32)), .unset] [(.int qp), (.int qq), (.ref b377)]))
    have pq400 : ¬ (1 : Int32) = (32768 : Int32) := (by decide)
    have pq401 : ¬ (1 : Int32) < 0 := (by decide)
    have pq402 : (1 : Int32) < (32768 : Int32) := (by decide)
    obtain ⟨cq403, kq403, q403a, q403b, q403c⟩ := isOf hZ rfl c395_1
    obtain ⟨_, _, ⟨T403, L403, k403, n403⟩, -, X403, ⟨Lc403, hQ403, l403, y403, z403⟩, st403⟩ := X395.virtualBack hx (y := (⟨"com/example/tree_automata_reducer/treeautomatareducer/reduce/PairStack", "push", "(II)V"⟩ : MethodName)) (z := (⟨"com/example/tree_automata_reducer/treeautomatareducer/reduce/PairStack", "push", "(II)V"⟩ : MethodName)) hown (mvT hZ (hw _ (List.mem_of_getElem? (i := 48) rfl))) (mvT hZ (hw _ (List.mem_of_getElem? (i := 49) rfl))) (notFace_of_selects (args := #[]) (mvT hZ (hw _ (List.mem_of_getElem? (i := 51) rfl)))) (mvT hZ (hw _ (List.mem_of_getElem? (i := 51) rfl))) (mvT hZ (hw _ (List.mem_of_getElem? (i := 50) rfl))) (by decide) (backOf (W := 0) (rmpB l Z aZ hw [] b377 qq qp (1 : Int32) (1 : Int64) b_395 f2_395 (0 : Int32) (0 : Int32) T395.heap n0 z398 c395_1 c395_2 c395_3 c395_4 c395_5 c395_6 c395_7 c395_8 gn377 gn395_0 pq400 pq401 pq402) hZ (hw _ (List.mem_of_getElem? (i := 52) rfl)) (hw _ (List.mem_of_getElem? (i := 3) rfl)) (by decide) (by decide)) q403a q403c (g := (mkF m 62 #[.val (.int qa), .val (.int qb), .val (.int qc), .val (.int qp), .val (.int qq), .val (.int (3 : Int32)), .val (.int (3 : Int32)), .val (.int kq), .val (.ref b377), .val (.int (1 : Int32)), .unset] [(.int qp), (.int qq), (.ref b377)])) rfl (by rw [hml]; rfl) (Steps.refl _) (argsL := [(.int qq), (.int qp)]) (rest := []) (lenOf pd_10 rfl) rfl (by show 2 * 0 + _ ≤ _; exact Nat.le_of_eq rfl) (hb hby at_62) (fun _ _ => ⟨rfl, rfl, (by decide : 4 + 0 ≤ _), (by decide : 32788 + 0 ≤ _)⟩)
    dsimp only [Pt.U, Pt.locs, Pt.cells, Pt.slots] at X403 l403 y403 z403 st403 hQ403
    subst l403 y403 z403
    obtain ⟨f2_403, rfl, Nq403, K403, c403_0, c403_1, c403_2, c403_3, c403_4, c403_5, c403_6⟩ := hQ403
    have N403 := Fr.app N395 Nq403
    refine Go.tr st403 ?_
    have z404 : n0 ≤ T403.heap.size := Nat.le_trans z398 K403.1
    have sqz404 : h0.size ≤ T403.heap.size := Nat.le_trans sqz398 K403.1
    have c403_1f : Fld Z T403.heap b377 "com/example/tree_automata_reducer/treeautomatareducer/reduce/PairStack" "size" "J" (.long (2 : Int64)) := c403_1
    have c403_3f : Fld Z T403.heap b377 "com/example/tree_automata_reducer/treeautomatareducer/reduce/PairStack" "inBlock" "I" (.int (2 : Int32)) := c403_3
    show Go _ _ _ _ _ _ _ (T403.setTop (mkF m 65 #[.val (.int qa), .val (.int qb), .val (.int qc), .val (.int qp), .val (.int qq), .val (.int (3 : Int32)), .val (.int (3 : Int32)), .val (.int kq), .val (.ref b377), .val (.int (1 : Int32)), .unset] []))
    refine Go.step (fun _ k => XS.iload X403.here hx rfl (hb hby at_65) rfl  k) ?_
    show Go _ _ _ _ _ _ _ (T403.setTop (mkF m 67 #[.val (.int qa), .val (.int qb), .val (.int qc), .val (.int qp), .val (.int qq), .val (.int (3 : Int32)), .val (.int (3 : Int32)), .val (.int kq), .val (.ref b377), .val (.int (1 : Int32)), .unset] [(.int (3 : Int32))]))
    refine Go.step (fun _ k => XS.iconst X403.here hx rfl (hb hby at_67) k) ?_
    show Go _ _ _ _ _ _ _ (T403.setTop (mkF m 68 #[.val (.int qa), .val (.int qb), .val (.int qc), .val (.int qp), .val (.int qq), .val (.int (3 : Int32)), .val (.int (3 : Int32)), .val (.int kq), .val (.ref b377), .val (.int (1 : Int32)), .unset] [(.int (3 : Int32)), (.int (3 : Int32))]))
    have hc68 : ¬ ((3 : Int32) < (3 : Int32)) := by decide
    refine Go.step (fun _ k => XS.icmpNo X403.here hx rfl (hb hby at_68) rfl (flt hc68).1 k) ?_
    show Go _ _ _ _ _ _ _ (T403.setTop (mkF m 71 #[.val (.int qa), .val (.int qb), .val (.int qc), .val (.int qp), .val (.int qq), .val (.int (3 : Int32)), .val (.int (3 : Int32)), .val (.int kq), .val (.ref b377), .val (.int (1 : Int32)), .unset] []))
    refine Go.step (fun _ k => XS.aload X403.here hx rfl (hb hby at_71) rfl rfl  k) ?_
    show Go _ _ _ _ _ _ _ (T403.setTop (mkF m 73 #[.val (.int qa), .val (.int qb), .val (.int qc), .val (.int qp), .val (.int qq), .val (.int (3 : Int32)), .val (.int (3 : Int32)), .val (.int kq), .val (.ref b377), .val (.int (1 : Int32)), .unset] [(.ref b377)]))
    refine Go.step (fun _ k => XS.iloadN X403.here hx rfl (hb hby at_73) rfl  k) ?_
    show Go _ _ _ _ _ _ _ (T403.setTop (mkF m 74 #[.val (.int qa), .val (.int qb), .val (.int qc), .val (.int qp), .val (.int qq), .val (.int (3 : Int32)), .val (.int (3 : Int32)), .val (.int kq), .val (.ref b377), .val (.int (1 : Int32)), .unset] [(.int qp), (.ref b377)]))
    refine Go.step (fun _ k => XS.iload X403.here hx rfl (hb hby at_74) rfl  k) ?_
    show Go _ _ _ _ _ _ _ (T403.setTop (mkF m 76 #[.val (.int qa), .val (.int qb), .val (.int qc), .val (.int qp), .val (.int qq), .val (.int (3 : Int32)), .val (.int (3 : Int32)), .val (.int kq), .val (.ref b377), .val (.int (1 : Int32)), .unset] [(.int qq), (.int qp), (.ref b377)]))
    refine Go.step (fun _ k => XS.ixor X403.here hx rfl (hb hby at_76) rfl k) ?_
    show Go _ _ _ _ _ _ _ (T403.setTop (mkF m 77 #[.val (.int qa), .val (.int qb), .val (.int qc), .val (.int qp), .val (.int qq), .val (.int (3 : Int32)), .val (.int (3 : Int32)), .val (.int kq), .val (.ref b377), .val (.int (1 : Int32)), .unset] [(.int (qp ^^^ qq)), (.ref b377)]))
    refine Go.step (fun _ k => XS.iloadN X403.here hx rfl (hb hby at_77) rfl  k) ?_
    show Go _ _ _ _ _ _ _ (T403.setTop (mkF m 78 #[.val (.int qa), .val (.int qb), .val (.int qc), .val (.int qp), .val (.int qq), .val (.int (3 : Int32)), .val (.int (3 : Int32)), .val (.int kq), .val (.ref b377), .val (.int (1 : Int32)), .unset] [(.int qp), (.int (qp ^^^ qq)), (.ref b377)]))
    have pq406 : ¬ (2 : Int32) = (32768 : Int32) := (by decide)
    have pq407 : ¬ (2 : Int32) < 0 := (by decide)
    have pq408 : (2 : Int32) < (32768 : Int32) := (by decide)
    obtain ⟨cq409, kq409, q409a, q409b, q409c⟩ := isOf hZ rfl c403_0
    obtain ⟨_, _, ⟨T409, L409, k409, n409⟩, -, X409, ⟨Lc409, hQ409, l409, y409, z409⟩, st409⟩ := X403.virtualBack hx (y := (⟨"com/example/tree_automata_reducer/treeautomatareducer/reduce/PairStack", "push", "(II)V"⟩ : MethodName)) (z := (⟨"com/example/tree_automata_reducer/treeautomatareducer/reduce/PairStack", "push", "(II)V"⟩ : MethodName)) hown (mvT hZ (hw _ (List.mem_of_getElem? (i := 48) rfl))) (mvT hZ (hw _ (List.mem_of_getElem? (i := 49) rfl))) (notFace_of_selects (args := #[]) (mvT hZ (hw _ (List.mem_of_getElem? (i := 51) rfl)))) (mvT hZ (hw _ (List.mem_of_getElem? (i := 51) rfl))) (mvT hZ (hw _ (List.mem_of_getElem? (i := 50) rfl))) (by decide) (backOf (W := 0) (rmpB l Z aZ hw [] b377 (qp ^^^ qq) qp (2 : Int32) (2 : Int64) b_395 f2_403 (0 : Int32) (0 : Int32) T403.heap n0 z404 c403_0 c403_1f c403_2 c403_3f c403_4 c403_5 c403_6 c395_8 gn377 gn395_0 pq406 pq407 pq408) hZ (hw _ (List.mem_of_getElem? (i := 52) rfl)) (hw _ (List.mem_of_getElem? (i := 3) rfl)) (by decide) (by decide)) q409a q409c (g := (mkF m 78 #[.val (.int qa), .val (.int qb), .val (.int qc), .val (.int qp), .val (.int qq), .val (.int (3 : Int32)), .val (.int (3 : Int32)), .val (.int kq), .val (.ref b377), .val (.int (1 : Int32)), .unset] [(.int qp), (.int (qp ^^^ qq)), (.ref b377)])) rfl (by rw [hml]; rfl) (Steps.refl _) (argsL := [(.int (qp ^^^ qq)), (.int qp)]) (rest := []) (lenOf pd_10 rfl) rfl (by show 2 * 0 + _ ≤ _; exact Nat.le_of_eq rfl) (hb hby at_78) (fun _ _ => ⟨rfl, rfl, (by decide : 4 + 0 ≤ _), (by decide : 32788 + 0 ≤ _)⟩)
    dsimp only [Pt.U, Pt.locs, Pt.cells, Pt.slots] at X409 l409 y409 z409 st409 hQ409
    subst l409 y409 z409
    obtain ⟨f2_409, rfl, Nq409, K409, c409_0, c409_1, c409_2, c409_3, c409_4, c409_5, c409_6⟩ := hQ409
    have N409 := Fr.app N403 Nq409
    refine Go.tr st409 ?_
    have z410 : n0 ≤ T409.heap.size := Nat.le_trans z404 K409.1
    have sqz410 : h0.size ≤ T409.heap.size := Nat.le_trans sqz404 K409.1
    have c409_1f : Fld Z T409.heap b377 "com/example/tree_automata_reducer/treeautomatareducer/reduce/PairStack" "size" "J" (.long (3 : Int64)) := c409_1
    have c409_3f : Fld Z T409.heap b377 "com/example/tree_automata_reducer/treeautomatareducer/reduce/PairStack" "inBlock" "I" (.int (3 : Int32)) := c409_3
    show Go _ _ _ _ _ _ _ (T409.setTop (mkF m 81 #[.val (.int qa), .val (.int qb), .val (.int qc), .val (.int qp), .val (.int qq), .val (.int (3 : Int32)), .val (.int (3 : Int32)), .val (.int kq), .val (.ref b377), .val (.int (1 : Int32)), .unset] []))
    refine Go.step (fun _ k => XS.iload X409.here hx rfl (hb hby at_81) rfl  k) ?_
    show Go _ _ _ _ _ _ _ (T409.setTop (mkF m 83 #[.val (.int qa), .val (.int qb), .val (.int qc), .val (.int qp), .val (.int qq), .val (.int (3 : Int32)), .val (.int (3 : Int32)), .val (.int kq), .val (.ref b377), .val (.int (1 : Int32)), .unset] [(.int (3 : Int32))]))
    refine Go.step (fun _ k => XS.iconst X409.here hx rfl (hb hby at_83) k) ?_
    show Go _ _ _ _ _ _ _ (T409.setTop (mkF m 84 #[.val (.int qa), .val (.int qb), .val (.int qc), .val (.int qp), .val (.int qq), .val (.int (3 : Int32)), .val (.int (3 : Int32)), .val (.int kq), .val (.ref b377), .val (.int (1 : Int32)), .unset] [(.int (1 : Int32)), (.int (3 : Int32))]))
    have hc84 : ¬ ((3 : Int32) < (1 : Int32)) := hc40
    refine Go.step (fun _ k => XS.icmpNo X409.here hx rfl (hb hby at_84) rfl (flt hc84).1 k) ?_
    show Go _ _ _ _ _ _ _ (T409.setTop (mkF m 87 #[.val (.int qa), .val (.int qb), .val (.int qc), .val (.int qp), .val (.int qq), .val (.int (3 : Int32)), .val (.int (3 : Int32)), .val (.int kq), .val (.ref b377), .val (.int (1 : Int32)), .unset] []))
    refine Go.step (fun _ k => XS.aload X409.here hx rfl (hb hby at_87) rfl rfl  k) ?_
    show Go _ _ _ _ _ _ _ (T409.setTop (mkF m 89 #[.val (.int qa), .val (.int qb), .val (.int qc), .val (.int qp), .val (.int qq), .val (.int (3 : Int32)), .val (.int (3 : Int32)), .val (.int kq), .val (.ref b377), .val (.int (1 : Int32)), .unset] [(.ref b377)]))
    have pq412 : ¬ (3 : Int32) = 0 := (by decide)
    have pq413 : ¬ (3 : Int32) - 1 < 0 := (by decide)
    have pq414 : (3 : Int32) - 1 < (32768 : Int32) := (by decide)
    obtain ⟨cq415, kq415, q415a, q415b, q415c⟩ := isOf hZ rfl c409_0
    obtain ⟨_, _, ⟨T415, L415, k415, n415⟩, -, X415, ⟨Lc415, hQ415, l415, y415, z415⟩, st415⟩ := X409.virtualBack hx (y := (⟨"com/example/tree_automata_reducer/treeautomatareducer/reduce/PairStack", "pop", "()V"⟩ : MethodName)) (z := (⟨"com/example/tree_automata_reducer/treeautomatareducer/reduce/PairStack", "pop", "()V"⟩ : MethodName)) hown (mvT hZ (hw _ (List.mem_of_getElem? (i := 123) rfl))) (mvT hZ (hw _ (List.mem_of_getElem? (i := 124) rfl))) (notFace_of_selects (args := #[]) (mvT hZ (hw _ (List.mem_of_getElem? (i := 126) rfl)))) (mvT hZ (hw _ (List.mem_of_getElem? (i := 126) rfl))) (mvT hZ (hw _ (List.mem_of_getElem? (i := 125) rfl))) (by decide) (backOf (W := 0) (rm18 l Z aZ hw [] b377 (3 : Int32) (3 : Int64) b_395 f2_409 (0 : Int32) (0 : Int32) T409.heap n0 z410 c409_0 c409_1f c409_2 c409_3f c409_4 c409_5 c409_6 c395_8 gn377 pq412 pq413 pq414) hZ (hw _ (List.mem_of_getElem? (i := 127) rfl)) (hw _ (List.mem_of_getElem? (i := 3) rfl)) (by decide) (by decide)) q415a q415c (g := (mkF m 89 #[.val (.int qa), .val (.int qb), .val (.int qc), .val (.int qp), .val (.int qq), .val (.int (3 : Int32)), .val (.int (3 : Int32)), .val (.int kq), .val (.ref b377), .val (.int (1 : Int32)), .unset] [(.ref b377)])) rfl (by rw [hml]; rfl) (Steps.refl _) (argsL := []) (rest := []) (lenOf pd_0 rfl) rfl (by show 2 * 0 + _ ≤ _; exact Nat.le_of_eq rfl) (hb hby at_89) (fun _ _ => ⟨rfl, rfl, (by decide : 4 + 0 ≤ _), (by decide : 32788 + 0 ≤ _)⟩)
    dsimp only [Pt.U, Pt.locs, Pt.cells, Pt.slots] at X415 l415 y415 z415 st415 hQ415
    subst l415 y415 z415
    obtain ⟨t1_415, t2_415, rfl, Nq415, K415, c415_0, c415_1, c415_2, c415_3, c415_4, c415_5⟩ := hQ415
    have N415 := Fr.app N409 Nq415
    refine Go.tr st415 ?_
    have z416 : n0 ≤ T415.heap.size := Nat.le_trans z410 K415.1
    have sqz416 : h0.size ≤ T415.heap.size := Nat.le_trans sqz410 K415.1
    have c415_1f : Fld Z T415.heap b377 "com/example/tree_automata_reducer/treeautomatareducer/reduce/PairStack" "size" "J" (.long (2 : Int64)) := c415_1
    have c415_3f : Fld Z T415.heap b377 "com/example/tree_automata_reducer/treeautomatareducer/reduce/PairStack" "inBlock" "I" (.int (2 : Int32)) := c415_3
    show Go _ _ _ _ _ _ _ (T415.setTop (mkF m 92 #[.val (.int qa), .val (.int qb), .val (.int qc), .val (.int qp), .val (.int qq), .val (.int (3 : Int32)), .val (.int (3 : Int32)), .val (.int kq), .val (.ref b377), .val (.int (1 : Int32)), .unset] []))
    refine Go.step (fun _ k => XS.iload X415.here hx rfl (hb hby at_92) rfl  k) ?_
    show Go _ _ _ _ _ _ _ (T415.setTop (mkF m 94 #[.val (.int qa), .val (.int qb), .val (.int qc), .val (.int qp), .val (.int qq), .val (.int (3 : Int32)), .val (.int (3 : Int32)), .val (.int kq), .val (.ref b377), .val (.int (1 : Int32)), .unset] [(.int (3 : Int32))]))
    refine Go.step (fun _ k => XS.iconst X415.here hx rfl (hb hby at_94) k) ?_
    show Go _ _ _ _ _ _ _ (T415.setTop (mkF m 95 #[.val (.int qa), .val (.int qb), .val (.int qc), .val (.int qp), .val (.int qq), .val (.int (3 : Int32)), .val (.int (3 : Int32)), .val (.int kq), .val (.ref b377), .val (.int (1 : Int32)), .unset] [(.int (2 : Int32)), (.int (3 : Int32))]))
    have hc95 : ¬ ((3 : Int32) < (2 : Int32)) := hc54
    refine Go.step (fun _ k => XS.icmpNo X415.here hx rfl (hb hby at_95) rfl (flt hc95).1 k) ?_
    show Go _ _ _ _ _ _ _ (T415.setTop (mkF m 98 #[.val (.int qa), .val (.int qb), .val (.int qc), .val (.int qp), .val (.int qq), .val (.int (3 : Int32)), .val (.int (3 : Int32)), .val (.int kq), .val (.ref b377), .val (.int (1 : Int32)), .unset] []))
    refine Go.step (fun _ k => XS.aload X415.here hx rfl (hb hby at_98) rfl rfl  k) ?_
    show Go _ _ _ _ _ _ _ (T415.setTop (mkF m 100 #[.val (.int qa), .val (.int qb), .val (.int qc), .val (.int qp), .val (.int qq), .val (.int (3 : Int32)), .val (.int (3 : Int32)), .val (.int kq), .val (.ref b377), .val (.int (1 : Int32)), .unset] [(.ref b377)]))
    have f418 : Al Z T415.heap b_395 (32768 : Int32) f2_409 := (c409_4.keep K415 (ninS (Ne.symm c395_8) nin0))
    have pq419 : ¬ (2 : Int32) = 0 := (by decide)
    have pq420 : ¬ (2 : Int32) - 1 < 0 := (by decide)
    have pq421 : (2 : Int32) - 1 < (32768 : Int32) := (by decide)
    obtain ⟨cq422, kq422, q422a, q422b, q422c⟩ := isOf hZ rfl c415_0
    obtain ⟨_, _, ⟨T422, L422, k422, n422⟩, -, X422, ⟨Lc422, hQ422, l422, y422, z422⟩, st422⟩ := X415.virtualBack hx (y := (⟨"com/example/tree_automata_reducer/treeautomatareducer/reduce/PairStack", "pop", "()V"⟩ : MethodName)) (z := (⟨"com/example/tree_automata_reducer/treeautomatareducer/reduce/PairStack", "pop", "()V"⟩ : MethodName)) hown (mvT hZ (hw _ (List.mem_of_getElem? (i := 123) rfl))) (mvT hZ (hw _ (List.mem_of_getElem? (i := 124) rfl))) (notFace_of_selects (args := #[]) (mvT hZ (hw _ (List.mem_of_getElem? (i := 126) rfl)))) (mvT hZ (hw _ (List.mem_of_getElem? (i := 126) rfl))) (mvT hZ (hw _ (List.mem_of_getElem? (i := 125) rfl))) (by decide) (backOf (W := 0) (rm18 l Z aZ hw [] b377 (2 : Int32) (2 : Int64) b_395 f2_409 t1_415 t2_415 T415.heap n0 z416 c415_0 c415_1f c415_2 c415_3f f418 c415_4 c415_5 c395_8 gn377 pq419 pq420 pq421) hZ (hw _ (List.mem_of_getElem? (i := 127) rfl)) (hw _ (List.mem_of_getElem? (i := 3) rfl)) (by decide) (by decide)) q422a q422c (g := (mkF m 100 #[.val (.int qa), .val (.int qb), .val (.int qc), .val (.int qp), .val (.int qq), .val (.int (3 : Int32)), .val (.int (3 : Int32)), .val (.int kq), .val (.ref b377), .val (.int (1 : Int32)), .unset] [(.ref b377)])) rfl (by rw [hml]; rfl) (Steps.refl _) (argsL := []) (rest := []) (lenOf pd_0 rfl) rfl (by show 2 * 0 + _ ≤ _; exact Nat.le_of_eq rfl) (hb hby at_100) (fun _ _ => ⟨rfl, rfl, (by decide : 4 + 0 ≤ _), (by decide : 32788 + 0 ≤ _)⟩)
    dsimp only [Pt.U, Pt.locs, Pt.cells, Pt.slots] at X422 l422 y422 z422 st422 hQ422
    subst l422 y422 z422
    obtain ⟨t1_422, t2_422, rfl, Nq422, K422, c422_0, c422_1, c422_2, c422_3, c422_4, c422_5⟩ := hQ422
    have N422 := Fr.app N415 Nq422
    refine Go.tr st422 ?_
    have z423 : n0 ≤ T422.heap.size := Nat.le_trans z416 K422.1
    have sqz423 : h0.size ≤ T422.heap.size := Nat.le_trans sqz416 K422.1
    have c422_1f : Fld Z T422.heap b377 "com/example/tree_automata_reducer/treeautomatareducer/reduce/PairStack" "size" "J" (.long (1 : Int64)) := c422_1
    have c422_3f : Fld Z T422.heap b377 "com/example/tree_automata_reducer/treeautomatareducer/reduce/PairStack" "inBlock" "I" (.int (1 : Int32)) := c422_3
    show Go _ _ _ _ _ _ _ (T422.setTop (mkF m 103 #[.val (.int qa), .val (.int qb), .val (.int qc), .val (.int qp), .val (.int qq), .val (.int (3 : Int32)), .val (.int (3 : Int32)), .val (.int kq), .val (.ref b377), .val (.int (1 : Int32)), .unset] []))
    refine Go.step (fun _ k => XS.iload X422.here hx rfl (hb hby at_103) rfl  k) ?_
    show Go _ _ _ _ _ _ _ (T422.setTop (mkF m 105 #[.val (.int qa), .val (.int qb), .val (.int qc), .val (.int qp), .val (.int qq), .val (.int (3 : Int32)), .val (.int (3 : Int32)), .val (.int kq), .val (.ref b377), .val (.int (1 : Int32)), .unset] [(.int (3 : Int32))]))
    refine Go.step (fun _ k => XS.iconst X422.here hx rfl (hb hby at_105) k) ?_
    show Go _ _ _ _ _ _ _ (T422.setTop (mkF m 106 #[.val (.int qa), .val (.int qb), .val (.int qc), .val (.int qp), .val (.int qq), .val (.int (3 : Int32)), .val (.int (3 : Int32)), .val (.int kq), .val (.ref b377), .val (.int (1 : Int32)), .unset] [(.int (3 : Int32)), (.int (3 : Int32))]))
    have hc106 : ¬ ((3 : Int32) < (3 : Int32)) := hc68
    refine Go.step (fun _ k => XS.icmpNo X422.here hx rfl (hb hby at_106) rfl (flt hc106).1 k) ?_
    show Go _ _ _ _ _ _ _ (T422.setTop (mkF m 109 #[.val (.int qa), .val (.int qb), .val (.int qc), .val (.int qp), .val (.int qq), .val (.int (3 : Int32)), .val (.int (3 : Int32)), .val (.int kq), .val (.ref b377), .val (.int (1 : Int32)), .unset] []))
    refine Go.step (fun _ k => XS.aload X422.here hx rfl (hb hby at_109) rfl rfl  k) ?_
    show Go _ _ _ _ _ _ _ (T422.setTop (mkF m 111 #[.val (.int qa), .val (.int qb), .val (.int qc), .val (.int qp), .val (.int qq), .val (.int (3 : Int32)), .val (.int (3 : Int32)), .val (.int kq), .val (.ref b377), .val (.int (1 : Int32)), .unset] [(.ref b377)]))
    have f425 : Al Z T422.heap b_395 (32768 : Int32) f2_409 := (f418.keep K422 (ninS (Ne.symm c395_8) nin0))
    have pq426 : ¬ (1 : Int32) = 0 := (by decide)
    have pq427 : ¬ (1 : Int32) - 1 < 0 := (by decide)
    have pq428 : (1 : Int32) - 1 < (32768 : Int32) := (by decide)
    obtain ⟨cq429, kq429, q429a, q429b, q429c⟩ := isOf hZ rfl c422_0
    obtain ⟨_, _, ⟨T429, L429, k429, n429⟩, -, X429, ⟨Lc429, hQ429, l429, y429, z429⟩, st429⟩ := X422.virtualBack hx (y := (⟨"com/example/tree_automata_reducer/treeautomatareducer/reduce/PairStack", "pop", "()V"⟩ : MethodName)) (z := (⟨"com/example/tree_automata_reducer/treeautomatareducer/reduce/PairStack", "pop", "()V"⟩ : MethodName)) hown (mvT hZ (hw _ (List.mem_of_getElem? (i := 123) rfl))) (mvT hZ (hw _ (List.mem_of_getElem? (i := 124) rfl))) (notFace_of_selects (args := #[]) (mvT hZ (hw _ (List.mem_of_getElem? (i := 126) rfl)))) (mvT hZ (hw _ (List.mem_of_getElem? (i := 126) rfl))) (mvT hZ (hw _ (List.mem_of_getElem? (i := 125) rfl))) (by decide) (backOf (W := 0) (rm18 l Z aZ hw [] b377 (1 : Int32) (1 : Int64) b_395 f2_409 t1_422 t2_422 T422.heap n0 z423 c422_0 c422_1f c422_2 c422_3f f425 c422_4 c422_5 c395_8 gn377 pq426 pq427 pq428) hZ (hw _ (List.mem_of_getElem? (i := 127) rfl)) (hw _ (List.mem_of_getElem? (i := 3) rfl)) (by decide) (by decide)) q429a q429c (g := (mkF m 111 #[.val (.int qa), .val (.int qb), .val (.int qc), .val (.int qp), .val (.int qq), .val (.int (3 : Int32)), .val (.int (3 : Int32)), .val (.int kq), .val (.ref b377), .val (.int (1 : Int32)), .unset] [(.ref b377)])) rfl (by rw [hml]; rfl) (Steps.refl _) (argsL := []) (rest := []) (lenOf pd_0 rfl) rfl (by show 2 * 0 + _ ≤ _; exact Nat.le_of_eq rfl) (hb hby at_111) (fun _ _ => ⟨rfl, rfl, (by decide : 4 + 0 ≤ _), (by decide : 32788 + 0 ≤ _)⟩)
    dsimp only [Pt.U, Pt.locs, Pt.cells, Pt.slots] at X429 l429 y429 z429 st429 hQ429
    subst l429 y429 z429
    obtain ⟨t1_429, t2_429, rfl, Nq429, K429, c429_0, c429_1, c429_2, c429_3, c429_4, c429_5⟩ := hQ429
    have N429 := Fr.app N422 Nq429
    refine Go.tr st429 ?_
    have z430 : n0 ≤ T429.heap.size := Nat.le_trans z423 K429.1
    have sqz430 : h0.size ≤ T429.heap.size := Nat.le_trans sqz423 K429.1
    have c429_1f : Fld Z T429.heap b377 "com/example/tree_automata_reducer/treeautomatareducer/reduce/PairStack" "size" "J" (.long (0 : Int64)) := c429_1
    have c429_3f : Fld Z T429.heap b377 "com/example/tree_automata_reducer/treeautomatareducer/reduce/PairStack" "inBlock" "I" (.int (0 : Int32)) := c429_3
    rcases hkq with h1 | h1
    · skip
      subst h1
      show Go _ _ _ _ _ _ _ (T429.setTop (mkF m 114 #[.val (.int qa), .val (.int qb), .val (.int qc), .val (.int qp), .val (.int qq), .val (.int (3 : Int32)), .val (.int (3 : Int32)), .val (.int (0 : Int32)), .val (.ref b377), .val (.int (1 : Int32)), .unset] []))
      refine Go.step (fun _ k => XS.iload X429.here hx rfl (hb hby at_114) rfl  k) ?_
      show Go _ _ _ _ _ _ _ (T429.setTop (mkF m 116 #[.val (.int qa), .val (.int qb), .val (.int qc), .val (.int qp), .val (.int qq), .val (.int (3 : Int32)), .val (.int (3 : Int32)), .val (.int (0 : Int32)), .val (.ref b377), .val (.int (1 : Int32)), .unset] [(.int (0 : Int32))]))
      refine Go.step (fun _ k => XS.iconst X429.here hx rfl (hb hby at_116) k) ?_
      show Go _ _ _ _ _ _ _ (T429.setTop (mkF m 117 #[.val (.int qa), .val (.int qb), .val (.int qc), .val (.int qp), .val (.int qq), .val (.int (3 : Int32)), .val (.int (3 : Int32)), .val (.int (0 : Int32)), .val (.ref b377), .val (.int (1 : Int32)), .unset] [(.int (1 : Int32)), (.int (0 : Int32))]))
      have hc117 : ¬ ((0 : Int32) = (1 : Int32)) := by decide
      refine Go.step (fun _ k => XS.icmpYes X429.here hx rfl (pc0 := 117) (pc' := 129) rfl (hb hby at_117) rfl (feq hc117).2 (by decide) (by decide) k) ?_
      show Go _ _ _ _ _ _ _ (T429.setTop (mkF m 129 #[.val (.int qa), .val (.int qb), .val (.int qc), .val (.int qp), .val (.int qq), .val (.int (3 : Int32)), .val (.int (3 : Int32)), .val (.int (0 : Int32)), .val (.ref b377), .val (.int (1 : Int32)), .unset] []))
      refine Go.step (fun _ k => XS.iload X429.here hx rfl (hb hby at_129) rfl  k) ?_
      show Go _ _ _ _ _ _ _ (T429.setTop (mkF m 131 #[.val (.int qa), .val (.int qb), .val (.int qc), .val (.int qp), .val (.int qq), .val (.int (3 : Int32)), .val (.int (3 : Int32)), .val (.int (0 : Int32)), .val (.ref b377), .val (.int (1 : Int32)), .unset] [(.int (3 : Int32))]))
      refine Go.step (fun _ k => XS.iload X429.here hx rfl (hb hby at_131) rfl  k) ?_
      show Go _ _ _ _ _ _ _ (T429.setTop (mkF m 133 #[.val (.int qa), .val (.int qb), .val (.int qc), .val (.int qp), .val (.int qq), .val (.int (3 : Int32)), .val (.int (3 : Int32)), .val (.int (0 : Int32)), .val (.ref b377), .val (.int (1 : Int32)), .unset] [(.int (3 : Int32)), (.int (3 : Int32))]))
      refine Go.step (fun _ k => XS.isub X429.here hx rfl (hb hby at_133) rfl k) ?_
      show Go _ _ _ _ _ _ _ (T429.setTop (mkF m 134 #[.val (.int qa), .val (.int qb), .val (.int qc), .val (.int qp), .val (.int qq), .val (.int (3 : Int32)), .val (.int (3 : Int32)), .val (.int (0 : Int32)), .val (.ref b377), .val (.int (1 : Int32)), .unset] [(.int (0 : Int32))]))
      refine Go.step (fun _ k => XS.iload X429.here hx rfl (hb hby at_134) rfl  k) ?_
      show Go _ _ _ _ _ _ _ (T429.setTop (mkF m 136 #[.val (.int qa), .val (.int qb), .val (.int qc), .val (.int qp), .val (.int qq), .val (.int (3 : Int32)), .val (.int (3 : Int32)), .val (.int (0 : Int32)), .val (.ref b377), .val (.int (1 : Int32)), .unset] [(.int (0 : Int32)), (.int (0 : Int32))]))
      refine Go.step (fun _ k => XS.iadd X429.here hx rfl (hb hby at_136) rfl k) ?_
      show Go _ _ _ _ _ _ _ (T429.setTop (mkF m 137 #[.val (.int qa), .val (.int qb), .val (.int qc), .val (.int qp), .val (.int qq), .val (.int (3 : Int32)), .val (.int (3 : Int32)), .val (.int (0 : Int32)), .val (.ref b377), .val (.int (1 : Int32)), .unset] [(.int (0 : Int32))]))
      have hc137 : (0 : Int32) = (0 : Int32) := by decide
      refine Go.step (fun _ k => XS.ifNo X429.here hx rfl (hb hby at_137) rfl ((if0 _ _).trans (teq hc137).2) k) ?_
      show Go _ _ _ _ _ _ _ (T429.setTop (mkF m 140 #[.val (.int qa), .val (.int qb), .val (.int qc), .val (.int qp), .val (.int qq), .val (.int (3 : Int32)), .val (.int (3 : Int32)), .val (.int (0 : Int32)), .val (.ref b377), .val (.int (1 : Int32)), .unset] []))
      refine Go.step (fun _ k => XS.iconst X429.here hx rfl (hb hby at_140) k) ?_
      show Go _ _ _ _ _ _ _ (T429.setTop (mkF m 141 #[.val (.int qa), .val (.int qb), .val (.int qc), .val (.int qp), .val (.int qq), .val (.int (3 : Int32)), .val (.int (3 : Int32)), .val (.int (0 : Int32)), .val (.ref b377), .val (.int (1 : Int32)), .unset] [(.int (1 : Int32))]))
      refine Go.step (fun _ k => XS.goto X429.here hx rfl (pc0 := 141) (pc' := 145) rfl (hb hby at_141) (by decide) (by decide) k) ?_
      show Go _ _ _ _ _ _ _ (T429.setTop (mkF m 145 #[.val (.int qa), .val (.int qb), .val (.int qc), .val (.int qp), .val (.int qq), .val (.int (3 : Int32)), .val (.int (3 : Int32)), .val (.int (0 : Int32)), .val (.ref b377), .val (.int (1 : Int32)), .unset] [(.int (1 : Int32))]))
      refine Go.step (fun _ k => XS.istore X429.here hx rfl (hb hby at_145) rfl (l' := #[.val (.int qa), .val (.int qb), .val (.int qc), .val (.int qp), .val (.int qq), .val (.int (3 : Int32)), .val (.int (3 : Int32)), .val (.int (0 : Int32)), .val (.ref b377), .val (.int (1 : Int32)), .val (.int (1 : Int32))]) rfl k) ?_
      show Go _ _ _ _ _ _ _ (T429.setTop (mkF m 147 #[.val (.int qa), .val (.int qb), .val (.int qc), .val (.int qp), .val (.int qq), .val (.int (3 : Int32)), .val (.int (3 : Int32)), .val (.int (0 : Int32)), .val (.ref b377), .val (.int (1 : Int32)), .val (.int (1 : Int32))] []))
      refine Go.step (fun _ k => XS.iload X429.here hx rfl (hb hby at_147) rfl  k) ?_
      show Go _ _ _ _ _ _ _ (T429.setTop (mkF m 149 #[.val (.int qa), .val (.int qb), .val (.int qc), .val (.int qp), .val (.int qq), .val (.int (3 : Int32)), .val (.int (3 : Int32)), .val (.int (0 : Int32)), .val (.ref b377), .val (.int (1 : Int32)), .val (.int (1 : Int32))] [(.int (1 : Int32))]))
      have hc149 : ¬ ((1 : Int32) = (0 : Int32)) := by decide
      refine Go.step (fun _ k => XS.ifNo X429.here hx rfl (hb hby at_149) rfl ((if0 _ _).trans (feq hc149).1) k) ?_
      show Go _ _ _ _ _ _ _ (T429.setTop (mkF m 152 #[.val (.int qa), .val (.int qb), .val (.int qc), .val (.int qp), .val (.int qq), .val (.int (3 : Int32)), .val (.int (3 : Int32)), .val (.int (0 : Int32)), .val (.ref b377), .val (.int (1 : Int32)), .val (.int (1 : Int32))] []))
      refine Go.step (fun _ k => XS.aload X429.here hx rfl (hb hby at_152) rfl rfl  k) ?_
      show Go _ _ _ _ _ _ _ (T429.setTop (mkF m 154 #[.val (.int qa), .val (.int qb), .val (.int qc), .val (.int qp), .val (.int qq), .val (.int (3 : Int32)), .val (.int (3 : Int32)), .val (.int (0 : Int32)), .val (.ref b377), .val (.int (1 : Int32)), .val (.int (1 : Int32))] [(.ref b377)]))
      obtain ⟨cq432, kq432, q432a, q432b, q432c⟩ := isOf hZ rfl c429_0
      obtain ⟨_, _, ⟨T432, L432, k432, n432⟩, -, X432, ⟨Lc432, hQ432, l432, y432, z432⟩, st432⟩ := X429.virtualBack hx (y := (⟨"com/example/tree_automata_reducer/treeautomatareducer/reduce/PairStack", "isEmpty", "()Z"⟩ : MethodName)) (z := (⟨"com/example/tree_automata_reducer/treeautomatareducer/reduce/PairStack", "isEmpty", "()Z"⟩ : MethodName)) hown (mvT hZ (hw _ (List.mem_of_getElem? (i := 41) rfl))) (mvT hZ (hw _ (List.mem_of_getElem? (i := 42) rfl))) (notFace_of_selects (args := #[]) (mvT hZ (hw _ (List.mem_of_getElem? (i := 44) rfl)))) (mvT hZ (hw _ (List.mem_of_getElem? (i := 44) rfl))) (mvT hZ (hw _ (List.mem_of_getElem? (i := 43) rfl))) (by decide) (backOf (W := 0) (rm6 l Z aZ hw [] b377 (0 : Int64) T429.heap n0 z430 c429_1f) hZ (hw _ (List.mem_of_getElem? (i := 45) rfl)) (hw _ (List.mem_of_getElem? (i := 3) rfl)) (by decide) (by decide)) q432a q432c (g := (mkF m 154 #[.val (.int qa), .val (.int qb), .val (.int qc), .val (.int qp), .val (.int qq), .val (.int (3 : Int32)), .val (.int (3 : Int32)), .val (.int (0 : Int32)), .val (.ref b377), .val (.int (1 : Int32)), .val (.int (1 : Int32))] [(.ref b377)])) rfl (by rw [hml]; rfl) (Steps.refl _) (argsL := []) (rest := []) (lenOf pd_9 rfl) rfl (by show 2 * 0 + _ ≤ _; exact Nat.le_of_eq rfl) (hb hby at_154) (fun _ _ => ⟨rfl, rfl, (by decide : 4 + 0 ≤ _), (by decide : 32788 + 0 ≤ _)⟩)
      dsimp only [Pt.U, Pt.locs, Pt.cells, Pt.slots] at X432 l432 y432 z432 st432 hQ432
      subst l432 y432 z432
      obtain ⟨rfl, Nq432, e432⟩ := hQ432
      have N432 := Fr.app N429 Nq432
      refine Go.tr st432 ?_
      show Go _ _ _ _ _ _ _ (T432.setTop (mkF m 157 #[.val (.int qa), .val (.int qb), .val (.int qc), .val (.int qp), .val (.int qq), .val (.int (3 : Int32)), .val (.int (3 : Int32)), .val (.int (0 : Int32)), .val (.ref b377), .val (.int (1 : Int32)), .val (.int (1 : Int32))] [(.int (if (0 : Int64) = 0 then (1 : Int32) else 0))]))
      refine Go.step (fun _ k => XS.iload X432.here hx rfl (hb hby at_157) rfl  k) ?_
      show Go _ _ _ _ _ _ _ (T432.setTop (mkF m 159 #[.val (.int qa), .val (.int qb), .val (.int qc), .val (.int qp), .val (.int qq), .val (.int (3 : Int32)), .val (.int (3 : Int32)), .val (.int (0 : Int32)), .val (.ref b377), .val (.int (1 : Int32)), .val (.int (1 : Int32))] [(.int (1 : Int32)), (.int (if (0 : Int64) = 0 then (1 : Int32) else 0))]))
      have hc159 : (if (0 : Int64) = 0 then (1 : Int32) else 0) = (1 : Int32) := by decide
      refine Go.step (fun _ k => XS.icmpNo X432.here hx rfl (hb hby at_159) rfl (teq hc159).2 k) ?_
      show Go _ _ _ _ _ _ _ (T432.setTop (mkF m 162 #[.val (.int qa), .val (.int qb), .val (.int qc), .val (.int qp), .val (.int qq), .val (.int (3 : Int32)), .val (.int (3 : Int32)), .val (.int (0 : Int32)), .val (.ref b377), .val (.int (1 : Int32)), .val (.int (1 : Int32))] []))
      refine Go.step (fun _ k => XS.iconst X432.here hx rfl (hb hby at_162) k) ?_
      show Go _ _ _ _ _ _ _ (T432.setTop (mkF m 163 #[.val (.int qa), .val (.int qb), .val (.int qc), .val (.int qp), .val (.int qq), .val (.int (3 : Int32)), .val (.int (3 : Int32)), .val (.int (0 : Int32)), .val (.ref b377), .val (.int (1 : Int32)), .val (.int (1 : Int32))] [(.int (1 : Int32))]))
      refine Go.step (fun _ k => XS.goto X432.here hx rfl (pc0 := 163) (pc' := 167) rfl (hb hby at_163) (by decide) (by decide) k) ?_
      show Go _ _ _ _ _ _ _ (T432.setTop (mkF m 167 #[.val (.int qa), .val (.int qb), .val (.int qc), .val (.int qp), .val (.int qq), .val (.int (3 : Int32)), .val (.int (3 : Int32)), .val (.int (0 : Int32)), .val (.ref b377), .val (.int (1 : Int32)), .val (.int (1 : Int32))] [(.int (1 : Int32))]))
      refine Go.retN X432 hx (t := .boolean) Bd.returns (by simp) hlk (hb hby at_167) ?_ (by decide) (by decide)
      rw [e432]
      exact ⟨(by first | rfl | (simp_all [own_nb1, own_nb0]; done)), N432⟩
    · skip
      subst h1
      show Go _ _ _ _ _ _ _ (T429.setTop (mkF m 114 #[.val (.int qa), .val (.int qb), .val (.int qc), .val (.int qp), .val (.int qq), .val (.int (3 : Int32)), .val (.int (3 : Int32)), .val (.int (1 : Int32)), .val (.ref b377), .val (.int (1 : Int32)), .unset] []))
      refine Go.step (fun _ k => XS.iload X429.here hx rfl (hb hby at_114) rfl  k) ?_
      show Go _ _ _ _ _ _ _ (T429.setTop (mkF m 116 #[.val (.int qa), .val (.int qb), .val (.int qc), .val (.int qp), .val (.int qq), .val (.int (3 : Int32)), .val (.int (3 : Int32)), .val (.int (1 : Int32)), .val (.ref b377), .val (.int (1 : Int32)), .unset] [(.int (1 : Int32))]))
      refine Go.step (fun _ k => XS.iconst X429.here hx rfl (hb hby at_116) k) ?_
      show Go _ _ _ _ _ _ _ (T429.setTop (mkF m 117 #[.val (.int qa), .val (.int qb), .val (.int qc), .val (.int qp), .val (.int qq), .val (.int (3 : Int32)), .val (.int (3 : Int32)), .val (.int (1 : Int32)), .val (.ref b377), .val (.int (1 : Int32)), .unset] [(.int (1 : Int32)), (.int (1 : Int32))]))
      have hc117 : (1 : Int32) = (1 : Int32) := by decide
      refine Go.step (fun _ k => XS.icmpNo X429.here hx rfl (hb hby at_117) rfl (teq hc117).2 k) ?_
      show Go _ _ _ _ _ _ _ (T429.setTop (mkF m 120 #[.val (.int qa), .val (.int qb), .val (.int qc), .val (.int qp), .val (.int qq), .val (.int (3 : Int32)), .val (.int (3 : Int32)), .val (.int (1 : Int32)), .val (.ref b377), .val (.int (1 : Int32)), .unset] []))
      refine Go.step (fun _ k => XS.aload X429.here hx rfl (hb hby at_120) rfl rfl  k) ?_
      show Go _ _ _ _ _ _ _ (T429.setTop (mkF m 122 #[.val (.int qa), .val (.int qb), .val (.int qc), .val (.int qp), .val (.int qq), .val (.int (3 : Int32)), .val (.int (3 : Int32)), .val (.int (1 : Int32)), .val (.ref b377), .val (.int (1 : Int32)), .unset] [(.ref b377)]))
      refine Go.step (fun _ k => XS.iload X429.here hx rfl (hb hby at_122) rfl  k) ?_
      show Go _ _ _ _ _ _ _ (T429.setTop (mkF m 124 #[.val (.int qa), .val (.int qb), .val (.int qc), .val (.int qp), .val (.int qq), .val (.int (3 : Int32)), .val (.int (3 : Int32)), .val (.int (1 : Int32)), .val (.ref b377), .val (.int (1 : Int32)), .unset] [(.int qq), (.ref b377)]))
      refine Go.step (fun _ k => XS.iload X429.here hx rfl (hb hby at_124) rfl  k) ?_
      show Go _ _ _ _ _ _ _ (T429.setTop (mkF m 126 #[.val (.int qa), .val (.int qb), .val (.int qc), .val (.int qp), .val (.int qq), .val (.int (3 : Int32)), .val (.int (3 : Int32)), .val (.int (1 : Int32)), .val (.ref b377), .val (.int (1 : Int32)), .unset] [(.int qq), (.int qq), (.ref b377)]))
      have f433 : Al Z T429.heap b_395 (32768 : Int32) f2_409 := (f425.keep K429 (ninS (Ne.symm c395_8) nin0))
      have pq434 : ¬ (0 : Int32) = (32768 : Int32) := (by decide)
      have pq435 : ¬ (0 : Int32) < 0 := (by decide)
      have pq436 : (0 : Int32) < (32768 : Int32) := (by decide)
      obtain ⟨cq437, kq437, q437a, q437b, q437c⟩ := isOf hZ rfl c429_0
      obtain ⟨_, _, ⟨T437, L437, k437, n437⟩, -, X437, ⟨Lc437, hQ437, l437, y437, z437⟩, st437⟩ := X429.virtualBack hx (y := (⟨"com/example/tree_automata_reducer/treeautomatareducer/reduce/PairStack", "push", "(II)V"⟩ : MethodName)) (z := (⟨"com/example/tree_automata_reducer/treeautomatareducer/reduce/PairStack", "push", "(II)V"⟩ : MethodName)) hown (mvT hZ (hw _ (List.mem_of_getElem? (i := 48) rfl))) (mvT hZ (hw _ (List.mem_of_getElem? (i := 49) rfl))) (notFace_of_selects (args := #[]) (mvT hZ (hw _ (List.mem_of_getElem? (i := 51) rfl)))) (mvT hZ (hw _ (List.mem_of_getElem? (i := 51) rfl))) (mvT hZ (hw _ (List.mem_of_getElem? (i := 50) rfl))) (by decide) (backOf (W := 0) (rmpB l Z aZ hw [] b377 qq qq (0 : Int32) (0 : Int64) b_395 f2_409 t1_429 t2_429 T429.heap n0 z430 c429_0 c429_1f c429_2 c429_3f f433 c429_4 c429_5 c395_8 gn377 gn395_0 pq434 pq435 pq436) hZ (hw _ (List.mem_of_getElem? (i := 52) rfl)) (hw _ (List.mem_of_getElem? (i := 3) rfl)) (by decide) (by decide)) q437a q437c (g := (mkF m 126 #[.val (.int qa), .val (.int qb), .val (.int qc), .val (.int qp), .val (.int qq), .val (.int (3 : Int32)), .val (.int (3 : Int32)), .val (.int (1 : Int32)), .val (.ref b377), .val (.int (1 : Int32)), .unset] [(.int qq), (.int qq), (.ref b377)])) rfl (by rw [hml]; rfl) (Steps.refl _) (argsL := [(.int qq), (.int qq)]) (rest := []) (lenOf pd_10 rfl) rfl (by show 2 * 0 + _ ≤ _; exact Nat.le_of_eq rfl) (hb hby at_126) (fun _ _ => ⟨rfl, rfl, (by decide : 4 + 0 ≤ _), (by decide : 32788 + 0 ≤ _)⟩)
      dsimp only [Pt.U, Pt.locs, Pt.cells, Pt.slots] at X437 l437 y437 z437 st437 hQ437
      subst l437 y437 z437
      obtain ⟨f2_437, rfl, Nq437, K437, c437_0, c437_1, c437_2, c437_3, c437_4, c437_5, c437_6⟩ := hQ437
      have N437 := Fr.app N429 Nq437
      refine Go.tr st437 ?_
      have z438 : n0 ≤ T437.heap.size := Nat.le_trans z430 K437.1
      have sqz438 : h0.size ≤ T437.heap.size := Nat.le_trans sqz430 K437.1
      have c437_1f : Fld Z T437.heap b377 "com/example/tree_automata_reducer/treeautomatareducer/reduce/PairStack" "size" "J" (.long (1 : Int64)) := c437_1
      have c437_3f : Fld Z T437.heap b377 "com/example/tree_automata_reducer/treeautomatareducer/reduce/PairStack" "inBlock" "I" (.int (1 : Int32)) := c437_3
      show Go _ _ _ _ _ _ _ (T437.setTop (mkF m 129 #[.val (.int qa), .val (.int qb), .val (.int qc), .val (.int qp), .val (.int qq), .val (.int (3 : Int32)), .val (.int (3 : Int32)), .val (.int (1 : Int32)), .val (.ref b377), .val (.int (1 : Int32)), .unset] []))
      refine Go.step (fun _ k => XS.iload X437.here hx rfl (hb hby at_129) rfl  k) ?_
      show Go _ _ _ _ _ _ _ (T437.setTop (mkF m 131 #[.val (.int qa), .val (.int qb), .val (.int qc), .val (.int qp), .val (.int qq), .val (.int (3 : Int32)), .val (.int (3 : Int32)), .val (.int (1 : Int32)), .val (.ref b377), .val (.int (1 : Int32)), .unset] [(.int (3 : Int32))]))
      refine Go.step (fun _ k => XS.iload X437.here hx rfl (hb hby at_131) rfl  k) ?_
      show Go _ _ _ _ _ _ _ (T437.setTop (mkF m 133 #[.val (.int qa), .val (.int qb), .val (.int qc), .val (.int qp), .val (.int qq), .val (.int (3 : Int32)), .val (.int (3 : Int32)), .val (.int (1 : Int32)), .val (.ref b377), .val (.int (1 : Int32)), .unset] [(.int (3 : Int32)), (.int (3 : Int32))]))
      refine Go.step (fun _ k => XS.isub X437.here hx rfl (hb hby at_133) rfl k) ?_
      show Go _ _ _ _ _ _ _ (T437.setTop (mkF m 134 #[.val (.int qa), .val (.int qb), .val (.int qc), .val (.int qp), .val (.int qq), .val (.int (3 : Int32)), .val (.int (3 : Int32)), .val (.int (1 : Int32)), .val (.ref b377), .val (.int (1 : Int32)), .unset] [(.int (0 : Int32))]))
      refine Go.step (fun _ k => XS.iload X437.here hx rfl (hb hby at_134) rfl  k) ?_
      show Go _ _ _ _ _ _ _ (T437.setTop (mkF m 136 #[.val (.int qa), .val (.int qb), .val (.int qc), .val (.int qp), .val (.int qq), .val (.int (3 : Int32)), .val (.int (3 : Int32)), .val (.int (1 : Int32)), .val (.ref b377), .val (.int (1 : Int32)), .unset] [(.int (1 : Int32)), (.int (0 : Int32))]))
      refine Go.step (fun _ k => XS.iadd X437.here hx rfl (hb hby at_136) rfl k) ?_
      show Go _ _ _ _ _ _ _ (T437.setTop (mkF m 137 #[.val (.int qa), .val (.int qb), .val (.int qc), .val (.int qp), .val (.int qq), .val (.int (3 : Int32)), .val (.int (3 : Int32)), .val (.int (1 : Int32)), .val (.ref b377), .val (.int (1 : Int32)), .unset] [(.int (1 : Int32))]))
      have hc137 : ¬ ((1 : Int32) = (0 : Int32)) := by decide
      refine Go.step (fun _ k => XS.ifYes X437.here hx rfl (pc0 := 137) (pc' := 144) rfl (hb hby at_137) rfl ((if0 _ _).trans (feq hc137).2) (by decide) (by decide) k) ?_
      show Go _ _ _ _ _ _ _ (T437.setTop (mkF m 144 #[.val (.int qa), .val (.int qb), .val (.int qc), .val (.int qp), .val (.int qq), .val (.int (3 : Int32)), .val (.int (3 : Int32)), .val (.int (1 : Int32)), .val (.ref b377), .val (.int (1 : Int32)), .unset] []))
      refine Go.step (fun _ k => XS.iconst X437.here hx rfl (hb hby at_144) k) ?_
      show Go _ _ _ _ _ _ _ (T437.setTop (mkF m 145 #[.val (.int qa), .val (.int qb), .val (.int qc), .val (.int qp), .val (.int qq), .val (.int (3 : Int32)), .val (.int (3 : Int32)), .val (.int (1 : Int32)), .val (.ref b377), .val (.int (1 : Int32)), .unset] [(.int (0 : Int32))]))
      refine Go.step (fun _ k => XS.istore X437.here hx rfl (hb hby at_145) rfl (l' := #[.val (.int qa), .val (.int qb), .val (.int qc), .val (.int qp), .val (.int qq), .val (.int (3 : Int32)), .val (.int (3 : Int32)), .val (.int (1 : Int32)), .val (.ref b377), .val (.int (1 : Int32)), .val (.int (0 : Int32))]) rfl k) ?_
      show Go _ _ _ _ _ _ _ (T437.setTop (mkF m 147 #[.val (.int qa), .val (.int qb), .val (.int qc), .val (.int qp), .val (.int qq), .val (.int (3 : Int32)), .val (.int (3 : Int32)), .val (.int (1 : Int32)), .val (.ref b377), .val (.int (1 : Int32)), .val (.int (0 : Int32))] []))
      refine Go.step (fun _ k => XS.iload X437.here hx rfl (hb hby at_147) rfl  k) ?_
      show Go _ _ _ _ _ _ _ (T437.setTop (mkF m 149 #[.val (.int qa), .val (.int qb), .val (.int qc), .val (.int qp), .val (.int qq), .val (.int (3 : Int32)), .val (.int (3 : Int32)), .val (.int (1 : Int32)), .val (.ref b377), .val (.int (1 : Int32)), .val (.int (0 : Int32))] [(.int (1 : Int32))]))
      have hc149 : ¬ ((1 : Int32) = (0 : Int32)) := hc137
      refine Go.step (fun _ k => XS.ifNo X437.here hx rfl (hb hby at_149) rfl ((if0 _ _).trans (feq hc149).1) k) ?_
      show Go _ _ _ _ _ _ _ (T437.setTop (mkF m 152 #[.val (.int qa), .val (.int qb), .val (.int qc), .val (.int qp), .val (.int qq), .val (.int (3 : Int32)), .val (.int (3 : Int32)), .val (.int (1 : Int32)), .val (.ref b377), .val (.int (1 : Int32)), .val (.int (0 : Int32))] []))
      refine Go.step (fun _ k => XS.aload X437.here hx rfl (hb hby at_152) rfl rfl  k) ?_
      show Go _ _ _ _ _ _ _ (T437.setTop (mkF m 154 #[.val (.int qa), .val (.int qb), .val (.int qc), .val (.int qp), .val (.int qq), .val (.int (3 : Int32)), .val (.int (3 : Int32)), .val (.int (1 : Int32)), .val (.ref b377), .val (.int (1 : Int32)), .val (.int (0 : Int32))] [(.ref b377)]))
      obtain ⟨cq440, kq440, q440a, q440b, q440c⟩ := isOf hZ rfl c437_0
      obtain ⟨_, _, ⟨T440, L440, k440, n440⟩, -, X440, ⟨Lc440, hQ440, l440, y440, z440⟩, st440⟩ := X437.virtualBack hx (y := (⟨"com/example/tree_automata_reducer/treeautomatareducer/reduce/PairStack", "isEmpty", "()Z"⟩ : MethodName)) (z := (⟨"com/example/tree_automata_reducer/treeautomatareducer/reduce/PairStack", "isEmpty", "()Z"⟩ : MethodName)) hown (mvT hZ (hw _ (List.mem_of_getElem? (i := 41) rfl))) (mvT hZ (hw _ (List.mem_of_getElem? (i := 42) rfl))) (notFace_of_selects (args := #[]) (mvT hZ (hw _ (List.mem_of_getElem? (i := 44) rfl)))) (mvT hZ (hw _ (List.mem_of_getElem? (i := 44) rfl))) (mvT hZ (hw _ (List.mem_of_getElem? (i := 43) rfl))) (by decide) (backOf (W := 0) (rm6 l Z aZ hw [] b377 (1 : Int64) T437.heap n0 z438 c437_1f) hZ (hw _ (List.mem_of_getElem? (i := 45) rfl)) (hw _ (List.mem_of_getElem? (i := 3) rfl)) (by decide) (by decide)) q440a q440c (g := (mkF m 154 #[.val (.int qa), .val (.int qb), .val (.int qc), .val (.int qp), .val (.int qq), .val (.int (3 : Int32)), .val (.int (3 : Int32)), .val (.int (1 : Int32)), .val (.ref b377), .val (.int (1 : Int32)), .val (.int (0 : Int32))] [(.ref b377)])) rfl (by rw [hml]; rfl) (Steps.refl _) (argsL := []) (rest := []) (lenOf pd_9 rfl) rfl (by show 2 * 0 + _ ≤ _; exact Nat.le_of_eq rfl) (hb hby at_154) (fun _ _ => ⟨rfl, rfl, (by decide : 4 + 0 ≤ _), (by decide : 32788 + 0 ≤ _)⟩)
      dsimp only [Pt.U, Pt.locs, Pt.cells, Pt.slots] at X440 l440 y440 z440 st440 hQ440
      subst l440 y440 z440
      obtain ⟨rfl, Nq440, e440⟩ := hQ440
      have N440 := Fr.app N437 Nq440
      refine Go.tr st440 ?_
      show Go _ _ _ _ _ _ _ (T440.setTop (mkF m 157 #[.val (.int qa), .val (.int qb), .val (.int qc), .val (.int qp), .val (.int qq), .val (.int (3 : Int32)), .val (.int (3 : Int32)), .val (.int (1 : Int32)), .val (.ref b377), .val (.int (1 : Int32)), .val (.int (0 : Int32))] [(.int (if (1 : Int64) = 0 then (1 : Int32) else 0))]))
      refine Go.step (fun _ k => XS.iload X440.here hx rfl (hb hby at_157) rfl  k) ?_
      show Go _ _ _ _ _ _ _ (T440.setTop (mkF m 159 #[.val (.int qa), .val (.int qb), .val (.int qc), .val (.int qp), .val (.int qq), .val (.int (3 : Int32)), .val (.int (3 : Int32)), .val (.int (1 : Int32)), .val (.ref b377), .val (.int (1 : Int32)), .val (.int (0 : Int32))] [(.int (0 : Int32)), (.int (if (1 : Int64) = 0 then (1 : Int32) else 0))]))
      have hc159 : (if (1 : Int64) = 0 then (1 : Int32) else 0) = (0 : Int32) := by decide
      refine Go.step (fun _ k => XS.icmpNo X440.here hx rfl (hb hby at_159) rfl (teq hc159).2 k) ?_
      show Go _ _ _ _ _ _ _ (T440.setTop (mkF m 162 #[.val (.int qa), .val (.int qb), .val (.int qc), .val (.int qp), .val (.int qq), .val (.int (3 : Int32)), .val (.int (3 : Int32)), .val (.int (1 : Int32)), .val (.ref b377), .val (.int (1 : Int32)), .val (.int (0 : Int32))] []))
      refine Go.step (fun _ k => XS.iconst X440.here hx rfl (hb hby at_162) k) ?_
      show Go _ _ _ _ _ _ _ (T440.setTop (mkF m 163 #[.val (.int qa), .val (.int qb), .val (.int qc), .val (.int qp), .val (.int qq), .val (.int (3 : Int32)), .val (.int (3 : Int32)), .val (.int (1 : Int32)), .val (.ref b377), .val (.int (1 : Int32)), .val (.int (0 : Int32))] [(.int (1 : Int32))]))
      refine Go.step (fun _ k => XS.goto X440.here hx rfl (pc0 := 163) (pc' := 167) rfl (hb hby at_163) (by decide) (by decide) k) ?_
      show Go _ _ _ _ _ _ _ (T440.setTop (mkF m 167 #[.val (.int qa), .val (.int qb), .val (.int qc), .val (.int qp), .val (.int qq), .val (.int (3 : Int32)), .val (.int (3 : Int32)), .val (.int (1 : Int32)), .val (.ref b377), .val (.int (1 : Int32)), .val (.int (0 : Int32))] [(.int (1 : Int32))]))
      refine Go.retN X440 hx (t := .boolean) Bd.returns (by simp) hlk (hb hby at_167) ?_ (by decide) (by decide)
      rw [e440]
      exact ⟨(by first | rfl | (simp_all [own_nb1, own_nb0]; done)), N440⟩
set_option maxRecDepth 65536 in
set_option maxHeartbeats 40000000 in
theorem comes_1 {Post : Tables → Env → Array Value → State → Outcome → State → Prop} (hpost : ∀ tb e args s v u, (limb_1_1.after args s (.returned v) u = true ∧ limb_1_2.after args s (.returned v) u = true ∧ True) → FrameEnd s (.returned v) u (Jvm.fieldLocs frame_1_writes args s ++ Jvm.arrayLocs frame_1_arrays args s ++ Jvm.staticLocs frame_1_statics s) 16 65664 → Post tb e args s (.returned v) u) :
    ArmFor flags0 classFile x code maxLocals ret World_1 tables_1 room_1 Calls_1 rest_1 Pre_1 Post := by
  intro l hfl _ _ p e ha hc hk s m args below hf hA hF happ hP
  obtain ⟨hcalls, hrest, hpre⟩ := hP
  obtain ⟨-, -, -, hnamed, -, -, -, hat⟩ := (Spec.applies_iff hf).mp happ
  obtain ⟨hg, hn⟩ := and_e (Cond.before_iff.mp (show (Jvm.Cond.and given_1 narrow_1).before args s = true from hpre))
  obtain ⟨g0, r0⟩ := and_e hg
  obtain ⟨a0, r1⟩ := and_e r0
  obtain ⟨a1, r2⟩ := and_e r1
  obtain ⟨a2, r3⟩ := and_e r2
  obtain ⟨a3, r4⟩ := and_e r3
  have a4 := r4
  obtain ⟨w0, w1, w2, w3, w4, rfl⟩ : ∃ w0 w1 w2 w3 w4 : Value, args = #[w0, w1, w2, w3, w4] := by
    have hs : args.size = 5 := by simpa [Cond.value, given_1] using g0
    obtain ⟨L⟩ := args
    match L, hs with
    | [w0, w1, w2, w3, w4], _ => exact ⟨w0, w1, w2, w3, w4, rfl⟩
  have hw := fun d (hd : d ∈ tables_1) => atoms_spec (ws := Jvm.Cond.code x code maxLocals ret :: tables_1) hat d (List.mem_cons_of_mem _ hd)
  have hfit : Fit s := fun {y c} hc i hi => by
    obtain ⟨ha, rfl⟩ := Array.getElem?_eq_some_iff.mp hc
    have q := List.all_eq_true.mp ((Array.all_eq_true_iff_forall_mem.mp hF) _ (Array.getElem_mem ha)) i (List.mem_range.mpr hi)
    simpa [Array.getElem?_eq_getElem hi] using q
  obtain ⟨hsets, hown0⟩ := atoms_of _ (rest_1_c_eq ▸ (show rest_1_c.before _ s = true from hrest))
  obtain ⟨i0, ei0⟩ := is_v a0
  obtain rfl : w0 = (.int i0) := Option.some.inj ei0
  obtain ⟨i1, ei1⟩ := is_v a1
  obtain rfl : w1 = (.int i1) := Option.some.inj ei1
  obtain ⟨i2, ei2⟩ := is_v a2
  obtain rfl : w2 = (.int i2) := Option.some.inj ei2
  obtain ⟨i3, ei3⟩ := is_v a3
  obtain rfl : w3 = (.int i3) := Option.some.inj ei3
  obtain ⟨i4, ei4⟩ := is_v a4
  obtain rfl : w4 = (.int i4) := Option.some.inj ei4
  obtain ⟨w0, ew0⟩ := exa_v (Cond.before_iff.mp (hsets _ (List.mem_of_getElem? (i := 7) rfl)))
  have hst : Sta s s.heap "java/util/ArrayList" "DEFAULTCAPACITY_EMPTY_ELEMENTDATA" "[Ljava/lang/Object;" (.ref w0) := Sta.start ew0 (Or.inr ⟨hw _ (List.mem_of_getElem? (i := 12) rfl), hsets _ (List.mem_of_getElem? (i := 2) rfl)⟩)
  have hA0 := own_a0 hfit ew0 (Cond.before_iff.mp (hsets _ (List.mem_of_getElem? (i := 6) rfl))) (Cond.before_iff.mp (hsets _ (List.mem_of_getElem? (i := 8) rfl)))
  obtain ⟨n, o, h1, h2, h3, _, L, rfl, ⟨rfl, N⟩, hq⟩ := rm0 l s _ hw tables_1 i0 i1 i2 i3 i4 w0 s.heap s.heap.size (Nat.le_refl _) (Old.start s) hst hA0 p e ha hc hk s m _ below hf ((Spec.applies_iff_loose hf).mp happ).1 ⟨rfl, State.Warmed39.refl s, rfl⟩ trivial
  refine ⟨n, _, h1, h2, h3, hpost _ _ _ _ _ _ ⟨Cond.after_iff.mpr rfl, Cond.after_iff.mpr (eq_i res_at (Term.int_eval (1)) rfl), trivial⟩ ⟨hq.1, hq.2.1, (hq.2.2.sift fun y hy => Or.inr (N y hy)).mono (by decide) (by decide)⟩⟩
theorem main_1_1 : Claimed_1_1 := comes_1 fun _ _ _ _ _ _ h hF => ⟨h.1, hF⟩
theorem main_1_2 : Claimed_1_2 := comes_1 fun _ _ _ _ _ _ h hF => ⟨h.2.1, hF⟩
end Jvm.Pilot.@@N@@
namespace Jvm.Pilot.@@N@@
open Jvm Jvm.ClassFile Sem Op Lib Jvm.Free Jvm.Stand Jvm.Pilot.@@N@@.Jvm.D
/-! MADE BY PROGRAM (witnessworld.py) out of the Statement's table words and the real class files: 23 classes; the members and pool entries that the words name. The judged class is class 1, her method 1. -/
namespace start1
open Jvm.ClassFile
def u (s : String) : CpInfo := .utf8 (stringToUtf16 s)
/-- a pool by its gaps: so many unusable entries, then the entry; so many at the end -/
def gap : Nat → List CpInfo → List CpInfo
  | 0, r => r
  | n + 1, r => .unusable :: gap n r
def poolList (es : List (Nat × CpInfo)) (last : Nat) : List CpInfo := es.foldr (fun e r => gap e.1 (e.2 :: r)) (gap last [])
def pool (es : List (Nat × CpInfo)) (last : Nat) : Array CpInfo := ⟨poolList es last⟩
def fileOf (pool : Array CpInfo) (this : Nat) (attrs : Array Attribute := #[]) (ms : Array MethodInfo := #[]) (fl : Nat := 33) (sup : Nat := 0) (ifs : Array Nat := #[]) (fds : Array FieldInfo := #[]) : ClassFile where
  minorVersion := 0
  majorVersion := 65
  constantPool := pool
  accessFlags := fl
  thisClass := this
  superClass := sup
  interfaces := ifs
  fields := fds
  methods := ms
  attributes := attrs
def plain (name : String) (sup : Option ClassId) : Class where
  name := name
  kind := .ordinary
  loader := none
  accessFlags := 33
  super := sup
  interfaces := #[]
  cf := none
  fields := #[]
  methods := #[]
  instanceTypes := #[]
  staticTypes := #[]
  resolved := #[]
  callSites := []
  init := .initialized
  statics := none
  mirror := none

def pool0 : Array CpInfo := pool [(5, u "<init>"), (0, u "()V"), (1, .class_ 10), (1, u "java/lang/Object")] 113

def k0c0 : Code := { maxStack := 0, maxLocals := 1, code := object_method_1_code, exceptionTable := #[], attributes := #[] }
def k0m0 : Method := { name := "<init>", desc := "()V", sig := { parameters := [], returnType := none }, accessFlags := 1, code := some k0c0 }
/-- java/lang/Object -/
def k0 : Class := { plain "java/lang/Object" none with
  accessFlags := 33
  interfaces := #[]
  cf := some (fileOf pool0 8 #[] #[{ accessFlags := 1, nameIndex := 5, descriptorIndex := 6, attributes := #[] }] 33 0 #[] #[])
  fields := #[]
  methods := #[k0m0]
  instanceTypes := #[]
  staticTypes := #[]
  resolved := Array.replicate 124 none
  statics := none }

def pool1 : Array CpInfo := pool [(2, .class_ 4), (0, .nameAndType 5 6), (0, u "java/lang/Object"), (0, u "<init>"), (0, u "()V"), (0, .integer 2147483647), (0, .class_ 9), (0, u "com/example/tree_automata_reducer/treeautomatareducer/reduce/PairStack"), (0, .methodref 8 3), (0, .methodref 8 12), (0, .nameAndType 13 14), (0, u "isEmpty"), (0, u "()Z"), (0, .methodref 8 16), (0, .nameAndType 17 18), (0, u "push"), (0, u "(II)V"), (0, .methodref 8 20), (0, .nameAndType 21 6), (0, u "pop"), (0, .class_ 23), (0, u "com/example/tree_automata_reducer/treeautomatareducer/reduce/PairStackIsEmptyPinLaw"), (2, u "law"), (0, u "(IIIII)Z")] 3

def k1m0 : Method := { name := "<init>", desc := "()V", sig := { parameters := [], returnType := none }, accessFlags := 1, code := none }
def k1c1 : Code := { maxStack := 3, maxLocals := 11, code := code, exceptionTable := #[], attributes := #[] }
def k1m1 : Method := { name := "law", desc := "(IIIII)Z", sig := { parameters := [.int, .int, .int, .int, .int], returnType := some .boolean }, accessFlags := 9, code := some k1c1 }
/-- com/example/tree_automata_reducer/treeautomatareducer/reduce/PairStackIsEmptyPinLaw -/
def k1 : Class := { plain "com/example/tree_automata_reducer/treeautomatareducer/reduce/PairStackIsEmptyPinLaw" (some 0) with
  accessFlags := 49
  interfaces := #[]
  cf := some (fileOf pool1 22 #[] #[{ accessFlags := 1, nameIndex := 5, descriptorIndex := 6, attributes := #[] }, { accessFlags := 9, nameIndex := 26, descriptorIndex := 27, attributes := #[] }] 49 2 #[] #[])
  fields := #[]
  methods := #[k1m0, k1m1]
  instanceTypes := #[]
  staticTypes := #[]
  resolved := Array.replicate 31 none
  statics := none }

def pool2 : Array CpInfo := pool [(1, .methodref 2 3), (0, .class_ 4), (0, .nameAndType 5 6), (0, u "java/lang/Object"), (0, u "<init>"), (0, u "()V"), (0, .class_ 8), (0, u "java/util/ArrayList"), (0, .methodref 7 3), (0, .fieldref 11 12), (0, .class_ 13), (0, .nameAndType 14 15), (0, u "com/example/tree_automata_reducer/treeautomatareducer/reduce/PairStack"), (0, u "blocks"), (0, u "Ljava/util/List;"), (0, .fieldref 11 17), (0, .nameAndType 18 19), (0, u "blockNumber"), (0, u "I"), (0, .integer 32768), (0, .fieldref 11 22), (0, .nameAndType 23 19), (0, u "inBlock"), (0, .interfaceMethodref 25 26), (0, .class_ 27), (0, .nameAndType 28 29), (0, u "java/util/List"), (0, u "size"), (0, u "()I"), (0, .interfaceMethodref 25 31), (0, .nameAndType 32 33), (0, u "add"), (0, u "(Ljava/lang/Object;)Z"), (0, .interfaceMethodref 25 35), (0, .nameAndType 36 37), (0, u "get"), (0, u "(I)Ljava/lang/Object;"), (0, .class_ 39), (0, u "[J"), (0, .fieldref 11 41), (0, .nameAndType 42 39), (0, u "block"), (2, .long 4294967295), (1, .fieldref 11 48), (0, .nameAndType 28 49), (0, u "J"), (0, .fieldref 11 51), (0, .nameAndType 52 19), (0, u "first"), (0, .fieldref 11 54), (0, .nameAndType 55 19), (0, u "second"), (0, u "BLOCK"), (5, u "push"), (0, u "(II)V"), (1, u "isEmpty"), (0, u "()Z"), (0, u "pop")] 2

def k2c0 : Code := { maxStack := 3, maxLocals := 1, code := prog_65_method_1_code, exceptionTable := #[], attributes := #[] }
def k2m0 : Method := { name := "<init>", desc := "()V", sig := { parameters := [], returnType := none }, accessFlags := 0, code := some k2c0 }
def k2c1 : Code := { maxStack := 8, maxLocals := 3, code := prog_65_method_2_code, exceptionTable := #[], attributes := #[] }
def k2m1 : Method := { name := "push", desc := "(II)V", sig := { parameters := [.int, .int], returnType := none }, accessFlags := 0, code := some k2c1 }
def k2c2 : Code := { maxStack := 4, maxLocals := 1, code := prog_65_method_3_code, exceptionTable := #[], attributes := #[] }
def k2m2 : Method := { name := "isEmpty", desc := "()Z", sig := { parameters := [], returnType := some .boolean }, accessFlags := 0, code := some k2c2 }
def k2c3 : Code := { maxStack := 5, maxLocals := 3, code := prog_65_method_4_code, exceptionTable := #[], attributes := #[] }
def k2m3 : Method := { name := "pop", desc := "()V", sig := { parameters := [], returnType := none }, accessFlags := 0, code := some k2c3 }
/-- com/example/tree_automata_reducer/treeautomatareducer/reduce/PairStack -/
def k2 : Class := { plain "com/example/tree_automata_reducer/treeautomatareducer/reduce/PairStack" (some 0) with
  accessFlags := 48
  interfaces := #[]
  cf := some (fileOf pool2 11 #[] #[{ accessFlags := 0, nameIndex := 5, descriptorIndex := 6, attributes := #[] }, { accessFlags := 0, nameIndex := 62, descriptorIndex := 63, attributes := #[] }, { accessFlags := 0, nameIndex := 65, descriptorIndex := 66, attributes := #[] }, { accessFlags := 0, nameIndex := 67, descriptorIndex := 6, attributes := #[] }] 48 2 #[] #[{ accessFlags := 26, nameIndex := 56, descriptorIndex := 19, attributes := #[] }, { accessFlags := 18, nameIndex := 14, descriptorIndex := 15, attributes := #[] }, { accessFlags := 2, nameIndex := 28, descriptorIndex := 49, attributes := #[] }, { accessFlags := 2, nameIndex := 42, descriptorIndex := 39, attributes := #[] }, { accessFlags := 2, nameIndex := 18, descriptorIndex := 19, attributes := #[] }, { accessFlags := 2, nameIndex := 23, descriptorIndex := 19, attributes := #[] }, { accessFlags := 2, nameIndex := 52, descriptorIndex := 19, attributes := #[] }, { accessFlags := 2, nameIndex := 55, descriptorIndex := 19, attributes := #[] }])
  fields := #[{ name := "BLOCK", type := .int, accessFlags := 26, slot := 0, constantValue := 0 }, { name := "blocks", type := (.object "java/util/List"), accessFlags := 18, slot := 0, constantValue := 0 }, { name := "size", type := .long, accessFlags := 2, slot := 1, constantValue := 0 }, { name := "block", type := (.array .long), accessFlags := 2, slot := 2, constantValue := 0 }, { name := "blockNumber", type := .int, accessFlags := 2, slot := 3, constantValue := 0 }, { name := "inBlock", type := .int, accessFlags := 2, slot := 4, constantValue := 0 }, { name := "first", type := .int, accessFlags := 2, slot := 5, constantValue := 0 }, { name := "second", type := .int, accessFlags := 2, slot := 6, constantValue := 0 }]
  methods := #[k2m0, k2m1, k2m2, k2m3]
  instanceTypes := #[(.object "java/util/List"), .long, (.array .long), .int, .int, .int, .int]
  staticTypes := #[.int]
  resolved := Array.replicate 70 none
  statics := none }

def pool3 : Array CpInfo := pool [(8, .class_ 10), (1, u "java/lang/Iterable"), (24, .class_ 36), (0, u "java/lang/Object")] 25

/-- java/lang/Iterable -/
def k3 : Class := { plain "java/lang/Iterable" (some 0) with
  accessFlags := 1537
  interfaces := #[]
  cf := some (fileOf pool3 8 #[] #[] 1537 35 #[] #[])
  fields := #[]
  methods := #[]
  instanceTypes := #[]
  staticTypes := #[]
  resolved := Array.replicate 62 none
  statics := none }

def pool4 : Array CpInfo := pool [(10, .class_ 12), (1, u "java/util/Collection"), (47, .class_ 61), (0, u "java/lang/Object"), (0, .class_ 63), (0, u "java/lang/Iterable")] 51

/-- java/util/Collection -/
def k4 : Class := { plain "java/util/Collection" (some 0) with
  accessFlags := 1537
  interfaces := #[3]
  cf := some (fileOf pool4 10 #[] #[] 1537 60 #[62] #[])
  fields := #[]
  methods := #[]
  instanceTypes := #[]
  staticTypes := #[]
  resolved := Array.replicate 115 none
  statics := none }

def pool5 : Array CpInfo := pool [(1, .methodref 2 3), (0, .class_ 4), (0, .nameAndType 5 6), (0, u "java/lang/Object"), (0, u "<init>"), (0, u "()V"), (1, .class_ 10), (1, u "java/util/AbstractCollection"), (66, .class_ 78), (0, u "java/util/Collection")] 81

def k5c0 : Code := { maxStack := 1, maxLocals := 1, code := jdk_22_method_1_code, exceptionTable := #[], attributes := #[] }
def k5m0 : Method := { name := "<init>", desc := "()V", sig := { parameters := [], returnType := none }, accessFlags := 4, code := some k5c0 }
/-- java/util/AbstractCollection -/
def k5 : Class := { plain "java/util/AbstractCollection" (some 0) with
  accessFlags := 1057
  interfaces := #[4]
  cf := some (fileOf pool5 8 #[] #[{ accessFlags := 4, nameIndex := 5, descriptorIndex := 6, attributes := #[] }] 1057 2 #[77] #[])
  fields := #[]
  methods := #[k5m0]
  instanceTypes := #[]
  staticTypes := #[]
  resolved := Array.replicate 160 none
  statics := none }

def pool6 : Array CpInfo := pool [(8, .class_ 10), (1, u "java/util/SequencedCollection"), (15, .class_ 27), (0, u "java/lang/Object"), (0, .class_ 29), (0, u "java/util/Collection")] 27

/-- java/util/SequencedCollection -/
def k6 : Class := { plain "java/util/SequencedCollection" (some 0) with
  accessFlags := 1537
  interfaces := #[4]
  cf := some (fileOf pool6 8 #[] #[] 1537 26 #[28] #[])
  fields := #[]
  methods := #[]
  instanceTypes := #[]
  staticTypes := #[]
  resolved := Array.replicate 57 none
  statics := none }

def pool7 : Array CpInfo := pool [(8, .class_ 10), (1, u "java/util/List"), (49, u "add"), (3, u "(Ljava/lang/Object;)Z"), (10, u "get"), (0, u "(I)Ljava/lang/Object;"), (2, u "size"), (0, u "()I"), (22, .class_ 104), (0, u "java/lang/Object"), (15, .class_ 121), (0, u "java/util/SequencedCollection")] 129

def k7m0 : Method := { name := "size", desc := "()I", sig := { parameters := [], returnType := some .int }, accessFlags := 1025, code := none }
def k7m1 : Method := { name := "add", desc := "(Ljava/lang/Object;)Z", sig := { parameters := [(.object "java/lang/Object")], returnType := some .boolean }, accessFlags := 1025, code := none }
def k7m2 : Method := { name := "get", desc := "(I)Ljava/lang/Object;", sig := { parameters := [.int], returnType := some (.object "java/lang/Object") }, accessFlags := 1025, code := none }
/-- java/util/List -/
def k7 : Class := { plain "java/util/List" (some 0) with
  accessFlags := 1537
  interfaces := #[6]
  cf := some (fileOf pool7 8 #[] #[{ accessFlags := 1025, nameIndex := 79, descriptorIndex := 80, attributes := #[] }, { accessFlags := 1025, nameIndex := 60, descriptorIndex := 64, attributes := #[] }, { accessFlags := 1025, nameIndex := 75, descriptorIndex := 76, attributes := #[] }] 1537 103 #[120] #[])
  fields := #[]
  methods := #[k7m0, k7m1, k7m2]
  instanceTypes := #[]
  staticTypes := #[]
  resolved := Array.replicate 251 none
  statics := none }

def pool8 : Array CpInfo := pool [(1, .methodref 2 3), (0, .class_ 4), (0, .nameAndType 5 6), (0, u "java/util/AbstractCollection"), (0, u "<init>"), (0, u "()V"), (0, .fieldref 8 9), (0, .class_ 10), (0, .nameAndType 11 12), (0, u "java/util/AbstractList"), (0, u "modCount"), (0, u "I"), (64, .class_ 78), (0, u "java/util/AbstractList$Itr"), (3, .class_ 83), (0, u "java/util/AbstractList$ListItr"), (9, .class_ 94), (0, u "java/util/AbstractList$RandomAccessSubList"), (3, .class_ 99), (0, u "java/util/AbstractList$SubList"), (33, .class_ 134), (0, u "java/util/List"), (73, .class_ 209), (0, u "java/util/AbstractList$SubList$1"), (0, .class_ 211), (0, u "java/util/AbstractList$RandomAccessSpliterator")] 6

def k8c0 : Code := { maxStack := 2, maxLocals := 1, code := jdk_39_method_1_code, exceptionTable := #[], attributes := #[] }
def k8m0 : Method := { name := "<init>", desc := "()V", sig := { parameters := [], returnType := none }, accessFlags := 4, code := some k8c0 }
/-- java/util/AbstractList -/
def k8 : Class := { plain "java/util/AbstractList" (some 5) with
  accessFlags := 1057
  interfaces := #[7]
  cf := some (fileOf pool8 8 #[.nestMembers #[93, 98, 208, 210, 82, 77]] #[{ accessFlags := 4, nameIndex := 5, descriptorIndex := 6, attributes := #[] }] 1057 2 #[133] #[{ accessFlags := 132, nameIndex := 11, descriptorIndex := 12, attributes := #[] }])
  fields := #[{ name := "modCount", type := .int, accessFlags := 132, slot := 0, constantValue := 0 }]
  methods := #[k8m0]
  instanceTypes := #[.int]
  staticTypes := #[]
  resolved := Array.replicate 218 none
  statics := none }

def pool9 : Array CpInfo := pool [(1, .class_ 2), (0, u "java/util/RandomAccess"), (0, .class_ 4), (0, u "java/lang/Object")] 2

/-- java/util/RandomAccess -/
def k9 : Class := { plain "java/util/RandomAccess" (some 0) with
  accessFlags := 1537
  interfaces := #[]
  cf := some (fileOf pool9 1 #[] #[] 1537 3 #[] #[])
  fields := #[]
  methods := #[]
  instanceTypes := #[]
  staticTypes := #[]
  resolved := Array.replicate 7 none
  statics := none }

def pool10 : Array CpInfo := pool [(1, .class_ 2), (0, u "java/lang/Cloneable"), (0, .class_ 4), (0, u "java/lang/Object")] 2

/-- java/lang/Cloneable -/
def k10 : Class := { plain "java/lang/Cloneable" (some 0) with
  accessFlags := 1537
  interfaces := #[]
  cf := some (fileOf pool10 1 #[] #[] 1537 3 #[] #[])
  fields := #[]
  methods := #[]
  instanceTypes := #[]
  staticTypes := #[]
  resolved := Array.replicate 7 none
  statics := none }

def pool11 : Array CpInfo := pool [(1, .class_ 2), (0, u "java/io/Serializable"), (0, .class_ 4), (0, u "java/lang/Object")] 2

/-- java/io/Serializable -/
def k11 : Class := { plain "java/io/Serializable" (some 0) with
  accessFlags := 1537
  interfaces := #[]
  cf := some (fileOf pool11 1 #[] #[] 1537 3 #[] #[])
  fields := #[]
  methods := #[]
  instanceTypes := #[]
  staticTypes := #[]
  resolved := Array.replicate 7 none
  statics := none }

def pool12 : Array CpInfo := pool [(1, .methodref 2 3), (0, .class_ 4), (0, .nameAndType 5 6), (0, u "java/util/AbstractList"), (0, u "<init>"), (0, u "()V"), (0, .class_ 8), (0, u "java/lang/Object"), (0, .fieldref 10 11), (0, .class_ 12), (0, .nameAndType 13 14), (0, u "java/util/ArrayList"), (0, u "elementData"), (0, u "[Ljava/lang/Object;"), (2, u "EMPTY_ELEMENTDATA"), (21, .fieldref 10 40), (0, .nameAndType 41 14), (0, u "DEFAULTCAPACITY_EMPTY_ELEMENTDATA"), (5, u "()[Ljava/lang/Object;"), (0, .fieldref 10 49), (0, .nameAndType 50 51), (0, u "size"), (0, u "I"), (11, .fieldref 10 64), (0, .nameAndType 65 51), (0, u "modCount"), (3, .methodref 10 70), (0, .nameAndType 71 72), (0, u "grow"), (0, u "(I)[Ljava/lang/Object;"), (6, .methodref 80 81), (0, .class_ 82), (0, .nameAndType 83 84), (0, u "java/lang/Math"), (0, u "max"), (0, u "(II)I"), (11, u "(Ljava/lang/Object;)Z"), (21, .methodref 119 120), (0, .class_ 121), (0, .nameAndType 122 84), (0, u "java/util/Objects"), (0, u "checkIndex"), (0, .methodref 10 124), (0, .nameAndType 13 125), (0, u "(I)Ljava/lang/Object;"), (3, .methodref 10 130), (0, .nameAndType 71 47), (0, .methodref 10 132), (0, .nameAndType 133 134), (0, u "add"), (0, u "(Ljava/lang/Object;[Ljava/lang/Object;I)V"), (13, .class_ 149), (0, u "java/util/List"), (36, u "()I"), (75, .class_ 263), (0, u "java/util/ArrayList$ListItr"), (3, .class_ 268), (0, u "java/util/ArrayList$Itr"), (7, .class_ 277), (0, u "java/util/ArrayList$SubList"), (12, .class_ 291), (0, u "java/util/ArrayList$ArrayListSpliterator"), (37, .class_ 330), (0, u "java/util/RandomAccess"), (0, .class_ 332), (0, u "java/lang/Cloneable"), (0, .class_ 334), (0, u "java/io/Serializable"), (0, u "serialVersionUID"), (0, u "J"), (3, u "DEFAULT_CAPACITY"), (40, u "get"), (118, .class_ 501), (0, u "java/util/ArrayList$SubList$2"), (0, .class_ 503), (0, u "java/util/ArrayList$SubList$1")] 5

def k12c0 : Code := { maxStack := 2, maxLocals := 1, code := jdk_38_method_2_code, exceptionTable := #[], attributes := #[] }
def k12m0 : Method := { name := "<init>", desc := "()V", sig := { parameters := [], returnType := none }, accessFlags := 1, code := some k12c0 }
def k12c1 : Code := { maxStack := 4, maxLocals := 4, code := jdk_38_method_6_code, exceptionTable := #[], attributes := #[] }
def k12m1 : Method := { name := "grow", desc := "(I)[Ljava/lang/Object;", sig := { parameters := [.int], returnType := some (.array (.object "java/lang/Object")) }, accessFlags := 2, code := some k12c1 }
def k12c2 : Code := { maxStack := 3, maxLocals := 1, code := jdk_38_method_7_code, exceptionTable := #[], attributes := #[] }
def k12m2 : Method := { name := "grow", desc := "()[Ljava/lang/Object;", sig := { parameters := [], returnType := some (.array (.object "java/lang/Object")) }, accessFlags := 2, code := some k12c2 }
def k12c3 : Code := { maxStack := 1, maxLocals := 1, code := jdk_38_method_8_code, exceptionTable := #[], attributes := #[] }
def k12m3 : Method := { name := "size", desc := "()I", sig := { parameters := [], returnType := some .int }, accessFlags := 1, code := some k12c3 }
def k12c4 : Code := { maxStack := 2, maxLocals := 2, code := jdk_38_method_18_code, exceptionTable := #[], attributes := #[] }
def k12m4 : Method := { name := "elementData", desc := "(I)Ljava/lang/Object;", sig := { parameters := [.int], returnType := some (.object "java/lang/Object") }, accessFlags := 0, code := some k12c4 }
def k12c5 : Code := { maxStack := 2, maxLocals := 2, code := jdk_38_method_20_code, exceptionTable := #[], attributes := #[] }
def k12m5 : Method := { name := "get", desc := "(I)Ljava/lang/Object;", sig := { parameters := [.int], returnType := some (.object "java/lang/Object") }, accessFlags := 1, code := some k12c5 }
def k12c6 : Code := { maxStack := 3, maxLocals := 4, code := jdk_38_method_24_code, exceptionTable := #[], attributes := #[] }
def k12m6 : Method := { name := "add", desc := "(Ljava/lang/Object;[Ljava/lang/Object;I)V", sig := { parameters := [(.object "java/lang/Object"), (.array (.object "java/lang/Object")), .int], returnType := none }, accessFlags := 2, code := some k12c6 }
def k12c7 : Code := { maxStack := 4, maxLocals := 2, code := jdk_38_method_25_code, exceptionTable := #[], attributes := #[] }
def k12m7 : Method := { name := "add", desc := "(Ljava/lang/Object;)Z", sig := { parameters := [(.object "java/lang/Object")], returnType := some .boolean }, accessFlags := 1, code := some k12c7 }
/-- java/util/ArrayList -/
def k12 : Class := { plain "java/util/ArrayList" (some 8) with
  accessFlags := 33
  interfaces := #[7, 9, 10, 11]
  cf := some (fileOf pool12 10 #[.nestMembers #[290, 276, 500, 502, 262, 267]] #[{ accessFlags := 1, nameIndex := 5, descriptorIndex := 6, attributes := #[] }, { accessFlags := 2, nameIndex := 71, descriptorIndex := 72, attributes := #[] }, { accessFlags := 2, nameIndex := 71, descriptorIndex := 47, attributes := #[] }, { accessFlags := 1, nameIndex := 50, descriptorIndex := 186, attributes := #[] }, { accessFlags := 0, nameIndex := 13, descriptorIndex := 125, attributes := #[] }, { accessFlags := 1, nameIndex := 381, descriptorIndex := 125, attributes := #[] }, { accessFlags := 2, nameIndex := 133, descriptorIndex := 134, attributes := #[] }, { accessFlags := 1, nameIndex := 133, descriptorIndex := 96, attributes := #[] }] 33 2 #[148, 329, 331, 333] #[{ accessFlags := 26, nameIndex := 335, descriptorIndex := 336, attributes := #[] }, { accessFlags := 26, nameIndex := 340, descriptorIndex := 51, attributes := #[] }, { accessFlags := 26, nameIndex := 17, descriptorIndex := 14, attributes := #[] }, { accessFlags := 26, nameIndex := 41, descriptorIndex := 14, attributes := #[] }, { accessFlags := 128, nameIndex := 13, descriptorIndex := 14, attributes := #[] }, { accessFlags := 2, nameIndex := 50, descriptorIndex := 51, attributes := #[] }])
  fields := #[{ name := "serialVersionUID", type := .long, accessFlags := 26, slot := 0, constantValue := 0 }, { name := "DEFAULT_CAPACITY", type := .int, accessFlags := 26, slot := 1, constantValue := 0 }, { name := "EMPTY_ELEMENTDATA", type := (.array (.object "java/lang/Object")), accessFlags := 26, slot := 2, constantValue := 0 }, { name := "DEFAULTCAPACITY_EMPTY_ELEMENTDATA", type := (.array (.object "java/lang/Object")), accessFlags := 26, slot := 3, constantValue := 0 }, { name := "elementData", type := (.array (.object "java/lang/Object")), accessFlags := 128, slot := 1, constantValue := 0 }, { name := "size", type := .int, accessFlags := 2, slot := 2, constantValue := 0 }]
  methods := #[k12m0, k12m1, k12m2, k12m3, k12m4, k12m5, k12m6, k12m7]
  instanceTypes := #[.int, (.array (.object "java/lang/Object")), .int]
  staticTypes := #[.long, .int, (.array (.object "java/lang/Object")), (.array (.object "java/lang/Object"))]
  resolved := Array.replicate 509 none
  statics := some 0 }

def pool13 : Array CpInfo := pool [(1, .class_ 2), (0, u "java/lang/Math"), (1, .class_ 6), (1, u "java/lang/Object"), (0, u "<init>"), (0, u "()V"), (89, .class_ 100), (1, u "java/lang/Math$RandomNumberGeneratorHolder"), (71, u "negativeZeroFloatBits"), (0, u "J"), (2, u "negativeZeroDoubleBits"), (21, u "max"), (46, u "$assertionsDisabled"), (0, u "Z"), (88, u "(II)I"), (2, u "twoToTheDoubleScaleDown"), (0, u "D"), (4, u "twoToTheDoubleScaleUp"), (9, u "E"), (3, u "PI"), (2, u "TAU"), (2, u "DEGREES_TO_RADIANS"), (0, u "RADIANS_TO_DEGREES")] 94

def k13m0 : Method := { name := "<init>", desc := "()V", sig := { parameters := [], returnType := none }, accessFlags := 2, code := none }
def k13c1 : Code := { maxStack := 2, maxLocals := 2, code := jdk_29_method_65_code, exceptionTable := #[], attributes := #[] }
def k13m1 : Method := { name := "max", desc := "(II)I", sig := { parameters := [.int, .int], returnType := some .int }, accessFlags := 9, code := some k13c1 }
/-- java/lang/Math -/
def k13 : Class := { plain "java/lang/Math" (some 0) with
  accessFlags := 49
  interfaces := #[]
  cf := some (fileOf pool13 1 #[.nestMembers #[98]] #[{ accessFlags := 2, nameIndex := 7, descriptorIndex := 8, attributes := #[] }, { accessFlags := 9, nameIndex := 198, descriptorIndex := 335, attributes := #[] }] 49 4 #[] #[{ accessFlags := 25, nameIndex := 354, descriptorIndex := 339, attributes := #[] }, { accessFlags := 25, nameIndex := 358, descriptorIndex := 339, attributes := #[] }, { accessFlags := 25, nameIndex := 361, descriptorIndex := 339, attributes := #[] }, { accessFlags := 26, nameIndex := 364, descriptorIndex := 339, attributes := #[] }, { accessFlags := 26, nameIndex := 365, descriptorIndex := 339, attributes := #[] }, { accessFlags := 26, nameIndex := 172, descriptorIndex := 173, attributes := #[] }, { accessFlags := 26, nameIndex := 176, descriptorIndex := 173, attributes := #[] }, { accessFlags := 8, nameIndex := 344, descriptorIndex := 339, attributes := #[] }, { accessFlags := 8, nameIndex := 338, descriptorIndex := 339, attributes := #[] }, { accessFlags := 4120, nameIndex := 245, descriptorIndex := 246, attributes := #[] }])
  fields := #[{ name := "E", type := .double, accessFlags := 25, slot := 0, constantValue := 0 }, { name := "PI", type := .double, accessFlags := 25, slot := 1, constantValue := 0 }, { name := "TAU", type := .double, accessFlags := 25, slot := 2, constantValue := 0 }, { name := "DEGREES_TO_RADIANS", type := .double, accessFlags := 26, slot := 3, constantValue := 0 }, { name := "RADIANS_TO_DEGREES", type := .double, accessFlags := 26, slot := 4, constantValue := 0 }, { name := "negativeZeroFloatBits", type := .long, accessFlags := 26, slot := 5, constantValue := 0 }, { name := "negativeZeroDoubleBits", type := .long, accessFlags := 26, slot := 6, constantValue := 0 }, { name := "twoToTheDoubleScaleUp", type := .double, accessFlags := 8, slot := 7, constantValue := 0 }, { name := "twoToTheDoubleScaleDown", type := .double, accessFlags := 8, slot := 8, constantValue := 0 }, { name := "$assertionsDisabled", type := .boolean, accessFlags := 4120, slot := 9, constantValue := 0 }]
  methods := #[k13m0, k13m1]
  instanceTypes := #[]
  staticTypes := #[.double, .double, .double, .double, .double, .long, .long, .double, .double, .boolean]
  resolved := Array.replicate 460 none
  statics := none }

def pool14 : Array CpInfo := pool [(2, .class_ 4), (1, u "java/lang/Object"), (0, u "<init>"), (0, u "()V"), (35, .class_ 44), (1, u "java/util/Objects"), (60, .methodref 106 107), (0, .class_ 108), (0, .nameAndType 109 110), (0, u "jdk/internal/util/Preconditions"), (0, u "checkIndex"), (0, u "(IILjava/util/function/BiFunction;)I"), (60, u "(II)I")] 12

def k14m0 : Method := { name := "<init>", desc := "()V", sig := { parameters := [], returnType := none }, accessFlags := 2, code := none }
def k14c1 : Code := { maxStack := 3, maxLocals := 2, code := jdk_31_method_17_code, exceptionTable := #[], attributes := #[] }
def k14m1 : Method := { name := "checkIndex", desc := "(II)I", sig := { parameters := [.int, .int], returnType := some .int }, accessFlags := 9, code := some k14c1 }
/-- java/util/Objects -/
def k14 : Class := { plain "java/util/Objects" (some 0) with
  accessFlags := 49
  interfaces := #[]
  cf := some (fileOf pool14 42 #[] #[{ accessFlags := 2, nameIndex := 5, descriptorIndex := 6, attributes := #[] }, { accessFlags := 9, nameIndex := 109, descriptorIndex := 171, attributes := #[] }] 49 2 #[] #[])
  fields := #[]
  methods := #[k14m0, k14m1]
  instanceTypes := #[]
  staticTypes := #[]
  resolved := Array.replicate 184 none
  statics := none }

def pool15 : Array CpInfo := pool [(2, .class_ 4), (1, u "java/lang/Object"), (0, u "<init>"), (0, u "()V"), (17, .class_ 26), (1, u "jdk/internal/util/Preconditions"), (6, u "checkIndex"), (21, .class_ 56), (0, u "jdk/internal/util/Preconditions$4"), (57, .class_ 115), (0, u "jdk/internal/util/Preconditions$1"), (7, u "SIOOBE_FORMATTER"), (0, u "Ljava/util/function/BiFunction;"), (0, .class_ 126), (0, u "jdk/internal/util/Preconditions$2"), (3, u "AIOOBE_FORMATTER"), (0, .class_ 132), (0, u "jdk/internal/util/Preconditions$3"), (3, u "IOOBE_FORMATTER"), (41, u "(IILjava/util/function/BiFunction;)I")] 15

def k15m0 : Method := { name := "<init>", desc := "()V", sig := { parameters := [], returnType := none }, accessFlags := 1, code := none }
def k15c1 : Code := { maxStack := 3, maxLocals := 3, code := jdk_41_method_11_code, exceptionTable := #[], attributes := #[] }
def k15m1 : Method := { name := "checkIndex", desc := "(IILjava/util/function/BiFunction;)I", sig := { parameters := [.int, .int, (.object "java/util/function/BiFunction")], returnType := some .int }, accessFlags := 9, code := some k15c1 }
/-- jdk/internal/util/Preconditions -/
def k15 : Class := { plain "jdk/internal/util/Preconditions" (some 0) with
  accessFlags := 33
  interfaces := #[]
  cf := some (fileOf pool15 24 #[.nestMembers #[55, 131, 125, 114]] #[{ accessFlags := 1, nameIndex := 5, descriptorIndex := 6, attributes := #[] }, { accessFlags := 9, nameIndex := 33, descriptorIndex := 178, attributes := #[] }] 33 2 #[] #[{ accessFlags := 25, nameIndex := 123, descriptorIndex := 124, attributes := #[] }, { accessFlags := 25, nameIndex := 130, descriptorIndex := 124, attributes := #[] }, { accessFlags := 25, nameIndex := 136, descriptorIndex := 124, attributes := #[] }])
  fields := #[{ name := "SIOOBE_FORMATTER", type := (.object "java/util/function/BiFunction"), accessFlags := 25, slot := 0, constantValue := 0 }, { name := "AIOOBE_FORMATTER", type := (.object "java/util/function/BiFunction"), accessFlags := 25, slot := 1, constantValue := 0 }, { name := "IOOBE_FORMATTER", type := (.object "java/util/function/BiFunction"), accessFlags := 25, slot := 2, constantValue := 0 }]
  methods := #[k15m0, k15m1]
  instanceTypes := #[]
  staticTypes := #[(.object "java/util/function/BiFunction"), (.object "java/util/function/BiFunction"), (.object "java/util/function/BiFunction")]
  resolved := Array.replicate 194 none
  statics := none }

/-- the primitive byte -/
def k16 : Class := { plain "byte" none with kind := .primitive 'B', accessFlags := 0x411 }
/-- [B -/
def k17 : Class := { plain "[B" (some 0) with kind := .array 16 .byte, interfaces := #[10, 11], accessFlags := 1041 }

/-- the primitive int -/
def k18 : Class := { plain "int" none with kind := .primitive 'I', accessFlags := 0x411 }
/-- [I -/
def k19 : Class := { plain "[I" (some 0) with kind := .array 18 .int, interfaces := #[10, 11], accessFlags := 1041 }

/-- the primitive long -/
def k20 : Class := { plain "long" none with kind := .primitive 'J', accessFlags := 0x411 }
/-- [J -/
def k21 : Class := { plain "[J" (some 0) with kind := .array 20 .long, interfaces := #[10, 11], accessFlags := 1041 }

/-- [Ljava/lang/Object; -/
def k22 : Class := { plain "[Ljava/lang/Object;" (some 0) with kind := .array 0 (.object "java/lang/Object"), interfaces := #[10, 11], accessFlags := 1041 }

def heap : Heap := #[{ cls := 12, slots := #[.long 0, .int 0, .ref 1, .ref 2], vm := .statics 12 },
  { cls := 22, slots := #[], vm := .none },
  { cls := 22, slots := #[], vm := .none }]
def classes : Array Class := #[k0, k1, k2, k3, k4, k5, k6, k7, k8, k9, k10, k11, k12, k13, k14, k15, k16, k17, k18, k19, k20, k21, k22]
def interned : List (Array UInt16 × Addr) := []
def slotsUsed : Nat := 4
def theMethod : MethodId := ⟨1, 1⟩
def args0 : Array Value := #[.int 5, .int 3, .int 1, .int 1, .int 1]
def aboutOver (below : List Frame) : State where
  vm := { classes := classes, interned := interned.toArray }
  heap := heap
  slotsUsed := slotsUsed
  threads := #[{ frames := .invoking theMethod args0 :: below }]
def below0 : List Frame := [.native { method := ⟨0, 0⟩, args := #[] }]
def about1 : State := aboutOver below0
def p0 : Program := .bare "" "" ""
def e0 : Env := launch0.env 0 0 0
theorem w_frames : about1.frames = Frame.invoking theMethod args0 :: below0 := rfl
set_option maxRecDepth 65536 in
theorem w_args : argsFit about1.vm theMethod args0 = true := by decide +kernel
set_option maxRecDepth 65536 in
theorem w_heap : heapFits about1 = true := by decide +kernel
set_option maxRecDepth 65536 in
theorem w_runnable : about1.curStatus? = some .runnable := by decide +kernel
set_option maxRecDepth 65536 in
theorem w_alone : about1.alone = true := by decide +kernel
set_option maxRecDepth 65536 in
theorem w_named : about1.methodNamed? x = some theMethod := by decide +kernel
set_option maxRecDepth 65536 in
theorem w_hears : about1.hears theMethod below0 = true := by decide +kernel
set_option maxRecDepth 65536 in
theorem w_ripe : about1.ripe theMethod args0 below0 = true := by decide +kernel
theorem w_running : about1.status = .running := rfl
set_option maxRecDepth 65536 in
theorem w_room : about1.hasRoom e0.platform room_1 = true :=
  launch0.hasRoom_least _ room_1 (by decide +kernel) (by decide +kernel) (by decide +kernel) (by decide +kernel) (by decide +kernel) (by decide +kernel)
theorem allAtoms_all (ts : List Jvm.Cond) (a : Array Jvm.Value) (st : Jvm.State) : (allAtoms ts).before a st = ts.all (fun c => c.before a st) := by
  induction ts with
  | nil => rfl
  | cons c t ih =>
    show (Jvm.Cond.and c (allAtoms t)).before a st = _
    rw [Jvm.Cond.before_and, ih, List.all_cons]
def words1 : List Jvm.Cond := Jvm.Cond.code x code maxLocals ret :: tables_1
/-- a 'code' word, met by the world's own term for the bytes: nothing is compared byte by byte -/
theorem code_word {y : MethodName} {bytes : ByteArray} {mx : Nat} {rt : Option FieldType} {a : Array Value} {s : State} {m : MethodId} {meth : Method} {c : Code} (h1 : s.methodNamed? y = some m) (h2 : s.vm.method? m = some meth) (h3 : meth.code = some c) (h4 : c.code = bytes)
    (h5 : (c.maxLocals == mx && c.exceptionTable.isEmpty && decide (c.maxStack ≤ mostOperands) && decide (meth.sig.returnType = rt) && !meth.locks && decide (parseMethodDescriptor y.desc = some meth.sig)) = true) : (Jvm.Cond.code y bytes mx rt).before a s = true := by
  simp only [Bool.and_eq_true, beq_iff_eq, Bool.not_eq_true', decide_eq_true_eq] at h5
  obtain ⟨⟨⟨⟨⟨g1, g2⟩, g3⟩, g4⟩, g5⟩, g6⟩ := h5
  simp [Cond.before, Cond.holds, Cond.value, h1, h2, h3, h4, g1, g2, g3, g4, g5, g6]
def isCode : Jvm.Cond → Bool
  | .code _ _ _ _ => true
  | _ => false
theorem all_split {L : List Jvm.Cond} {P : Jvm.Cond → Bool} (h1 : L.all (fun c => isCode c || P c) = true) (h2 : ∀ c ∈ L.filter isCode, P c = true) : L.all P = true := by
  refine List.all_eq_true.mpr fun c hc => ?_
  have h := List.all_eq_true.mp h1 c hc
  rcases Bool.eq_false_or_eq_true (isCode c) with hi | hi
  · exact h2 c (List.mem_filter.mpr ⟨hc, hi⟩)
  · simpa [hi] using h
set_option maxRecDepth 65536 in
theorem w_c0 : (Jvm.Cond.code x code maxLocals ret).before args0 about1 = true := code_word (m := ⟨1, 1⟩) (meth := k1m1) (c := k1c1) (by decide +kernel) rfl rfl rfl (by decide +kernel)
set_option maxRecDepth 65536 in
theorem w_c1 : (Jvm.Cond.code ({ cls := "com/example/tree_automata_reducer/treeautomatareducer/reduce/PairStack", name := "<init>", desc := "()V" } : Jvm.MethodName) prog_65_method_1_code (1 : Nat) (Option.none : Option Jvm.ClassFile.FieldType)).before args0 about1 = true := code_word (m := ⟨2, 0⟩) (meth := k2m0) (c := k2c0) (by decide +kernel) rfl rfl rfl (by decide +kernel)
set_option maxRecDepth 65536 in
theorem w_c2 : (Jvm.Cond.code ({ cls := "java/lang/Object", name := "<init>", desc := "()V" } : Jvm.MethodName) object_method_1_code (1 : Nat) (Option.none : Option Jvm.ClassFile.FieldType)).before args0 about1 = true := code_word (m := ⟨0, 0⟩) (meth := k0m0) (c := k0c0) (by decide +kernel) rfl rfl rfl (by decide +kernel)
set_option maxRecDepth 65536 in
theorem w_c3 : (Jvm.Cond.code ({ cls := "java/util/ArrayList", name := "<init>", desc := "()V" } : Jvm.MethodName) jdk_38_method_2_code (1 : Nat) (Option.none : Option Jvm.ClassFile.FieldType)).before args0 about1 = true := code_word (m := ⟨12, 0⟩) (meth := k12m0) (c := k12c0) (by decide +kernel) rfl rfl rfl (by decide +kernel)
set_option maxRecDepth 65536 in
theorem w_c4 : (Jvm.Cond.code ({ cls := "java/util/AbstractList", name := "<init>", desc := "()V" } : Jvm.MethodName) jdk_39_method_1_code (1 : Nat) (Option.none : Option Jvm.ClassFile.FieldType)).before args0 about1 = true := code_word (m := ⟨8, 0⟩) (meth := k8m0) (c := k8c0) (by decide +kernel) rfl rfl rfl (by decide +kernel)
set_option maxRecDepth 65536 in
theorem w_c5 : (Jvm.Cond.code ({ cls := "java/util/AbstractCollection", name := "<init>", desc := "()V" } : Jvm.MethodName) jdk_22_method_1_code (1 : Nat) (Option.none : Option Jvm.ClassFile.FieldType)).before args0 about1 = true := code_word (m := ⟨5, 0⟩) (meth := k5m0) (c := k5c0) (by decide +kernel) rfl rfl rfl (by decide +kernel)
set_option maxRecDepth 65536 in
theorem w_c6 : (Jvm.Cond.code ({ cls := "com/example/tree_automata_reducer/treeautomatareducer/reduce/PairStack", name := "isEmpty", desc := "()Z" } : Jvm.MethodName) prog_65_method_3_code (1 : Nat) (Option.some Jvm.ClassFile.FieldType.boolean)).before args0 about1 = true := code_word (m := ⟨2, 2⟩) (meth := k2m2) (c := k2c2) (by decide +kernel) rfl rfl rfl (by decide +kernel)
set_option maxRecDepth 65536 in
theorem w_c7 : (Jvm.Cond.code ({ cls := "com/example/tree_automata_reducer/treeautomatareducer/reduce/PairStack", name := "push", desc := "(II)V" } : Jvm.MethodName) prog_65_method_2_code (3 : Nat) (Option.none : Option Jvm.ClassFile.FieldType)).before args0 about1 = true := code_word (m := ⟨2, 1⟩) (meth := k2m1) (c := k2c1) (by decide +kernel) rfl rfl rfl (by decide +kernel)
set_option maxRecDepth 65536 in
theorem w_c8 : (Jvm.Cond.code ({ cls := "java/util/ArrayList", name := "size", desc := "()I" } : Jvm.MethodName) jdk_38_method_8_code (1 : Nat) (Option.some Jvm.ClassFile.FieldType.int)).before args0 about1 = true := code_word (m := ⟨12, 3⟩) (meth := k12m3) (c := k12c3) (by decide +kernel) rfl rfl rfl (by decide +kernel)
set_option maxRecDepth 65536 in
theorem w_c9 : (Jvm.Cond.code ({ cls := "java/util/ArrayList", name := "add", desc := "(Ljava/lang/Object;)Z" } : Jvm.MethodName) jdk_38_method_25_code (2 : Nat) (Option.some Jvm.ClassFile.FieldType.boolean)).before args0 about1 = true := code_word (m := ⟨12, 7⟩) (meth := k12m7) (c := k12c7) (by decide +kernel) rfl rfl rfl (by decide +kernel)
set_option maxRecDepth 65536 in
theorem w_c10 : (Jvm.Cond.code ({ cls := "java/util/ArrayList", name := "add", desc := "(Ljava/lang/Object;[Ljava/lang/Object;I)V" } : Jvm.MethodName) jdk_38_method_24_code (4 : Nat) (Option.none : Option Jvm.ClassFile.FieldType)).before args0 about1 = true := code_word (m := ⟨12, 6⟩) (meth := k12m6) (c := k12c6) (by decide +kernel) rfl rfl rfl (by decide +kernel)
set_option maxRecDepth 65536 in
theorem w_c11 : (Jvm.Cond.code ({ cls := "java/util/ArrayList", name := "grow", desc := "()[Ljava/lang/Object;" } : Jvm.MethodName) jdk_38_method_7_code (1 : Nat) (Option.some (Jvm.ClassFile.FieldType.array (Jvm.ClassFile.FieldType.object "java/lang/Object")))).before args0 about1 = true := code_word (m := ⟨12, 2⟩) (meth := k12m2) (c := k12c2) (by decide +kernel) rfl rfl rfl (by decide +kernel)
set_option maxRecDepth 65536 in
theorem w_c12 : (Jvm.Cond.code ({ cls := "java/util/ArrayList", name := "grow", desc := "(I)[Ljava/lang/Object;" } : Jvm.MethodName) jdk_38_method_6_code (4 : Nat) (Option.some (Jvm.ClassFile.FieldType.array (Jvm.ClassFile.FieldType.object "java/lang/Object")))).before args0 about1 = true := code_word (m := ⟨12, 1⟩) (meth := k12m1) (c := k12c1) (by decide +kernel) rfl rfl rfl (by decide +kernel)
set_option maxRecDepth 65536 in
theorem w_c13 : (Jvm.Cond.code ({ cls := "java/lang/Math", name := "max", desc := "(II)I" } : Jvm.MethodName) jdk_29_method_65_code (2 : Nat) (Option.some Jvm.ClassFile.FieldType.int)).before args0 about1 = true := code_word (m := ⟨13, 1⟩) (meth := k13m1) (c := k13c1) (by decide +kernel) rfl rfl rfl (by decide +kernel)
set_option maxRecDepth 65536 in
theorem w_c14 : (Jvm.Cond.code ({ cls := "java/util/ArrayList", name := "get", desc := "(I)Ljava/lang/Object;" } : Jvm.MethodName) jdk_38_method_20_code (2 : Nat) (Option.some (Jvm.ClassFile.FieldType.object "java/lang/Object"))).before args0 about1 = true := code_word (m := ⟨12, 5⟩) (meth := k12m5) (c := k12c5) (by decide +kernel) rfl rfl rfl (by decide +kernel)
set_option maxRecDepth 65536 in
theorem w_c15 : (Jvm.Cond.code ({ cls := "java/util/Objects", name := "checkIndex", desc := "(II)I" } : Jvm.MethodName) jdk_31_method_17_code (2 : Nat) (Option.some Jvm.ClassFile.FieldType.int)).before args0 about1 = true := code_word (m := ⟨14, 1⟩) (meth := k14m1) (c := k14c1) (by decide +kernel) rfl rfl rfl (by decide +kernel)
set_option maxRecDepth 65536 in
theorem w_c16 : (Jvm.Cond.code ({ cls := "jdk/internal/util/Preconditions", name := "checkIndex", desc := "(IILjava/util/function/BiFunction;)I" } : Jvm.MethodName) jdk_41_method_11_code (3 : Nat) (Option.some Jvm.ClassFile.FieldType.int)).before args0 about1 = true := code_word (m := ⟨15, 1⟩) (meth := k15m1) (c := k15c1) (by decide +kernel) rfl rfl rfl (by decide +kernel)
set_option maxRecDepth 65536 in
theorem w_c17 : (Jvm.Cond.code ({ cls := "java/util/ArrayList", name := "elementData", desc := "(I)Ljava/lang/Object;" } : Jvm.MethodName) jdk_38_method_18_code (2 : Nat) (Option.some (Jvm.ClassFile.FieldType.object "java/lang/Object"))).before args0 about1 = true := code_word (m := ⟨12, 4⟩) (meth := k12m4) (c := k12c4) (by decide +kernel) rfl rfl rfl (by decide +kernel)
set_option maxRecDepth 65536 in
theorem w_c18 : (Jvm.Cond.code ({ cls := "com/example/tree_automata_reducer/treeautomatareducer/reduce/PairStack", name := "pop", desc := "()V" } : Jvm.MethodName) prog_65_method_4_code (3 : Nat) (Option.none : Option Jvm.ClassFile.FieldType)).before args0 about1 = true := code_word (m := ⟨2, 3⟩) (meth := k2m3) (c := k2c3) (by decide +kernel) rfl rfl rfl (by decide +kernel)
def codes1 : List Jvm.Cond := [Jvm.Cond.code x code maxLocals ret, Jvm.Cond.code ({ cls := "com/example/tree_automata_reducer/treeautomatareducer/reduce/PairStack", name := "<init>", desc := "()V" } : Jvm.MethodName) prog_65_method_1_code (1 : Nat) (Option.none : Option Jvm.ClassFile.FieldType), Jvm.Cond.code ({ cls := "java/lang/Object", name := "<init>", desc := "()V" } : Jvm.MethodName) object_method_1_code (1 : Nat) (Option.none : Option Jvm.ClassFile.FieldType), Jvm.Cond.code ({ cls := "java/util/ArrayList", name := "<init>", desc := "()V" } : Jvm.MethodName) jdk_38_method_2_code (1 : Nat) (Option.none : Option Jvm.ClassFile.FieldType), Jvm.Cond.code ({ cls := "java/util/AbstractList", name := "<init>", desc := "()V" } : Jvm.MethodName) jdk_39_method_1_code (1 : Nat) (Option.none : Option Jvm.ClassFile.FieldType), Jvm.Cond.code ({ cls := "java/util/AbstractCollection", name := "<init>", desc := "()V" } : Jvm.MethodName) jdk_22_method_1_code (1 : Nat) (Option.none : Option Jvm.ClassFile.FieldType), Jvm.Cond.code ({ cls := "com/example/tree_automata_reducer/treeautomatareducer/reduce/PairStack", name := "isEmpty", desc := "()Z" } : Jvm.MethodName) prog_65_method_3_code (1 : Nat) (Option.some Jvm.ClassFile.FieldType.boolean), Jvm.Cond.code ({ cls := "com/example/tree_automata_reducer/treeautomatareducer/reduce/PairStack", name := "push", desc := "(II)V" } : Jvm.MethodName) prog_65_method_2_code (3 : Nat) (Option.none : Option Jvm.ClassFile.FieldType), Jvm.Cond.code ({ cls := "java/util/ArrayList", name := "size", desc := "()I" } : Jvm.MethodName) jdk_38_method_8_code (1 : Nat) (Option.some Jvm.ClassFile.FieldType.int), Jvm.Cond.code ({ cls := "java/util/ArrayList", name := "add", desc := "(Ljava/lang/Object;)Z" } : Jvm.MethodName) jdk_38_method_25_code (2 : Nat) (Option.some Jvm.ClassFile.FieldType.boolean), Jvm.Cond.code ({ cls := "java/util/ArrayList", name := "add", desc := "(Ljava/lang/Object;[Ljava/lang/Object;I)V" } : Jvm.MethodName) jdk_38_method_24_code (4 : Nat) (Option.none : Option Jvm.ClassFile.FieldType), Jvm.Cond.code ({ cls := "java/util/ArrayList", name := "grow", desc := "()[Ljava/lang/Object;" } : Jvm.MethodName) jdk_38_method_7_code (1 : Nat) (Option.some (Jvm.ClassFile.FieldType.array (Jvm.ClassFile.FieldType.object "java/lang/Object"))), Jvm.Cond.code ({ cls := "java/util/ArrayList", name := "grow", desc := "(I)[Ljava/lang/Object;" } : Jvm.MethodName) jdk_38_method_6_code (4 : Nat) (Option.some (Jvm.ClassFile.FieldType.array (Jvm.ClassFile.FieldType.object "java/lang/Object"))), Jvm.Cond.code ({ cls := "java/lang/Math", name := "max", desc := "(II)I" } : Jvm.MethodName) jdk_29_method_65_code (2 : Nat) (Option.some Jvm.ClassFile.FieldType.int), Jvm.Cond.code ({ cls := "java/util/ArrayList", name := "get", desc := "(I)Ljava/lang/Object;" } : Jvm.MethodName) jdk_38_method_20_code (2 : Nat) (Option.some (Jvm.ClassFile.FieldType.object "java/lang/Object")), Jvm.Cond.code ({ cls := "java/util/Objects", name := "checkIndex", desc := "(II)I" } : Jvm.MethodName) jdk_31_method_17_code (2 : Nat) (Option.some Jvm.ClassFile.FieldType.int), Jvm.Cond.code ({ cls := "jdk/internal/util/Preconditions", name := "checkIndex", desc := "(IILjava/util/function/BiFunction;)I" } : Jvm.MethodName) jdk_41_method_11_code (3 : Nat) (Option.some Jvm.ClassFile.FieldType.int), Jvm.Cond.code ({ cls := "java/util/ArrayList", name := "elementData", desc := "(I)Ljava/lang/Object;" } : Jvm.MethodName) jdk_38_method_18_code (2 : Nat) (Option.some (Jvm.ClassFile.FieldType.object "java/lang/Object")), Jvm.Cond.code ({ cls := "com/example/tree_automata_reducer/treeautomatareducer/reduce/PairStack", name := "pop", desc := "()V" } : Jvm.MethodName) prog_65_method_4_code (3 : Nat) (Option.none : Option Jvm.ClassFile.FieldType)]
set_option maxRecDepth 65536 in
theorem codes_eq : words1.filter isCode = codes1 := rfl
theorem w_codes : ∀ c ∈ words1.filter isCode, c.before args0 about1 = true := by
  rw [codes_eq]
  intro c hc
  simp only [codes1, List.mem_cons, List.not_mem_nil, or_false] at hc
  rcases hc with rfl | rfl | rfl | rfl | rfl | rfl | rfl | rfl | rfl | rfl | rfl | rfl | rfl | rfl | rfl | rfl | rfl | rfl | rfl
  · exact w_c0
  · exact w_c1
  · exact w_c2
  · exact w_c3
  · exact w_c4
  · exact w_c5
  · exact w_c6
  · exact w_c7
  · exact w_c8
  · exact w_c9
  · exact w_c10
  · exact w_c11
  · exact w_c12
  · exact w_c13
  · exact w_c14
  · exact w_c15
  · exact w_c16
  · exact w_c17
  · exact w_c18
set_option maxRecDepth 65536 in
theorem w_t1 : (words1.take 24).all (fun c => isCode c || c.before args0 about1) = true := by decide +kernel
set_option maxRecDepth 65536 in
theorem w_t2 : ((words1.drop 24).take 24).all (fun c => isCode c || c.before args0 about1) = true := by decide +kernel
set_option maxRecDepth 65536 in
theorem w_t3 : (((words1.drop 24).drop 24).take 24).all (fun c => isCode c || c.before args0 about1) = true := by decide +kernel
set_option maxRecDepth 65536 in
theorem w_t4 : ((((words1.drop 24).drop 24).drop 24).take 24).all (fun c => isCode c || c.before args0 about1) = true := by decide +kernel
set_option maxRecDepth 65536 in
theorem w_t5 : (((((words1.drop 24).drop 24).drop 24).drop 24).take 24).all (fun c => isCode c || c.before args0 about1) = true := by decide +kernel
set_option maxRecDepth 65536 in
theorem w_t6 : (((((words1.drop 24).drop 24).drop 24).drop 24).drop 24).all (fun c => isCode c || c.before args0 about1) = true := by decide +kernel
theorem w_tables : (allAtoms (Jvm.Cond.code x code maxLocals ret :: tables_1)).before args0 about1 = true := by
  rw [allAtoms_all]
  show words1.all (fun c => c.before args0 about1) = true
  refine all_split ?_ w_codes
  rw [← List.take_append_drop 24 words1, List.all_append, w_t1, ← List.take_append_drop 24 (words1.drop 24), List.all_append, w_t2, ← List.take_append_drop 24 ((words1.drop 24).drop 24), List.all_append, w_t3, ← List.take_append_drop 24 (((words1.drop 24).drop 24).drop 24), List.all_append, w_t4, ← List.take_append_drop 24 ((((words1.drop 24).drop 24).drop 24).drop 24), List.all_append, w_t5, w_t6]
  rfl
set_option maxRecDepth 65536 in
theorem w_rest : rest_1_c.before args0 about1 = true := by decide +kernel
set_option maxRecDepth 65536 in
theorem w_case : (Jvm.Cond.and given_1 narrow_1).before args0 about1 = true := by decide +kernel
theorem w_applies : (headSpec (Jvm.Cond.code x code maxLocals ret :: tables_1) room_1).applies x e0.platform about1 = true :=
  (Spec.applies_iff w_frames).mpr ⟨w_running, w_runnable, w_alone, w_named, w_hears, w_ripe, w_room, w_tables⟩
theorem atStart : AtStart classFile x code maxLocals ret World_1 tables_1 room_1 Calls_1 rest_1 Pre_1 launch0 p0 e0 about1 theMethod args0 below0 :=
  ⟨lists_1, trivial, launch0.admits_env _ _ _, launch0.least_env, fairChoices_fair.cas, fairChoices_fair.clock, w_frames, w_args, w_heap, w_applies, trivial, w_rest, w_case⟩
end start1
theorem witness_1 : WitnessClaimed_1 := ⟨start1.p0, start1.e0, start1.about1, start1.theMethod, start1.args0, start1.below0, start1.atStart⟩
end Jvm.Pilot.@@N@@
