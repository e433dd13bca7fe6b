import JvmDerived
import JvmDerived.Pilot.@@N@@Statement
import JvmDerived.Pilot.@@N@@Code
set_option linter.unusedVariables false
set_option linter.unusedSimpArgs false
namespace Jvm.Pilot.@@N@@
open Jvm Jvm.ClassFile Sem Op Lib Jvm.Free Jvm.Stand Jvm.LawKit Jvm.RoadKit Bundle Jvm.Pilot.@@N@@.Jvm.D
section Own
variable {p : Program} {l : Launch} {e : Env} {R : Room} {s : State} {m : MethodId} {args : Array Value} {below : List Frame} {meth : Method} {c : Code} {T : State} {locs : List Loc} {cells slots : Nat} {C N : Nat} {Q : Option Value → Heap → List Loc → Prop} {S S' : State} {Z : State} {h h' : Heap}
/-- from the state S the invocation ends in a return, and Q holds there -/
def Go (p : Program) (e : Env) (below : List Frame) (s : State) (C N : Nat) (Q : Option Value → Heap → List Loc → Prop) (S : State) : Prop :=
  ∃ s₂ o, Steps p.tables e below S s₂ ∧ s₂.status = .running ∧ Ended s₂ below o ∧ ∃ v L, o = .returned v ∧ Q v s₂.heap L ∧ FrameEnd s o s₂ L C N
theorem Go.step (st : ∀ t, Steps p.tables e below S' t → Steps p.tables e below S t) (G : Go p e below s C N Q S') : Go p e below s C N Q S := by
  obtain ⟨s₂, o, h, r⟩ := G
  exact ⟨s₂, o, st _ h, r⟩
theorem Go.tr (st : Steps p.tables e below S S') (G : Go p e below s C N Q S') : Go p e below s C N Q S := by
  obtain ⟨s₂, o, h, r⟩ := G
  exact ⟨s₂, o, st.trans h, r⟩
theorem Go.out (X : Stand p l e R s m args below meth c T locs cells slots) {v : Option Value} {g : JFrame} (hv : meth.sig.returnType = none → v = none) (hlk : meth.locks = false)
    (hst : ∀ fs, (∀ (f : JFrame) (acts : List Action), f.method = m → f.locked = none → f.entered = [] → (doReturn e (T.setTop f) acts v).1 = T.setFrames fs) → Steps p.tables e below (T.setTop g) (T.setFrames fs))
    (hQ : Q v T.heap locs) (hc : cells ≤ C) (hn : slots ≤ N) : Go p e below s C N Q (T.setTop g) := by
  obtain ⟨fs, hr, hrun, hended, hW, hsame⟩ := X.leave (v := v) hv hlk
  exact ⟨_, _, hst fs hr, hrun, hended, _, _, rfl, hQ, ⟨_, rfl⟩, hW, hsame.mono hc hn⟩
theorem Go.retV (X : Stand p l e R s m args below meth c T locs cells slots) (hx : p.tables.exec = Jvm.exec) {pc : Nat} {Ls : Array Slot} (hret : meth.sig.returnType = none) (hlk : meth.locks = false) (hd : decode c.code pc = .ok (.return_, 1))
    (hQ : Q none T.heap locs) (hc : cells ≤ C) (hn : slots ≤ N) : Go p e below s C N Q (T.setTop (mkF m pc Ls [])) :=
  Go.out X (fun _ => rfl) hlk (fun fs hr => X.returnOut hx hret hd hr) hQ hc hn
theorem Go.retI (X : Stand p l e R s m args below meth c T locs cells slots) (hx : p.tables.exec = Jvm.exec) {pc : Nat} {Ls : Array Slot} {z : Int32} {rest : List Value} (hret : meth.sig.returnType = some .int) (hlk : meth.locks = false) (hd : decode c.code pc = .ok (.ireturn, 1))
    (hQ : Q (some (.int z)) T.heap locs) (hc : cells ≤ C) (hn : slots ≤ N) : Go p e below s C N Q (T.setTop (mkF m pc Ls (.int z :: rest))) :=
  Go.out X (fun h => by rw [hret] at h; cases h) hlk (fun fs hr => retOut X hx hret rfl (Or.inl ⟨rfl, Or.inl rfl, z, rfl⟩) hd hr) hQ hc hn
theorem Go.retN (X : Stand p l e R s m args below meth c T locs cells slots) (hx : p.tables.exec = Jvm.exec) {pc : Nat} {Ls : Array Slot} {z : Int32} {t : FieldType} {rest : List Value} (hret : meth.sig.returnType = some t) (ht : t = .boolean ∨ t = .byte ∨ t = .char ∨ t = .short) (hlk : meth.locks = false) (hd : decode c.code pc = .ok (.ireturn, 1))
    (hQ : Q (some (.int (nar t z))) T.heap locs) (hc : cells ≤ C) (hn : slots ≤ N) : Go p e below s C N Q (T.setTop (mkF m pc Ls (.int z :: rest))) :=
  Go.out X (fun h => by rw [hret] at h; cases h) hlk (fun fs hr => Jvm.RoadKit.retN X hx hret ht hd hr) hQ hc hn
theorem Go.retJ (X : Stand p l e R s m args below meth c T locs cells slots) (hx : p.tables.exec = Jvm.exec) {pc : Nat} {Ls : Array Slot} {z : Int64} {rest : List Value} (hret : meth.sig.returnType = some .long) (hlk : meth.locks = false) (hd : decode c.code pc = .ok (.lreturn, 1))
    (hQ : Q (some (.long z)) T.heap locs) (hc : cells ≤ C) (hn : slots ≤ N) : Go p e below s C N Q (T.setTop (mkF m pc Ls (.long z :: rest))) :=
  Go.out X (fun h => by rw [hret] at h; cases h) hlk (fun fs hr => retOut X hx hret rfl (Or.inr (Or.inl ⟨rfl, rfl, z, rfl⟩)) hd hr) hQ hc hn
theorem Go.retA (X : Stand p l e R s m args below meth c T locs cells slots) (hx : p.tables.exec = Jvm.exec) {pc : Nat} {Ls : Array Slot} {w : Value} {t : FieldType} {rest : List Value} (hret : meth.sig.returnType = some t) (ht : t.isReference = true) (hw : w.isRef = true) (hlk : meth.locks = false) (hd : decode c.code pc = .ok (.areturn, 1))
    (hQ : Q (some w) T.heap locs) (hc : cells ≤ C) (hn : slots ≤ N) : Go p e below s C N Q (T.setTop (mkF m pc Ls (w :: rest))) :=
  Go.out X (fun h => by rw [hret] at h; cases h) hlk (fun fs hr => retOut X hx hret (by rcases ref_cases hw with rfl | ⟨a, rfl⟩ <;> cases t <;> first | rfl | cases ht) (Or.inr (Or.inr (Or.inr (Or.inr ⟨rfl, ht, hw⟩)))) hd hr) hQ hc hn
/-- an array of ints, bytes ..: z places, the j-th holds f j -/
def Ai (Z : State) (h : Heap) (a : Addr) (ty : FieldType) (z : Int32) (f : Int32 → Int32) : Prop :=
  ∃ c : Cell, Arr Z h a c ty ∧ c.slots.size = z.toNatClampNeg ∧ ¬ z < 0 ∧ ∀ j : Int32, ¬ j < 0 → j < z → c.slots[j.toNatClampNeg]? = some (.int (f j))
theorem own_inb {cl : Cell} {z j : Int32} (S : cl.slots.size = z.toNatClampNeg) (h0 : ¬ j < 0) (h1 : j < z) : ¬ (j < 0 ∨ cl.slots.size ≤ j.toNatClampNeg) := inb_of S ⟨h0, h1⟩
theorem Ai.lt {a : Addr} {ty : FieldType} {z : Int32} {f : Int32 → Int32} (F : Ai Z h a ty z f) : a < h.size := by obtain ⟨c, A, -⟩ := F; exact A.lt
theorem Ai.nn {a : Addr} {ty : FieldType} {z : Int32} {f : Int32 → Int32} (F : Ai Z h a ty z f) : ¬ z < 0 := by obtain ⟨c, -, -, q, -⟩ := F; exact q
theorem Ai.ext {a : Addr} {ty : FieldType} {z : Int32} {f : Int32 → Int32} (F : Ai Z h a ty z f) (E : Ext h h') : Ai Z h' a ty z f := by obtain ⟨c, A, r⟩ := F; exact ⟨c, A.ext E, r⟩
theorem Ai.other {a b : Addr} {sl : Nat} {v : Value} {ty : FieldType} {z : Int32} {f : Int32 → Int32} (F : Ai Z h b ty z f) (W : Wr h h' a sl v) (q : b ≠ a) : Ai Z h' b ty z f := by obtain ⟨c, A, r⟩ := F; exact ⟨c, A.other W q, r⟩
theorem Ai.keep {a : Addr} {ws : List Addr} {ty : FieldType} {z : Int32} {f : Int32 → Int32} (F : Ai Z h a ty z f) (K : Keep h h' ws) (q : a ∉ ws) : Ai Z h' a ty z f := by obtain ⟨c, A, r⟩ := F; exact ⟨c, ⟨K.2.1 a c A.1 q, A.2⟩, r⟩
theorem Ai.new {a : Addr} {k : ClassId} {ty : FieldType} {z : Int32} (A : Arr Z h a (newA k ty z) ty) (q : ¬ z < 0) (hd : defaultValue ty = .int 0) : Ai Z h a ty z (fun _ => 0) :=
  ⟨_, A, sz_new _ _ _, q, fun j h0 h1 => by rw [get_new (sz_new k ty z ▸ own_inb (sz_new k ty z) h0 h1), hd]⟩
theorem Ai.eqf {a : Addr} {ty : FieldType} {z : Int32} {f g : Int32 → Int32} (F : Ai Z h a ty z f) (q : ∀ j : Int32, ¬ j < 0 → j < z → f j = g j) : Ai Z h a ty z g := by
  obtain ⟨c, A, S, n, H⟩ := F; exact ⟨c, A, S, n, fun j h0 h1 => by rw [← q j h0 h1]; exact H j h0 h1⟩
theorem Ai.set {a : Addr} {ty : FieldType} {z j x : Int32} {f : Int32 → Int32} (F : Ai Z h a ty z f) (h0 : ¬ j < 0) (h1 : j < z) (W : Wr h h' a j.toNatClampNeg (.int x)) : Ai Z h' a ty z (fun i => if i = j then x else f i) := by
  obtain ⟨c, A, S, n, H⟩ := F
  refine ⟨_, A.same W, by rw [sz_set]; exact S, n, fun i g0 g1 => ?_⟩
  by_cases e : i = j
  · rw [get_hit (own_inb S h0 h1) e]; simp [e]
  · rw [get_miss h0 g0 e, H i g0 g1]; simp [e]
theorem Ai.len (X : Stand p l e R s m args below meth c T locs cells slots) (hx : p.tables.exec = Jvm.exec) (hZ : Z.Warmed39 s.vm) (eT : T.heap = h) {a : Addr} {ty : FieldType} {z : Int32} {f : Int32 → Int32} (F : Ai Z h a ty z f)
    {g : JFrame} (hg : g.method = m) {rest : List Value} (hs : g.stack = .ref a :: rest) (hd : decode c.code g.pc = .ok (.arraylength, 1)) : ∀ target, Steps p.tables e below (T.setTop { g with pc := g.pc + 1, stack := .int z :: rest }) target → Steps p.tables e below (T.setTop g) target := by
  obtain ⟨cl, A, S, n, H⟩ := F
  intro t k
  refine X.arraylength hx (by rw [eT]; exact A.1) (State.isArrayOf_alike hZ.alike A.2.1) hg hs hd _ ?_
  rw [len_of S n]; exact k
theorem Ai.iaload (X : Stand p l e R s m args below meth c T locs cells slots) (hx : p.tables.exec = Jvm.exec) (hZ : Z.Warmed39 s.vm) (eT : T.heap = h) {a : Addr} {z j : Int32} {f : Int32 → Int32} (F : Ai Z h a .int z f) (h0 : ¬ j < 0) (h1 : j < z)
    {g : JFrame} (hg : g.method = m) {rest : List Value} (hs : g.stack = .int j :: .ref a :: rest) (hd : decode c.code g.pc = .ok (.iaload, 1)) : ∀ target, Steps p.tables e below (T.setTop { g with pc := g.pc + 1, stack := .int (f j) :: rest }) target → Steps p.tables e below (T.setTop g) target := by
  obtain ⟨cl, A, S, n, H⟩ := F
  exact X.iaload hx (by rw [eT]; exact A.1) (State.isArrayOf_alike hZ.alike A.2.1) A.2.2 (own_inb S h0 h1) (H j h0 h1) hg hs hd
theorem Ai.baload (X : Stand p l e R s m args below meth c T locs cells slots) (hx : p.tables.exec = Jvm.exec) (hZ : Z.Warmed39 s.vm) (eT : T.heap = h) {a : Addr} {z j : Int32} {f : Int32 → Int32} (F : Ai Z h a .byte z f) (h0 : ¬ j < 0) (h1 : j < z)
    {g : JFrame} (hg : g.method = m) {rest : List Value} (hs : g.stack = .int j :: .ref a :: rest) (hd : decode c.code g.pc = .ok (.baload, 1)) : ∀ target, Steps p.tables e below (T.setTop { g with pc := g.pc + 1, stack := .int (f j) :: rest }) target → Steps p.tables e below (T.setTop g) target := by
  obtain ⟨cl, A, S, n, H⟩ := F
  exact X.baloadBytes hx (by rw [eT]; exact A.1) (State.isArrayOf_alike hZ.alike A.2.1) A.2.2 (own_inb S h0 h1) (H j h0 h1) hg hs hd
theorem Ai.stI (X : Stand p l e R s m args below meth c T locs cells slots) (hx : p.tables.exec = Jvm.exec) (hZ : Z.Warmed39 s.vm) (eT : T.heap = h) {a : Addr} {z j x : Int32} {f : Int32 → Int32} (F : Ai Z h a .int z f) (h0 : ¬ j < 0) (h1 : j < z)
    {g : JFrame} (hg : g.method = m) {rest : List Value} (hs : g.stack = .int x :: .int j :: .ref a :: rest) (hd : decode c.code g.pc = .ok (.iastore, 1)) :
    ∃ T' h', Stand p l e R s m args below meth c T' (locs ++ [⟨a, j.toNatClampNeg⟩]) cells slots ∧ T'.heap = h' ∧ Wr h h' a j.toNatClampNeg (.int x) ∧ Ai Z h' a .int z (fun i => if i = j then x else f i) ∧ ∀ target, Steps p.tables e below (T'.setTop { g with pc := g.pc + 1, stack := rest }) target → Steps p.tables e below (T.setTop g) target := by
  obtain ⟨cl, A, S, n, H⟩ := F
  obtain ⟨T', h', X', e', W, st⟩ := Jvm.RoadKit.stI X hx hZ eT A (own_inb S h0 h1) hg hs hd
  exact ⟨T', h', X', e', W, Ai.set ⟨cl, A, S, n, H⟩ h0 h1 W, st⟩
theorem Ai.stB (X : Stand p l e R s m args below meth c T locs cells slots) (hx : p.tables.exec = Jvm.exec) (hZ : Z.Warmed39 s.vm) (eT : T.heap = h) {a : Addr} {z j x : Int32} {f : Int32 → Int32} (F : Ai Z h a .byte z f) (h0 : ¬ j < 0) (h1 : j < z)
    {g : JFrame} (hg : g.method = m) {rest : List Value} (hs : g.stack = .int x :: .int j :: .ref a :: rest) (hd : decode c.code g.pc = .ok (.bastore, 1)) :
    ∃ T' h', Stand p l e R s m args below meth c T' (locs ++ [⟨a, j.toNatClampNeg⟩]) cells slots ∧ T'.heap = h' ∧ Wr h h' a j.toNatClampNeg (.int (nar .byte x)) ∧ Ai Z h' a .byte z (fun i => if i = j then nar .byte x else f i) ∧ ∀ target, Steps p.tables e below (T'.setTop { g with pc := g.pc + 1, stack := rest }) target → Steps p.tables e below (T.setTop g) target := by
  obtain ⟨cl, A, S, n, H⟩ := F
  obtain ⟨T', h', X', e', W, st⟩ := Jvm.RoadKit.stB X hx hZ eT A (own_inb S h0 h1) hg hs hd
  exact ⟨T', h', X', e', W, Ai.set ⟨cl, A, S, n, H⟩ h0 h1 W, st⟩
end Own
theorem narrow_ref {t : FieldType} {v : Value} (hv : v.isRef = true) (ht : t.isReference = true) : narrow t v = v := by rcases ref_cases hv with rfl | ⟨a, rfl⟩ <;> cases t <;> first | rfl | cases ht
theorem fits_refV {t : FieldType} {v : Value} (hv : v.isRef = true) (ht : t.isReference = true) : fits t v = true := by rcases ref_cases hv with rfl | ⟨a, rfl⟩ <;> cases t <;> first | rfl | cases ht
theorem own_iincW {tb : Tables} [Ours tb] {e : Env} {below : List Frame} {T target : State} {m : MethodId} {c : Code} {g : JFrame} (h : At T m c below) (hx : tb.exec = Jvm.exec) (hg : g.method = m) {k : Nat} {cst : Int} {x : Int32} {l' : Array Slot} (hd : decode c.code g.pc = .ok (.iinc k cst, 6)) (hl : g.locals[k]? = some (.val (.int x))) (hl' : storeLocals g.locals k (.int (x + Int32.ofInt cst)) = some l')
    (hr : Steps tb e below (T.setTop { g with pc := g.pc + 6, locals := l' }) target) : Steps tb e below (T.setTop g) target := by
  subst hg
  jvm_step h [h.top, hx, hd, hl, hl']
  exact hr

theorem own_nb1 : nar .boolean 1 = 1 := by decide
theorem own_nb0 : nar .boolean 0 = 0 := by decide
theorem own_port (a : Int32) : ¬ ((a &&& (2147483647 : Int32)) % (65535 : Int32) + (1 : Int32)) < 1 ∧ ¬ (65535 : Int32) < ((a &&& (2147483647 : Int32)) % (65535 : Int32) + (1 : Int32)) := by
  have h1 := c_mask a 2147483647 31 (by decide) (by decide)
  have h2 := (c_iremV (a &&& 2147483647) 65535).1 (by omega) (by decide)
  have h3 := c_iadd ((a &&& 2147483647) % 65535) 1
  have h4 := rng32 ((a &&& 2147483647) % 65535 + 1)
  have e1 : (65535 : Int32).toInt = 65535 := by decide
  have e2 : (1 : Int32).toInt = 1 := by decide
  simp only [Int32.lt_iff_toInt_lt] at *
  rw [e1] at h2; rw [e2] at h3
  rw [e1, e2]
  omega
theorem own_mm {a b : Int32} (h1 : ¬ a < 1 ∧ ¬ (65535 : Int32) < a) (h2 : ¬ b < 1 ∧ ¬ (65535 : Int32) < b) :
    (¬ (if b < a then b else a) < 1 ∧ ¬ (65535 : Int32) < (if b < a then b else a)) ∧ (¬ (if a < b then b else a) < 1 ∧ ¬ (65535 : Int32) < (if a < b then b else a)) ∧ ¬ (if a < b then b else a) < (if b < a then b else a) := by
  refine ⟨?_, ?_, ?_⟩
  · split <;> assumption
  · split <;> assumption
  · split <;> split <;> (simp only [Int32.lt_iff_toInt_lt] at *; omega)
theorem own_in {f t v : Int32} (h1 : ¬ v < f) (h2 : ¬ t < v) : ¬ (if v < f ∨ t < v then (0 : Int32) else 1) = 0 := by
  rw [if_neg (fun h => h.elim h1 h2)]; decide
theorem own_out {f t v : Int32} (h : v < f ∨ t < v) : (if v < f ∨ t < v then (0 : Int32) else 1) = 0 := if_pos h
theorem own_below {f : Int32} (h : ¬ f < 1) : f - 1 < f := by
  have h1 := c_isub f 1
  have h2 := rng32 (f - 1)
  have h3 := rng32 f
  have e2 : (1 : Int32).toInt = 1 := by decide
  simp only [Int32.lt_iff_toInt_lt] at *
  rw [e2] at h1 h; omega
theorem own_above {f : Int32} (h : ¬ (65535 : Int32) < f) : f < f + 1 := by
  have h1 := c_iadd f 1
  have h2 := rng32 (f + 1)
  have h3 := rng32 f
  have e1 : (65535 : Int32).toInt = 65535 := by decide
  have e2 : (1 : Int32).toInt = 1 := by decide
  simp only [Int32.lt_iff_toInt_lt] at *
  rw [e2] at h1; rw [e1] at h; omega
theorem own_irr (f : Int32) : ¬ f < f := by simp only [Int32.lt_iff_toInt_lt]; omega
theorem own_sp {f t : Int32} (hf : ¬ f < 1) (ht : ¬ (65535 : Int32) < t) (h : ¬ t < f) : 0 < (t - f + 1).toInt ∧ (t - f + 1).toInt = t.toInt - f.toInt + 1 := by
  have h1 := c_isub t f
  have h2 := rng32 (t - f)
  have h3 := c_iadd (t - f) 1
  have h4 := rng32 (t - f + 1)
  have e1 : (65535 : Int32).toInt = 65535 := by decide
  have e2 : (1 : Int32).toInt = 1 := by decide
  simp only [Int32.lt_iff_toInt_lt] at *
  rw [e2] at h3 hf; rw [e1] at ht; omega
theorem own_nz {f t : Int32} (hf : ¬ f < 1) (ht : ¬ (65535 : Int32) < t) (h : ¬ t < f) : t - f + 1 ≠ 0 := fun q => by
  have := (own_sp hf ht h).1
  rw [q] at this; revert this; decide
theorem own_inner {f t d : Int32} (hf : ¬ f < 1) (ht : ¬ (65535 : Int32) < t) (h : ¬ t < f) : ¬ (f + (d &&& (2147483647 : Int32)) % (t - f + (1 : Int32))) < f ∧ ¬ t < (f + (d &&& (2147483647 : Int32)) % (t - f + (1 : Int32))) := by
  have h0 := own_sp hf ht h
  have h1 := c_mask d 2147483647 31 (by decide) (by decide)
  have h2 := (c_iremV (d &&& 2147483647) (t - f + 1)).1 (by omega) h0.1
  have h3 := c_iadd f ((d &&& (2147483647 : Int32)) % (t - f + 1))
  have h4 := rng32 (f + (d &&& (2147483647 : Int32)) % (t - f + 1))
  have e1 : (65535 : Int32).toInt = 65535 := by decide
  have e2 : (1 : Int32).toInt = 1 := by decide
  simp only [Int32.lt_iff_toInt_lt] at *
  rw [e2] at hf; rw [e1] at ht
  omega
theorem own_clampY {f t v : Int32} (h : (if t < (if v < f then f else v) then t else (if v < f then f else v)) = v) (hft : ¬ t < f) : (if v < f ∨ t < v then (0 : Int32) else 1) = 1 := by
  rw [if_neg]
  rintro (h1 | h1)
  · rw [if_pos h1] at h
    split at h <;> (subst h; simp only [Int32.lt_iff_toInt_lt] at *; omega)
  · have h2 : ¬ v < f := fun q => by simp only [Int32.lt_iff_toInt_lt] at *; omega
    rw [if_neg h2, if_pos h1] at h
    subst h; exact own_irr _ h1
theorem own_clampN {f t v : Int32} (h : ¬ (if t < (if v < f then f else v) then t else (if v < f then f else v)) = v) : (if v < f ∨ t < v then (0 : Int32) else 1) = 0 := by
  refine if_pos (Decidable.byContradiction fun q => h ?_)
  rw [not_or] at q
  rw [if_neg q.1, if_neg q.2]
theorem d2_0 : decode jdk_29_method_65_code 0 = .ok (.iload_n 0, 1) := by decide +kernel
theorem d2_1 : decode jdk_29_method_65_code 1 = .ok (.iload_n 1, 1) := by decide +kernel
theorem d2_2 : decode jdk_29_method_65_code 2 = .ok (.if_icmp .lt 7, 3) := by decide +kernel
theorem d2_5 : decode jdk_29_method_65_code 5 = .ok (.iload_n 0, 1) := by decide +kernel
theorem d2_6 : decode jdk_29_method_65_code 6 = .ok (.goto 4, 3) := by decide +kernel
theorem d2_9 : decode jdk_29_method_65_code 9 = .ok (.iload_n 1, 1) := by decide +kernel
theorem d2_10 : decode jdk_29_method_65_code 10 = .ok (.ireturn, 1) := by decide +kernel
theorem ef_2 (m : MethodId) (p0 : Int32) (p1 : Int32) : entryFrame m #[(.int p0), (.int p1)] 2 = mkF m 0 #[.val (.int p0), .val (.int p1)] [] := by first | (simp [entryFrame, mkF, argsToLocals, Value.category]; done) | rfl
def Q2 (Z : State) (p0 : Int32) (p1 : Int32) (h0 : Heap) (n0 : Nat) (v : Option Value) (h : Heap) (L : List Loc) : Prop := (v = some (.int (if p0 < p1 then p1 else p0))) ∧ (Fr n0 L) ∧ (h = h0)
set_option maxRecDepth 65536 in
set_option maxHeartbeats 40000000 in
theorem rm2 (l : Launch) (Z : State) (aZ : Array Value) (hw : ∀ d ∈ tables_1, d.before aZ Z = true) (ws : List Jvm.Cond) (p0 : Int32) (p1 : Int32) (h0 : Heap) (n0 : Nat) (Z0 : n0 ≤ h0.size)  :
    MetFree l (⟨"java/lang/Math", "max", "(II)I"⟩ : MethodName) (head1 (Jvm.Cond.code (⟨"java/lang/Math", "max", "(II)I"⟩ : MethodName) jdk_29_method_65_code 2 (some .int) :: ws) ({ frames := 0, cells := 0, slots := 0, locals := 0 } : Room)) (fun a U => a = #[(.int p0), (.int p1)] ∧ Z.Warmed39 U.vm ∧ U.heap = h0) (fun _ _ _ _ _ => True) (fun _ U o U' => ∃ v L, o = .returned v ∧ Q2 Z p0 p1 h0 n0 v U'.heap L ∧ FrameEnd U o U' L ({ frames := 0, cells := 0, slots := 0, locals := 0 } : Room).cells ({ frames := 0, cells := 0, slots := 0, locals := 0 } : Room).slots) := by
  refine MetFree.of_bodySF (Jvm.Free.JP.mathPlain rfl (by decide +kernel)) hisR ?_
  intro p e s m args below meth c s₁ Bd hml0 hP hK
  obtain ⟨rfl, hZ, hh⟩ := hP
  have hx := Bd.exec
  have hby := Bd.bytes
  have hml : c.maxLocals = 2 := hml0
  have hown : s.vm.findClass "java/lang/Math" = some m.cls := findClass_of_methodNamed Bd.named
  have hnm := (name_of_methodNamed Bd.named Bd.method).1
  have hlk : meth.locks = false := BodyLoose.notSynchronized Bd
  have X0 : Stand p l e ({ frames := 0, cells := 0, slots := 0, locals := 0 } : Room) s m #[(.int p0), (.int p1)] below meth c s₁ [] 0 0 := Stand.of_body Bd
  have e0 : s₁.heap = h0 := by rw [← hh, Bd.state]; rfl
  have N0 := Fr.nil n0
  have sq0 : h0.size ≤ h0.size := Nat.le_refl _
  change Go p e below s ({ frames := 0, cells := 0, slots := 0, locals := 0 } : Room).cells ({ frames := 0, cells := 0, slots := 0, locals := 0 } : Room).slots (Q2 Z p0 p1 h0 n0) (s₁.setTop (entryFrame m #[(.int p0), (.int p1)] 2))
  rw [ef_2 m p0 p1]
  show Go _ _ _ _ _ _ _ (s₁.setTop (mkF m 0 #[.val (.int p0), .val (.int p1)] []))
  refine Go.step (fun _ k => XS.iloadN X0.here hx rfl (hb hby d2_0) rfl  k) ?_
  show Go _ _ _ _ _ _ _ (s₁.setTop (mkF m 1 #[.val (.int p0), .val (.int p1)] [(.int p0)]))
  refine Go.step (fun _ k => XS.iloadN X0.here hx rfl (hb hby d2_1) rfl  k) ?_
  show Go _ _ _ _ _ _ _ (s₁.setTop (mkF m 2 #[.val (.int p0), .val (.int p1)] [(.int p1), (.int p0)]))
  by_cases hc2 : p0 < p1
  · skip
    refine Go.step (fun _ k => XS.icmpYes X0.here hx rfl (pc0 := 2) (pc' := 9) rfl (hb hby d2_2) rfl (tlt hc2).1 (by decide) (by decide) k) ?_
    show Go _ _ _ _ _ _ _ (s₁.setTop (mkF m 9 #[.val (.int p0), .val (.int p1)] []))
    refine Go.step (fun _ k => XS.iloadN X0.here hx rfl (hb hby d2_9) rfl  k) ?_
    show Go _ _ _ _ _ _ _ (s₁.setTop (mkF m 10 #[.val (.int p0), .val (.int p1)] [(.int p1)]))
    refine Go.retI X0 hx Bd.returns hlk (hb hby d2_10) ?_ (by decide) (by decide)
    rw [e0]
    exact ⟨(by first | rfl | rw [if_pos hc2] | rw [if_neg hc2]), N0, rfl⟩
  · skip
    refine Go.step (fun _ k => XS.icmpNo X0.here hx rfl (hb hby d2_2) rfl (flt hc2).1 k) ?_
    show Go _ _ _ _ _ _ _ (s₁.setTop (mkF m 5 #[.val (.int p0), .val (.int p1)] []))
    refine Go.step (fun _ k => XS.iloadN X0.here hx rfl (hb hby d2_5) rfl  k) ?_
    show Go _ _ _ _ _ _ _ (s₁.setTop (mkF m 6 #[.val (.int p0), .val (.int p1)] [(.int p0)]))
    refine Go.step (fun _ k => XS.goto X0.here hx rfl (pc0 := 6) (pc' := 10) rfl (hb hby d2_6) (by decide) (by decide) k) ?_
    show Go _ _ _ _ _ _ _ (s₁.setTop (mkF m 10 #[.val (.int p0), .val (.int p1)] [(.int p0)]))
    refine Go.retI X0 hx Bd.returns hlk (hb hby d2_10) ?_ (by decide) (by decide)
    rw [e0]
    exact ⟨(by first | rfl | rw [if_pos hc2] | rw [if_neg hc2]), N0, rfl⟩
theorem d1_0 : decode jdk_29_method_69_code 0 = .ok (.iload_n 0, 1) := by decide +kernel
theorem d1_1 : decode jdk_29_method_69_code 1 = .ok (.iload_n 1, 1) := by decide +kernel
theorem d1_2 : decode jdk_29_method_69_code 2 = .ok (.if_icmp .gt 7, 3) := by decide +kernel
theorem d1_5 : decode jdk_29_method_69_code 5 = .ok (.iload_n 0, 1) := by decide +kernel
theorem d1_6 : decode jdk_29_method_69_code 6 = .ok (.goto 4, 3) := by decide +kernel
theorem d1_9 : decode jdk_29_method_69_code 9 = .ok (.iload_n 1, 1) := by decide +kernel
theorem d1_10 : decode jdk_29_method_69_code 10 = .ok (.ireturn, 1) := by decide +kernel
theorem ef_1 (m : MethodId) (p0 : Int32) (p1 : Int32) : entryFrame m #[(.int p0), (.int p1)] 2 = mkF m 0 #[.val (.int p0), .val (.int p1)] [] := by first | (simp [entryFrame, mkF, argsToLocals, Value.category]; done) | rfl
def Q1 (Z : State) (p0 : Int32) (p1 : Int32) (h0 : Heap) (n0 : Nat) (v : Option Value) (h : Heap) (L : List Loc) : Prop := (v = some (.int (if p1 < p0 then p1 else p0))) ∧ (Fr n0 L) ∧ (h = h0)
set_option maxRecDepth 65536 in
set_option maxHeartbeats 40000000 in
theorem rm1 (l : Launch) (Z : State) (aZ : Array Value) (hw : ∀ d ∈ tables_1, d.before aZ Z = true) (ws : List Jvm.Cond) (p0 : Int32) (p1 : Int32) (h0 : Heap) (n0 : Nat) (Z0 : n0 ≤ h0.size)  :
    MetFree l (⟨"java/lang/Math", "min", "(II)I"⟩ : MethodName) (head1 (Jvm.Cond.code (⟨"java/lang/Math", "min", "(II)I"⟩ : MethodName) jdk_29_method_69_code 2 (some .int) :: ws) ({ frames := 0, cells := 0, slots := 0, locals := 0 } : Room)) (fun a U => a = #[(.int p0), (.int p1)] ∧ Z.Warmed39 U.vm ∧ U.heap = h0) (fun _ _ _ _ _ => True) (fun _ U o U' => ∃ v L, o = .returned v ∧ Q1 Z p0 p1 h0 n0 v U'.heap L ∧ FrameEnd U o U' L ({ frames := 0, cells := 0, slots := 0, locals := 0 } : Room).cells ({ frames := 0, cells := 0, slots := 0, locals := 0 } : Room).slots) := by
  refine MetFree.of_bodySF (Jvm.Free.JP.mathPlain rfl (by decide +kernel)) hisR ?_
  intro p e s m args below meth c s₁ Bd hml0 hP hK
  obtain ⟨rfl, hZ, hh⟩ := hP
  have hx := Bd.exec
  have hby := Bd.bytes
  have hml : c.maxLocals = 2 := hml0
  have hown : s.vm.findClass "java/lang/Math" = some m.cls := findClass_of_methodNamed Bd.named
  have hnm := (name_of_methodNamed Bd.named Bd.method).1
  have hlk : meth.locks = false := BodyLoose.notSynchronized Bd
  have X0 : Stand p l e ({ frames := 0, cells := 0, slots := 0, locals := 0 } : Room) s m #[(.int p0), (.int p1)] below meth c s₁ [] 0 0 := Stand.of_body Bd
  have e0 : s₁.heap = h0 := by rw [← hh, Bd.state]; rfl
  have N0 := Fr.nil n0
  have sq0 : h0.size ≤ h0.size := Nat.le_refl _
  change Go p e below s ({ frames := 0, cells := 0, slots := 0, locals := 0 } : Room).cells ({ frames := 0, cells := 0, slots := 0, locals := 0 } : Room).slots (Q1 Z p0 p1 h0 n0) (s₁.setTop (entryFrame m #[(.int p0), (.int p1)] 2))
  rw [ef_1 m p0 p1]
  show Go _ _ _ _ _ _ _ (s₁.setTop (mkF m 0 #[.val (.int p0), .val (.int p1)] []))
  refine Go.step (fun _ k => XS.iloadN X0.here hx rfl (hb hby d1_0) rfl  k) ?_
  show Go _ _ _ _ _ _ _ (s₁.setTop (mkF m 1 #[.val (.int p0), .val (.int p1)] [(.int p0)]))
  refine Go.step (fun _ k => XS.iloadN X0.here hx rfl (hb hby d1_1) rfl  k) ?_
  show Go _ _ _ _ _ _ _ (s₁.setTop (mkF m 2 #[.val (.int p0), .val (.int p1)] [(.int p1), (.int p0)]))
  by_cases hc2 : p1 < p0
  · skip
    refine Go.step (fun _ k => XS.icmpYes X0.here hx rfl (pc0 := 2) (pc' := 9) rfl (hb hby d1_2) rfl (tlt hc2).2.2.1 (by decide) (by decide) k) ?_
    show Go _ _ _ _ _ _ _ (s₁.setTop (mkF m 9 #[.val (.int p0), .val (.int p1)] []))
    refine Go.step (fun _ k => XS.iloadN X0.here hx rfl (hb hby d1_9) rfl  k) ?_
    show Go _ _ _ _ _ _ _ (s₁.setTop (mkF m 10 #[.val (.int p0), .val (.int p1)] [(.int p1)]))
    refine Go.retI X0 hx Bd.returns hlk (hb hby d1_10) ?_ (by decide) (by decide)
    rw [e0]
    exact ⟨(by first | rfl | rw [if_pos hc2] | rw [if_neg hc2]), N0, rfl⟩
  · skip
    refine Go.step (fun _ k => XS.icmpNo X0.here hx rfl (hb hby d1_2) rfl (flt hc2).2.2.1 k) ?_
    show Go _ _ _ _ _ _ _ (s₁.setTop (mkF m 5 #[.val (.int p0), .val (.int p1)] []))
    refine Go.step (fun _ k => XS.iloadN X0.here hx rfl (hb hby d1_5) rfl  k) ?_
    show Go _ _ _ _ _ _ _ (s₁.setTop (mkF m 6 #[.val (.int p0), .val (.int p1)] [(.int p0)]))
    refine Go.step (fun _ k => XS.goto X0.here hx rfl (pc0 := 6) (pc' := 10) rfl (hb hby d1_6) (by decide) (by decide) k) ?_
    show Go _ _ _ _ _ _ _ (s₁.setTop (mkF m 10 #[.val (.int p0), .val (.int p1)] [(.int p0)]))
    refine Go.retI X0 hx Bd.returns hlk (hb hby d1_10) ?_ (by decide) (by decide)
    rw [e0]
    exact ⟨(by first | rfl | rw [if_pos hc2] | rw [if_neg hc2]), N0, rfl⟩
theorem pn_0 : plainName "java/lang/Record" = true := by first | (simp [plainName, overriddenIn]; done) | decide +kernel
theorem d4_0 : decode jdk_30_method_1_code 0 = .ok (.aload_n 0, 1) := by decide +kernel
theorem d4_1 : decode jdk_30_method_1_code 1 = .ok (.invokespecial 1, 3) := by decide +kernel
theorem d4_4 : decode jdk_30_method_1_code 4 = .ok (.return_, 1) := by decide +kernel
theorem ef_4 (m : MethodId) (a0 : Addr) : entryFrame m #[(.ref a0)] 1 = mkF m 0 #[.val (.ref a0)] [] := by first | (simp [entryFrame, mkF, argsToLocals, Value.category]; done) | rfl
def Q4 (Z : State) (a0 : Addr) (h0 : Heap) (n0 : Nat) (v : Option Value) (h : Heap) (L : List Loc) : Prop := (v = none) ∧ (Fr n0 L) ∧ (h = h0)
set_option maxRecDepth 65536 in
set_option maxHeartbeats 40000000 in
theorem rm4 (l : Launch) (Z : State) (aZ : Array Value) (hw : ∀ d ∈ tables_1, d.before aZ Z = true) (ws : List Jvm.Cond) (a0 : Addr) (h0 : Heap) (n0 : Nat) (Z0 : n0 ≤ h0.size)  :
    MetFree l (⟨"java/lang/Record", "<init>", "()V"⟩ : MethodName) (head1 (Jvm.Cond.code (⟨"java/lang/Record", "<init>", "()V"⟩ : MethodName) jdk_30_method_1_code 1 none :: ws) ({ frames := 1, cells := 0, slots := 0, locals := 12 } : Room)) (fun a U => a = #[(.ref a0)] ∧ Z.Warmed39 U.vm ∧ U.heap = h0) (fun _ _ _ _ _ => True) (fun _ U o U' => ∃ v L, o = .returned v ∧ Q4 Z a0 h0 n0 v U'.heap L ∧ FrameEnd U o U' L ({ frames := 1, cells := 0, slots := 0, locals := 12 } : Room).cells ({ frames := 1, cells := 0, slots := 0, locals := 12 } : Room).slots) := by
  refine MetFree.of_bodySF (plainFor_of_name pn_0) hisR ?_
  intro p e s m args below meth c s₁ Bd hml0 hP hK
  obtain ⟨rfl, hZ, hh⟩ := hP
  have hx := Bd.exec
  have hby := Bd.bytes
  have hml : c.maxLocals = 1 := hml0
  have hown : s.vm.findClass "java/lang/Record" = some m.cls := findClass_of_methodNamed Bd.named
  have hnm := (name_of_methodNamed Bd.named Bd.method).1
  have hlk : meth.locks = false := BodyLoose.notSynchronized Bd
  have X0 : Stand p l e ({ frames := 1, cells := 0, slots := 0, locals := 12 } : Room) s m #[(.ref a0)] below meth c s₁ [] 0 0 := Stand.of_body Bd
  have e0 : s₁.heap = h0 := by rw [← hh, Bd.state]; rfl
  have N0 := Fr.nil n0
  have sq0 : h0.size ≤ h0.size := Nat.le_refl _
  change Go p e below s ({ frames := 1, cells := 0, slots := 0, locals := 12 } : Room).cells ({ frames := 1, cells := 0, slots := 0, locals := 12 } : Room).slots (Q4 Z a0 h0 n0) (s₁.setTop (entryFrame m #[(.ref a0)] 1))
  rw [ef_4 m a0]
  show Go _ _ _ _ _ _ _ (s₁.setTop (mkF m 0 #[.val (.ref a0)] []))
  refine Go.step (fun _ k => XS.aloadN X0.here hx rfl (hb hby d4_0) rfl rfl  k) ?_
  show Go _ _ _ _ _ _ _ (s₁.setTop (mkF m 1 #[.val (.ref a0)] [(.ref a0)]))
  obtain ⟨T1, X1, e1, st1⟩ := initO X0 hx hZ hown (hw _ (List.mem_of_getElem? (i := 20) rfl)) (hw _ (List.mem_of_getElem? (i := 21) rfl)) (hw _ (List.mem_of_getElem? (i := 22) rfl)) e0 (g := (mkF m 1 #[.val (.ref a0)] [(.ref a0)])) rfl (by rw [hml]; rfl) rfl (hb hby d4_1) (by decide) (W := 0) (by show 2 * 0 + _ ≤ _; exact Nat.le_of_eq rfl) (by decide)
  refine Go.step st1 ?_
  show Go _ _ _ _ _ _ _ (T1.setTop (mkF m 4 #[.val (.ref a0)] []))
  refine Go.retV X1 hx Bd.returns hlk (hb hby d4_4) ?_ (by decide) (by decide)
  rw [e1]
  exact ⟨(rfl), N0, rfl⟩
theorem pn_1 : plainName "com/example/sidewire/sidewire/net/TcpPorts" = true := by first | (simp [plainName, overriddenIn]; done) | decide +kernel
theorem d6_0 : decode prog_25_method_3_code 0 = .ok (.iload_n 0, 1) := by decide +kernel
theorem d6_1 : decode prog_25_method_3_code 1 = .ok (.iconst 1, 1) := by decide +kernel
theorem d6_2 : decode prog_25_method_3_code 2 = .ok (.if_icmp .lt 9, 3) := by decide +kernel
theorem d6_5 : decode prog_25_method_3_code 5 = .ok (.iload_n 0, 1) := by decide +kernel
theorem d6_6 : decode prog_25_method_3_code 6 = .ok (.ldc 36, 2) := by decide +kernel
theorem d6_8 : decode prog_25_method_3_code 8 = .ok (.if_icmp .le 17, 3) := by decide +kernel
theorem d6_25 : decode prog_25_method_3_code 25 = .ok (.iload_n 0, 1) := by decide +kernel
theorem d6_26 : decode prog_25_method_3_code 26 = .ok (.ireturn, 1) := by decide +kernel
theorem ef_6 (m : MethodId) (p0 : Int32) : entryFrame m #[(.int p0)] 1 = mkF m 0 #[.val (.int p0)] [] := by first | (simp [entryFrame, mkF, argsToLocals, Value.category]; done) | rfl
def Q6 (Z : State) (p0 : Int32) (h0 : Heap) (n0 : Nat) (v : Option Value) (h : Heap) (L : List Loc) : Prop := (v = some (.int p0)) ∧ (Fr n0 L) ∧ (h = h0)
set_option maxRecDepth 65536 in
set_option maxHeartbeats 40000000 in
theorem rm6 (l : Launch) (Z : State) (aZ : Array Value) (hw : ∀ d ∈ tables_1, d.before aZ Z = true) (ws : List Jvm.Cond) (p0 : Int32) (h0 : Heap) (n0 : Nat) (Z0 : n0 ≤ h0.size) (h1 : ¬ p0 < 1) (h2 : ¬ (65535 : Int32) < p0) :
    MetFree l (⟨"com/example/sidewire/sidewire/net/TcpPorts", "check", "(I)I"⟩ : MethodName) (head1 (Jvm.Cond.code (⟨"com/example/sidewire/sidewire/net/TcpPorts", "check", "(I)I"⟩ : MethodName) prog_25_method_3_code 1 (some .int) :: ws) ({ frames := 0, cells := 0, slots := 0, locals := 0 } : Room)) (fun a U => a = #[(.int p0)] ∧ Z.Warmed39 U.vm ∧ U.heap = h0) (fun _ _ _ _ _ => True) (fun _ U o U' => ∃ v L, o = .returned v ∧ Q6 Z p0 h0 n0 v U'.heap L ∧ FrameEnd U o U' L ({ frames := 0, cells := 0, slots := 0, locals := 0 } : Room).cells ({ frames := 0, cells := 0, slots := 0, locals := 0 } : Room).slots) := by
  refine MetFree.of_bodySF (plainFor_of_name pn_1) hisR ?_
  intro p e s m args below meth c s₁ Bd hml0 hP hK
  obtain ⟨rfl, hZ, hh⟩ := hP
  have hx := Bd.exec
  have hby := Bd.bytes
  have hml : c.maxLocals = 1 := hml0
  have hown : s.vm.findClass "com/example/sidewire/sidewire/net/TcpPorts" = some m.cls := findClass_of_methodNamed Bd.named
  have hnm := (name_of_methodNamed Bd.named Bd.method).1
  have hlk : meth.locks = false := BodyLoose.notSynchronized Bd
  have X0 : Stand p l e ({ frames := 0, cells := 0, slots := 0, locals := 0 } : Room) s m #[(.int p0)] below meth c s₁ [] 0 0 := Stand.of_body Bd
  have e0 : s₁.heap = h0 := by rw [← hh, Bd.state]; rfl
  have N0 := Fr.nil n0
  have sq0 : h0.size ≤ h0.size := Nat.le_refl _
  change Go p e below s ({ frames := 0, cells := 0, slots := 0, locals := 0 } : Room).cells ({ frames := 0, cells := 0, slots := 0, locals := 0 } : Room).slots (Q6 Z p0 h0 n0) (s₁.setTop (entryFrame m #[(.int p0)] 1))
  rw [ef_6 m p0]
  show Go _ _ _ _ _ _ _ (s₁.setTop (mkF m 0 #[.val (.int p0)] []))
  refine Go.step (fun _ k => XS.iloadN X0.here hx rfl (hb hby d6_0) rfl  k) ?_
  show Go _ _ _ _ _ _ _ (s₁.setTop (mkF m 1 #[.val (.int p0)] [(.int p0)]))
  refine Go.step (fun _ k => XS.iconst X0.here hx rfl (hb hby d6_1) k) ?_
  show Go _ _ _ _ _ _ _ (s₁.setTop (mkF m 2 #[.val (.int p0)] [(.int (1 : Int32)), (.int p0)]))
  have hc2 : ¬ (p0 < (1 : Int32)) := h1
  refine Go.step (fun _ k => XS.icmpNo X0.here hx rfl (hb hby d6_2) rfl (flt hc2).1 k) ?_
  show Go _ _ _ _ _ _ _ (s₁.setTop (mkF m 5 #[.val (.int p0)] []))
  refine Go.step (fun _ k => XS.iloadN X0.here hx rfl (hb hby d6_5) rfl  k) ?_
  show Go _ _ _ _ _ _ _ (s₁.setTop (mkF m 6 #[.val (.int p0)] [(.int p0)]))
  refine Go.step (X0.ldcInt hx hown (mvT hZ (hw _ (List.mem_of_getElem? (i := 27) rfl))) (g := (mkF m 6 #[.val (.int p0)] [(.int p0)])) rfl (hb hby d6_6)) ?_
  show Go _ _ _ _ _ _ _ (s₁.setTop (mkF m 8 #[.val (.int p0)] [(.int (65535 : Int32)), (.int p0)]))
  have hc8 : ¬ ((65535 : Int32) < p0) := h2
  refine Go.step (fun _ k => XS.icmpYes X0.here hx rfl (pc0 := 8) (pc' := 25) rfl (hb hby d6_8) rfl (flt hc8).2.2.2 (by decide) (by decide) k) ?_
  show Go _ _ _ _ _ _ _ (s₁.setTop (mkF m 25 #[.val (.int p0)] []))
  refine Go.step (fun _ k => XS.iloadN X0.here hx rfl (hb hby d6_25) rfl  k) ?_
  show Go _ _ _ _ _ _ _ (s₁.setTop (mkF m 26 #[.val (.int p0)] [(.int p0)]))
  refine Go.retI X0 hx Bd.returns hlk (hb hby d6_26) ?_ (by decide) (by decide)
  rw [e0]
  exact ⟨(rfl), N0, rfl⟩
theorem pn_2 : plainName "com/example/sidewire/sidewire/net/PortRange" = true := by first | (simp [plainName, overriddenIn]; done) | decide +kernel
theorem pd_0 : parseMethodDescriptor "()V" = some ⟨[], none⟩ := by decide +kernel
theorem pd_1 : parseMethodDescriptor "(I)I" = some ⟨[.int], some .int⟩ := by decide +kernel
theorem d3_0 : decode prog_23_method_1_code 0 = .ok (.aload_n 0, 1) := by decide +kernel
theorem d3_1 : decode prog_23_method_1_code 1 = .ok (.invokespecial 1, 3) := by decide +kernel
theorem d3_4 : decode prog_23_method_1_code 4 = .ok (.iload_n 1, 1) := by decide +kernel
theorem d3_5 : decode prog_23_method_1_code 5 = .ok (.invokestatic 7, 3) := by decide +kernel
theorem d3_8 : decode prog_23_method_1_code 8 = .ok (.pop, 1) := by decide +kernel
theorem d3_9 : decode prog_23_method_1_code 9 = .ok (.iload_n 2, 1) := by decide +kernel
theorem d3_10 : decode prog_23_method_1_code 10 = .ok (.invokestatic 7, 3) := by decide +kernel
theorem d3_13 : decode prog_23_method_1_code 13 = .ok (.pop, 1) := by decide +kernel
theorem d3_14 : decode prog_23_method_1_code 14 = .ok (.iload_n 2, 1) := by decide +kernel
theorem d3_15 : decode prog_23_method_1_code 15 = .ok (.iload_n 1, 1) := by decide +kernel
theorem d3_16 : decode prog_23_method_1_code 16 = .ok (.if_icmp .ge 18, 3) := by decide +kernel
theorem d3_34 : decode prog_23_method_1_code 34 = .ok (.aload_n 0, 1) := by decide +kernel
theorem d3_35 : decode prog_23_method_1_code 35 = .ok (.iload_n 1, 1) := by decide +kernel
theorem d3_36 : decode prog_23_method_1_code 36 = .ok (.putfield 22, 3) := by decide +kernel
theorem d3_39 : decode prog_23_method_1_code 39 = .ok (.aload_n 0, 1) := by decide +kernel
theorem d3_40 : decode prog_23_method_1_code 40 = .ok (.iload_n 2, 1) := by decide +kernel
theorem d3_41 : decode prog_23_method_1_code 41 = .ok (.putfield 28, 3) := by decide +kernel
theorem d3_44 : decode prog_23_method_1_code 44 = .ok (.return_, 1) := by decide +kernel
theorem ef_3 (m : MethodId) (a0 : Addr) (p1 : Int32) (p2 : Int32) : entryFrame m #[(.ref a0), (.int p1), (.int p2)] 3 = mkF m 0 #[.val (.ref a0), .val (.int p1), .val (.int p2)] [] := by first | (simp [entryFrame, mkF, argsToLocals, Value.category]; done) | rfl
def Q3 (Z : State) (a0 : Addr) (p1 : Int32) (p2 : Int32) (h0 : Heap) (n0 : Nat) (v : Option Value) (h : Heap) (L : List Loc) : Prop := (v = none) ∧ (Fr n0 L) ∧ (Keep h0 h [a0]) ∧ (Exa Z h a0 "com/example/sidewire/sidewire/net/PortRange") ∧ (Fld Z h a0 "com/example/sidewire/sidewire/net/PortRange" "from" "I" (.int p1)) ∧ (Fld Z h a0 "com/example/sidewire/sidewire/net/PortRange" "to" "I" (.int p2))
set_option maxRecDepth 65536 in
set_option maxHeartbeats 40000000 in
theorem rm3 (l : Launch) (Z : State) (aZ : Array Value) (hw : ∀ d ∈ tables_1, d.before aZ Z = true) (ws : List Jvm.Cond) (a0 : Addr) (p1 : Int32) (p2 : Int32) (h0 : Heap) (n0 : Nat) (Z0 : n0 ≤ h0.size) (E_0 : Exa Z h0 a0 "com/example/sidewire/sidewire/net/PortRange") (F_1 : Fld Z h0 a0 "com/example/sidewire/sidewire/net/PortRange" "from" "I" (.int (0 : Int32))) (F_2 : Fld Z h0 a0 "com/example/sidewire/sidewire/net/PortRange" "to" "I" (.int (0 : Int32))) (g_3 : n0 ≤ a0) (h1 : ¬ p1 < 1) (h2 : ¬ (65535 : Int32) < p1) (h3 : ¬ p2 < 1) (h4 : ¬ (65535 : Int32) < p2) (h5 : ¬ p2 < p1) :
    MetFree l (⟨"com/example/sidewire/sidewire/net/PortRange", "<init>", "(II)V"⟩ : MethodName) (head1 (Jvm.Cond.code (⟨"com/example/sidewire/sidewire/net/PortRange", "<init>", "(II)V"⟩ : MethodName) prog_23_method_1_code 3 none :: ws) ({ frames := 2, cells := 0, slots := 0, locals := 24 } : Room)) (fun a U => a = #[(.ref a0), (.int p1), (.int p2)] ∧ Z.Warmed39 U.vm ∧ U.heap = h0) (fun _ _ _ _ _ => True) (fun _ U o U' => ∃ v L, o = .returned v ∧ Q3 Z a0 p1 p2 h0 n0 v U'.heap L ∧ FrameEnd U o U' L ({ frames := 2, cells := 0, slots := 0, locals := 24 } : Room).cells ({ frames := 2, cells := 0, slots := 0, locals := 24 } : Room).slots) := by
  refine MetFree.of_bodySF (plainFor_of_name pn_2) hisR ?_
  intro p e s m args below meth c s₁ Bd hml0 hP hK
  obtain ⟨rfl, hZ, hh⟩ := hP
  have hx := Bd.exec
  have hby := Bd.bytes
  have hml : c.maxLocals = 3 := hml0
  have hown : s.vm.findClass "com/example/sidewire/sidewire/net/PortRange" = some m.cls := findClass_of_methodNamed Bd.named
  have hnm := (name_of_methodNamed Bd.named Bd.method).1
  have hlk : meth.locks = false := BodyLoose.notSynchronized Bd
  have X0 : Stand p l e ({ frames := 2, cells := 0, slots := 0, locals := 24 } : Room) s m #[(.ref a0), (.int p1), (.int p2)] below meth c s₁ [] 0 0 := Stand.of_body Bd
  have e0 : s₁.heap = h0 := by rw [← hh, Bd.state]; rfl
  have N0 := Fr.nil n0
  have sq0 : h0.size ≤ h0.size := Nat.le_refl _
  have k0 : Keep h0 h0 [a0] := Keep.refl _ _
  change Go p e below s ({ frames := 2, cells := 0, slots := 0, locals := 24 } : Room).cells ({ frames := 2, cells := 0, slots := 0, locals := 24 } : Room).slots (Q3 Z a0 p1 p2 h0 n0) (s₁.setTop (entryFrame m #[(.ref a0), (.int p1), (.int p2)] 3))
  rw [ef_3 m a0 p1 p2]
  show Go _ _ _ _ _ _ _ (s₁.setTop (mkF m 0 #[.val (.ref a0), .val (.int p1), .val (.int p2)] []))
  refine Go.step (fun _ k => XS.aloadN X0.here hx rfl (hb hby d3_0) rfl rfl  k) ?_
  show Go _ _ _ _ _ _ _ (s₁.setTop (mkF m 1 #[.val (.ref a0), .val (.int p1), .val (.int p2)] [(.ref a0)]))
  obtain ⟨_, _, ⟨T1, L1, k1, n1⟩, -, X1, ⟨Lc1, hQ1, l1, y1, z1⟩, st1⟩ := X0.specialBack hx (y := (⟨"java/lang/Record", "<init>", "()V"⟩ : MethodName)) rfl hown (mvT hZ (hw _ (List.mem_of_getElem? (i := 15) rfl))) (mvT hZ (hw _ (List.mem_of_getElem? (i := 16) rfl))) (mvT hZ (hw _ (List.mem_of_getElem? (i := 19) rfl))) (by decide) (backOf (W := 0) (rm4 l Z aZ hw [] a0 h0 n0 Z0 ) hZ (hw _ (List.mem_of_getElem? (i := 19) rfl)) (hw _ (List.mem_of_getElem? (i := 18) rfl)) (by decide) (by decide)) (g := (mkF m 1 #[.val (.ref a0), .val (.int p1), .val (.int p2)] [(.ref a0)])) rfl (by rw [hml]; rfl) (Steps.refl _) (a := a0) (argsL := []) (rest := []) (lenOf pd_0 rfl) rfl (by show 2 * 0 + _ ≤ _; exact Nat.le_of_eq rfl) (hb hby d3_1) (fun _ _ => ⟨rfl, e0, (by decide : 0 + 0 ≤ _), (by decide : 0 + 0 ≤ _)⟩)
  dsimp only [Pt.U, Pt.locs, Pt.cells, Pt.slots] at X1 l1 y1 z1 st1 hQ1
  subst l1 y1 z1
  obtain ⟨rfl, Nq1, e1⟩ := hQ1
  have N1 := Fr.app N0 Nq1
  refine Go.tr st1 ?_
  show Go _ _ _ _ _ _ _ (T1.setTop (mkF m 4 #[.val (.ref a0), .val (.int p1), .val (.int p2)] []))
  refine Go.step (fun _ k => XS.iloadN X1.here hx rfl (hb hby d3_4) rfl  k) ?_
  show Go _ _ _ _ _ _ _ (T1.setTop (mkF m 5 #[.val (.ref a0), .val (.int p1), .val (.int p2)] [(.int p1)]))
  have pq2 : ¬ p1 < 1 := (by first | assumption | rfl | decide)
  have pq3 : ¬ (65535 : Int32) < p1 := (by first | assumption | rfl | decide)
  obtain ⟨_, _, ⟨T4, L4, k4, n4⟩, -, X4, ⟨Lc4, hQ4, l4, y4, z4⟩, st4⟩ := Jvm.LawKit.callS X1 hx (y := (⟨"com/example/sidewire/sidewire/net/TcpPorts", "check", "(I)I"⟩ : MethodName)) hown (mvT hZ (hw _ (List.mem_of_getElem? (i := 23) rfl))) (mvT hZ (hw _ (List.mem_of_getElem? (i := 24) rfl))) (mvT hZ (hw _ (List.mem_of_getElem? (i := 25) rfl))) (mvT hZ (hw _ (List.mem_of_getElem? (i := 26) rfl))) (by decide) (backOf (W := 0) (rm6 l Z aZ hw [] p1 h0 n0 Z0 pq2 pq3) hZ (hw _ (List.mem_of_getElem? (i := 26) rfl)) (hw _ (List.mem_of_getElem? (i := 25) rfl)) (by decide) (by decide)) (g := (mkF m 5 #[.val (.ref a0), .val (.int p1), .val (.int p2)] [(.int p1)])) rfl (by rw [hml]; rfl) (argsL := [(.int p1)]) (rest := []) (lenOf pd_1 rfl) rfl (by show 2 * 0 + _ ≤ _; exact Nat.le_of_eq rfl) (hb hby d3_5) (fun _ _ => ⟨rfl, e1, (by decide : 0 + 0 ≤ _), (by decide : 0 + 0 ≤ _)⟩)
  dsimp only [Pt.U, Pt.locs, Pt.cells, Pt.slots] at X4 l4 y4 z4 st4 hQ4
  subst l4 y4 z4
  obtain ⟨rfl, Nq4, e4⟩ := hQ4
  have N4 := Fr.app N1 Nq4
  refine Go.step st4 ?_
  show Go _ _ _ _ _ _ _ (T4.setTop (mkF m 8 #[.val (.ref a0), .val (.int p1), .val (.int p2)] [(.int p1)]))
  refine Go.step (fun _ k => XS.pop X4.here hx rfl (hb hby d3_8) rfl rfl k) ?_
  show Go _ _ _ _ _ _ _ (T4.setTop (mkF m 9 #[.val (.ref a0), .val (.int p1), .val (.int p2)] []))
  refine Go.step (fun _ k => XS.iloadN X4.here hx rfl (hb hby d3_9) rfl  k) ?_
  show Go _ _ _ _ _ _ _ (T4.setTop (mkF m 10 #[.val (.ref a0), .val (.int p1), .val (.int p2)] [(.int p2)]))
  have pq5 : ¬ p2 < 1 := (by first | assumption | rfl | decide)
  have pq6 : ¬ (65535 : Int32) < p2 := (by first | assumption | rfl | decide)
  obtain ⟨_, _, ⟨T7, L7, k7, n7⟩, -, X7, ⟨Lc7, hQ7, l7, y7, z7⟩, st7⟩ := Jvm.LawKit.callS X4 hx (y := (⟨"com/example/sidewire/sidewire/net/TcpPorts", "check", "(I)I"⟩ : MethodName)) hown (mvT hZ (hw _ (List.mem_of_getElem? (i := 23) rfl))) (mvT hZ (hw _ (List.mem_of_getElem? (i := 24) rfl))) (mvT hZ (hw _ (List.mem_of_getElem? (i := 25) rfl))) (mvT hZ (hw _ (List.mem_of_getElem? (i := 26) rfl))) (by decide) (backOf (W := 0) (rm6 l Z aZ hw [] p2 h0 n0 Z0 pq5 pq6) hZ (hw _ (List.mem_of_getElem? (i := 26) rfl)) (hw _ (List.mem_of_getElem? (i := 25) rfl)) (by decide) (by decide)) (g := (mkF m 10 #[.val (.ref a0), .val (.int p1), .val (.int p2)] [(.int p2)])) rfl (by rw [hml]; rfl) (argsL := [(.int p2)]) (rest := []) (lenOf pd_1 rfl) rfl (by show 2 * 0 + _ ≤ _; exact Nat.le_of_eq rfl) (hb hby d3_10) (fun _ _ => ⟨rfl, e4, (by decide : 0 + 0 ≤ _), (by decide : 0 + 0 ≤ _)⟩)
  dsimp only [Pt.U, Pt.locs, Pt.cells, Pt.slots] at X7 l7 y7 z7 st7 hQ7
  subst l7 y7 z7
  obtain ⟨rfl, Nq7, e7⟩ := hQ7
  have N7 := Fr.app N4 Nq7
  refine Go.step st7 ?_
  show Go _ _ _ _ _ _ _ (T7.setTop (mkF m 13 #[.val (.ref a0), .val (.int p1), .val (.int p2)] [(.int p2)]))
  refine Go.step (fun _ k => XS.pop X7.here hx rfl (hb hby d3_13) rfl rfl k) ?_
  show Go _ _ _ _ _ _ _ (T7.setTop (mkF m 14 #[.val (.ref a0), .val (.int p1), .val (.int p2)] []))
  refine Go.step (fun _ k => XS.iloadN X7.here hx rfl (hb hby d3_14) rfl  k) ?_
  show Go _ _ _ _ _ _ _ (T7.setTop (mkF m 15 #[.val (.ref a0), .val (.int p1), .val (.int p2)] [(.int p2)]))
  refine Go.step (fun _ k => XS.iloadN X7.here hx rfl (hb hby d3_15) rfl  k) ?_
  show Go _ _ _ _ _ _ _ (T7.setTop (mkF m 16 #[.val (.ref a0), .val (.int p1), .val (.int p2)] [(.int p1), (.int p2)]))
  have hc16 : ¬ (p2 < p1) := h5
  refine Go.step (fun _ k => XS.icmpYes X7.here hx rfl (pc0 := 16) (pc' := 34) rfl (hb hby d3_16) rfl (flt hc16).2.1 (by decide) (by decide) k) ?_
  show Go _ _ _ _ _ _ _ (T7.setTop (mkF m 34 #[.val (.ref a0), .val (.int p1), .val (.int p2)] []))
  refine Go.step (fun _ k => XS.aloadN X7.here hx rfl (hb hby d3_34) rfl rfl  k) ?_
  show Go _ _ _ _ _ _ _ (T7.setTop (mkF m 35 #[.val (.ref a0), .val (.int p1), .val (.int p2)] [(.ref a0)]))
  refine Go.step (fun _ k => XS.iloadN X7.here hx rfl (hb hby d3_35) rfl  k) ?_
  show Go _ _ _ _ _ _ _ (T7.setTop (mkF m 36 #[.val (.ref a0), .val (.int p1), .val (.int p2)] [(.int p1), (.ref a0)]))
  obtain ⟨T8, h8, X8, e8, W8, st8⟩ := putF X7 hx hZ hown (host := "") (Or.inl (hw _ (List.mem_of_getElem? (i := 28) rfl))) Via.refl e7 F_1 E_0 (Or.inr ⟨(hw _ (List.mem_of_getElem? (i := 29) rfl)), rfl, hnm⟩) (hw _ (List.mem_of_getElem? (i := 10) rfl)) (ty := .int) (v := (.int p1)) (by decide) rfl rfl (g := (mkF m 36 #[.val (.ref a0), .val (.int p1), .val (.int p2)] [(.int p1), (.ref a0)])) rfl rfl (hb hby d3_36)
  refine Go.step st8 ?_
  have N8 := Fr.snoc X8 N7 g_3
  have z9 : n0 ≤ h8.size := Nat.le_trans Z0 (Keep.of_wr W8).1
  have sqz9 : h0.size ≤ h8.size := Nat.le_trans sq0 (Keep.of_wr W8).1
  have k10 : Keep h0 h8 [a0] := k0.wr W8 (Or.inl (List.mem_of_getElem? (i := 0) rfl))
  have f11 : Fld Z h8 a0 "com/example/sidewire/sidewire/net/PortRange" "from" "I" (.int p1) := F_1.same W8
  show Go _ _ _ _ _ _ _ (T8.setTop (mkF m 39 #[.val (.ref a0), .val (.int p1), .val (.int p2)] []))
  refine Go.step (fun _ k => XS.aloadN X8.here hx rfl (hb hby d3_39) rfl rfl  k) ?_
  show Go _ _ _ _ _ _ _ (T8.setTop (mkF m 40 #[.val (.ref a0), .val (.int p1), .val (.int p2)] [(.ref a0)]))
  refine Go.step (fun _ k => XS.iloadN X8.here hx rfl (hb hby d3_40) rfl  k) ?_
  show Go _ _ _ _ _ _ _ (T8.setTop (mkF m 41 #[.val (.ref a0), .val (.int p1), .val (.int p2)] [(.int p2), (.ref a0)]))
  have f12 : Exa Z h8 a0 "com/example/sidewire/sidewire/net/PortRange" := (E_0.wr W8)
  have f13 : Fld Z h8 a0 "com/example/sidewire/sidewire/net/PortRange" "to" "I" (.int (0 : Int32)) := (F_2.other W8 (Or.inr (slot_ne (Or.inr (hw _ (List.mem_of_getElem? (i := 31) rfl))) (Or.inr (hw _ (List.mem_of_getElem? (i := 29) rfl))) (by decide) (t := .int) (t' := .int) (by decide) (by decide))))
  obtain ⟨T14, h14, X14, e14, W14, st14⟩ := putF X8 hx hZ hown (host := "") (Or.inl (hw _ (List.mem_of_getElem? (i := 30) rfl))) Via.refl e8 f13 f12 (Or.inr ⟨(hw _ (List.mem_of_getElem? (i := 31) rfl)), rfl, hnm⟩) (hw _ (List.mem_of_getElem? (i := 10) rfl)) (ty := .int) (v := (.int p2)) (by decide) rfl rfl (g := (mkF m 41 #[.val (.ref a0), .val (.int p1), .val (.int p2)] [(.int p2), (.ref a0)])) rfl rfl (hb hby d3_41)
  refine Go.step st14 ?_
  have N14 := Fr.snoc X14 N8 g_3
  have z15 : n0 ≤ h14.size := Nat.le_trans z9 (Keep.of_wr W14).1
  have sqz15 : h0.size ≤ h14.size := Nat.le_trans sqz9 (Keep.of_wr W14).1
  have k16 : Keep h0 h14 [a0] := k10.wr W14 (Or.inl (List.mem_of_getElem? (i := 0) rfl))
  have f17 : Fld Z h14 a0 "com/example/sidewire/sidewire/net/PortRange" "to" "I" (.int p2) := f13.same W14
  show Go _ _ _ _ _ _ _ (T14.setTop (mkF m 44 #[.val (.ref a0), .val (.int p1), .val (.int p2)] []))
  have f18 : Exa Z h14 a0 "com/example/sidewire/sidewire/net/PortRange" := (f12.wr W14)
  have f19 : Fld Z h14 a0 "com/example/sidewire/sidewire/net/PortRange" "from" "I" (.int p1) := (f11.other W14 (Or.inr (slot_ne (Or.inr (hw _ (List.mem_of_getElem? (i := 29) rfl))) (Or.inr (hw _ (List.mem_of_getElem? (i := 31) rfl))) (by decide) (t := .int) (t' := .int) (by decide) (by decide))))
  refine Go.retV X14 hx Bd.returns hlk (hb hby d3_44) ?_ (by decide) (by decide)
  rw [e14]
  exact ⟨(rfl), N14, k16, f18, f19, f17⟩
theorem d7_0 : decode prog_23_method_3_code 0 = .ok (.iload_n 1, 1) := by decide +kernel
theorem d7_1 : decode prog_23_method_3_code 1 = .ok (.aload_n 0, 1) := by decide +kernel
theorem d7_2 : decode prog_23_method_3_code 2 = .ok (.getfield 22, 3) := by decide +kernel
theorem d7_5 : decode prog_23_method_3_code 5 = .ok (.if_icmp .lt 15, 3) := by decide +kernel
theorem d7_8 : decode prog_23_method_3_code 8 = .ok (.iload_n 1, 1) := by decide +kernel
theorem d7_9 : decode prog_23_method_3_code 9 = .ok (.aload_n 0, 1) := by decide +kernel
theorem d7_10 : decode prog_23_method_3_code 10 = .ok (.getfield 28, 3) := by decide +kernel
theorem d7_13 : decode prog_23_method_3_code 13 = .ok (.if_icmp .gt 7, 3) := by decide +kernel
theorem d7_16 : decode prog_23_method_3_code 16 = .ok (.iconst 1, 1) := by decide +kernel
theorem d7_17 : decode prog_23_method_3_code 17 = .ok (.goto 4, 3) := by decide +kernel
theorem d7_20 : decode prog_23_method_3_code 20 = .ok (.iconst 0, 1) := by decide +kernel
theorem d7_21 : decode prog_23_method_3_code 21 = .ok (.ireturn, 1) := by decide +kernel
theorem ef_7 (m : MethodId) (a0 : Addr) (p1 : Int32) : entryFrame m #[(.ref a0), (.int p1)] 2 = mkF m 0 #[.val (.ref a0), .val (.int p1)] [] := by first | (simp [entryFrame, mkF, argsToLocals, Value.category]; done) | rfl
def Q7 (Z : State) (a0 : Addr) (p1 : Int32) (w1 : Int32) (w2 : Int32) (h0 : Heap) (n0 : Nat) (v : Option Value) (h : Heap) (L : List Loc) : Prop := (v = some (.int (if p1 < w1 ∨ w2 < p1 then (0 : Int32) else 1))) ∧ (Fr n0 L) ∧ (h = h0)
set_option maxRecDepth 65536 in
set_option maxHeartbeats 40000000 in
theorem rm7 (l : Launch) (Z : State) (aZ : Array Value) (hw : ∀ d ∈ tables_1, d.before aZ Z = true) (ws : List Jvm.Cond) (a0 : Addr) (p1 : Int32) (w1 : Int32) (w2 : Int32) (h0 : Heap) (n0 : Nat) (Z0 : n0 ≤ h0.size) (F_0 : Fld Z h0 a0 "com/example/sidewire/sidewire/net/PortRange" "from" "I" (.int w1)) (F_1 : Fld Z h0 a0 "com/example/sidewire/sidewire/net/PortRange" "to" "I" (.int w2)) :
    MetFree l (⟨"com/example/sidewire/sidewire/net/PortRange", "contains", "(I)Z"⟩ : MethodName) (head1 (Jvm.Cond.code (⟨"com/example/sidewire/sidewire/net/PortRange", "contains", "(I)Z"⟩ : MethodName) prog_23_method_3_code 2 (some .boolean) :: ws) ({ frames := 0, cells := 0, slots := 0, locals := 0 } : Room)) (fun a U => a = #[(.ref a0), (.int p1)] ∧ Z.Warmed39 U.vm ∧ U.heap = h0) (fun _ _ _ _ _ => True) (fun _ U o U' => ∃ v L, o = .returned v ∧ Q7 Z a0 p1 w1 w2 h0 n0 v U'.heap L ∧ FrameEnd U o U' L ({ frames := 0, cells := 0, slots := 0, locals := 0 } : Room).cells ({ frames := 0, cells := 0, slots := 0, locals := 0 } : Room).slots) := by
  refine MetFree.of_bodySF (plainFor_of_name pn_2) hisR ?_
  intro p e s m args below meth c s₁ Bd hml0 hP hK
  obtain ⟨rfl, hZ, hh⟩ := hP
  have hx := Bd.exec
  have hby := Bd.bytes
  have hml : c.maxLocals = 2 := hml0
  have hown : s.vm.findClass "com/example/sidewire/sidewire/net/PortRange" = some m.cls := findClass_of_methodNamed Bd.named
  have hnm := (name_of_methodNamed Bd.named Bd.method).1
  have hlk : meth.locks = false := BodyLoose.notSynchronized Bd
  have X0 : Stand p l e ({ frames := 0, cells := 0, slots := 0, locals := 0 } : Room) s m #[(.ref a0), (.int p1)] below meth c s₁ [] 0 0 := Stand.of_body Bd
  have e0 : s₁.heap = h0 := by rw [← hh, Bd.state]; rfl
  have N0 := Fr.nil n0
  have sq0 : h0.size ≤ h0.size := Nat.le_refl _
  change Go p e below s ({ frames := 0, cells := 0, slots := 0, locals := 0 } : Room).cells ({ frames := 0, cells := 0, slots := 0, locals := 0 } : Room).slots (Q7 Z a0 p1 w1 w2 h0 n0) (s₁.setTop (entryFrame m #[(.ref a0), (.int p1)] 2))
  rw [ef_7 m a0 p1]
  show Go _ _ _ _ _ _ _ (s₁.setTop (mkF m 0 #[.val (.ref a0), .val (.int p1)] []))
  refine Go.step (fun _ k => XS.iloadN X0.here hx rfl (hb hby d7_0) rfl  k) ?_
  show Go _ _ _ _ _ _ _ (s₁.setTop (mkF m 1 #[.val (.ref a0), .val (.int p1)] [(.int p1)]))
  refine Go.step (fun _ k => XS.aloadN X0.here hx rfl (hb hby d7_1) rfl rfl  k) ?_
  show Go _ _ _ _ _ _ _ (s₁.setTop (mkF m 2 #[.val (.ref a0), .val (.int p1)] [(.ref a0), (.int p1)]))
  obtain ⟨T1, X1, e1, st1⟩ := getF X0 hx hZ hown (host := "") (Or.inl (hw _ (List.mem_of_getElem? (i := 28) rfl))) Via.refl e0 F_0 (g := (mkF m 2 #[.val (.ref a0), .val (.int p1)] [(.ref a0), (.int p1)])) rfl rfl (hb hby d7_2)
  refine Go.step st1 ?_
  show Go _ _ _ _ _ _ _ (T1.setTop (mkF m 5 #[.val (.ref a0), .val (.int p1)] [(.int w1), (.int p1)]))
  by_cases hc5 : p1 < w1
  · skip
    refine Go.step (fun _ k => XS.icmpYes X1.here hx rfl (pc0 := 5) (pc' := 20) rfl (hb hby d7_5) rfl (tlt hc5).1 (by decide) (by decide) k) ?_
    show Go _ _ _ _ _ _ _ (T1.setTop (mkF m 20 #[.val (.ref a0), .val (.int p1)] []))
    refine Go.step (fun _ k => XS.iconst X1.here hx rfl (hb hby d7_20) k) ?_
    show Go _ _ _ _ _ _ _ (T1.setTop (mkF m 21 #[.val (.ref a0), .val (.int p1)] [(.int (0 : Int32))]))
    refine Go.retN X1 hx (t := .boolean) Bd.returns (by simp) hlk (hb hby d7_21) ?_ (by decide) (by decide)
    rw [e1]
    exact ⟨(by first | rfl | (simp_all [own_nb1, own_nb0]; done)), N0, rfl⟩
  · skip
    refine Go.step (fun _ k => XS.icmpNo X1.here hx rfl (hb hby d7_5) rfl (flt hc5).1 k) ?_
    show Go _ _ _ _ _ _ _ (T1.setTop (mkF m 8 #[.val (.ref a0), .val (.int p1)] []))
    refine Go.step (fun _ k => XS.iloadN X1.here hx rfl (hb hby d7_8) rfl  k) ?_
    show Go _ _ _ _ _ _ _ (T1.setTop (mkF m 9 #[.val (.ref a0), .val (.int p1)] [(.int p1)]))
    refine Go.step (fun _ k => XS.aloadN X1.here hx rfl (hb hby d7_9) rfl rfl  k) ?_
    show Go _ _ _ _ _ _ _ (T1.setTop (mkF m 10 #[.val (.ref a0), .val (.int p1)] [(.ref a0), (.int p1)]))
    obtain ⟨T2, X2, e2, st2⟩ := getF X1 hx hZ hown (host := "") (Or.inl (hw _ (List.mem_of_getElem? (i := 30) rfl))) Via.refl e1 F_1 (g := (mkF m 10 #[.val (.ref a0), .val (.int p1)] [(.ref a0), (.int p1)])) rfl rfl (hb hby d7_10)
    refine Go.step st2 ?_
    show Go _ _ _ _ _ _ _ (T2.setTop (mkF m 13 #[.val (.ref a0), .val (.int p1)] [(.int w2), (.int p1)]))
    by_cases hc13 : w2 < p1
    · skip
      refine Go.step (fun _ k => XS.icmpYes X2.here hx rfl (pc0 := 13) (pc' := 20) rfl (hb hby d7_13) rfl (tlt hc13).2.2.1 (by decide) (by decide) k) ?_
      show Go _ _ _ _ _ _ _ (T2.setTop (mkF m 20 #[.val (.ref a0), .val (.int p1)] []))
      refine Go.step (fun _ k => XS.iconst X2.here hx rfl (hb hby d7_20) k) ?_
      show Go _ _ _ _ _ _ _ (T2.setTop (mkF m 21 #[.val (.ref a0), .val (.int p1)] [(.int (0 : Int32))]))
      refine Go.retN X2 hx (t := .boolean) Bd.returns (by simp) hlk (hb hby d7_21) ?_ (by decide) (by decide)
      rw [e2]
      exact ⟨(by first | rfl | (simp_all [own_nb1, own_nb0]; done)), N0, rfl⟩
    · skip
      refine Go.step (fun _ k => XS.icmpNo X2.here hx rfl (hb hby d7_13) rfl (flt hc13).2.2.1 k) ?_
      show Go _ _ _ _ _ _ _ (T2.setTop (mkF m 16 #[.val (.ref a0), .val (.int p1)] []))
      refine Go.step (fun _ k => XS.iconst X2.here hx rfl (hb hby d7_16) k) ?_
      show Go _ _ _ _ _ _ _ (T2.setTop (mkF m 17 #[.val (.ref a0), .val (.int p1)] [(.int (1 : Int32))]))
      refine Go.step (fun _ k => XS.goto X2.here hx rfl (pc0 := 17) (pc' := 21) rfl (hb hby d7_17) (by decide) (by decide) k) ?_
      show Go _ _ _ _ _ _ _ (T2.setTop (mkF m 21 #[.val (.ref a0), .val (.int p1)] [(.int (1 : Int32))]))
      refine Go.retN X2 hx (t := .boolean) Bd.returns (by simp) hlk (hb hby d7_21) ?_ (by decide) (by decide)
      rw [e2]
      exact ⟨(by first | rfl | (simp_all [own_nb1, own_nb0]; done)), N0, rfl⟩
theorem pn_3 : plainName "com/example/sidewire/sidewire/net/PortRangeContainsPinLaw" = true := by first | (simp [plainName, overriddenIn]; done) | decide +kernel
theorem pd_2 : parseMethodDescriptor "(II)I" = some ⟨[.int, .int], some .int⟩ := by decide +kernel
theorem pd_3 : parseMethodDescriptor "(II)V" = some ⟨[.int, .int], none⟩ := by decide +kernel
theorem pd_4 : parseMethodDescriptor "(I)Z" = some ⟨[.int], some .boolean⟩ := by decide +kernel
theorem ef_0 (m : MethodId) (qx : Int32) (qy : Int32) (qp : Int32) (qd : Int32) : entryFrame m #[(.int qx), (.int qy), (.int qp), (.int qd)] maxLocals = mkF m 0 #[.val (.int qx), .val (.int qy), .val (.int qp), .val (.int qd), .unset, .unset, .unset, .unset, .unset, .unset, .unset, .unset, .unset, .unset, .unset] [] := by first | (simp [entryFrame, mkF, argsToLocals, Value.category, maxLocals]; done) | rfl
def Q0 (Z : State) (qx : Int32) (qy : Int32) (qp : Int32) (qd : Int32) (h0 : Heap) (n0 : Nat) (v : Option Value) (h : Heap) (L : List Loc) : Prop := (v = some (.int 1)) ∧ (Fr n0 L)
set_option maxRecDepth 65536 in
set_option maxHeartbeats 40000000 in
theorem rm0 (l : Launch) (Z : State) (aZ : Array Value) (hw : ∀ d ∈ tables_1, d.before aZ Z = true) (ws : List Jvm.Cond) (qx : Int32) (qy : Int32) (qp : Int32) (qd : Int32) (h0 : Heap) (n0 : Nat) (Z0 : n0 ≤ h0.size)  :
    MetFree l x (head1 (Jvm.Cond.code x code maxLocals ret :: ws) room_1) (fun a U => a = #[(.int qx), (.int qy), (.int qp), (.int qd)] ∧ Z.Warmed39 U.vm ∧ U.heap = h0) (fun _ _ _ _ _ => True) (fun _ U o U' => ∃ v L, o = .returned v ∧ Q0 Z qx qy qp qd h0 n0 v U'.heap L ∧ FrameEnd U o U' L 1 2) := by
  refine MetFree.of_bodySF (plainFor_of_name pn_3) hisR ?_
  intro p e s m args below meth c s₁ Bd hml0 hP hK
  obtain ⟨rfl, hZ, hh⟩ := hP
  have hx := Bd.exec
  have hby := Bd.bytes
  have hml : c.maxLocals = 15 := hml0
  have hown : s.vm.findClass "com/example/sidewire/sidewire/net/PortRangeContainsPinLaw" = some m.cls := findClass_of_methodNamed Bd.named
  have hnm := (name_of_methodNamed Bd.named Bd.method).1
  have hlk : meth.locks = false := BodyLoose.notSynchronized Bd
  have X0 : Stand p l e room_1 s m #[(.int qx), (.int qy), (.int qp), (.int qd)] below meth c s₁ [] 0 0 := Stand.of_body Bd
  have e0 : s₁.heap = h0 := by rw [← hh, Bd.state]; rfl
  have N0 := Fr.nil n0
  have sq0 : h0.size ≤ h0.size := Nat.le_refl _
  change Go p e below s 1 2 (Q0 Z qx qy qp qd h0 n0) (s₁.setTop (entryFrame m #[(.int qx), (.int qy), (.int qp), (.int qd)] maxLocals))
  rw [ef_0 m qx qy qp qd]
  show Go _ _ _ _ _ _ _ (s₁.setTop (mkF m 0 #[.val (.int qx), .val (.int qy), .val (.int qp), .val (.int qd), .unset, .unset, .unset, .unset, .unset, .unset, .unset, .unset, .unset, .unset, .unset] []))
  refine Go.step (fun _ k => XS.iloadN X0.here hx rfl (hb hby at_0) rfl  k) ?_
  show Go _ _ _ _ _ _ _ (s₁.setTop (mkF m 1 #[.val (.int qx), .val (.int qy), .val (.int qp), .val (.int qd), .unset, .unset, .unset, .unset, .unset, .unset, .unset, .unset, .unset, .unset, .unset] [(.int qx)]))
  refine Go.step (X0.ldcInt hx hown (mvT hZ (hw _ (List.mem_of_getElem? (i := 0) rfl))) (g := (mkF m 1 #[.val (.int qx), .val (.int qy), .val (.int qp), .val (.int qd), .unset, .unset, .unset, .unset, .unset, .unset, .unset, .unset, .unset, .unset, .unset] [(.int qx)])) rfl (hb hby at_1)) ?_
  show Go _ _ _ _ _ _ _ (s₁.setTop (mkF m 3 #[.val (.int qx), .val (.int qy), .val (.int qp), .val (.int qd), .unset, .unset, .unset, .unset, .unset, .unset, .unset, .unset, .unset, .unset, .unset] [(.int (2147483647 : Int32)), (.int qx)]))
  refine Go.step (fun _ k => XS.iand X0.here hx rfl (hb hby at_3) rfl k) ?_
  show Go _ _ _ _ _ _ _ (s₁.setTop (mkF m 4 #[.val (.int qx), .val (.int qy), .val (.int qp), .val (.int qd), .unset, .unset, .unset, .unset, .unset, .unset, .unset, .unset, .unset, .unset, .unset] [(.int (qx &&& (2147483647 : Int32)))]))
  refine Go.step (X0.ldcInt hx hown (mvT hZ (hw _ (List.mem_of_getElem? (i := 1) rfl))) (g := (mkF m 4 #[.val (.int qx), .val (.int qy), .val (.int qp), .val (.int qd), .unset, .unset, .unset, .unset, .unset, .unset, .unset, .unset, .unset, .unset, .unset] [(.int (qx &&& (2147483647 : Int32)))])) rfl (hb hby at_4)) ?_
  show Go _ _ _ _ _ _ _ (s₁.setTop (mkF m 6 #[.val (.int qx), .val (.int qy), .val (.int qp), .val (.int qd), .unset, .unset, .unset, .unset, .unset, .unset, .unset, .unset, .unset, .unset, .unset] [(.int (65535 : Int32)), (.int (qx &&& (2147483647 : Int32)))]))
  have nz6 : (65535 : Int32) ≠ 0 := (by decide)
  refine Go.step (fun _ k => iremM X0 hx rfl (hb hby at_6) rfl nz6 k) ?_
  show Go _ _ _ _ _ _ _ (s₁.setTop (mkF m 7 #[.val (.int qx), .val (.int qy), .val (.int qp), .val (.int qd), .unset, .unset, .unset, .unset, .unset, .unset, .unset, .unset, .unset, .unset, .unset] [(.int ((qx &&& (2147483647 : Int32)) % (65535 : Int32)))]))
  refine Go.step (fun _ k => XS.iconst X0.here hx rfl (hb hby at_7) k) ?_
  show Go _ _ _ _ _ _ _ (s₁.setTop (mkF m 8 #[.val (.int qx), .val (.int qy), .val (.int qp), .val (.int qd), .unset, .unset, .unset, .unset, .unset, .unset, .unset, .unset, .unset, .unset, .unset] [(.int (1 : Int32)), (.int ((qx &&& (2147483647 : Int32)) % (65535 : Int32)))]))
  refine Go.step (fun _ k => XS.iadd X0.here hx rfl (hb hby at_8) rfl k) ?_
  show Go _ _ _ _ _ _ _ (s₁.setTop (mkF m 9 #[.val (.int qx), .val (.int qy), .val (.int qp), .val (.int qd), .unset, .unset, .unset, .unset, .unset, .unset, .unset, .unset, .unset, .unset, .unset] [(.int (((qx &&& (2147483647 : Int32)) % (65535 : Int32)) + (1 : Int32)))]))
  obtain ⟨va, q_va⟩ : ∃ z : Int32, z = (((qx &&& (2147483647 : Int32)) % (65535 : Int32)) + (1 : Int32)) := ⟨_, rfl⟩
  rw [← q_va]
  have hva : ¬ va < 1 ∧ ¬ (65535 : Int32) < va := by rw [q_va]; exact own_port qx
  show Go _ _ _ _ _ _ _ (s₁.setTop (mkF m 9 #[.val (.int qx), .val (.int qy), .val (.int qp), .val (.int qd), .unset, .unset, .unset, .unset, .unset, .unset, .unset, .unset, .unset, .unset, .unset] [(.int va)]))
  refine Go.step (fun _ k => XS.istore X0.here hx rfl (hb hby at_9) rfl (l' := #[.val (.int qx), .val (.int qy), .val (.int qp), .val (.int qd), .val (.int va), .unset, .unset, .unset, .unset, .unset, .unset, .unset, .unset, .unset, .unset]) rfl k) ?_
  show Go _ _ _ _ _ _ _ (s₁.setTop (mkF m 11 #[.val (.int qx), .val (.int qy), .val (.int qp), .val (.int qd), .val (.int va), .unset, .unset, .unset, .unset, .unset, .unset, .unset, .unset, .unset, .unset] []))
  refine Go.step (fun _ k => XS.iloadN X0.here hx rfl (hb hby at_11) rfl  k) ?_
  show Go _ _ _ _ _ _ _ (s₁.setTop (mkF m 12 #[.val (.int qx), .val (.int qy), .val (.int qp), .val (.int qd), .val (.int va), .unset, .unset, .unset, .unset, .unset, .unset, .unset, .unset, .unset, .unset] [(.int qy)]))
  refine Go.step (X0.ldcInt hx hown (mvT hZ (hw _ (List.mem_of_getElem? (i := 0) rfl))) (g := (mkF m 12 #[.val (.int qx), .val (.int qy), .val (.int qp), .val (.int qd), .val (.int va), .unset, .unset, .unset, .unset, .unset, .unset, .unset, .unset, .unset, .unset] [(.int qy)])) rfl (hb hby at_12)) ?_
  show Go _ _ _ _ _ _ _ (s₁.setTop (mkF m 14 #[.val (.int qx), .val (.int qy), .val (.int qp), .val (.int qd), .val (.int va), .unset, .unset, .unset, .unset, .unset, .unset, .unset, .unset, .unset, .unset] [(.int (2147483647 : Int32)), (.int qy)]))
  refine Go.step (fun _ k => XS.iand X0.here hx rfl (hb hby at_14) rfl k) ?_
  show Go _ _ _ _ _ _ _ (s₁.setTop (mkF m 15 #[.val (.int qx), .val (.int qy), .val (.int qp), .val (.int qd), .val (.int va), .unset, .unset, .unset, .unset, .unset, .unset, .unset, .unset, .unset, .unset] [(.int (qy &&& (2147483647 : Int32)))]))
  refine Go.step (X0.ldcInt hx hown (mvT hZ (hw _ (List.mem_of_getElem? (i := 1) rfl))) (g := (mkF m 15 #[.val (.int qx), .val (.int qy), .val (.int qp), .val (.int qd), .val (.int va), .unset, .unset, .unset, .unset, .unset, .unset, .unset, .unset, .unset, .unset] [(.int (qy &&& (2147483647 : Int32)))])) rfl (hb hby at_15)) ?_
  show Go _ _ _ _ _ _ _ (s₁.setTop (mkF m 17 #[.val (.int qx), .val (.int qy), .val (.int qp), .val (.int qd), .val (.int va), .unset, .unset, .unset, .unset, .unset, .unset, .unset, .unset, .unset, .unset] [(.int (65535 : Int32)), (.int (qy &&& (2147483647 : Int32)))]))
  have nz17 : (65535 : Int32) ≠ 0 := (by decide)
  refine Go.step (fun _ k => iremM X0 hx rfl (hb hby at_17) rfl nz17 k) ?_
  show Go _ _ _ _ _ _ _ (s₁.setTop (mkF m 18 #[.val (.int qx), .val (.int qy), .val (.int qp), .val (.int qd), .val (.int va), .unset, .unset, .unset, .unset, .unset, .unset, .unset, .unset, .unset, .unset] [(.int ((qy &&& (2147483647 : Int32)) % (65535 : Int32)))]))
  refine Go.step (fun _ k => XS.iconst X0.here hx rfl (hb hby at_18) k) ?_
  show Go _ _ _ _ _ _ _ (s₁.setTop (mkF m 19 #[.val (.int qx), .val (.int qy), .val (.int qp), .val (.int qd), .val (.int va), .unset, .unset, .unset, .unset, .unset, .unset, .unset, .unset, .unset, .unset] [(.int (1 : Int32)), (.int ((qy &&& (2147483647 : Int32)) % (65535 : Int32)))]))
  refine Go.step (fun _ k => XS.iadd X0.here hx rfl (hb hby at_19) rfl k) ?_
  show Go _ _ _ _ _ _ _ (s₁.setTop (mkF m 20 #[.val (.int qx), .val (.int qy), .val (.int qp), .val (.int qd), .val (.int va), .unset, .unset, .unset, .unset, .unset, .unset, .unset, .unset, .unset, .unset] [(.int (((qy &&& (2147483647 : Int32)) % (65535 : Int32)) + (1 : Int32)))]))
  obtain ⟨vb, q_vb⟩ : ∃ z : Int32, z = (((qy &&& (2147483647 : Int32)) % (65535 : Int32)) + (1 : Int32)) := ⟨_, rfl⟩
  rw [← q_vb]
  have hvb : ¬ vb < 1 ∧ ¬ (65535 : Int32) < vb := by rw [q_vb]; exact own_port qy
  show Go _ _ _ _ _ _ _ (s₁.setTop (mkF m 20 #[.val (.int qx), .val (.int qy), .val (.int qp), .val (.int qd), .val (.int va), .unset, .unset, .unset, .unset, .unset, .unset, .unset, .unset, .unset, .unset] [(.int vb)]))
  refine Go.step (fun _ k => XS.istore X0.here hx rfl (hb hby at_20) rfl (l' := #[.val (.int qx), .val (.int qy), .val (.int qp), .val (.int qd), .val (.int va), .val (.int vb), .unset, .unset, .unset, .unset, .unset, .unset, .unset, .unset, .unset]) rfl k) ?_
  show Go _ _ _ _ _ _ _ (s₁.setTop (mkF m 22 #[.val (.int qx), .val (.int qy), .val (.int qp), .val (.int qd), .val (.int va), .val (.int vb), .unset, .unset, .unset, .unset, .unset, .unset, .unset, .unset, .unset] []))
  refine Go.step (fun _ k => XS.iload X0.here hx rfl (hb hby at_22) rfl  k) ?_
  show Go _ _ _ _ _ _ _ (s₁.setTop (mkF m 24 #[.val (.int qx), .val (.int qy), .val (.int qp), .val (.int qd), .val (.int va), .val (.int vb), .unset, .unset, .unset, .unset, .unset, .unset, .unset, .unset, .unset] [(.int va)]))
  refine Go.step (fun _ k => XS.iload X0.here hx rfl (hb hby at_24) rfl  k) ?_
  show Go _ _ _ _ _ _ _ (s₁.setTop (mkF m 26 #[.val (.int qx), .val (.int qy), .val (.int qp), .val (.int qd), .val (.int va), .val (.int vb), .unset, .unset, .unset, .unset, .unset, .unset, .unset, .unset, .unset] [(.int vb), (.int va)]))
  obtain ⟨_, _, ⟨T1, L1, k1, n1⟩, -, X1, ⟨Lc1, hQ1, l1, y1, z1⟩, st1⟩ := Jvm.LawKit.callS X0 hx (y := (⟨"java/lang/Math", "min", "(II)I"⟩ : MethodName)) hown (mvT hZ (hw _ (List.mem_of_getElem? (i := 2) rfl))) (mvT hZ (hw _ (List.mem_of_getElem? (i := 3) rfl))) (mvT hZ (hw _ (List.mem_of_getElem? (i := 4) rfl))) (mvT hZ (hw _ (List.mem_of_getElem? (i := 5) rfl))) (by decide) (backOf (W := 0) (rm1 l Z aZ hw [] va vb h0 n0 Z0 ) hZ (hw _ (List.mem_of_getElem? (i := 5) rfl)) (hw _ (List.mem_of_getElem? (i := 4) rfl)) (by decide) (by decide)) (g := (mkF m 26 #[.val (.int qx), .val (.int qy), .val (.int qp), .val (.int qd), .val (.int va), .val (.int vb), .unset, .unset, .unset, .unset, .unset, .unset, .unset, .unset, .unset] [(.int vb), (.int va)])) rfl (by rw [hml]; rfl) (argsL := [(.int va), (.int vb)]) (rest := []) (lenOf pd_2 rfl) rfl (by show 2 * 0 + _ ≤ _; exact Nat.le_of_eq rfl) (hb hby at_26) (fun _ _ => ⟨rfl, e0, (by decide : 0 + 0 ≤ _), (by decide : 0 + 0 ≤ _)⟩)
  dsimp only [Pt.U, Pt.locs, Pt.cells, Pt.slots] at X1 l1 y1 z1 st1 hQ1
  subst l1 y1 z1
  obtain ⟨rfl, Nq1, e1⟩ := hQ1
  have N1 := Fr.app N0 Nq1
  refine Go.step st1 ?_
  show Go _ _ _ _ _ _ _ (T1.setTop (mkF m 29 #[.val (.int qx), .val (.int qy), .val (.int qp), .val (.int qd), .val (.int va), .val (.int vb), .unset, .unset, .unset, .unset, .unset, .unset, .unset, .unset, .unset] [(.int (if vb < va then vb else va))]))
  obtain ⟨fr, q_fr⟩ : ∃ z : Int32, z = (if vb < va then vb else va) := ⟨_, rfl⟩
  rw [← q_fr]
  have hfr : ¬ fr < 1 ∧ ¬ (65535 : Int32) < fr := by rw [q_fr]; exact (own_mm hva hvb).1
  show Go _ _ _ _ _ _ _ (T1.setTop (mkF m 29 #[.val (.int qx), .val (.int qy), .val (.int qp), .val (.int qd), .val (.int va), .val (.int vb), .unset, .unset, .unset, .unset, .unset, .unset, .unset, .unset, .unset] [(.int fr)]))
  refine Go.step (fun _ k => XS.istore X1.here hx rfl (hb hby at_29) rfl (l' := #[.val (.int qx), .val (.int qy), .val (.int qp), .val (.int qd), .val (.int va), .val (.int vb), .val (.int fr), .unset, .unset, .unset, .unset, .unset, .unset, .unset, .unset]) rfl k) ?_
  show Go _ _ _ _ _ _ _ (T1.setTop (mkF m 31 #[.val (.int qx), .val (.int qy), .val (.int qp), .val (.int qd), .val (.int va), .val (.int vb), .val (.int fr), .unset, .unset, .unset, .unset, .unset, .unset, .unset, .unset] []))
  refine Go.step (fun _ k => XS.iload X1.here hx rfl (hb hby at_31) rfl  k) ?_
  show Go _ _ _ _ _ _ _ (T1.setTop (mkF m 33 #[.val (.int qx), .val (.int qy), .val (.int qp), .val (.int qd), .val (.int va), .val (.int vb), .val (.int fr), .unset, .unset, .unset, .unset, .unset, .unset, .unset, .unset] [(.int va)]))
  refine Go.step (fun _ k => XS.iload X1.here hx rfl (hb hby at_33) rfl  k) ?_
  show Go _ _ _ _ _ _ _ (T1.setTop (mkF m 35 #[.val (.int qx), .val (.int qy), .val (.int qp), .val (.int qd), .val (.int va), .val (.int vb), .val (.int fr), .unset, .unset, .unset, .unset, .unset, .unset, .unset, .unset] [(.int vb), (.int va)]))
  obtain ⟨_, _, ⟨T2, L2, k2, n2⟩, -, X2, ⟨Lc2, hQ2, l2, y2, z2⟩, st2⟩ := Jvm.LawKit.callS X1 hx (y := (⟨"java/lang/Math", "max", "(II)I"⟩ : MethodName)) hown (mvT hZ (hw _ (List.mem_of_getElem? (i := 6) rfl))) (mvT hZ (hw _ (List.mem_of_getElem? (i := 7) rfl))) (mvT hZ (hw _ (List.mem_of_getElem? (i := 4) rfl))) (mvT hZ (hw _ (List.mem_of_getElem? (i := 8) rfl))) (by decide) (backOf (W := 0) (rm2 l Z aZ hw [] va vb h0 n0 Z0 ) hZ (hw _ (List.mem_of_getElem? (i := 8) rfl)) (hw _ (List.mem_of_getElem? (i := 4) rfl)) (by decide) (by decide)) (g := (mkF m 35 #[.val (.int qx), .val (.int qy), .val (.int qp), .val (.int qd), .val (.int va), .val (.int vb), .val (.int fr), .unset, .unset, .unset, .unset, .unset, .unset, .unset, .unset] [(.int vb), (.int va)])) rfl (by rw [hml]; rfl) (argsL := [(.int va), (.int vb)]) (rest := []) (lenOf pd_2 rfl) rfl (by show 2 * 0 + _ ≤ _; exact Nat.le_of_eq rfl) (hb hby at_35) (fun _ _ => ⟨rfl, e1, (by decide : 0 + 0 ≤ _), (by decide : 0 + 0 ≤ _)⟩)
  dsimp only [Pt.U, Pt.locs, Pt.cells, Pt.slots] at X2 l2 y2 z2 st2 hQ2
  subst l2 y2 z2
  obtain ⟨rfl, Nq2, e2⟩ := hQ2
  have N2 := Fr.app N1 Nq2
  refine Go.step st2 ?_
  show Go _ _ _ _ _ _ _ (T2.setTop (mkF m 38 #[.val (.int qx), .val (.int qy), .val (.int qp), .val (.int qd), .val (.int va), .val (.int vb), .val (.int fr), .unset, .unset, .unset, .unset, .unset, .unset, .unset, .unset] [(.int (if va < vb then vb else va))]))
  obtain ⟨tt, q_tt⟩ : ∃ z : Int32, z = (if va < vb then vb else va) := ⟨_, rfl⟩
  rw [← q_tt]
  have htt : ¬ tt < 1 ∧ ¬ (65535 : Int32) < tt := by rw [q_tt]; exact (own_mm hva hvb).2.1
  have hft : ¬ tt < fr := by rw [q_tt, q_fr]; exact (own_mm hva hvb).2.2
  show Go _ _ _ _ _ _ _ (T2.setTop (mkF m 38 #[.val (.int qx), .val (.int qy), .val (.int qp), .val (.int qd), .val (.int va), .val (.int vb), .val (.int fr), .unset, .unset, .unset, .unset, .unset, .unset, .unset, .unset] [(.int tt)]))
  refine Go.step (fun _ k => XS.istore X2.here hx rfl (hb hby at_38) rfl (l' := #[.val (.int qx), .val (.int qy), .val (.int qp), .val (.int qd), .val (.int va), .val (.int vb), .val (.int fr), .val (.int tt), .unset, .unset, .unset, .unset, .unset, .unset, .unset]) rfl k) ?_
  show Go _ _ _ _ _ _ _ (T2.setTop (mkF m 40 #[.val (.int qx), .val (.int qy), .val (.int qp), .val (.int qd), .val (.int va), .val (.int vb), .val (.int fr), .val (.int tt), .unset, .unset, .unset, .unset, .unset, .unset, .unset] []))
  obtain ⟨T3, h3, X3, e3, E3, A3, D3, -, st3⟩ := newO X2 hx hZ hown (hw _ (List.mem_of_getElem? (i := 9) rfl)) (hw _ (List.mem_of_getElem? (i := 10) rfl)) (hw _ (List.mem_of_getElem? (i := 11) rfl)) e2 (g := (mkF m 40 #[.val (.int qx), .val (.int qy), .val (.int qp), .val (.int qd), .val (.int va), .val (.int vb), .val (.int fr), .val (.int tt), .unset, .unset, .unset, .unset, .unset, .unset, .unset] [])) rfl (hb hby at_40) (by decide) (by decide)
  obtain ⟨b3, g3⟩ : ∃ z, z = h0.size := ⟨_, rfl⟩
  rw [← g3] at A3 D3 st3
  refine Go.step st3 ?_
  have gn3 : n0 ≤ b3 := Nat.le_trans Z0 (Nat.le_of_eq g3.symm)
  have sz3 : h0.size ≤ b3 := Nat.le_trans sq0 (Nat.le_of_eq g3.symm)
  have z4 : n0 ≤ h3.size := Nat.le_trans Z0 E3.1
  have sqz4 : h0.size ≤ h3.size := Nat.le_trans sq0 E3.1
  have f6 : Fld Z h3 b3 "com/example/sidewire/sidewire/net/PortRange" "from" "I" (.int (0 : Int32)) := D3 (Or.inr (hw _ (List.mem_of_getElem? (i := 29) rfl))) (ty := .int) (by decide)
  have f7 : Fld Z h3 b3 "com/example/sidewire/sidewire/net/PortRange" "to" "I" (.int (0 : Int32)) := D3 (Or.inr (hw _ (List.mem_of_getElem? (i := 31) rfl))) (ty := .int) (by decide)
  show Go _ _ _ _ _ _ _ (T3.setTop (mkF m 43 #[.val (.int qx), .val (.int qy), .val (.int qp), .val (.int qd), .val (.int va), .val (.int vb), .val (.int fr), .val (.int tt), .unset, .unset, .unset, .unset, .unset, .unset, .unset] [(.ref b3)]))
  refine Go.step (fun _ k => XS.dup X3.here hx rfl (hb hby at_43) rfl rfl k) ?_
  show Go _ _ _ _ _ _ _ (T3.setTop (mkF m 44 #[.val (.int qx), .val (.int qy), .val (.int qp), .val (.int qd), .val (.int va), .val (.int vb), .val (.int fr), .val (.int tt), .unset, .unset, .unset, .unset, .unset, .unset, .unset] [(.ref b3), (.ref b3)]))
  refine Go.step (fun _ k => XS.iload X3.here hx rfl (hb hby at_44) rfl  k) ?_
  show Go _ _ _ _ _ _ _ (T3.setTop (mkF m 46 #[.val (.int qx), .val (.int qy), .val (.int qp), .val (.int qd), .val (.int va), .val (.int vb), .val (.int fr), .val (.int tt), .unset, .unset, .unset, .unset, .unset, .unset, .unset] [(.int fr), (.ref b3), (.ref b3)]))
  refine Go.step (fun _ k => XS.iload X3.here hx rfl (hb hby at_46) rfl  k) ?_
  show Go _ _ _ _ _ _ _ (T3.setTop (mkF m 48 #[.val (.int qx), .val (.int qy), .val (.int qp), .val (.int qd), .val (.int va), .val (.int vb), .val (.int fr), .val (.int tt), .unset, .unset, .unset, .unset, .unset, .unset, .unset] [(.int tt), (.int fr), (.ref b3), (.ref b3)]))
  have pq8 : ¬ fr < 1 := hfr.1
  have pq9 : ¬ (65535 : Int32) < fr := hfr.2
  have pq10 : ¬ tt < 1 := htt.1
  have pq11 : ¬ (65535 : Int32) < tt := htt.2
  have pq12 : ¬ tt < fr := hft
  obtain ⟨_, _, ⟨T13, L13, k13, n13⟩, -, X13, ⟨Lc13, hQ13, l13, y13, z13⟩, st13⟩ := X3.specialBack hx (y := (⟨"com/example/sidewire/sidewire/net/PortRange", "<init>", "(II)V"⟩ : MethodName)) rfl hown (mvT hZ (hw _ (List.mem_of_getElem? (i := 12) rfl))) (mvT hZ (hw _ (List.mem_of_getElem? (i := 13) rfl))) (mvT hZ (hw _ (List.mem_of_getElem? (i := 14) rfl))) (by decide) (backOf (W := 1) (rm3 l Z aZ hw [] b3 fr tt h3 n0 z4 A3 f6 f7 gn3 pq8 pq9 pq10 pq11 pq12) hZ (hw _ (List.mem_of_getElem? (i := 14) rfl)) (hw _ (List.mem_of_getElem? (i := 11) rfl)) (by decide) (by decide)) (g := (mkF m 48 #[.val (.int qx), .val (.int qy), .val (.int qp), .val (.int qd), .val (.int va), .val (.int vb), .val (.int fr), .val (.int tt), .unset, .unset, .unset, .unset, .unset, .unset, .unset] [(.int tt), (.int fr), (.ref b3), (.ref b3)])) rfl (by rw [hml]; rfl) (Steps.refl _) (a := b3) (argsL := [(.int fr), (.int tt)]) (rest := [(.ref b3)]) (lenOf pd_3 rfl) rfl (by show 2 * 0 + _ ≤ _; exact Nat.le_of_eq rfl) (hb hby at_48) (fun _ _ => ⟨rfl, e3, (by decide : 1 + 0 ≤ _), (by decide : 2 + 0 ≤ _)⟩)
  dsimp only [Pt.U, Pt.locs, Pt.cells, Pt.slots] at X13 l13 y13 z13 st13 hQ13
  subst l13 y13 z13
  obtain ⟨rfl, Nq13, K13, c13_0, c13_1, c13_2⟩ := hQ13
  have N13 := Fr.app N2 Nq13
  refine Go.tr st13 ?_
  have z14 : n0 ≤ T13.heap.size := Nat.le_trans z4 K13.1
  have sqz14 : h0.size ≤ T13.heap.size := Nat.le_trans sqz4 K13.1
  show Go _ _ _ _ _ _ _ (T13.setTop (mkF m 51 #[.val (.int qx), .val (.int qy), .val (.int qp), .val (.int qd), .val (.int va), .val (.int vb), .val (.int fr), .val (.int tt), .unset, .unset, .unset, .unset, .unset, .unset, .unset] [(.ref b3)]))
  refine Go.step (fun _ k => XS.astore X13.here hx rfl (hb hby at_51) rfl rfl (l' := #[.val (.int qx), .val (.int qy), .val (.int qp), .val (.int qd), .val (.int va), .val (.int vb), .val (.int fr), .val (.int tt), .val (.ref b3), .unset, .unset, .unset, .unset, .unset, .unset]) rfl k) ?_
  show Go _ _ _ _ _ _ _ (T13.setTop (mkF m 53 #[.val (.int qx), .val (.int qy), .val (.int qp), .val (.int qd), .val (.int va), .val (.int vb), .val (.int fr), .val (.int tt), .val (.ref b3), .unset, .unset, .unset, .unset, .unset, .unset] []))
  refine Go.step (fun _ k => XS.aload X13.here hx rfl (hb hby at_53) rfl rfl  k) ?_
  show Go _ _ _ _ _ _ _ (T13.setTop (mkF m 55 #[.val (.int qx), .val (.int qy), .val (.int qp), .val (.int qd), .val (.int va), .val (.int vb), .val (.int fr), .val (.int tt), .val (.ref b3), .unset, .unset, .unset, .unset, .unset, .unset] [(.ref b3)]))
  refine Go.step (fun _ k => XS.iload X13.here hx rfl (hb hby at_55) rfl  k) ?_
  show Go _ _ _ _ _ _ _ (T13.setTop (mkF m 57 #[.val (.int qx), .val (.int qy), .val (.int qp), .val (.int qd), .val (.int va), .val (.int vb), .val (.int fr), .val (.int tt), .val (.ref b3), .unset, .unset, .unset, .unset, .unset, .unset] [(.int fr), (.ref b3)]))
  obtain ⟨cq16, kq16, q16a, q16b, q16c⟩ := isOf hZ rfl c13_0
  obtain ⟨_, _, ⟨T16, L16, k16, n16⟩, -, X16, ⟨Lc16, hQ16, l16, y16, z16⟩, st16⟩ := X13.virtualBack hx (y := (⟨"com/example/sidewire/sidewire/net/PortRange", "contains", "(I)Z"⟩ : MethodName)) (z := (⟨"com/example/sidewire/sidewire/net/PortRange", "contains", "(I)Z"⟩ : MethodName)) hown (mvT hZ (hw _ (List.mem_of_getElem? (i := 32) rfl))) (mvT hZ (hw _ (List.mem_of_getElem? (i := 33) rfl))) (notFace_of_selects (args := #[]) (mvT hZ (hw _ (List.mem_of_getElem? (i := 35) rfl)))) (mvT hZ (hw _ (List.mem_of_getElem? (i := 35) rfl))) (mvT hZ (hw _ (List.mem_of_getElem? (i := 34) rfl))) (by decide) (backOf (W := 0) (rm7 l Z aZ hw [] b3 fr fr tt T13.heap n0 z14 c13_1 c13_2) hZ (hw _ (List.mem_of_getElem? (i := 36) rfl)) (hw _ (List.mem_of_getElem? (i := 11) rfl)) (by decide) (by decide)) q16a q16c (g := (mkF m 57 #[.val (.int qx), .val (.int qy), .val (.int qp), .val (.int qd), .val (.int va), .val (.int vb), .val (.int fr), .val (.int tt), .val (.ref b3), .unset, .unset, .unset, .unset, .unset, .unset] [(.int fr), (.ref b3)])) rfl (by rw [hml]; rfl) (Steps.refl _) (argsL := [(.int fr)]) (rest := []) (lenOf pd_4 rfl) rfl (by show 2 * 0 + _ ≤ _; exact Nat.le_of_eq rfl) (hb hby at_57) (fun _ _ => ⟨rfl, rfl, (by decide : 1 + 0 ≤ _), (by decide : 2 + 0 ≤ _)⟩)
  dsimp only [Pt.U, Pt.locs, Pt.cells, Pt.slots] at X16 l16 y16 z16 st16 hQ16
  subst l16 y16 z16
  obtain ⟨rfl, Nq16, e16⟩ := hQ16
  have N16 := Fr.app N13 Nq16
  refine Go.tr st16 ?_
  show Go _ _ _ _ _ _ _ (T16.setTop (mkF m 60 #[.val (.int qx), .val (.int qy), .val (.int qp), .val (.int qd), .val (.int va), .val (.int vb), .val (.int fr), .val (.int tt), .val (.ref b3), .unset, .unset, .unset, .unset, .unset, .unset] [(.int (if fr < fr ∨ tt < fr then (0 : Int32) else 1))]))
  have hc60 : ¬ ((if fr < fr ∨ tt < fr then (0 : Int32) else 1) = (0 : Int32)) := own_in (own_irr _) hft
  refine Go.step (fun _ k => XS.ifNo X16.here hx rfl (hb hby at_60) rfl ((if0 _ _).trans (feq hc60).1) k) ?_
  show Go _ _ _ _ _ _ _ (T16.setTop (mkF m 63 #[.val (.int qx), .val (.int qy), .val (.int qp), .val (.int qd), .val (.int va), .val (.int vb), .val (.int fr), .val (.int tt), .val (.ref b3), .unset, .unset, .unset, .unset, .unset, .unset] []))
  refine Go.step (fun _ k => XS.aload X16.here hx rfl (hb hby at_63) rfl rfl  k) ?_
  show Go _ _ _ _ _ _ _ (T16.setTop (mkF m 65 #[.val (.int qx), .val (.int qy), .val (.int qp), .val (.int qd), .val (.int va), .val (.int vb), .val (.int fr), .val (.int tt), .val (.ref b3), .unset, .unset, .unset, .unset, .unset, .unset] [(.ref b3)]))
  refine Go.step (fun _ k => XS.iload X16.here hx rfl (hb hby at_65) rfl  k) ?_
  show Go _ _ _ _ _ _ _ (T16.setTop (mkF m 67 #[.val (.int qx), .val (.int qy), .val (.int qp), .val (.int qd), .val (.int va), .val (.int vb), .val (.int fr), .val (.int tt), .val (.ref b3), .unset, .unset, .unset, .unset, .unset, .unset] [(.int tt), (.ref b3)]))
  obtain ⟨cq17, kq17, q17a, q17b, q17c⟩ := isOf hZ e16 c13_0
  obtain ⟨_, _, ⟨T17, L17, k17, n17⟩, -, X17, ⟨Lc17, hQ17, l17, y17, z17⟩, st17⟩ := X16.virtualBack hx (y := (⟨"com/example/sidewire/sidewire/net/PortRange", "contains", "(I)Z"⟩ : MethodName)) (z := (⟨"com/example/sidewire/sidewire/net/PortRange", "contains", "(I)Z"⟩ : MethodName)) hown (mvT hZ (hw _ (List.mem_of_getElem? (i := 32) rfl))) (mvT hZ (hw _ (List.mem_of_getElem? (i := 33) rfl))) (notFace_of_selects (args := #[]) (mvT hZ (hw _ (List.mem_of_getElem? (i := 35) rfl)))) (mvT hZ (hw _ (List.mem_of_getElem? (i := 35) rfl))) (mvT hZ (hw _ (List.mem_of_getElem? (i := 34) rfl))) (by decide) (backOf (W := 0) (rm7 l Z aZ hw [] b3 tt fr tt T13.heap n0 z14 c13_1 c13_2) hZ (hw _ (List.mem_of_getElem? (i := 36) rfl)) (hw _ (List.mem_of_getElem? (i := 11) rfl)) (by decide) (by decide)) q17a q17c (g := (mkF m 67 #[.val (.int qx), .val (.int qy), .val (.int qp), .val (.int qd), .val (.int va), .val (.int vb), .val (.int fr), .val (.int tt), .val (.ref b3), .unset, .unset, .unset, .unset, .unset, .unset] [(.int tt), (.ref b3)])) rfl (by rw [hml]; rfl) (Steps.refl _) (argsL := [(.int tt)]) (rest := []) (lenOf pd_4 rfl) rfl (by show 2 * 0 + _ ≤ _; exact Nat.le_of_eq rfl) (hb hby at_67) (fun _ _ => ⟨rfl, e16, (by decide : 1 + 0 ≤ _), (by decide : 2 + 0 ≤ _)⟩)
  dsimp only [Pt.U, Pt.locs, Pt.cells, Pt.slots] at X17 l17 y17 z17 st17 hQ17
  subst l17 y17 z17
  obtain ⟨rfl, Nq17, e17⟩ := hQ17
  have N17 := Fr.app N16 Nq17
  refine Go.tr st17 ?_
  show Go _ _ _ _ _ _ _ (T17.setTop (mkF m 70 #[.val (.int qx), .val (.int qy), .val (.int qp), .val (.int qd), .val (.int va), .val (.int vb), .val (.int fr), .val (.int tt), .val (.ref b3), .unset, .unset, .unset, .unset, .unset, .unset] [(.int (if tt < fr ∨ tt < tt then (0 : Int32) else 1))]))
  have hc70 : ¬ ((if tt < fr ∨ tt < tt then (0 : Int32) else 1) = (0 : Int32)) := own_in hft (own_irr _)
  refine Go.step (fun _ k => XS.ifNo X17.here hx rfl (hb hby at_70) rfl ((if0 _ _).trans (feq hc70).1) k) ?_
  show Go _ _ _ _ _ _ _ (T17.setTop (mkF m 73 #[.val (.int qx), .val (.int qy), .val (.int qp), .val (.int qd), .val (.int va), .val (.int vb), .val (.int fr), .val (.int tt), .val (.ref b3), .unset, .unset, .unset, .unset, .unset, .unset] []))
  refine Go.step (fun _ k => XS.iconst X17.here hx rfl (hb hby at_73) k) ?_
  show Go _ _ _ _ _ _ _ (T17.setTop (mkF m 74 #[.val (.int qx), .val (.int qy), .val (.int qp), .val (.int qd), .val (.int va), .val (.int vb), .val (.int fr), .val (.int tt), .val (.ref b3), .unset, .unset, .unset, .unset, .unset, .unset] [(.int (1 : Int32))]))
  refine Go.step (fun _ k => XS.goto X17.here hx rfl (pc0 := 74) (pc' := 78) rfl (hb hby at_74) (by decide) (by decide) k) ?_
  show Go _ _ _ _ _ _ _ (T17.setTop (mkF m 78 #[.val (.int qx), .val (.int qy), .val (.int qp), .val (.int qd), .val (.int va), .val (.int vb), .val (.int fr), .val (.int tt), .val (.ref b3), .unset, .unset, .unset, .unset, .unset, .unset] [(.int (1 : Int32))]))
  refine Go.step (fun _ k => XS.istore X17.here hx rfl (hb hby at_78) rfl (l' := #[.val (.int qx), .val (.int qy), .val (.int qp), .val (.int qd), .val (.int va), .val (.int vb), .val (.int fr), .val (.int tt), .val (.ref b3), .val (.int (1 : Int32)), .unset, .unset, .unset, .unset, .unset]) rfl k) ?_
  show Go _ _ _ _ _ _ _ (T17.setTop (mkF m 80 #[.val (.int qx), .val (.int qy), .val (.int qp), .val (.int qd), .val (.int va), .val (.int vb), .val (.int fr), .val (.int tt), .val (.ref b3), .val (.int (1 : Int32)), .unset, .unset, .unset, .unset, .unset] []))
  refine Go.step (fun _ k => XS.aload X17.here hx rfl (hb hby at_80) rfl rfl  k) ?_
  show Go _ _ _ _ _ _ _ (T17.setTop (mkF m 82 #[.val (.int qx), .val (.int qy), .val (.int qp), .val (.int qd), .val (.int va), .val (.int vb), .val (.int fr), .val (.int tt), .val (.ref b3), .val (.int (1 : Int32)), .unset, .unset, .unset, .unset, .unset] [(.ref b3)]))
  refine Go.step (fun _ k => XS.iload X17.here hx rfl (hb hby at_82) rfl  k) ?_
  show Go _ _ _ _ _ _ _ (T17.setTop (mkF m 84 #[.val (.int qx), .val (.int qy), .val (.int qp), .val (.int qd), .val (.int va), .val (.int vb), .val (.int fr), .val (.int tt), .val (.ref b3), .val (.int (1 : Int32)), .unset, .unset, .unset, .unset, .unset] [(.int fr), (.ref b3)]))
  refine Go.step (fun _ k => XS.iconst X17.here hx rfl (hb hby at_84) k) ?_
  show Go _ _ _ _ _ _ _ (T17.setTop (mkF m 85 #[.val (.int qx), .val (.int qy), .val (.int qp), .val (.int qd), .val (.int va), .val (.int vb), .val (.int fr), .val (.int tt), .val (.ref b3), .val (.int (1 : Int32)), .unset, .unset, .unset, .unset, .unset] [(.int (1 : Int32)), (.int fr), (.ref b3)]))
  refine Go.step (fun _ k => XS.isub X17.here hx rfl (hb hby at_85) rfl k) ?_
  show Go _ _ _ _ _ _ _ (T17.setTop (mkF m 86 #[.val (.int qx), .val (.int qy), .val (.int qp), .val (.int qd), .val (.int va), .val (.int vb), .val (.int fr), .val (.int tt), .val (.ref b3), .val (.int (1 : Int32)), .unset, .unset, .unset, .unset, .unset] [(.int (fr - (1 : Int32))), (.ref b3)]))
  obtain ⟨cq18, kq18, q18a, q18b, q18c⟩ := isOf hZ e17 c13_0
  obtain ⟨_, _, ⟨T18, L18, k18, n18⟩, -, X18, ⟨Lc18, hQ18, l18, y18, z18⟩, st18⟩ := X17.virtualBack hx (y := (⟨"com/example/sidewire/sidewire/net/PortRange", "contains", "(I)Z"⟩ : MethodName)) (z := (⟨"com/example/sidewire/sidewire/net/PortRange", "contains", "(I)Z"⟩ : MethodName)) hown (mvT hZ (hw _ (List.mem_of_getElem? (i := 32) rfl))) (mvT hZ (hw _ (List.mem_of_getElem? (i := 33) rfl))) (notFace_of_selects (args := #[]) (mvT hZ (hw _ (List.mem_of_getElem? (i := 35) rfl)))) (mvT hZ (hw _ (List.mem_of_getElem? (i := 35) rfl))) (mvT hZ (hw _ (List.mem_of_getElem? (i := 34) rfl))) (by decide) (backOf (W := 0) (rm7 l Z aZ hw [] b3 (fr - (1 : Int32)) fr tt T13.heap n0 z14 c13_1 c13_2) hZ (hw _ (List.mem_of_getElem? (i := 36) rfl)) (hw _ (List.mem_of_getElem? (i := 11) rfl)) (by decide) (by decide)) q18a q18c (g := (mkF m 86 #[.val (.int qx), .val (.int qy), .val (.int qp), .val (.int qd), .val (.int va), .val (.int vb), .val (.int fr), .val (.int tt), .val (.ref b3), .val (.int (1 : Int32)), .unset, .unset, .unset, .unset, .unset] [(.int (fr - (1 : Int32))), (.ref b3)])) rfl (by rw [hml]; rfl) (Steps.refl _) (argsL := [(.int (fr - (1 : Int32)))]) (rest := []) (lenOf pd_4 rfl) rfl (by show 2 * 0 + _ ≤ _; exact Nat.le_of_eq rfl) (hb hby at_86) (fun _ _ => ⟨rfl, e17, (by decide : 1 + 0 ≤ _), (by decide : 2 + 0 ≤ _)⟩)
  dsimp only [Pt.U, Pt.locs, Pt.cells, Pt.slots] at X18 l18 y18 z18 st18 hQ18
  subst l18 y18 z18
  obtain ⟨rfl, Nq18, e18⟩ := hQ18
  have N18 := Fr.app N17 Nq18
  refine Go.tr st18 ?_
  show Go _ _ _ _ _ _ _ (T18.setTop (mkF m 89 #[.val (.int qx), .val (.int qy), .val (.int qp), .val (.int qd), .val (.int va), .val (.int vb), .val (.int fr), .val (.int tt), .val (.ref b3), .val (.int (1 : Int32)), .unset, .unset, .unset, .unset, .unset] [(.int (if (fr - (1 : Int32)) < fr ∨ tt < (fr - (1 : Int32)) then (0 : Int32) else 1))]))
  have hc89 : (if (fr - (1 : Int32)) < fr ∨ tt < (fr - (1 : Int32)) then (0 : Int32) else 1) = (0 : Int32) := own_out (Or.inl (own_below hfr.1))
  refine Go.step (fun _ k => XS.ifNo X18.here hx rfl (hb hby at_89) rfl ((if0 _ _).trans (teq hc89).2) k) ?_
  show Go _ _ _ _ _ _ _ (T18.setTop (mkF m 92 #[.val (.int qx), .val (.int qy), .val (.int qp), .val (.int qd), .val (.int va), .val (.int vb), .val (.int fr), .val (.int tt), .val (.ref b3), .val (.int (1 : Int32)), .unset, .unset, .unset, .unset, .unset] []))
  refine Go.step (fun _ k => XS.aload X18.here hx rfl (hb hby at_92) rfl rfl  k) ?_
  show Go _ _ _ _ _ _ _ (T18.setTop (mkF m 94 #[.val (.int qx), .val (.int qy), .val (.int qp), .val (.int qd), .val (.int va), .val (.int vb), .val (.int fr), .val (.int tt), .val (.ref b3), .val (.int (1 : Int32)), .unset, .unset, .unset, .unset, .unset] [(.ref b3)]))
  refine Go.step (fun _ k => XS.iload X18.here hx rfl (hb hby at_94) rfl  k) ?_
  show Go _ _ _ _ _ _ _ (T18.setTop (mkF m 96 #[.val (.int qx), .val (.int qy), .val (.int qp), .val (.int qd), .val (.int va), .val (.int vb), .val (.int fr), .val (.int tt), .val (.ref b3), .val (.int (1 : Int32)), .unset, .unset, .unset, .unset, .unset] [(.int tt), (.ref b3)]))
  refine Go.step (fun _ k => XS.iconst X18.here hx rfl (hb hby at_96) k) ?_
  show Go _ _ _ _ _ _ _ (T18.setTop (mkF m 97 #[.val (.int qx), .val (.int qy), .val (.int qp), .val (.int qd), .val (.int va), .val (.int vb), .val (.int fr), .val (.int tt), .val (.ref b3), .val (.int (1 : Int32)), .unset, .unset, .unset, .unset, .unset] [(.int (1 : Int32)), (.int tt), (.ref b3)]))
  refine Go.step (fun _ k => XS.iadd X18.here hx rfl (hb hby at_97) rfl k) ?_
  show Go _ _ _ _ _ _ _ (T18.setTop (mkF m 98 #[.val (.int qx), .val (.int qy), .val (.int qp), .val (.int qd), .val (.int va), .val (.int vb), .val (.int fr), .val (.int tt), .val (.ref b3), .val (.int (1 : Int32)), .unset, .unset, .unset, .unset, .unset] [(.int (tt + (1 : Int32))), (.ref b3)]))
  obtain ⟨cq19, kq19, q19a, q19b, q19c⟩ := isOf hZ e18 c13_0
  obtain ⟨_, _, ⟨T19, L19, k19, n19⟩, -, X19, ⟨Lc19, hQ19, l19, y19, z19⟩, st19⟩ := X18.virtualBack hx (y := (⟨"com/example/sidewire/sidewire/net/PortRange", "contains", "(I)Z"⟩ : MethodName)) (z := (⟨"com/example/sidewire/sidewire/net/PortRange", "contains", "(I)Z"⟩ : MethodName)) hown (mvT hZ (hw _ (List.mem_of_getElem? (i := 32) rfl))) (mvT hZ (hw _ (List.mem_of_getElem? (i := 33) rfl))) (notFace_of_selects (args := #[]) (mvT hZ (hw _ (List.mem_of_getElem? (i := 35) rfl)))) (mvT hZ (hw _ (List.mem_of_getElem? (i := 35) rfl))) (mvT hZ (hw _ (List.mem_of_getElem? (i := 34) rfl))) (by decide) (backOf (W := 0) (rm7 l Z aZ hw [] b3 (tt + (1 : Int32)) fr tt T13.heap n0 z14 c13_1 c13_2) hZ (hw _ (List.mem_of_getElem? (i := 36) rfl)) (hw _ (List.mem_of_getElem? (i := 11) rfl)) (by decide) (by decide)) q19a q19c (g := (mkF m 98 #[.val (.int qx), .val (.int qy), .val (.int qp), .val (.int qd), .val (.int va), .val (.int vb), .val (.int fr), .val (.int tt), .val (.ref b3), .val (.int (1 : Int32)), .unset, .unset, .unset, .unset, .unset] [(.int (tt + (1 : Int32))), (.ref b3)])) rfl (by rw [hml]; rfl) (Steps.refl _) (argsL := [(.int (tt + (1 : Int32)))]) (rest := []) (lenOf pd_4 rfl) rfl (by show 2 * 0 + _ ≤ _; exact Nat.le_of_eq rfl) (hb hby at_98) (fun _ _ => ⟨rfl, e18, (by decide : 1 + 0 ≤ _), (by decide : 2 + 0 ≤ _)⟩)
  dsimp only [Pt.U, Pt.locs, Pt.cells, Pt.slots] at X19 l19 y19 z19 st19 hQ19
  subst l19 y19 z19
  obtain ⟨rfl, Nq19, e19⟩ := hQ19
  have N19 := Fr.app N18 Nq19
  refine Go.tr st19 ?_
  show Go _ _ _ _ _ _ _ (T19.setTop (mkF m 101 #[.val (.int qx), .val (.int qy), .val (.int qp), .val (.int qd), .val (.int va), .val (.int vb), .val (.int fr), .val (.int tt), .val (.ref b3), .val (.int (1 : Int32)), .unset, .unset, .unset, .unset, .unset] [(.int (if (tt + (1 : Int32)) < fr ∨ tt < (tt + (1 : Int32)) then (0 : Int32) else 1))]))
  have hc101 : (if (tt + (1 : Int32)) < fr ∨ tt < (tt + (1 : Int32)) then (0 : Int32) else 1) = (0 : Int32) := own_out (Or.inr (own_above htt.2))
  refine Go.step (fun _ k => XS.ifNo X19.here hx rfl (hb hby at_101) rfl ((if0 _ _).trans (teq hc101).2) k) ?_
  show Go _ _ _ _ _ _ _ (T19.setTop (mkF m 104 #[.val (.int qx), .val (.int qy), .val (.int qp), .val (.int qd), .val (.int va), .val (.int vb), .val (.int fr), .val (.int tt), .val (.ref b3), .val (.int (1 : Int32)), .unset, .unset, .unset, .unset, .unset] []))
  refine Go.step (fun _ k => XS.iconst X19.here hx rfl (hb hby at_104) k) ?_
  show Go _ _ _ _ _ _ _ (T19.setTop (mkF m 105 #[.val (.int qx), .val (.int qy), .val (.int qp), .val (.int qd), .val (.int va), .val (.int vb), .val (.int fr), .val (.int tt), .val (.ref b3), .val (.int (1 : Int32)), .unset, .unset, .unset, .unset, .unset] [(.int (1 : Int32))]))
  refine Go.step (fun _ k => XS.goto X19.here hx rfl (pc0 := 105) (pc' := 109) rfl (hb hby at_105) (by decide) (by decide) k) ?_
  show Go _ _ _ _ _ _ _ (T19.setTop (mkF m 109 #[.val (.int qx), .val (.int qy), .val (.int qp), .val (.int qd), .val (.int va), .val (.int vb), .val (.int fr), .val (.int tt), .val (.ref b3), .val (.int (1 : Int32)), .unset, .unset, .unset, .unset, .unset] [(.int (1 : Int32))]))
  refine Go.step (fun _ k => XS.istore X19.here hx rfl (hb hby at_109) rfl (l' := #[.val (.int qx), .val (.int qy), .val (.int qp), .val (.int qd), .val (.int va), .val (.int vb), .val (.int fr), .val (.int tt), .val (.ref b3), .val (.int (1 : Int32)), .val (.int (1 : Int32)), .unset, .unset, .unset, .unset]) rfl k) ?_
  show Go _ _ _ _ _ _ _ (T19.setTop (mkF m 111 #[.val (.int qx), .val (.int qy), .val (.int qp), .val (.int qd), .val (.int va), .val (.int vb), .val (.int fr), .val (.int tt), .val (.ref b3), .val (.int (1 : Int32)), .val (.int (1 : Int32)), .unset, .unset, .unset, .unset] []))
  refine Go.step (fun _ k => XS.iload X19.here hx rfl (hb hby at_111) rfl  k) ?_
  show Go _ _ _ _ _ _ _ (T19.setTop (mkF m 113 #[.val (.int qx), .val (.int qy), .val (.int qp), .val (.int qd), .val (.int va), .val (.int vb), .val (.int fr), .val (.int tt), .val (.ref b3), .val (.int (1 : Int32)), .val (.int (1 : Int32)), .unset, .unset, .unset, .unset] [(.int fr)]))
  refine Go.step (fun _ k => XS.iloadN X19.here hx rfl (hb hby at_113) rfl  k) ?_
  show Go _ _ _ _ _ _ _ (T19.setTop (mkF m 114 #[.val (.int qx), .val (.int qy), .val (.int qp), .val (.int qd), .val (.int va), .val (.int vb), .val (.int fr), .val (.int tt), .val (.ref b3), .val (.int (1 : Int32)), .val (.int (1 : Int32)), .unset, .unset, .unset, .unset] [(.int qd), (.int fr)]))
  refine Go.step (X19.ldcInt hx hown (mvT hZ (hw _ (List.mem_of_getElem? (i := 0) rfl))) (g := (mkF m 114 #[.val (.int qx), .val (.int qy), .val (.int qp), .val (.int qd), .val (.int va), .val (.int vb), .val (.int fr), .val (.int tt), .val (.ref b3), .val (.int (1 : Int32)), .val (.int (1 : Int32)), .unset, .unset, .unset, .unset] [(.int qd), (.int fr)])) rfl (hb hby at_114)) ?_
  show Go _ _ _ _ _ _ _ (T19.setTop (mkF m 116 #[.val (.int qx), .val (.int qy), .val (.int qp), .val (.int qd), .val (.int va), .val (.int vb), .val (.int fr), .val (.int tt), .val (.ref b3), .val (.int (1 : Int32)), .val (.int (1 : Int32)), .unset, .unset, .unset, .unset] [(.int (2147483647 : Int32)), (.int qd), (.int fr)]))
  refine Go.step (fun _ k => XS.iand X19.here hx rfl (hb hby at_116) rfl k) ?_
  show Go _ _ _ _ _ _ _ (T19.setTop (mkF m 117 #[.val (.int qx), .val (.int qy), .val (.int qp), .val (.int qd), .val (.int va), .val (.int vb), .val (.int fr), .val (.int tt), .val (.ref b3), .val (.int (1 : Int32)), .val (.int (1 : Int32)), .unset, .unset, .unset, .unset] [(.int (qd &&& (2147483647 : Int32))), (.int fr)]))
  refine Go.step (fun _ k => XS.iload X19.here hx rfl (hb hby at_117) rfl  k) ?_
  show Go _ _ _ _ _ _ _ (T19.setTop (mkF m 119 #[.val (.int qx), .val (.int qy), .val (.int qp), .val (.int qd), .val (.int va), .val (.int vb), .val (.int fr), .val (.int tt), .val (.ref b3), .val (.int (1 : Int32)), .val (.int (1 : Int32)), .unset, .unset, .unset, .unset] [(.int tt), (.int (qd &&& (2147483647 : Int32))), (.int fr)]))
  refine Go.step (fun _ k => XS.iload X19.here hx rfl (hb hby at_119) rfl  k) ?_
  show Go _ _ _ _ _ _ _ (T19.setTop (mkF m 121 #[.val (.int qx), .val (.int qy), .val (.int qp), .val (.int qd), .val (.int va), .val (.int vb), .val (.int fr), .val (.int tt), .val (.ref b3), .val (.int (1 : Int32)), .val (.int (1 : Int32)), .unset, .unset, .unset, .unset] [(.int fr), (.int tt), (.int (qd &&& (2147483647 : Int32))), (.int fr)]))
  refine Go.step (fun _ k => XS.isub X19.here hx rfl (hb hby at_121) rfl k) ?_
  show Go _ _ _ _ _ _ _ (T19.setTop (mkF m 122 #[.val (.int qx), .val (.int qy), .val (.int qp), .val (.int qd), .val (.int va), .val (.int vb), .val (.int fr), .val (.int tt), .val (.ref b3), .val (.int (1 : Int32)), .val (.int (1 : Int32)), .unset, .unset, .unset, .unset] [(.int (tt - fr)), (.int (qd &&& (2147483647 : Int32))), (.int fr)]))
  refine Go.step (fun _ k => XS.iconst X19.here hx rfl (hb hby at_122) k) ?_
  show Go _ _ _ _ _ _ _ (T19.setTop (mkF m 123 #[.val (.int qx), .val (.int qy), .val (.int qp), .val (.int qd), .val (.int va), .val (.int vb), .val (.int fr), .val (.int tt), .val (.ref b3), .val (.int (1 : Int32)), .val (.int (1 : Int32)), .unset, .unset, .unset, .unset] [(.int (1 : Int32)), (.int (tt - fr)), (.int (qd &&& (2147483647 : Int32))), (.int fr)]))
  refine Go.step (fun _ k => XS.iadd X19.here hx rfl (hb hby at_123) rfl k) ?_
  show Go _ _ _ _ _ _ _ (T19.setTop (mkF m 124 #[.val (.int qx), .val (.int qy), .val (.int qp), .val (.int qd), .val (.int va), .val (.int vb), .val (.int fr), .val (.int tt), .val (.ref b3), .val (.int (1 : Int32)), .val (.int (1 : Int32)), .unset, .unset, .unset, .unset] [(.int ((tt - fr) + (1 : Int32))), (.int (qd &&& (2147483647 : Int32))), (.int fr)]))
  have nz124 : ((tt - fr) + (1 : Int32)) ≠ 0 := own_nz hfr.1 htt.2 hft
  refine Go.step (fun _ k => iremM X19 hx rfl (hb hby at_124) rfl nz124 k) ?_
  show Go _ _ _ _ _ _ _ (T19.setTop (mkF m 125 #[.val (.int qx), .val (.int qy), .val (.int qp), .val (.int qd), .val (.int va), .val (.int vb), .val (.int fr), .val (.int tt), .val (.ref b3), .val (.int (1 : Int32)), .val (.int (1 : Int32)), .unset, .unset, .unset, .unset] [(.int ((qd &&& (2147483647 : Int32)) % ((tt - fr) + (1 : Int32)))), (.int fr)]))
  refine Go.step (fun _ k => XS.iadd X19.here hx rfl (hb hby at_125) rfl k) ?_
  show Go _ _ _ _ _ _ _ (T19.setTop (mkF m 126 #[.val (.int qx), .val (.int qy), .val (.int qp), .val (.int qd), .val (.int va), .val (.int vb), .val (.int fr), .val (.int tt), .val (.ref b3), .val (.int (1 : Int32)), .val (.int (1 : Int32)), .unset, .unset, .unset, .unset] [(.int (fr + ((qd &&& (2147483647 : Int32)) % ((tt - fr) + (1 : Int32)))))]))
  obtain ⟨inn, q_inn⟩ : ∃ z : Int32, z = (fr + ((qd &&& (2147483647 : Int32)) % ((tt - fr) + (1 : Int32)))) := ⟨_, rfl⟩
  rw [← q_inn]
  have hin : ¬ inn < fr ∧ ¬ tt < inn := by rw [q_inn]; exact own_inner hfr.1 htt.2 hft
  show Go _ _ _ _ _ _ _ (T19.setTop (mkF m 126 #[.val (.int qx), .val (.int qy), .val (.int qp), .val (.int qd), .val (.int va), .val (.int vb), .val (.int fr), .val (.int tt), .val (.ref b3), .val (.int (1 : Int32)), .val (.int (1 : Int32)), .unset, .unset, .unset, .unset] [(.int inn)]))
  refine Go.step (fun _ k => XS.istore X19.here hx rfl (hb hby at_126) rfl (l' := #[.val (.int qx), .val (.int qy), .val (.int qp), .val (.int qd), .val (.int va), .val (.int vb), .val (.int fr), .val (.int tt), .val (.ref b3), .val (.int (1 : Int32)), .val (.int (1 : Int32)), .val (.int inn), .unset, .unset, .unset]) rfl k) ?_
  show Go _ _ _ _ _ _ _ (T19.setTop (mkF m 128 #[.val (.int qx), .val (.int qy), .val (.int qp), .val (.int qd), .val (.int va), .val (.int vb), .val (.int fr), .val (.int tt), .val (.ref b3), .val (.int (1 : Int32)), .val (.int (1 : Int32)), .val (.int inn), .unset, .unset, .unset] []))
  refine Go.step (fun _ k => XS.aload X19.here hx rfl (hb hby at_128) rfl rfl  k) ?_
  show Go _ _ _ _ _ _ _ (T19.setTop (mkF m 130 #[.val (.int qx), .val (.int qy), .val (.int qp), .val (.int qd), .val (.int va), .val (.int vb), .val (.int fr), .val (.int tt), .val (.ref b3), .val (.int (1 : Int32)), .val (.int (1 : Int32)), .val (.int inn), .unset, .unset, .unset] [(.ref b3)]))
  refine Go.step (fun _ k => XS.iload X19.here hx rfl (hb hby at_130) rfl  k) ?_
  show Go _ _ _ _ _ _ _ (T19.setTop (mkF m 132 #[.val (.int qx), .val (.int qy), .val (.int qp), .val (.int qd), .val (.int va), .val (.int vb), .val (.int fr), .val (.int tt), .val (.ref b3), .val (.int (1 : Int32)), .val (.int (1 : Int32)), .val (.int inn), .unset, .unset, .unset] [(.int inn), (.ref b3)]))
  obtain ⟨cq20, kq20, q20a, q20b, q20c⟩ := isOf hZ e19 c13_0
  obtain ⟨_, _, ⟨T20, L20, k20, n20⟩, -, X20, ⟨Lc20, hQ20, l20, y20, z20⟩, st20⟩ := X19.virtualBack hx (y := (⟨"com/example/sidewire/sidewire/net/PortRange", "contains", "(I)Z"⟩ : MethodName)) (z := (⟨"com/example/sidewire/sidewire/net/PortRange", "contains", "(I)Z"⟩ : MethodName)) hown (mvT hZ (hw _ (List.mem_of_getElem? (i := 32) rfl))) (mvT hZ (hw _ (List.mem_of_getElem? (i := 33) rfl))) (notFace_of_selects (args := #[]) (mvT hZ (hw _ (List.mem_of_getElem? (i := 35) rfl)))) (mvT hZ (hw _ (List.mem_of_getElem? (i := 35) rfl))) (mvT hZ (hw _ (List.mem_of_getElem? (i := 34) rfl))) (by decide) (backOf (W := 0) (rm7 l Z aZ hw [] b3 inn fr tt T13.heap n0 z14 c13_1 c13_2) hZ (hw _ (List.mem_of_getElem? (i := 36) rfl)) (hw _ (List.mem_of_getElem? (i := 11) rfl)) (by decide) (by decide)) q20a q20c (g := (mkF m 132 #[.val (.int qx), .val (.int qy), .val (.int qp), .val (.int qd), .val (.int va), .val (.int vb), .val (.int fr), .val (.int tt), .val (.ref b3), .val (.int (1 : Int32)), .val (.int (1 : Int32)), .val (.int inn), .unset, .unset, .unset] [(.int inn), (.ref b3)])) rfl (by rw [hml]; rfl) (Steps.refl _) (argsL := [(.int inn)]) (rest := []) (lenOf pd_4 rfl) rfl (by show 2 * 0 + _ ≤ _; exact Nat.le_of_eq rfl) (hb hby at_132) (fun _ _ => ⟨rfl, e19, (by decide : 1 + 0 ≤ _), (by decide : 2 + 0 ≤ _)⟩)
  dsimp only [Pt.U, Pt.locs, Pt.cells, Pt.slots] at X20 l20 y20 z20 st20 hQ20
  subst l20 y20 z20
  obtain ⟨rfl, Nq20, e20⟩ := hQ20
  have N20 := Fr.app N19 Nq20
  refine Go.tr st20 ?_
  show Go _ _ _ _ _ _ _ (T20.setTop (mkF m 135 #[.val (.int qx), .val (.int qy), .val (.int qp), .val (.int qd), .val (.int va), .val (.int vb), .val (.int fr), .val (.int tt), .val (.ref b3), .val (.int (1 : Int32)), .val (.int (1 : Int32)), .val (.int inn), .unset, .unset, .unset] [(.int (if inn < fr ∨ tt < inn then (0 : Int32) else 1))]))
  obtain ⟨vin, q_vin⟩ : ∃ z : Int32, z = (if inn < fr ∨ tt < inn then (0 : Int32) else 1) := ⟨_, rfl⟩
  rw [← q_vin]
  have hvin : ¬ vin = 0 := by rw [q_vin]; exact own_in hin.1 hin.2
  show Go _ _ _ _ _ _ _ (T20.setTop (mkF m 135 #[.val (.int qx), .val (.int qy), .val (.int qp), .val (.int qd), .val (.int va), .val (.int vb), .val (.int fr), .val (.int tt), .val (.ref b3), .val (.int (1 : Int32)), .val (.int (1 : Int32)), .val (.int inn), .unset, .unset, .unset] [(.int vin)]))
  refine Go.step (fun _ k => XS.istore X20.here hx rfl (hb hby at_135) rfl (l' := #[.val (.int qx), .val (.int qy), .val (.int qp), .val (.int qd), .val (.int va), .val (.int vb), .val (.int fr), .val (.int tt), .val (.ref b3), .val (.int (1 : Int32)), .val (.int (1 : Int32)), .val (.int inn), .val (.int vin), .unset, .unset]) rfl k) ?_
  show Go _ _ _ _ _ _ _ (T20.setTop (mkF m 137 #[.val (.int qx), .val (.int qy), .val (.int qp), .val (.int qd), .val (.int va), .val (.int vb), .val (.int fr), .val (.int tt), .val (.ref b3), .val (.int (1 : Int32)), .val (.int (1 : Int32)), .val (.int inn), .val (.int vin), .unset, .unset] []))
  refine Go.step (fun _ k => XS.iloadN X20.here hx rfl (hb hby at_137) rfl  k) ?_
  show Go _ _ _ _ _ _ _ (T20.setTop (mkF m 138 #[.val (.int qx), .val (.int qy), .val (.int qp), .val (.int qd), .val (.int va), .val (.int vb), .val (.int fr), .val (.int tt), .val (.ref b3), .val (.int (1 : Int32)), .val (.int (1 : Int32)), .val (.int inn), .val (.int vin), .unset, .unset] [(.int qp)]))
  refine Go.step (fun _ k => XS.iload X20.here hx rfl (hb hby at_138) rfl  k) ?_
  show Go _ _ _ _ _ _ _ (T20.setTop (mkF m 140 #[.val (.int qx), .val (.int qy), .val (.int qp), .val (.int qd), .val (.int va), .val (.int vb), .val (.int fr), .val (.int tt), .val (.ref b3), .val (.int (1 : Int32)), .val (.int (1 : Int32)), .val (.int inn), .val (.int vin), .unset, .unset] [(.int fr), (.int qp)]))
  obtain ⟨_, _, ⟨T21, L21, k21, n21⟩, -, X21, ⟨Lc21, hQ21, l21, y21, z21⟩, st21⟩ := Jvm.LawKit.callS X20 hx (y := (⟨"java/lang/Math", "max", "(II)I"⟩ : MethodName)) hown (mvT hZ (hw _ (List.mem_of_getElem? (i := 6) rfl))) (mvT hZ (hw _ (List.mem_of_getElem? (i := 7) rfl))) (mvT hZ (hw _ (List.mem_of_getElem? (i := 4) rfl))) (mvT hZ (hw _ (List.mem_of_getElem? (i := 8) rfl))) (by decide) (backOf (W := 0) (rm2 l Z aZ hw [] qp fr T13.heap n0 z14 ) hZ (hw _ (List.mem_of_getElem? (i := 8) rfl)) (hw _ (List.mem_of_getElem? (i := 4) rfl)) (by decide) (by decide)) (g := (mkF m 140 #[.val (.int qx), .val (.int qy), .val (.int qp), .val (.int qd), .val (.int va), .val (.int vb), .val (.int fr), .val (.int tt), .val (.ref b3), .val (.int (1 : Int32)), .val (.int (1 : Int32)), .val (.int inn), .val (.int vin), .unset, .unset] [(.int fr), (.int qp)])) rfl (by rw [hml]; rfl) (argsL := [(.int qp), (.int fr)]) (rest := []) (lenOf pd_2 rfl) rfl (by show 2 * 0 + _ ≤ _; exact Nat.le_of_eq rfl) (hb hby at_140) (fun _ _ => ⟨rfl, e20, (by decide : 1 + 0 ≤ _), (by decide : 2 + 0 ≤ _)⟩)
  dsimp only [Pt.U, Pt.locs, Pt.cells, Pt.slots] at X21 l21 y21 z21 st21 hQ21
  subst l21 y21 z21
  obtain ⟨rfl, Nq21, e21⟩ := hQ21
  have N21 := Fr.app N20 Nq21
  refine Go.step st21 ?_
  show Go _ _ _ _ _ _ _ (T21.setTop (mkF m 143 #[.val (.int qx), .val (.int qy), .val (.int qp), .val (.int qd), .val (.int va), .val (.int vb), .val (.int fr), .val (.int tt), .val (.ref b3), .val (.int (1 : Int32)), .val (.int (1 : Int32)), .val (.int inn), .val (.int vin), .unset, .unset] [(.int (if qp < fr then fr else qp))]))
  refine Go.step (fun _ k => XS.iload X21.here hx rfl (hb hby at_143) rfl  k) ?_
  show Go _ _ _ _ _ _ _ (T21.setTop (mkF m 145 #[.val (.int qx), .val (.int qy), .val (.int qp), .val (.int qd), .val (.int va), .val (.int vb), .val (.int fr), .val (.int tt), .val (.ref b3), .val (.int (1 : Int32)), .val (.int (1 : Int32)), .val (.int inn), .val (.int vin), .unset, .unset] [(.int tt), (.int (if qp < fr then fr else qp))]))
  obtain ⟨_, _, ⟨T22, L22, k22, n22⟩, -, X22, ⟨Lc22, hQ22, l22, y22, z22⟩, st22⟩ := Jvm.LawKit.callS X21 hx (y := (⟨"java/lang/Math", "min", "(II)I"⟩ : MethodName)) hown (mvT hZ (hw _ (List.mem_of_getElem? (i := 2) rfl))) (mvT hZ (hw _ (List.mem_of_getElem? (i := 3) rfl))) (mvT hZ (hw _ (List.mem_of_getElem? (i := 4) rfl))) (mvT hZ (hw _ (List.mem_of_getElem? (i := 5) rfl))) (by decide) (backOf (W := 0) (rm1 l Z aZ hw [] (if qp < fr then fr else qp) tt T13.heap n0 z14 ) hZ (hw _ (List.mem_of_getElem? (i := 5) rfl)) (hw _ (List.mem_of_getElem? (i := 4) rfl)) (by decide) (by decide)) (g := (mkF m 145 #[.val (.int qx), .val (.int qy), .val (.int qp), .val (.int qd), .val (.int va), .val (.int vb), .val (.int fr), .val (.int tt), .val (.ref b3), .val (.int (1 : Int32)), .val (.int (1 : Int32)), .val (.int inn), .val (.int vin), .unset, .unset] [(.int tt), (.int (if qp < fr then fr else qp))])) rfl (by rw [hml]; rfl) (argsL := [(.int (if qp < fr then fr else qp)), (.int tt)]) (rest := []) (lenOf pd_2 rfl) rfl (by show 2 * 0 + _ ≤ _; exact Nat.le_of_eq rfl) (hb hby at_145) (fun _ _ => ⟨rfl, e21, (by decide : 1 + 0 ≤ _), (by decide : 2 + 0 ≤ _)⟩)
  dsimp only [Pt.U, Pt.locs, Pt.cells, Pt.slots] at X22 l22 y22 z22 st22 hQ22
  subst l22 y22 z22
  obtain ⟨rfl, Nq22, e22⟩ := hQ22
  have N22 := Fr.app N21 Nq22
  refine Go.step st22 ?_
  show Go _ _ _ _ _ _ _ (T22.setTop (mkF m 148 #[.val (.int qx), .val (.int qy), .val (.int qp), .val (.int qd), .val (.int va), .val (.int vb), .val (.int fr), .val (.int tt), .val (.ref b3), .val (.int (1 : Int32)), .val (.int (1 : Int32)), .val (.int inn), .val (.int vin), .unset, .unset] [(.int (if tt < (if qp < fr then fr else qp) then tt else (if qp < fr then fr else qp)))]))
  refine Go.step (fun _ k => XS.iloadN X22.here hx rfl (hb hby at_148) rfl  k) ?_
  show Go _ _ _ _ _ _ _ (T22.setTop (mkF m 149 #[.val (.int qx), .val (.int qy), .val (.int qp), .val (.int qd), .val (.int va), .val (.int vb), .val (.int fr), .val (.int tt), .val (.ref b3), .val (.int (1 : Int32)), .val (.int (1 : Int32)), .val (.int inn), .val (.int vin), .unset, .unset] [(.int qp), (.int (if tt < (if qp < fr then fr else qp) then tt else (if qp < fr then fr else qp)))]))
  by_cases hc149 : (if tt < (if qp < fr then fr else qp) then tt else (if qp < fr then fr else qp)) = qp
  · skip
    refine Go.step (fun _ k => XS.icmpNo X22.here hx rfl (hb hby at_149) rfl (teq hc149).2 k) ?_
    show Go _ _ _ _ _ _ _ (T22.setTop (mkF m 152 #[.val (.int qx), .val (.int qy), .val (.int qp), .val (.int qd), .val (.int va), .val (.int vb), .val (.int fr), .val (.int tt), .val (.ref b3), .val (.int (1 : Int32)), .val (.int (1 : Int32)), .val (.int inn), .val (.int vin), .unset, .unset] []))
    refine Go.step (fun _ k => XS.iconst X22.here hx rfl (hb hby at_152) k) ?_
    show Go _ _ _ _ _ _ _ (T22.setTop (mkF m 153 #[.val (.int qx), .val (.int qy), .val (.int qp), .val (.int qd), .val (.int va), .val (.int vb), .val (.int fr), .val (.int tt), .val (.ref b3), .val (.int (1 : Int32)), .val (.int (1 : Int32)), .val (.int inn), .val (.int vin), .unset, .unset] [(.int (1 : Int32))]))
    refine Go.step (fun _ k => XS.goto X22.here hx rfl (pc0 := 153) (pc' := 157) rfl (hb hby at_153) (by decide) (by decide) k) ?_
    show Go _ _ _ _ _ _ _ (T22.setTop (mkF m 157 #[.val (.int qx), .val (.int qy), .val (.int qp), .val (.int qd), .val (.int va), .val (.int vb), .val (.int fr), .val (.int tt), .val (.ref b3), .val (.int (1 : Int32)), .val (.int (1 : Int32)), .val (.int inn), .val (.int vin), .unset, .unset] [(.int (1 : Int32))]))
    refine Go.step (fun _ k => XS.istore X22.here hx rfl (hb hby at_157) rfl (l' := #[.val (.int qx), .val (.int qy), .val (.int qp), .val (.int qd), .val (.int va), .val (.int vb), .val (.int fr), .val (.int tt), .val (.ref b3), .val (.int (1 : Int32)), .val (.int (1 : Int32)), .val (.int inn), .val (.int vin), .val (.int (1 : Int32)), .unset]) rfl k) ?_
    show Go _ _ _ _ _ _ _ (T22.setTop (mkF m 159 #[.val (.int qx), .val (.int qy), .val (.int qp), .val (.int qd), .val (.int va), .val (.int vb), .val (.int fr), .val (.int tt), .val (.ref b3), .val (.int (1 : Int32)), .val (.int (1 : Int32)), .val (.int inn), .val (.int vin), .val (.int (1 : Int32)), .unset] []))
    refine Go.step (fun _ k => XS.aload X22.here hx rfl (hb hby at_159) rfl rfl  k) ?_
    show Go _ _ _ _ _ _ _ (T22.setTop (mkF m 161 #[.val (.int qx), .val (.int qy), .val (.int qp), .val (.int qd), .val (.int va), .val (.int vb), .val (.int fr), .val (.int tt), .val (.ref b3), .val (.int (1 : Int32)), .val (.int (1 : Int32)), .val (.int inn), .val (.int vin), .val (.int (1 : Int32)), .unset] [(.ref b3)]))
    refine Go.step (fun _ k => XS.iloadN X22.here hx rfl (hb hby at_161) rfl  k) ?_
    show Go _ _ _ _ _ _ _ (T22.setTop (mkF m 162 #[.val (.int qx), .val (.int qy), .val (.int qp), .val (.int qd), .val (.int va), .val (.int vb), .val (.int fr), .val (.int tt), .val (.ref b3), .val (.int (1 : Int32)), .val (.int (1 : Int32)), .val (.int inn), .val (.int vin), .val (.int (1 : Int32)), .unset] [(.int qp), (.ref b3)]))
    obtain ⟨cq23, kq23, q23a, q23b, q23c⟩ := isOf hZ e22 c13_0
    obtain ⟨_, _, ⟨T23, L23, k23, n23⟩, -, X23, ⟨Lc23, hQ23, l23, y23, z23⟩, st23⟩ := X22.virtualBack hx (y := (⟨"com/example/sidewire/sidewire/net/PortRange", "contains", "(I)Z"⟩ : MethodName)) (z := (⟨"com/example/sidewire/sidewire/net/PortRange", "contains", "(I)Z"⟩ : MethodName)) hown (mvT hZ (hw _ (List.mem_of_getElem? (i := 32) rfl))) (mvT hZ (hw _ (List.mem_of_getElem? (i := 33) rfl))) (notFace_of_selects (args := #[]) (mvT hZ (hw _ (List.mem_of_getElem? (i := 35) rfl)))) (mvT hZ (hw _ (List.mem_of_getElem? (i := 35) rfl))) (mvT hZ (hw _ (List.mem_of_getElem? (i := 34) rfl))) (by decide) (backOf (W := 0) (rm7 l Z aZ hw [] b3 qp fr tt T13.heap n0 z14 c13_1 c13_2) hZ (hw _ (List.mem_of_getElem? (i := 36) rfl)) (hw _ (List.mem_of_getElem? (i := 11) rfl)) (by decide) (by decide)) q23a q23c (g := (mkF m 162 #[.val (.int qx), .val (.int qy), .val (.int qp), .val (.int qd), .val (.int va), .val (.int vb), .val (.int fr), .val (.int tt), .val (.ref b3), .val (.int (1 : Int32)), .val (.int (1 : Int32)), .val (.int inn), .val (.int vin), .val (.int (1 : Int32)), .unset] [(.int qp), (.ref b3)])) rfl (by rw [hml]; rfl) (Steps.refl _) (argsL := [(.int qp)]) (rest := []) (lenOf pd_4 rfl) rfl (by show 2 * 0 + _ ≤ _; exact Nat.le_of_eq rfl) (hb hby at_162) (fun _ _ => ⟨rfl, e22, (by decide : 1 + 0 ≤ _), (by decide : 2 + 0 ≤ _)⟩)
    dsimp only [Pt.U, Pt.locs, Pt.cells, Pt.slots] at X23 l23 y23 z23 st23 hQ23
    subst l23 y23 z23
    obtain ⟨rfl, Nq23, e23⟩ := hQ23
    have N23 := Fr.app N22 Nq23
    refine Go.tr st23 ?_
    show Go _ _ _ _ _ _ _ (T23.setTop (mkF m 165 #[.val (.int qx), .val (.int qy), .val (.int qp), .val (.int qd), .val (.int va), .val (.int vb), .val (.int fr), .val (.int tt), .val (.ref b3), .val (.int (1 : Int32)), .val (.int (1 : Int32)), .val (.int inn), .val (.int vin), .val (.int (1 : Int32)), .unset] [(.int (if qp < fr ∨ tt < qp then (0 : Int32) else 1))]))
    refine Go.step (fun _ k => XS.iload X23.here hx rfl (hb hby at_165) rfl  k) ?_
    show Go _ _ _ _ _ _ _ (T23.setTop (mkF m 167 #[.val (.int qx), .val (.int qy), .val (.int qp), .val (.int qd), .val (.int va), .val (.int vb), .val (.int fr), .val (.int tt), .val (.ref b3), .val (.int (1 : Int32)), .val (.int (1 : Int32)), .val (.int inn), .val (.int vin), .val (.int (1 : Int32)), .unset] [(.int (1 : Int32)), (.int (if qp < fr ∨ tt < qp then (0 : Int32) else 1))]))
    have hc167 : (if qp < fr ∨ tt < qp then (0 : Int32) else 1) = (1 : Int32) := own_clampY hc149 hft
    refine Go.step (fun _ k => XS.icmpNo X23.here hx rfl (hb hby at_167) rfl (teq hc167).2 k) ?_
    show Go _ _ _ _ _ _ _ (T23.setTop (mkF m 170 #[.val (.int qx), .val (.int qy), .val (.int qp), .val (.int qd), .val (.int va), .val (.int vb), .val (.int fr), .val (.int tt), .val (.ref b3), .val (.int (1 : Int32)), .val (.int (1 : Int32)), .val (.int inn), .val (.int vin), .val (.int (1 : Int32)), .unset] []))
    refine Go.step (fun _ k => XS.iconst X23.here hx rfl (hb hby at_170) k) ?_
    show Go _ _ _ _ _ _ _ (T23.setTop (mkF m 171 #[.val (.int qx), .val (.int qy), .val (.int qp), .val (.int qd), .val (.int va), .val (.int vb), .val (.int fr), .val (.int tt), .val (.ref b3), .val (.int (1 : Int32)), .val (.int (1 : Int32)), .val (.int inn), .val (.int vin), .val (.int (1 : Int32)), .unset] [(.int (1 : Int32))]))
    refine Go.step (fun _ k => XS.goto X23.here hx rfl (pc0 := 171) (pc' := 175) rfl (hb hby at_171) (by decide) (by decide) k) ?_
    show Go _ _ _ _ _ _ _ (T23.setTop (mkF m 175 #[.val (.int qx), .val (.int qy), .val (.int qp), .val (.int qd), .val (.int va), .val (.int vb), .val (.int fr), .val (.int tt), .val (.ref b3), .val (.int (1 : Int32)), .val (.int (1 : Int32)), .val (.int inn), .val (.int vin), .val (.int (1 : Int32)), .unset] [(.int (1 : Int32))]))
    refine Go.step (fun _ k => XS.istore X23.here hx rfl (hb hby at_175) rfl (l' := #[.val (.int qx), .val (.int qy), .val (.int qp), .val (.int qd), .val (.int va), .val (.int vb), .val (.int fr), .val (.int tt), .val (.ref b3), .val (.int (1 : Int32)), .val (.int (1 : Int32)), .val (.int inn), .val (.int vin), .val (.int (1 : Int32)), .val (.int (1 : Int32))]) rfl k) ?_
    show Go _ _ _ _ _ _ _ (T23.setTop (mkF m 177 #[.val (.int qx), .val (.int qy), .val (.int qp), .val (.int qd), .val (.int va), .val (.int vb), .val (.int fr), .val (.int tt), .val (.ref b3), .val (.int (1 : Int32)), .val (.int (1 : Int32)), .val (.int inn), .val (.int vin), .val (.int (1 : Int32)), .val (.int (1 : Int32))] []))
    refine Go.step (fun _ k => XS.iload X23.here hx rfl (hb hby at_177) rfl  k) ?_
    show Go _ _ _ _ _ _ _ (T23.setTop (mkF m 179 #[.val (.int qx), .val (.int qy), .val (.int qp), .val (.int qd), .val (.int va), .val (.int vb), .val (.int fr), .val (.int tt), .val (.ref b3), .val (.int (1 : Int32)), .val (.int (1 : Int32)), .val (.int inn), .val (.int vin), .val (.int (1 : Int32)), .val (.int (1 : Int32))] [(.int (1 : Int32))]))
    have hc179 : ¬ ((1 : Int32) = (0 : Int32)) := by decide
    refine Go.step (fun _ k => XS.ifNo X23.here hx rfl (hb hby at_179) rfl ((if0 _ _).trans (feq hc179).1) k) ?_
    show Go _ _ _ _ _ _ _ (T23.setTop (mkF m 182 #[.val (.int qx), .val (.int qy), .val (.int qp), .val (.int qd), .val (.int va), .val (.int vb), .val (.int fr), .val (.int tt), .val (.ref b3), .val (.int (1 : Int32)), .val (.int (1 : Int32)), .val (.int inn), .val (.int vin), .val (.int (1 : Int32)), .val (.int (1 : Int32))] []))
    refine Go.step (fun _ k => XS.iload X23.here hx rfl (hb hby at_182) rfl  k) ?_
    show Go _ _ _ _ _ _ _ (T23.setTop (mkF m 184 #[.val (.int qx), .val (.int qy), .val (.int qp), .val (.int qd), .val (.int va), .val (.int vb), .val (.int fr), .val (.int tt), .val (.ref b3), .val (.int (1 : Int32)), .val (.int (1 : Int32)), .val (.int inn), .val (.int vin), .val (.int (1 : Int32)), .val (.int (1 : Int32))] [(.int (1 : Int32))]))
    have hc184 : ¬ ((1 : Int32) = (0 : Int32)) := hc179
    refine Go.step (fun _ k => XS.ifNo X23.here hx rfl (hb hby at_184) rfl ((if0 _ _).trans (feq hc184).1) k) ?_
    show Go _ _ _ _ _ _ _ (T23.setTop (mkF m 187 #[.val (.int qx), .val (.int qy), .val (.int qp), .val (.int qd), .val (.int va), .val (.int vb), .val (.int fr), .val (.int tt), .val (.ref b3), .val (.int (1 : Int32)), .val (.int (1 : Int32)), .val (.int inn), .val (.int vin), .val (.int (1 : Int32)), .val (.int (1 : Int32))] []))
    refine Go.step (fun _ k => XS.iload X23.here hx rfl (hb hby at_187) rfl  k) ?_
    show Go _ _ _ _ _ _ _ (T23.setTop (mkF m 189 #[.val (.int qx), .val (.int qy), .val (.int qp), .val (.int qd), .val (.int va), .val (.int vb), .val (.int fr), .val (.int tt), .val (.ref b3), .val (.int (1 : Int32)), .val (.int (1 : Int32)), .val (.int inn), .val (.int vin), .val (.int (1 : Int32)), .val (.int (1 : Int32))] [(.int vin)]))
    have hc189 : ¬ (vin = (0 : Int32)) := hvin
    refine Go.step (fun _ k => XS.ifNo X23.here hx rfl (hb hby at_189) rfl ((if0 _ _).trans (feq hc189).1) k) ?_
    show Go _ _ _ _ _ _ _ (T23.setTop (mkF m 192 #[.val (.int qx), .val (.int qy), .val (.int qp), .val (.int qd), .val (.int va), .val (.int vb), .val (.int fr), .val (.int tt), .val (.ref b3), .val (.int (1 : Int32)), .val (.int (1 : Int32)), .val (.int inn), .val (.int vin), .val (.int (1 : Int32)), .val (.int (1 : Int32))] []))
    refine Go.step (fun _ k => XS.iload X23.here hx rfl (hb hby at_192) rfl  k) ?_
    show Go _ _ _ _ _ _ _ (T23.setTop (mkF m 194 #[.val (.int qx), .val (.int qy), .val (.int qp), .val (.int qd), .val (.int va), .val (.int vb), .val (.int fr), .val (.int tt), .val (.ref b3), .val (.int (1 : Int32)), .val (.int (1 : Int32)), .val (.int inn), .val (.int vin), .val (.int (1 : Int32)), .val (.int (1 : Int32))] [(.int (1 : Int32))]))
    have hc194 : ¬ ((1 : Int32) = (0 : Int32)) := hc184
    refine Go.step (fun _ k => XS.ifNo X23.here hx rfl (hb hby at_194) rfl ((if0 _ _).trans (feq hc194).1) k) ?_
    show Go _ _ _ _ _ _ _ (T23.setTop (mkF m 197 #[.val (.int qx), .val (.int qy), .val (.int qp), .val (.int qd), .val (.int va), .val (.int vb), .val (.int fr), .val (.int tt), .val (.ref b3), .val (.int (1 : Int32)), .val (.int (1 : Int32)), .val (.int inn), .val (.int vin), .val (.int (1 : Int32)), .val (.int (1 : Int32))] []))
    refine Go.step (fun _ k => XS.iconst X23.here hx rfl (hb hby at_197) k) ?_
    show Go _ _ _ _ _ _ _ (T23.setTop (mkF m 198 #[.val (.int qx), .val (.int qy), .val (.int qp), .val (.int qd), .val (.int va), .val (.int vb), .val (.int fr), .val (.int tt), .val (.ref b3), .val (.int (1 : Int32)), .val (.int (1 : Int32)), .val (.int inn), .val (.int vin), .val (.int (1 : Int32)), .val (.int (1 : Int32))] [(.int (1 : Int32))]))
    refine Go.step (fun _ k => XS.goto X23.here hx rfl (pc0 := 198) (pc' := 202) rfl (hb hby at_198) (by decide) (by decide) k) ?_
    show Go _ _ _ _ _ _ _ (T23.setTop (mkF m 202 #[.val (.int qx), .val (.int qy), .val (.int qp), .val (.int qd), .val (.int va), .val (.int vb), .val (.int fr), .val (.int tt), .val (.ref b3), .val (.int (1 : Int32)), .val (.int (1 : Int32)), .val (.int inn), .val (.int vin), .val (.int (1 : Int32)), .val (.int (1 : Int32))] [(.int (1 : Int32))]))
    refine Go.retN X23 hx (t := .boolean) Bd.returns (by simp) hlk (hb hby at_202) ?_ (by decide) (by decide)
    rw [e23]
    exact ⟨(by first | rfl | (simp_all [own_nb1, own_nb0]; done)), N23⟩
  · skip
    refine Go.step (fun _ k => XS.icmpYes X22.here hx rfl (pc0 := 149) (pc' := 156) rfl (hb hby at_149) rfl (feq hc149).2 (by decide) (by decide) k) ?_
    show Go _ _ _ _ _ _ _ (T22.setTop (mkF m 156 #[.val (.int qx), .val (.int qy), .val (.int qp), .val (.int qd), .val (.int va), .val (.int vb), .val (.int fr), .val (.int tt), .val (.ref b3), .val (.int (1 : Int32)), .val (.int (1 : Int32)), .val (.int inn), .val (.int vin), .unset, .unset] []))
    refine Go.step (fun _ k => XS.iconst X22.here hx rfl (hb hby at_156) k) ?_
    show Go _ _ _ _ _ _ _ (T22.setTop (mkF m 157 #[.val (.int qx), .val (.int qy), .val (.int qp), .val (.int qd), .val (.int va), .val (.int vb), .val (.int fr), .val (.int tt), .val (.ref b3), .val (.int (1 : Int32)), .val (.int (1 : Int32)), .val (.int inn), .val (.int vin), .unset, .unset] [(.int (0 : Int32))]))
    refine Go.step (fun _ k => XS.istore X22.here hx rfl (hb hby at_157) rfl (l' := #[.val (.int qx), .val (.int qy), .val (.int qp), .val (.int qd), .val (.int va), .val (.int vb), .val (.int fr), .val (.int tt), .val (.ref b3), .val (.int (1 : Int32)), .val (.int (1 : Int32)), .val (.int inn), .val (.int vin), .val (.int (0 : Int32)), .unset]) rfl k) ?_
    show Go _ _ _ _ _ _ _ (T22.setTop (mkF m 159 #[.val (.int qx), .val (.int qy), .val (.int qp), .val (.int qd), .val (.int va), .val (.int vb), .val (.int fr), .val (.int tt), .val (.ref b3), .val (.int (1 : Int32)), .val (.int (1 : Int32)), .val (.int inn), .val (.int vin), .val (.int (0 : Int32)), .unset] []))
    refine Go.step (fun _ k => XS.aload X22.here hx rfl (hb hby at_159) rfl rfl  k) ?_
    show Go _ _ _ _ _ _ _ (T22.setTop (mkF m 161 #[.val (.int qx), .val (.int qy), .val (.int qp), .val (.int qd), .val (.int va), .val (.int vb), .val (.int fr), .val (.int tt), .val (.ref b3), .val (.int (1 : Int32)), .val (.int (1 : Int32)), .val (.int inn), .val (.int vin), .val (.int (0 : Int32)), .unset] [(.ref b3)]))
    refine Go.step (fun _ k => XS.iloadN X22.here hx rfl (hb hby at_161) rfl  k) ?_
    show Go _ _ _ _ _ _ _ (T22.setTop (mkF m 162 #[.val (.int qx), .val (.int qy), .val (.int qp), .val (.int qd), .val (.int va), .val (.int vb), .val (.int fr), .val (.int tt), .val (.ref b3), .val (.int (1 : Int32)), .val (.int (1 : Int32)), .val (.int inn), .val (.int vin), .val (.int (0 : Int32)), .unset] [(.int qp), (.ref b3)]))
    obtain ⟨cq24, kq24, q24a, q24b, q24c⟩ := isOf hZ e22 c13_0
    obtain ⟨_, _, ⟨T24, L24, k24, n24⟩, -, X24, ⟨Lc24, hQ24, l24, y24, z24⟩, st24⟩ := X22.virtualBack hx (y := (⟨"com/example/sidewire/sidewire/net/PortRange", "contains", "(I)Z"⟩ : MethodName)) (z := (⟨"com/example/sidewire/sidewire/net/PortRange", "contains", "(I)Z"⟩ : MethodName)) hown (mvT hZ (hw _ (List.mem_of_getElem? (i := 32) rfl))) (mvT hZ (hw _ (List.mem_of_getElem? (i := 33) rfl))) (notFace_of_selects (args := #[]) (mvT hZ (hw _ (List.mem_of_getElem? (i := 35) rfl)))) (mvT hZ (hw _ (List.mem_of_getElem? (i := 35) rfl))) (mvT hZ (hw _ (List.mem_of_getElem? (i := 34) rfl))) (by decide) (backOf (W := 0) (rm7 l Z aZ hw [] b3 qp fr tt T13.heap n0 z14 c13_1 c13_2) hZ (hw _ (List.mem_of_getElem? (i := 36) rfl)) (hw _ (List.mem_of_getElem? (i := 11) rfl)) (by decide) (by decide)) q24a q24c (g := (mkF m 162 #[.val (.int qx), .val (.int qy), .val (.int qp), .val (.int qd), .val (.int va), .val (.int vb), .val (.int fr), .val (.int tt), .val (.ref b3), .val (.int (1 : Int32)), .val (.int (1 : Int32)), .val (.int inn), .val (.int vin), .val (.int (0 : Int32)), .unset] [(.int qp), (.ref b3)])) rfl (by rw [hml]; rfl) (Steps.refl _) (argsL := [(.int qp)]) (rest := []) (lenOf pd_4 rfl) rfl (by show 2 * 0 + _ ≤ _; exact Nat.le_of_eq rfl) (hb hby at_162) (fun _ _ => ⟨rfl, e22, (by decide : 1 + 0 ≤ _), (by decide : 2 + 0 ≤ _)⟩)
    dsimp only [Pt.U, Pt.locs, Pt.cells, Pt.slots] at X24 l24 y24 z24 st24 hQ24
    subst l24 y24 z24
    obtain ⟨rfl, Nq24, e24⟩ := hQ24
    have N24 := Fr.app N22 Nq24
    refine Go.tr st24 ?_
    show Go _ _ _ _ _ _ _ (T24.setTop (mkF m 165 #[.val (.int qx), .val (.int qy), .val (.int qp), .val (.int qd), .val (.int va), .val (.int vb), .val (.int fr), .val (.int tt), .val (.ref b3), .val (.int (1 : Int32)), .val (.int (1 : Int32)), .val (.int inn), .val (.int vin), .val (.int (0 : Int32)), .unset] [(.int (if qp < fr ∨ tt < qp then (0 : Int32) else 1))]))
    refine Go.step (fun _ k => XS.iload X24.here hx rfl (hb hby at_165) rfl  k) ?_
    show Go _ _ _ _ _ _ _ (T24.setTop (mkF m 167 #[.val (.int qx), .val (.int qy), .val (.int qp), .val (.int qd), .val (.int va), .val (.int vb), .val (.int fr), .val (.int tt), .val (.ref b3), .val (.int (1 : Int32)), .val (.int (1 : Int32)), .val (.int inn), .val (.int vin), .val (.int (0 : Int32)), .unset] [(.int (0 : Int32)), (.int (if qp < fr ∨ tt < qp then (0 : Int32) else 1))]))
    have hc167 : (if qp < fr ∨ tt < qp then (0 : Int32) else 1) = (0 : Int32) := own_clampN hc149
    refine Go.step (fun _ k => XS.icmpNo X24.here hx rfl (hb hby at_167) rfl (teq hc167).2 k) ?_
    show Go _ _ _ _ _ _ _ (T24.setTop (mkF m 170 #[.val (.int qx), .val (.int qy), .val (.int qp), .val (.int qd), .val (.int va), .val (.int vb), .val (.int fr), .val (.int tt), .val (.ref b3), .val (.int (1 : Int32)), .val (.int (1 : Int32)), .val (.int inn), .val (.int vin), .val (.int (0 : Int32)), .unset] []))
    refine Go.step (fun _ k => XS.iconst X24.here hx rfl (hb hby at_170) k) ?_
    show Go _ _ _ _ _ _ _ (T24.setTop (mkF m 171 #[.val (.int qx), .val (.int qy), .val (.int qp), .val (.int qd), .val (.int va), .val (.int vb), .val (.int fr), .val (.int tt), .val (.ref b3), .val (.int (1 : Int32)), .val (.int (1 : Int32)), .val (.int inn), .val (.int vin), .val (.int (0 : Int32)), .unset] [(.int (1 : Int32))]))
    refine Go.step (fun _ k => XS.goto X24.here hx rfl (pc0 := 171) (pc' := 175) rfl (hb hby at_171) (by decide) (by decide) k) ?_
    show Go _ _ _ _ _ _ _ (T24.setTop (mkF m 175 #[.val (.int qx), .val (.int qy), .val (.int qp), .val (.int qd), .val (.int va), .val (.int vb), .val (.int fr), .val (.int tt), .val (.ref b3), .val (.int (1 : Int32)), .val (.int (1 : Int32)), .val (.int inn), .val (.int vin), .val (.int (0 : Int32)), .unset] [(.int (1 : Int32))]))
    refine Go.step (fun _ k => XS.istore X24.here hx rfl (hb hby at_175) rfl (l' := #[.val (.int qx), .val (.int qy), .val (.int qp), .val (.int qd), .val (.int va), .val (.int vb), .val (.int fr), .val (.int tt), .val (.ref b3), .val (.int (1 : Int32)), .val (.int (1 : Int32)), .val (.int inn), .val (.int vin), .val (.int (0 : Int32)), .val (.int (1 : Int32))]) rfl k) ?_
    show Go _ _ _ _ _ _ _ (T24.setTop (mkF m 177 #[.val (.int qx), .val (.int qy), .val (.int qp), .val (.int qd), .val (.int va), .val (.int vb), .val (.int fr), .val (.int tt), .val (.ref b3), .val (.int (1 : Int32)), .val (.int (1 : Int32)), .val (.int inn), .val (.int vin), .val (.int (0 : Int32)), .val (.int (1 : Int32))] []))
    refine Go.step (fun _ k => XS.iload X24.here hx rfl (hb hby at_177) rfl  k) ?_
    show Go _ _ _ _ _ _ _ (T24.setTop (mkF m 179 #[.val (.int qx), .val (.int qy), .val (.int qp), .val (.int qd), .val (.int va), .val (.int vb), .val (.int fr), .val (.int tt), .val (.ref b3), .val (.int (1 : Int32)), .val (.int (1 : Int32)), .val (.int inn), .val (.int vin), .val (.int (0 : Int32)), .val (.int (1 : Int32))] [(.int (1 : Int32))]))
    have hc179 : ¬ ((1 : Int32) = (0 : Int32)) := by decide
    refine Go.step (fun _ k => XS.ifNo X24.here hx rfl (hb hby at_179) rfl ((if0 _ _).trans (feq hc179).1) k) ?_
    show Go _ _ _ _ _ _ _ (T24.setTop (mkF m 182 #[.val (.int qx), .val (.int qy), .val (.int qp), .val (.int qd), .val (.int va), .val (.int vb), .val (.int fr), .val (.int tt), .val (.ref b3), .val (.int (1 : Int32)), .val (.int (1 : Int32)), .val (.int inn), .val (.int vin), .val (.int (0 : Int32)), .val (.int (1 : Int32))] []))
    refine Go.step (fun _ k => XS.iload X24.here hx rfl (hb hby at_182) rfl  k) ?_
    show Go _ _ _ _ _ _ _ (T24.setTop (mkF m 184 #[.val (.int qx), .val (.int qy), .val (.int qp), .val (.int qd), .val (.int va), .val (.int vb), .val (.int fr), .val (.int tt), .val (.ref b3), .val (.int (1 : Int32)), .val (.int (1 : Int32)), .val (.int inn), .val (.int vin), .val (.int (0 : Int32)), .val (.int (1 : Int32))] [(.int (1 : Int32))]))
    have hc184 : ¬ ((1 : Int32) = (0 : Int32)) := hc179
    refine Go.step (fun _ k => XS.ifNo X24.here hx rfl (hb hby at_184) rfl ((if0 _ _).trans (feq hc184).1) k) ?_
    show Go _ _ _ _ _ _ _ (T24.setTop (mkF m 187 #[.val (.int qx), .val (.int qy), .val (.int qp), .val (.int qd), .val (.int va), .val (.int vb), .val (.int fr), .val (.int tt), .val (.ref b3), .val (.int (1 : Int32)), .val (.int (1 : Int32)), .val (.int inn), .val (.int vin), .val (.int (0 : Int32)), .val (.int (1 : Int32))] []))
    refine Go.step (fun _ k => XS.iload X24.here hx rfl (hb hby at_187) rfl  k) ?_
    show Go _ _ _ _ _ _ _ (T24.setTop (mkF m 189 #[.val (.int qx), .val (.int qy), .val (.int qp), .val (.int qd), .val (.int va), .val (.int vb), .val (.int fr), .val (.int tt), .val (.ref b3), .val (.int (1 : Int32)), .val (.int (1 : Int32)), .val (.int inn), .val (.int vin), .val (.int (0 : Int32)), .val (.int (1 : Int32))] [(.int vin)]))
    have hc189 : ¬ (vin = (0 : Int32)) := hvin
    refine Go.step (fun _ k => XS.ifNo X24.here hx rfl (hb hby at_189) rfl ((if0 _ _).trans (feq hc189).1) k) ?_
    show Go _ _ _ _ _ _ _ (T24.setTop (mkF m 192 #[.val (.int qx), .val (.int qy), .val (.int qp), .val (.int qd), .val (.int va), .val (.int vb), .val (.int fr), .val (.int tt), .val (.ref b3), .val (.int (1 : Int32)), .val (.int (1 : Int32)), .val (.int inn), .val (.int vin), .val (.int (0 : Int32)), .val (.int (1 : Int32))] []))
    refine Go.step (fun _ k => XS.iload X24.here hx rfl (hb hby at_192) rfl  k) ?_
    show Go _ _ _ _ _ _ _ (T24.setTop (mkF m 194 #[.val (.int qx), .val (.int qy), .val (.int qp), .val (.int qd), .val (.int va), .val (.int vb), .val (.int fr), .val (.int tt), .val (.ref b3), .val (.int (1 : Int32)), .val (.int (1 : Int32)), .val (.int inn), .val (.int vin), .val (.int (0 : Int32)), .val (.int (1 : Int32))] [(.int (1 : Int32))]))
    have hc194 : ¬ ((1 : Int32) = (0 : Int32)) := hc184
    refine Go.step (fun _ k => XS.ifNo X24.here hx rfl (hb hby at_194) rfl ((if0 _ _).trans (feq hc194).1) k) ?_
    show Go _ _ _ _ _ _ _ (T24.setTop (mkF m 197 #[.val (.int qx), .val (.int qy), .val (.int qp), .val (.int qd), .val (.int va), .val (.int vb), .val (.int fr), .val (.int tt), .val (.ref b3), .val (.int (1 : Int32)), .val (.int (1 : Int32)), .val (.int inn), .val (.int vin), .val (.int (0 : Int32)), .val (.int (1 : Int32))] []))
    refine Go.step (fun _ k => XS.iconst X24.here hx rfl (hb hby at_197) k) ?_
    show Go _ _ _ _ _ _ _ (T24.setTop (mkF m 198 #[.val (.int qx), .val (.int qy), .val (.int qp), .val (.int qd), .val (.int va), .val (.int vb), .val (.int fr), .val (.int tt), .val (.ref b3), .val (.int (1 : Int32)), .val (.int (1 : Int32)), .val (.int inn), .val (.int vin), .val (.int (0 : Int32)), .val (.int (1 : Int32))] [(.int (1 : Int32))]))
    refine Go.step (fun _ k => XS.goto X24.here hx rfl (pc0 := 198) (pc' := 202) rfl (hb hby at_198) (by decide) (by decide) k) ?_
    show Go _ _ _ _ _ _ _ (T24.setTop (mkF m 202 #[.val (.int qx), .val (.int qy), .val (.int qp), .val (.int qd), .val (.int va), .val (.int vb), .val (.int fr), .val (.int tt), .val (.ref b3), .val (.int (1 : Int32)), .val (.int (1 : Int32)), .val (.int inn), .val (.int vin), .val (.int (0 : Int32)), .val (.int (1 : Int32))] [(.int (1 : Int32))]))
    refine Go.retN X24 hx (t := .boolean) Bd.returns (by simp) hlk (hb hby at_202) ?_ (by decide) (by decide)
    rw [e24]
    exact ⟨(by first | rfl | (simp_all [own_nb1, own_nb0]; done)), N24⟩
set_option maxRecDepth 65536 in
set_option maxHeartbeats 40000000 in
theorem comes_1 {Post : Tables → Env → Array Value → State → Outcome → State → Prop} (hpost : ∀ tb e args s v u, (limb_1_1.after args s (.returned v) u = true ∧ limb_1_2.after args s (.returned v) u = true ∧ True) → FrameEnd s (.returned v) u (Jvm.fieldLocs frame_1_writes args s ++ Jvm.arrayLocs frame_1_arrays args s ++ Jvm.staticLocs frame_1_statics s) 16 128 → Post tb e args s (.returned v) u) :
    ArmFor flags0 classFile x code maxLocals ret World_1 tables_1 room_1 Calls_1 rest_1 Pre_1 Post := by
  intro l hfl _ _ p e ha hc hk s m args below hf hA hF happ hP
  obtain ⟨hcalls, hrest, hpre⟩ := hP
  obtain ⟨-, -, -, hnamed, -, -, -, hat⟩ := (Spec.applies_iff hf).mp happ
  obtain ⟨hg, hn⟩ := and_e (Cond.before_iff.mp (show (Jvm.Cond.and given_1 narrow_1).before args s = true from hpre))
  obtain ⟨g0, r0⟩ := and_e hg
  obtain ⟨a0, r1⟩ := and_e r0
  obtain ⟨a1, r2⟩ := and_e r1
  obtain ⟨a2, r3⟩ := and_e r2
  have a3 := r3
  obtain ⟨w0, w1, w2, w3, rfl⟩ : ∃ w0 w1 w2 w3 : Value, args = #[w0, w1, w2, w3] := by
    have hs : args.size = 4 := by simpa [Cond.value, given_1] using g0
    obtain ⟨L⟩ := args
    match L, hs with
    | [w0, w1, w2, w3], _ => exact ⟨w0, w1, w2, w3, rfl⟩
  have hw := fun d (hd : d ∈ tables_1) => atoms_spec (ws := Jvm.Cond.code x code maxLocals ret :: tables_1) hat d (List.mem_cons_of_mem _ hd)
  have hfit : Fit s := fun {y c} hc i hi => by
    obtain ⟨ha, rfl⟩ := Array.getElem?_eq_some_iff.mp hc
    have q := List.all_eq_true.mp ((Array.all_eq_true_iff_forall_mem.mp hF) _ (Array.getElem_mem ha)) i (List.mem_range.mpr hi)
    simpa [Array.getElem?_eq_getElem hi] using q
  obtain ⟨i0, ei0⟩ := is_v a0
  obtain rfl : w0 = (.int i0) := Option.some.inj ei0
  obtain ⟨i1, ei1⟩ := is_v a1
  obtain rfl : w1 = (.int i1) := Option.some.inj ei1
  obtain ⟨i2, ei2⟩ := is_v a2
  obtain rfl : w2 = (.int i2) := Option.some.inj ei2
  obtain ⟨i3, ei3⟩ := is_v a3
  obtain rfl : w3 = (.int i3) := Option.some.inj ei3
  obtain ⟨n, o, h1, h2, h3, _, L, rfl, ⟨rfl, N⟩, hq⟩ := rm0 l s _ hw tables_1 i0 i1 i2 i3  s.heap s.heap.size (Nat.le_refl _)  p e ha hc hk s m _ below hf ((Spec.applies_iff_loose hf).mp happ).1 ⟨rfl, State.Warmed39.refl s, rfl⟩ trivial
  refine ⟨n, _, h1, h2, h3, hpost _ _ _ _ _ _ ⟨Cond.after_iff.mpr rfl, Cond.after_iff.mpr (eq_i res_at (Term.int_eval (1)) rfl), trivial⟩ ⟨hq.1, hq.2.1, (hq.2.2.sift fun y hy => Or.inr (N y hy)).mono (by decide) (by decide)⟩⟩
theorem main_1_1 : Claimed_1_1 := comes_1 fun _ _ _ _ _ _ h hF => ⟨h.1, hF⟩
theorem main_1_2 : Claimed_1_2 := comes_1 fun _ _ _ _ _ _ h hF => ⟨h.2.1, hF⟩
end Jvm.Pilot.@@N@@
namespace Jvm.Pilot.@@N@@
open Jvm Jvm.ClassFile Sem Op Lib Jvm.Free Jvm.Stand Jvm.Pilot.@@N@@.Jvm.D
/-! MADE BY PROGRAM (witnessworld.py) out of the Statement's table words and the real class files: 12 classes; the members and pool entries that the words name. The judged class is class 1, her method 1. -/
namespace start1
open Jvm.ClassFile
def u (s : String) : CpInfo := .utf8 (stringToUtf16 s)
/-- a pool by its gaps: so many unusable entries, then the entry; so many at the end -/
def gap : Nat → List CpInfo → List CpInfo
  | 0, r => r
  | n + 1, r => .unusable :: gap n r
def poolList (es : List (Nat × CpInfo)) (last : Nat) : List CpInfo := es.foldr (fun e r => gap e.1 (e.2 :: r)) (gap last [])
def pool (es : List (Nat × CpInfo)) (last : Nat) : Array CpInfo := ⟨poolList es last⟩
def fileOf (pool : Array CpInfo) (this : Nat) (attrs : Array Attribute := #[]) (ms : Array MethodInfo := #[]) (fl : Nat := 33) (sup : Nat := 0) (ifs : Array Nat := #[]) (fds : Array FieldInfo := #[]) : ClassFile where
  minorVersion := 0
  majorVersion := 65
  constantPool := pool
  accessFlags := fl
  thisClass := this
  superClass := sup
  interfaces := ifs
  fields := fds
  methods := ms
  attributes := attrs
def plain (name : String) (sup : Option ClassId) : Class where
  name := name
  kind := .ordinary
  loader := none
  accessFlags := 33
  super := sup
  interfaces := #[]
  cf := none
  fields := #[]
  methods := #[]
  instanceTypes := #[]
  staticTypes := #[]
  resolved := #[]
  callSites := []
  init := .initialized
  statics := none
  mirror := none

def pool0 : Array CpInfo := pool [(5, u "<init>"), (0, u "()V"), (1, .class_ 10), (1, u "java/lang/Object")] 113

def k0c0 : Code := { maxStack := 0, maxLocals := 1, code := object_method_1_code, exceptionTable := #[], attributes := #[] }
def k0m0 : Method := { name := "<init>", desc := "()V", sig := { parameters := [], returnType := none }, accessFlags := 1, code := some k0c0 }
/-- java/lang/Object -/
def k0 : Class := { plain "java/lang/Object" none with
  accessFlags := 33
  interfaces := #[]
  cf := some (fileOf pool0 8 #[] #[{ accessFlags := 1, nameIndex := 5, descriptorIndex := 6, attributes := #[] }] 33 0 #[] #[])
  fields := #[]
  methods := #[k0m0]
  instanceTypes := #[]
  staticTypes := #[]
  resolved := Array.replicate 124 none
  statics := none }

def pool1 : Array CpInfo := pool [(2, .class_ 4), (1, u "java/lang/Object"), (0, u "<init>"), (0, u "()V"), (0, .integer 2147483647), (0, .integer 65535), (0, .methodref 10 11), (0, .class_ 12), (0, .nameAndType 13 14), (0, u "java/lang/Math"), (0, u "min"), (0, u "(II)I"), (0, .methodref 10 16), (0, .nameAndType 17 14), (0, u "max"), (0, .class_ 19), (0, u "com/example/sidewire/sidewire/net/PortRange"), (0, .methodref 18 21), (0, .nameAndType 5 22), (0, u "(II)V"), (0, .methodref 18 24), (0, .nameAndType 25 26), (0, u "contains"), (0, u "(I)Z"), (0, .class_ 28), (0, u "com/example/sidewire/sidewire/net/PortRangeContainsPinLaw"), (2, u "law"), (0, u "(IIII)Z")] 3

def k1m0 : Method := { name := "<init>", desc := "()V", sig := { parameters := [], returnType := none }, accessFlags := 2, code := none }
def k1c1 : Code := { maxStack := 4, maxLocals := 15, code := code, exceptionTable := #[], attributes := #[] }
def k1m1 : Method := { name := "law", desc := "(IIII)Z", sig := { parameters := [.int, .int, .int, .int], returnType := some .boolean }, accessFlags := 9, code := some k1c1 }
/-- com/example/sidewire/sidewire/net/PortRangeContainsPinLaw -/
def k1 : Class := { plain "com/example/sidewire/sidewire/net/PortRangeContainsPinLaw" (some 0) with
  accessFlags := 49
  interfaces := #[]
  cf := some (fileOf pool1 27 #[] #[{ accessFlags := 2, nameIndex := 5, descriptorIndex := 6, attributes := #[] }, { accessFlags := 9, nameIndex := 31, descriptorIndex := 32, attributes := #[] }] 49 2 #[] #[])
  fields := #[]
  methods := #[k1m0, k1m1]
  instanceTypes := #[]
  staticTypes := #[]
  resolved := Array.replicate 36 none
  statics := none }

def pool2 : Array CpInfo := pool [(1, .class_ 2), (0, u "java/lang/Math"), (1, .class_ 6), (1, u "java/lang/Object"), (0, u "<init>"), (0, u "()V"), (89, .class_ 100), (1, u "java/lang/Math$RandomNumberGeneratorHolder"), (71, u "negativeZeroFloatBits"), (0, u "J"), (2, u "negativeZeroDoubleBits"), (21, u "max"), (2, u "min"), (43, u "$assertionsDisabled"), (0, u "Z"), (88, u "(II)I"), (2, u "twoToTheDoubleScaleDown"), (0, u "D"), (4, u "twoToTheDoubleScaleUp"), (9, u "E"), (3, u "PI"), (2, u "TAU"), (2, u "DEGREES_TO_RADIANS"), (0, u "RADIANS_TO_DEGREES")] 94

def k2m0 : Method := { name := "<init>", desc := "()V", sig := { parameters := [], returnType := none }, accessFlags := 2, code := none }
def k2c1 : Code := { maxStack := 2, maxLocals := 2, code := jdk_29_method_65_code, exceptionTable := #[], attributes := #[] }
def k2m1 : Method := { name := "max", desc := "(II)I", sig := { parameters := [.int, .int], returnType := some .int }, accessFlags := 9, code := some k2c1 }
def k2c2 : Code := { maxStack := 2, maxLocals := 2, code := jdk_29_method_69_code, exceptionTable := #[], attributes := #[] }
def k2m2 : Method := { name := "min", desc := "(II)I", sig := { parameters := [.int, .int], returnType := some .int }, accessFlags := 9, code := some k2c2 }
/-- java/lang/Math -/
def k2 : Class := { plain "java/lang/Math" (some 0) with
  accessFlags := 49
  interfaces := #[]
  cf := some (fileOf pool2 1 #[.nestMembers #[98]] #[{ accessFlags := 2, nameIndex := 7, descriptorIndex := 8, attributes := #[] }, { accessFlags := 9, nameIndex := 198, descriptorIndex := 335, attributes := #[] }, { accessFlags := 9, nameIndex := 201, descriptorIndex := 335, attributes := #[] }] 49 4 #[] #[{ accessFlags := 25, nameIndex := 354, descriptorIndex := 339, attributes := #[] }, { accessFlags := 25, nameIndex := 358, descriptorIndex := 339, attributes := #[] }, { accessFlags := 25, nameIndex := 361, descriptorIndex := 339, attributes := #[] }, { accessFlags := 26, nameIndex := 364, descriptorIndex := 339, attributes := #[] }, { accessFlags := 26, nameIndex := 365, descriptorIndex := 339, attributes := #[] }, { accessFlags := 26, nameIndex := 172, descriptorIndex := 173, attributes := #[] }, { accessFlags := 26, nameIndex := 176, descriptorIndex := 173, attributes := #[] }, { accessFlags := 8, nameIndex := 344, descriptorIndex := 339, attributes := #[] }, { accessFlags := 8, nameIndex := 338, descriptorIndex := 339, attributes := #[] }, { accessFlags := 4120, nameIndex := 245, descriptorIndex := 246, attributes := #[] }])
  fields := #[{ name := "E", type := .double, accessFlags := 25, slot := 0, constantValue := 0 }, { name := "PI", type := .double, accessFlags := 25, slot := 1, constantValue := 0 }, { name := "TAU", type := .double, accessFlags := 25, slot := 2, constantValue := 0 }, { name := "DEGREES_TO_RADIANS", type := .double, accessFlags := 26, slot := 3, constantValue := 0 }, { name := "RADIANS_TO_DEGREES", type := .double, accessFlags := 26, slot := 4, constantValue := 0 }, { name := "negativeZeroFloatBits", type := .long, accessFlags := 26, slot := 5, constantValue := 0 }, { name := "negativeZeroDoubleBits", type := .long, accessFlags := 26, slot := 6, constantValue := 0 }, { name := "twoToTheDoubleScaleUp", type := .double, accessFlags := 8, slot := 7, constantValue := 0 }, { name := "twoToTheDoubleScaleDown", type := .double, accessFlags := 8, slot := 8, constantValue := 0 }, { name := "$assertionsDisabled", type := .boolean, accessFlags := 4120, slot := 9, constantValue := 0 }]
  methods := #[k2m0, k2m1, k2m2]
  instanceTypes := #[]
  staticTypes := #[.double, .double, .double, .double, .double, .long, .long, .double, .double, .boolean]
  resolved := Array.replicate 460 none
  statics := none }

def pool3 : Array CpInfo := pool [(1, .methodref 2 3), (0, .class_ 4), (0, .nameAndType 5 6), (0, u "java/lang/Object"), (0, u "<init>"), (0, u "()V"), (0, .class_ 8), (0, u "java/lang/Record")] 13

def k3c0 : Code := { maxStack := 1, maxLocals := 1, code := jdk_30_method_1_code, exceptionTable := #[], attributes := #[] }
def k3m0 : Method := { name := "<init>", desc := "()V", sig := { parameters := [], returnType := none }, accessFlags := 4, code := some k3c0 }
/-- java/lang/Record -/
def k3 : Class := { plain "java/lang/Record" (some 0) with
  accessFlags := 1057
  interfaces := #[]
  cf := some (fileOf pool3 7 #[] #[{ accessFlags := 4, nameIndex := 5, descriptorIndex := 6, attributes := #[] }] 1057 2 #[] #[])
  fields := #[]
  methods := #[k3m0]
  instanceTypes := #[]
  staticTypes := #[]
  resolved := Array.replicate 22 none
  statics := none }

def pool4 : Array CpInfo := pool [(1, .methodref 2 3), (0, .class_ 4), (0, .nameAndType 5 6), (0, u "java/lang/Record"), (0, u "<init>"), (0, u "()V"), (0, .methodref 8 9), (0, .class_ 10), (0, .nameAndType 11 12), (0, u "com/example/sidewire/sidewire/net/TcpPorts"), (0, u "check"), (0, u "(I)I"), (9, .fieldref 23 24), (0, .class_ 25), (0, .nameAndType 26 27), (0, u "com/example/sidewire/sidewire/net/PortRange"), (0, u "from"), (0, u "I"), (0, .fieldref 23 29), (0, .nameAndType 30 27), (0, u "to"), (20, u "(II)V"), (20, u "contains"), (0, u "(I)Z")] 39

def k4c0 : Code := { maxStack := 4, maxLocals := 3, code := prog_23_method_1_code, exceptionTable := #[], attributes := #[] }
def k4m0 : Method := { name := "<init>", desc := "(II)V", sig := { parameters := [.int, .int], returnType := none }, accessFlags := 1, code := some k4c0 }
def k4c1 : Code := { maxStack := 2, maxLocals := 2, code := prog_23_method_3_code, exceptionTable := #[], attributes := #[] }
def k4m1 : Method := { name := "contains", desc := "(I)Z", sig := { parameters := [.int], returnType := some .boolean }, accessFlags := 1, code := some k4c1 }
/-- com/example/sidewire/sidewire/net/PortRange -/
def k4 : Class := { plain "com/example/sidewire/sidewire/net/PortRange" (some 3) with
  accessFlags := 49
  interfaces := #[]
  cf := some (fileOf pool4 23 #[] #[{ accessFlags := 1, nameIndex := 5, descriptorIndex := 51, attributes := #[] }, { accessFlags := 1, nameIndex := 72, descriptorIndex := 73, attributes := #[] }] 49 2 #[] #[{ accessFlags := 18, nameIndex := 26, descriptorIndex := 27, attributes := #[] }, { accessFlags := 18, nameIndex := 30, descriptorIndex := 27, attributes := #[] }])
  fields := #[{ name := "from", type := .int, accessFlags := 18, slot := 0, constantValue := 0 }, { name := "to", type := .int, accessFlags := 18, slot := 1, constantValue := 0 }]
  methods := #[k4m0, k4m1]
  instanceTypes := #[.int, .int]
  staticTypes := #[]
  resolved := Array.replicate 113 none
  statics := none }

def pool5 : Array CpInfo := pool [(2, .class_ 4), (1, u "java/lang/Object"), (0, u "<init>"), (0, u "()V"), (24, .class_ 33), (1, u "com/example/sidewire/sidewire/net/TcpPorts"), (0, u "check"), (0, u "(I)I"), (0, .integer 65535), (3, u "MAX"), (0, u "I")] 24

def k5m0 : Method := { name := "<init>", desc := "()V", sig := { parameters := [], returnType := none }, accessFlags := 2, code := none }
def k5c1 : Code := { maxStack := 3, maxLocals := 1, code := prog_25_method_3_code, exceptionTable := #[], attributes := #[] }
def k5m1 : Method := { name := "check", desc := "(I)I", sig := { parameters := [.int], returnType := some .int }, accessFlags := 9, code := some k5c1 }
/-- com/example/sidewire/sidewire/net/TcpPorts -/
def k5 : Class := { plain "com/example/sidewire/sidewire/net/TcpPorts" (some 0) with
  accessFlags := 33
  interfaces := #[]
  cf := some (fileOf pool5 31 #[] #[{ accessFlags := 2, nameIndex := 5, descriptorIndex := 6, attributes := #[] }, { accessFlags := 9, nameIndex := 34, descriptorIndex := 35, attributes := #[] }] 33 2 #[] #[{ accessFlags := 25, nameIndex := 40, descriptorIndex := 41, attributes := #[] }])
  fields := #[{ name := "MAX", type := .int, accessFlags := 25, slot := 0, constantValue := 0 }]
  methods := #[k5m0, k5m1]
  instanceTypes := #[]
  staticTypes := #[.int]
  resolved := Array.replicate 66 none
  statics := none }

def pool6 : Array CpInfo := pool [(1, u "java/lang/Cloneable"), (0, .class_ 1), (0, u "java/lang/Object"), (0, .class_ 3)] 3

/-- java/lang/Cloneable -/
def k6 : Class := { plain "java/lang/Cloneable" (some 0) with
  accessFlags := 1537
  interfaces := #[]
  cf := some (fileOf pool6 2 #[] #[] 1537 4 #[] #[])
  fields := #[]
  methods := #[]
  instanceTypes := #[]
  staticTypes := #[]
  resolved := Array.replicate 8 none
  statics := none }

def pool7 : Array CpInfo := pool [(1, u "java/io/Serializable"), (0, .class_ 1), (0, u "java/lang/Object"), (0, .class_ 3)] 3

/-- java/io/Serializable -/
def k7 : Class := { plain "java/io/Serializable" (some 0) with
  accessFlags := 1537
  interfaces := #[]
  cf := some (fileOf pool7 2 #[] #[] 1537 4 #[] #[])
  fields := #[]
  methods := #[]
  instanceTypes := #[]
  staticTypes := #[]
  resolved := Array.replicate 8 none
  statics := none }

/-- the primitive byte -/
def k8 : Class := { plain "byte" none with kind := .primitive 'B', accessFlags := 0x411 }
/-- [B -/
def k9 : Class := { plain "[B" (some 0) with kind := .array 8 .byte, interfaces := #[6, 7], accessFlags := 1041 }

/-- the primitive int -/
def k10 : Class := { plain "int" none with kind := .primitive 'I', accessFlags := 0x411 }
/-- [I -/
def k11 : Class := { plain "[I" (some 0) with kind := .array 10 .int, interfaces := #[6, 7], accessFlags := 1041 }

def heap : Heap := #[]
def classes : Array Class := #[k0, k1, k2, k3, k4, k5, k6, k7, k8, k9, k10, k11]
def interned : List (Array UInt16 × Addr) := []
def slotsUsed : Nat := 0
def theMethod : MethodId := ⟨1, 1⟩
def args0 : Array Value := #[.int 5, .int 3, .int 1, .int 2]
def aboutOver (below : List Frame) : State where
  vm := { classes := classes, interned := interned.toArray }
  heap := heap
  slotsUsed := slotsUsed
  threads := #[{ frames := .invoking theMethod args0 :: below }]
def below0 : List Frame := [.native { method := ⟨0, 0⟩, args := #[] }]
def about1 : State := aboutOver below0
def p0 : Program := .bare "" "" ""
def e0 : Env := launch0.env 0 0 0
theorem w_frames : about1.frames = Frame.invoking theMethod args0 :: below0 := rfl
set_option maxRecDepth 65536 in
theorem w_args : argsFit about1.vm theMethod args0 = true := by decide +kernel
set_option maxRecDepth 65536 in
theorem w_heap : heapFits about1 = true := by decide +kernel
set_option maxRecDepth 65536 in
theorem w_runnable : about1.curStatus? = some .runnable := by decide +kernel
set_option maxRecDepth 65536 in
theorem w_alone : about1.alone = true := by decide +kernel
set_option maxRecDepth 65536 in
theorem w_named : about1.methodNamed? x = some theMethod := by decide +kernel
set_option maxRecDepth 65536 in
theorem w_hears : about1.hears theMethod below0 = true := by decide +kernel
set_option maxRecDepth 65536 in
theorem w_ripe : about1.ripe theMethod args0 below0 = true := by decide +kernel
theorem w_running : about1.status = .running := rfl
set_option maxRecDepth 65536 in
theorem w_room : about1.hasRoom e0.platform room_1 = true :=
  launch0.hasRoom_least _ room_1 (by decide +kernel) (by decide +kernel) (by decide +kernel) (by decide +kernel) (by decide +kernel) (by decide +kernel)
theorem allAtoms_all (ts : List Jvm.Cond) (a : Array Jvm.Value) (st : Jvm.State) : (allAtoms ts).before a st = ts.all (fun c => c.before a st) := by
  induction ts with
  | nil => rfl
  | cons c t ih =>
    show (Jvm.Cond.and c (allAtoms t)).before a st = _
    rw [Jvm.Cond.before_and, ih, List.all_cons]
def words1 : List Jvm.Cond := Jvm.Cond.code x code maxLocals ret :: tables_1
/-- a 'code' word, met by the world's own term for the bytes: nothing is compared byte by byte -/
theorem code_word {y : MethodName} {bytes : ByteArray} {mx : Nat} {rt : Option FieldType} {a : Array Value} {s : State} {m : MethodId} {meth : Method} {c : Code} (h1 : s.methodNamed? y = some m) (h2 : s.vm.method? m = some meth) (h3 : meth.code = some c) (h4 : c.code = bytes)
    (h5 : (c.maxLocals == mx && c.exceptionTable.isEmpty && decide (c.maxStack ≤ mostOperands) && decide (meth.sig.returnType = rt) && !meth.locks && decide (parseMethodDescriptor y.desc = some meth.sig)) = true) : (Jvm.Cond.code y bytes mx rt).before a s = true := by
  simp only [Bool.and_eq_true, beq_iff_eq, Bool.not_eq_true', decide_eq_true_eq] at h5
  obtain ⟨⟨⟨⟨⟨g1, g2⟩, g3⟩, g4⟩, g5⟩, g6⟩ := h5
  simp [Cond.before, Cond.holds, Cond.value, h1, h2, h3, h4, g1, g2, g3, g4, g5, g6]
def isCode : Jvm.Cond → Bool
  | .code _ _ _ _ => true
  | _ => false
theorem all_split {L : List Jvm.Cond} {P : Jvm.Cond → Bool} (h1 : L.all (fun c => isCode c || P c) = true) (h2 : ∀ c ∈ L.filter isCode, P c = true) : L.all P = true := by
  refine List.all_eq_true.mpr fun c hc => ?_
  have h := List.all_eq_true.mp h1 c hc
  rcases Bool.eq_false_or_eq_true (isCode c) with hi | hi
  · exact h2 c (List.mem_filter.mpr ⟨hc, hi⟩)
  · simpa [hi] using h
set_option maxRecDepth 65536 in
theorem w_c0 : (Jvm.Cond.code x code maxLocals ret).before args0 about1 = true := code_word (m := ⟨1, 1⟩) (meth := k1m1) (c := k1c1) (by decide +kernel) rfl rfl rfl (by decide +kernel)
set_option maxRecDepth 65536 in
theorem w_c1 : (Jvm.Cond.code ({ cls := "java/lang/Math", name := "min", desc := "(II)I" } : Jvm.MethodName) jdk_29_method_69_code (2 : Nat) (Option.some Jvm.ClassFile.FieldType.int)).before args0 about1 = true := code_word (m := ⟨2, 2⟩) (meth := k2m2) (c := k2c2) (by decide +kernel) rfl rfl rfl (by decide +kernel)
set_option maxRecDepth 65536 in
theorem w_c2 : (Jvm.Cond.code ({ cls := "java/lang/Math", name := "max", desc := "(II)I" } : Jvm.MethodName) jdk_29_method_65_code (2 : Nat) (Option.some Jvm.ClassFile.FieldType.int)).before args0 about1 = true := code_word (m := ⟨2, 1⟩) (meth := k2m1) (c := k2c1) (by decide +kernel) rfl rfl rfl (by decide +kernel)
set_option maxRecDepth 65536 in
theorem w_c3 : (Jvm.Cond.code ({ cls := "com/example/sidewire/sidewire/net/PortRange", name := "<init>", desc := "(II)V" } : Jvm.MethodName) prog_23_method_1_code (3 : Nat) (Option.none : Option Jvm.ClassFile.FieldType)).before args0 about1 = true := code_word (m := ⟨4, 0⟩) (meth := k4m0) (c := k4c0) (by decide +kernel) rfl rfl rfl (by decide +kernel)
set_option maxRecDepth 65536 in
theorem w_c4 : (Jvm.Cond.code ({ cls := "java/lang/Record", name := "<init>", desc := "()V" } : Jvm.MethodName) jdk_30_method_1_code (1 : Nat) (Option.none : Option Jvm.ClassFile.FieldType)).before args0 about1 = true := code_word (m := ⟨3, 0⟩) (meth := k3m0) (c := k3c0) (by decide +kernel) rfl rfl rfl (by decide +kernel)
set_option maxRecDepth 65536 in
theorem w_c5 : (Jvm.Cond.code ({ cls := "java/lang/Object", name := "<init>", desc := "()V" } : Jvm.MethodName) object_method_1_code (1 : Nat) (Option.none : Option Jvm.ClassFile.FieldType)).before args0 about1 = true := code_word (m := ⟨0, 0⟩) (meth := k0m0) (c := k0c0) (by decide +kernel) rfl rfl rfl (by decide +kernel)
set_option maxRecDepth 65536 in
theorem w_c6 : (Jvm.Cond.code ({ cls := "com/example/sidewire/sidewire/net/TcpPorts", name := "check", desc := "(I)I" } : Jvm.MethodName) prog_25_method_3_code (1 : Nat) (Option.some Jvm.ClassFile.FieldType.int)).before args0 about1 = true := code_word (m := ⟨5, 1⟩) (meth := k5m1) (c := k5c1) (by decide +kernel) rfl rfl rfl (by decide +kernel)
set_option maxRecDepth 65536 in
theorem w_c7 : (Jvm.Cond.code ({ cls := "com/example/sidewire/sidewire/net/PortRange", name := "contains", desc := "(I)Z" } : Jvm.MethodName) prog_23_method_3_code (2 : Nat) (Option.some Jvm.ClassFile.FieldType.boolean)).before args0 about1 = true := code_word (m := ⟨4, 1⟩) (meth := k4m1) (c := k4c1) (by decide +kernel) rfl rfl rfl (by decide +kernel)
def codes1 : List Jvm.Cond := [Jvm.Cond.code x code maxLocals ret, Jvm.Cond.code ({ cls := "java/lang/Math", name := "min", desc := "(II)I" } : Jvm.MethodName) jdk_29_method_69_code (2 : Nat) (Option.some Jvm.ClassFile.FieldType.int), Jvm.Cond.code ({ cls := "java/lang/Math", name := "max", desc := "(II)I" } : Jvm.MethodName) jdk_29_method_65_code (2 : Nat) (Option.some Jvm.ClassFile.FieldType.int), Jvm.Cond.code ({ cls := "com/example/sidewire/sidewire/net/PortRange", name := "<init>", desc := "(II)V" } : Jvm.MethodName) prog_23_method_1_code (3 : Nat) (Option.none : Option Jvm.ClassFile.FieldType), Jvm.Cond.code ({ cls := "java/lang/Record", name := "<init>", desc := "()V" } : Jvm.MethodName) jdk_30_method_1_code (1 : Nat) (Option.none : Option Jvm.ClassFile.FieldType), Jvm.Cond.code ({ cls := "java/lang/Object", name := "<init>", desc := "()V" } : Jvm.MethodName) object_method_1_code (1 : Nat) (Option.none : Option Jvm.ClassFile.FieldType), Jvm.Cond.code ({ cls := "com/example/sidewire/sidewire/net/TcpPorts", name := "check", desc := "(I)I" } : Jvm.MethodName) prog_25_method_3_code (1 : Nat) (Option.some Jvm.ClassFile.FieldType.int), Jvm.Cond.code ({ cls := "com/example/sidewire/sidewire/net/PortRange", name := "contains", desc := "(I)Z" } : Jvm.MethodName) prog_23_method_3_code (2 : Nat) (Option.some Jvm.ClassFile.FieldType.boolean)]
set_option maxRecDepth 65536 in
theorem codes_eq : words1.filter isCode = codes1 := rfl
theorem w_codes : ∀ c ∈ words1.filter isCode, c.before args0 about1 = true := by
  rw [codes_eq]
  intro c hc
  simp only [codes1, List.mem_cons, List.not_mem_nil, or_false] at hc
  rcases hc with rfl | rfl | rfl | rfl | rfl | rfl | rfl | rfl
  · exact w_c0
  · exact w_c1
  · exact w_c2
  · exact w_c3
  · exact w_c4
  · exact w_c5
  · exact w_c6
  · exact w_c7
set_option maxRecDepth 65536 in
theorem w_t1 : (words1.take 24).all (fun c => isCode c || c.before args0 about1) = true := by decide +kernel
set_option maxRecDepth 65536 in
theorem w_t2 : (words1.drop 24).all (fun c => isCode c || c.before args0 about1) = true := by decide +kernel
theorem w_tables : (allAtoms (Jvm.Cond.code x code maxLocals ret :: tables_1)).before args0 about1 = true := by
  rw [allAtoms_all]
  show words1.all (fun c => c.before args0 about1) = true
  refine all_split ?_ w_codes
  rw [← List.take_append_drop 24 words1, List.all_append, w_t1, w_t2]
  rfl
set_option maxRecDepth 65536 in
theorem w_case : (Jvm.Cond.and given_1 narrow_1).before args0 about1 = true := by decide +kernel
theorem w_applies : (headSpec (Jvm.Cond.code x code maxLocals ret :: tables_1) room_1).applies x e0.platform about1 = true :=
  (Spec.applies_iff w_frames).mpr ⟨w_running, w_runnable, w_alone, w_named, w_hears, w_ripe, w_room, w_tables⟩
theorem atStart : AtStart classFile x code maxLocals ret World_1 tables_1 room_1 Calls_1 rest_1 Pre_1 launch0 p0 e0 about1 theMethod args0 below0 :=
  ⟨lists_1, trivial, launch0.admits_env _ _ _, launch0.least_env, fairChoices_fair.cas, fairChoices_fair.clock, w_frames, w_args, w_heap, w_applies, trivial, trivial, w_case⟩
end start1
theorem witness_1 : WitnessClaimed_1 := ⟨start1.p0, start1.e0, start1.about1, start1.theMethod, start1.args0, start1.below0, start1.atStart⟩
end Jvm.Pilot.@@N@@
