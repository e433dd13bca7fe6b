import JvmDerived
import JvmDerived.Pilot.@@N@@Statement
import JvmDerived.Pilot.@@N@@Code
set_option linter.unusedVariables false
set_option linter.unusedSimpArgs false
namespace Jvm.Pilot.@@N@@
open Jvm Jvm.ClassFile Sem Op Lib Jvm.Free Jvm.Stand Jvm.LawKit Jvm.RoadKit Bundle Jvm.Pilot.@@N@@.Jvm.D
section Own
variable {p : Program} {l : Launch} {e : Env} {R : Room} {s : State} {m : MethodId} {args : Array Value} {below : List Frame} {meth : Method} {c : Code} {T : State} {locs : List Loc} {cells slots : Nat} {C N : Nat} {Q : Option Value → Heap → List Loc → Prop} {S S' : State} {Z : State} {h h' : Heap}
/-- from the state S the invocation ends in a return, and Q holds there -/
def Go (p : Program) (e : Env) (below : List Frame) (s : State) (C N : Nat) (Q : Option Value → Heap → List Loc → Prop) (S : State) : Prop :=
  ∃ s₂ o, Steps p.tables e below S s₂ ∧ s₂.status = .running ∧ Ended s₂ below o ∧ ∃ v L, o = .returned v ∧ Q v s₂.heap L ∧ FrameEnd s o s₂ L C N
theorem Go.step (st : ∀ t, Steps p.tables e below S' t → Steps p.tables e below S t) (G : Go p e below s C N Q S') : Go p e below s C N Q S := by
  obtain ⟨s₂, o, h, r⟩ := G
  exact ⟨s₂, o, st _ h, r⟩
theorem Go.tr (st : Steps p.tables e below S S') (G : Go p e below s C N Q S') : Go p e below s C N Q S := by
  obtain ⟨s₂, o, h, r⟩ := G
  exact ⟨s₂, o, st.trans h, r⟩
theorem Go.out (X : Stand p l e R s m args below meth c T locs cells slots) {v : Option Value} {g : JFrame} (hv : meth.sig.returnType = none → v = none) (hlk : meth.locks = false)
    (hst : ∀ fs, (∀ (f : JFrame) (acts : List Action), f.method = m → f.locked = none → f.entered = [] → (doReturn e (T.setTop f) acts v).1 = T.setFrames fs) → Steps p.tables e below (T.setTop g) (T.setFrames fs))
    (hQ : Q v T.heap locs) (hc : cells ≤ C) (hn : slots ≤ N) : Go p e below s C N Q (T.setTop g) := by
  obtain ⟨fs, hr, hrun, hended, hW, hsame⟩ := X.leave (v := v) hv hlk
  exact ⟨_, _, hst fs hr, hrun, hended, _, _, rfl, hQ, ⟨_, rfl⟩, hW, hsame.mono hc hn⟩
theorem Go.retV (X : Stand p l e R s m args below meth c T locs cells slots) (hx : p.tables.exec = Jvm.exec) {pc : Nat} {Ls : Array Slot} (hret : meth.sig.returnType = none) (hlk : meth.locks = false) (hd : decode c.code pc = .ok (.return_, 1))
    (hQ : Q none T.heap locs) (hc : cells ≤ C) (hn : slots ≤ N) : Go p e below s C N Q (T.setTop (mkF m pc Ls [])) :=
  Go.out X (fun _ => rfl) hlk (fun fs hr => X.returnOut hx hret hd hr) hQ hc hn
theorem Go.retI (X : Stand p l e R s m args below meth c T locs cells slots) (hx : p.tables.exec = Jvm.exec) {pc : Nat} {Ls : Array Slot} {z : Int32} {rest : List Value} (hret : meth.sig.returnType = some .int) (hlk : meth.locks = false) (hd : decode c.code pc = .ok (.ireturn, 1))
    (hQ : Q (some (.int z)) T.heap locs) (hc : cells ≤ C) (hn : slots ≤ N) : Go p e below s C N Q (T.setTop (mkF m pc Ls (.int z :: rest))) :=
  Go.out X (fun h => by rw [hret] at h; cases h) hlk (fun fs hr => retOut X hx hret rfl (Or.inl ⟨rfl, Or.inl rfl, z, rfl⟩) hd hr) hQ hc hn
theorem Go.retN (X : Stand p l e R s m args below meth c T locs cells slots) (hx : p.tables.exec = Jvm.exec) {pc : Nat} {Ls : Array Slot} {z : Int32} {t : FieldType} {rest : List Value} (hret : meth.sig.returnType = some t) (ht : t = .boolean ∨ t = .byte ∨ t = .char ∨ t = .short) (hlk : meth.locks = false) (hd : decode c.code pc = .ok (.ireturn, 1))
    (hQ : Q (some (.int (nar t z))) T.heap locs) (hc : cells ≤ C) (hn : slots ≤ N) : Go p e below s C N Q (T.setTop (mkF m pc Ls (.int z :: rest))) :=
  Go.out X (fun h => by rw [hret] at h; cases h) hlk (fun fs hr => Jvm.RoadKit.retN X hx hret ht hd hr) hQ hc hn
theorem Go.retJ (X : Stand p l e R s m args below meth c T locs cells slots) (hx : p.tables.exec = Jvm.exec) {pc : Nat} {Ls : Array Slot} {z : Int64} {rest : List Value} (hret : meth.sig.returnType = some .long) (hlk : meth.locks = false) (hd : decode c.code pc = .ok (.lreturn, 1))
    (hQ : Q (some (.long z)) T.heap locs) (hc : cells ≤ C) (hn : slots ≤ N) : Go p e below s C N Q (T.setTop (mkF m pc Ls (.long z :: rest))) :=
  Go.out X (fun h => by rw [hret] at h; cases h) hlk (fun fs hr => retOut X hx hret rfl (Or.inr (Or.inl ⟨rfl, rfl, z, rfl⟩)) hd hr) hQ hc hn
theorem Go.retA (X : Stand p l e R s m args below meth c T locs cells slots) (hx : p.tables.exec = Jvm.exec) {pc : Nat} {Ls : Array Slot} {w : Value} {t : FieldType} {rest : List Value} (hret : meth.sig.returnType = some t) (ht : t.isReference = true) (hw : w.isRef = true) (hlk : meth.locks = false) (hd : decode c.code pc = .ok (.areturn, 1))
    (hQ : Q (some w) T.heap locs) (hc : cells ≤ C) (hn : slots ≤ N) : Go p e below s C N Q (T.setTop (mkF m pc Ls (w :: rest))) :=
  Go.out X (fun h => by rw [hret] at h; cases h) hlk (fun fs hr => retOut X hx hret (by rcases ref_cases hw with rfl | ⟨a, rfl⟩ <;> cases t <;> first | rfl | cases ht) (Or.inr (Or.inr (Or.inr (Or.inr ⟨rfl, ht, hw⟩)))) hd hr) hQ hc hn
/-- an array of ints, bytes ..: z places, the j-th holds f j -/
def Ai (Z : State) (h : Heap) (a : Addr) (ty : FieldType) (z : Int32) (f : Int32 → Int32) : Prop :=
  ∃ c : Cell, Arr Z h a c ty ∧ c.slots.size = z.toNatClampNeg ∧ ¬ z < 0 ∧ ∀ j : Int32, ¬ j < 0 → j < z → c.slots[j.toNatClampNeg]? = some (.int (f j))
theorem own_inb {cl : Cell} {z j : Int32} (S : cl.slots.size = z.toNatClampNeg) (h0 : ¬ j < 0) (h1 : j < z) : ¬ (j < 0 ∨ cl.slots.size ≤ j.toNatClampNeg) := inb_of S ⟨h0, h1⟩
theorem Ai.lt {a : Addr} {ty : FieldType} {z : Int32} {f : Int32 → Int32} (F : Ai Z h a ty z f) : a < h.size := by obtain ⟨c, A, -⟩ := F; exact A.lt
theorem Ai.nn {a : Addr} {ty : FieldType} {z : Int32} {f : Int32 → Int32} (F : Ai Z h a ty z f) : ¬ z < 0 := by obtain ⟨c, -, -, q, -⟩ := F; exact q
theorem Ai.ext {a : Addr} {ty : FieldType} {z : Int32} {f : Int32 → Int32} (F : Ai Z h a ty z f) (E : Ext h h') : Ai Z h' a ty z f := by obtain ⟨c, A, r⟩ := F; exact ⟨c, A.ext E, r⟩
theorem Ai.other {a b : Addr} {sl : Nat} {v : Value} {ty : FieldType} {z : Int32} {f : Int32 → Int32} (F : Ai Z h b ty z f) (W : Wr h h' a sl v) (q : b ≠ a) : Ai Z h' b ty z f := by obtain ⟨c, A, r⟩ := F; exact ⟨c, A.other W q, r⟩
theorem Ai.keep {a : Addr} {ws : List Addr} {ty : FieldType} {z : Int32} {f : Int32 → Int32} (F : Ai Z h a ty z f) (K : Keep h h' ws) (q : a ∉ ws) : Ai Z h' a ty z f := by obtain ⟨c, A, r⟩ := F; exact ⟨c, ⟨K.2.1 a c A.1 q, A.2⟩, r⟩
theorem Ai.new {a : Addr} {k : ClassId} {ty : FieldType} {z : Int32} (A : Arr Z h a (newA k ty z) ty) (q : ¬ z < 0) (hd : defaultValue ty = .int 0) : Ai Z h a ty z (fun _ => 0) :=
  ⟨_, A, sz_new _ _ _, q, fun j h0 h1 => by rw [get_new (sz_new k ty z ▸ own_inb (sz_new k ty z) h0 h1), hd]⟩
theorem Ai.eqf {a : Addr} {ty : FieldType} {z : Int32} {f g : Int32 → Int32} (F : Ai Z h a ty z f) (q : ∀ j : Int32, ¬ j < 0 → j < z → f j = g j) : Ai Z h a ty z g := by
  obtain ⟨c, A, S, n, H⟩ := F; exact ⟨c, A, S, n, fun j h0 h1 => by rw [← q j h0 h1]; exact H j h0 h1⟩
theorem Ai.set {a : Addr} {ty : FieldType} {z j x : Int32} {f : Int32 → Int32} (F : Ai Z h a ty z f) (h0 : ¬ j < 0) (h1 : j < z) (W : Wr h h' a j.toNatClampNeg (.int x)) : Ai Z h' a ty z (fun i => if i = j then x else f i) := by
  obtain ⟨c, A, S, n, H⟩ := F
  refine ⟨_, A.same W, by rw [sz_set]; exact S, n, fun i g0 g1 => ?_⟩
  by_cases e : i = j
  · rw [get_hit (own_inb S h0 h1) e]; simp [e]
  · rw [get_miss h0 g0 e, H i g0 g1]; simp [e]
theorem Ai.len (X : Stand p l e R s m args below meth c T locs cells slots) (hx : p.tables.exec = Jvm.exec) (hZ : Z.Warmed39 s.vm) (eT : T.heap = h) {a : Addr} {ty : FieldType} {z : Int32} {f : Int32 → Int32} (F : Ai Z h a ty z f)
    {g : JFrame} (hg : g.method = m) {rest : List Value} (hs : g.stack = .ref a :: rest) (hd : decode c.code g.pc = .ok (.arraylength, 1)) : ∀ target, Steps p.tables e below (T.setTop { g with pc := g.pc + 1, stack := .int z :: rest }) target → Steps p.tables e below (T.setTop g) target := by
  obtain ⟨cl, A, S, n, H⟩ := F
  intro t k
  refine X.arraylength hx (by rw [eT]; exact A.1) (State.isArrayOf_alike hZ.alike A.2.1) hg hs hd _ ?_
  rw [len_of S n]; exact k
theorem Ai.iaload (X : Stand p l e R s m args below meth c T locs cells slots) (hx : p.tables.exec = Jvm.exec) (hZ : Z.Warmed39 s.vm) (eT : T.heap = h) {a : Addr} {z j : Int32} {f : Int32 → Int32} (F : Ai Z h a .int z f) (h0 : ¬ j < 0) (h1 : j < z)
    {g : JFrame} (hg : g.method = m) {rest : List Value} (hs : g.stack = .int j :: .ref a :: rest) (hd : decode c.code g.pc = .ok (.iaload, 1)) : ∀ target, Steps p.tables e below (T.setTop { g with pc := g.pc + 1, stack := .int (f j) :: rest }) target → Steps p.tables e below (T.setTop g) target := by
  obtain ⟨cl, A, S, n, H⟩ := F
  exact X.iaload hx (by rw [eT]; exact A.1) (State.isArrayOf_alike hZ.alike A.2.1) A.2.2 (own_inb S h0 h1) (H j h0 h1) hg hs hd
theorem Ai.baload (X : Stand p l e R s m args below meth c T locs cells slots) (hx : p.tables.exec = Jvm.exec) (hZ : Z.Warmed39 s.vm) (eT : T.heap = h) {a : Addr} {z j : Int32} {f : Int32 → Int32} (F : Ai Z h a .byte z f) (h0 : ¬ j < 0) (h1 : j < z)
    {g : JFrame} (hg : g.method = m) {rest : List Value} (hs : g.stack = .int j :: .ref a :: rest) (hd : decode c.code g.pc = .ok (.baload, 1)) : ∀ target, Steps p.tables e below (T.setTop { g with pc := g.pc + 1, stack := .int (f j) :: rest }) target → Steps p.tables e below (T.setTop g) target := by
  obtain ⟨cl, A, S, n, H⟩ := F
  exact X.baloadBytes hx (by rw [eT]; exact A.1) (State.isArrayOf_alike hZ.alike A.2.1) A.2.2 (own_inb S h0 h1) (H j h0 h1) hg hs hd
theorem Ai.stI (X : Stand p l e R s m args below meth c T locs cells slots) (hx : p.tables.exec = Jvm.exec) (hZ : Z.Warmed39 s.vm) (eT : T.heap = h) {a : Addr} {z j x : Int32} {f : Int32 → Int32} (F : Ai Z h a .int z f) (h0 : ¬ j < 0) (h1 : j < z)
    {g : JFrame} (hg : g.method = m) {rest : List Value} (hs : g.stack = .int x :: .int j :: .ref a :: rest) (hd : decode c.code g.pc = .ok (.iastore, 1)) :
    ∃ T' h', Stand p l e R s m args below meth c T' (locs ++ [⟨a, j.toNatClampNeg⟩]) cells slots ∧ T'.heap = h' ∧ Wr h h' a j.toNatClampNeg (.int x) ∧ Ai Z h' a .int z (fun i => if i = j then x else f i) ∧ ∀ target, Steps p.tables e below (T'.setTop { g with pc := g.pc + 1, stack := rest }) target → Steps p.tables e below (T.setTop g) target := by
  obtain ⟨cl, A, S, n, H⟩ := F
  obtain ⟨T', h', X', e', W, st⟩ := Jvm.RoadKit.stI X hx hZ eT A (own_inb S h0 h1) hg hs hd
  exact ⟨T', h', X', e', W, Ai.set ⟨cl, A, S, n, H⟩ h0 h1 W, st⟩
theorem Ai.stB (X : Stand p l e R s m args below meth c T locs cells slots) (hx : p.tables.exec = Jvm.exec) (hZ : Z.Warmed39 s.vm) (eT : T.heap = h) {a : Addr} {z j x : Int32} {f : Int32 → Int32} (F : Ai Z h a .byte z f) (h0 : ¬ j < 0) (h1 : j < z)
    {g : JFrame} (hg : g.method = m) {rest : List Value} (hs : g.stack = .int x :: .int j :: .ref a :: rest) (hd : decode c.code g.pc = .ok (.bastore, 1)) :
    ∃ T' h', Stand p l e R s m args below meth c T' (locs ++ [⟨a, j.toNatClampNeg⟩]) cells slots ∧ T'.heap = h' ∧ Wr h h' a j.toNatClampNeg (.int (nar .byte x)) ∧ Ai Z h' a .byte z (fun i => if i = j then nar .byte x else f i) ∧ ∀ target, Steps p.tables e below (T'.setTop { g with pc := g.pc + 1, stack := rest }) target → Steps p.tables e below (T.setTop g) target := by
  obtain ⟨cl, A, S, n, H⟩ := F
  obtain ⟨T', h', X', e', W, st⟩ := Jvm.RoadKit.stB X hx hZ eT A (own_inb S h0 h1) hg hs hd
  exact ⟨T', h', X', e', W, Ai.set ⟨cl, A, S, n, H⟩ h0 h1 W, st⟩
end Own
theorem narrow_ref {t : FieldType} {v : Value} (hv : v.isRef = true) (ht : t.isReference = true) : narrow t v = v := by rcases ref_cases hv with rfl | ⟨a, rfl⟩ <;> cases t <;> first | rfl | cases ht
theorem fits_refV {t : FieldType} {v : Value} (hv : v.isRef = true) (ht : t.isReference = true) : fits t v = true := by rcases ref_cases hv with rfl | ⟨a, rfl⟩ <;> cases t <;> first | rfl | cases ht
theorem own_iincW {tb : Tables} [Ours tb] {e : Env} {below : List Frame} {T target : State} {m : MethodId} {c : Code} {g : JFrame} (h : At T m c below) (hx : tb.exec = Jvm.exec) (hg : g.method = m) {k : Nat} {cst : Int} {x : Int32} {l' : Array Slot} (hd : decode c.code g.pc = .ok (.iinc k cst, 6)) (hl : g.locals[k]? = some (.val (.int x))) (hl' : storeLocals g.locals k (.int (x + Int32.ofInt cst)) = some l')
    (hr : Steps tb e below (T.setTop { g with pc := g.pc + 6, locals := l' }) target) : Steps tb e below (T.setTop g) target := by
  subst hg
  jvm_step h [h.top, hx, hd, hl, hl']
  exact hr

theorem own_nb1 : nar .boolean 1 = 1 := by decide
theorem own_nb0 : nar .boolean 0 = 0 := by decide
theorem own_lo (a : Int32) : ¬ (if (1 : Int32) < (a &&& (2147483647 : Int32)) then (a &&& (2147483647 : Int32)) else (1 : Int32)) < 1 := by
  split
  · rename_i h; simp only [Int32.lt_iff_toInt_lt] at *; omega
  · decide
theorem own_span {lo : Int32} (h : ¬ lo < 1) : 0 < ((2147483647 : Int32) - lo + (1 : Int32)).toInt ∧ ((2147483647 : Int32) - lo + (1 : Int32)).toInt = 2147483648 - lo.toInt := by
  simp only [Int32.lt_iff_toInt_lt] at *
  have h1 := c_isub 2147483647 lo
  have h2 := c_iadd (2147483647 - lo) 1
  have h3 := rng32 lo
  have h4 := rng32 ((2147483647 : Int32) - lo)
  have h5 := rng32 ((2147483647 : Int32) - lo + (1 : Int32))
  have e1 : (2147483647 : Int32).toInt = 2147483647 := by decide
  have e2 : (1 : Int32).toInt = 1 := by decide
  rw [e1] at h1; rw [e2] at h2 h
  omega
theorem own_nz {lo : Int32} (h : ¬ lo < 1) : ((2147483647 : Int32) - lo + (1 : Int32)) ≠ 0 := fun q => by
  have := (own_span h).1
  rw [q] at this; revert this; decide
theorem own_hi {lo b sp : Int32} (h : ¬ lo < 1) (q : sp = ((2147483647 : Int32) - lo + (1 : Int32))) : ¬ (lo + (b &&& (2147483647 : Int32)) % sp) < lo := by
  have h0 := own_span h
  rw [← q] at h0
  have h1 := c_mask b 2147483647 31 (by decide) (by decide)
  have h2 := (c_iremV (b &&& 2147483647) sp).1 (by omega) h0.1
  have h3 := c_iadd lo ((b &&& (2147483647 : Int32)) % sp)
  have h4 := rng32 (lo + (b &&& (2147483647 : Int32)) % sp)
  have h5 := rng32 lo
  have e2 : (1 : Int32).toInt = 1 := by decide
  simp only [Int32.lt_iff_toInt_lt] at *
  rw [e2] at h
  omega
theorem own_g1 {lo hi r : Int32} (h : ¬ hi < lo) (h1 : r < lo) : (if (if lo < r then r else lo) < hi then (if lo < r then r else lo) else hi) = lo := by
  have h2 : ¬ lo < r := fun q => by simp only [Int32.lt_iff_toInt_lt] at *; omega
  rw [if_neg h2]; split
  · rfl
  · rename_i h3; simp only [Int32.lt_iff_toInt_lt, ← Int32.toInt_inj] at *; omega
theorem own_g2 {lo hi r : Int32} (h : ¬ hi < lo) (h1 : ¬ r < lo) (h2 : hi < r) : (if (if lo < r then r else lo) < hi then (if lo < r then r else lo) else hi) = hi := by
  have h3 : ¬ (if lo < r then r else lo) < hi := by split <;> (simp only [Int32.lt_iff_toInt_lt] at *; omega)
  rw [if_neg h3]
theorem own_g3 {lo hi r : Int32} (h1 : ¬ r < lo) (h2 : ¬ hi < r) : (if (if lo < r then r else lo) < hi then (if lo < r then r else lo) else hi) = r := by
  have h3 : (if lo < r then r else lo) = r := by
    split
    · rfl
    · simp only [Int32.lt_iff_toInt_lt, ← Int32.toInt_inj] at *; omega
  rw [h3]; split
  · rfl
  · simp only [Int32.lt_iff_toInt_lt, ← Int32.toInt_inj] at *; omega
theorem d1_0 : decode jdk_29_method_65_code 0 = .ok (.iload_n 0, 1) := by decide +kernel
theorem d1_1 : decode jdk_29_method_65_code 1 = .ok (.iload_n 1, 1) := by decide +kernel
theorem d1_2 : decode jdk_29_method_65_code 2 = .ok (.if_icmp .lt 7, 3) := by decide +kernel
theorem d1_5 : decode jdk_29_method_65_code 5 = .ok (.iload_n 0, 1) := by decide +kernel
theorem d1_6 : decode jdk_29_method_65_code 6 = .ok (.goto 4, 3) := by decide +kernel
theorem d1_9 : decode jdk_29_method_65_code 9 = .ok (.iload_n 1, 1) := by decide +kernel
theorem d1_10 : decode jdk_29_method_65_code 10 = .ok (.ireturn, 1) := by decide +kernel
theorem ef_1 (m : MethodId) (p0 : Int32) (p1 : Int32) : entryFrame m #[(.int p0), (.int p1)] 2 = mkF m 0 #[.val (.int p0), .val (.int p1)] [] := by first | (simp [entryFrame, mkF, argsToLocals, Value.category]; done) | rfl
def Q1 (Z : State) (p0 : Int32) (p1 : Int32) (h0 : Heap) (n0 : Nat) (v : Option Value) (h : Heap) (L : List Loc) : Prop := (v = some (.int (if p0 < p1 then p1 else p0))) ∧ (Fr n0 L) ∧ (h = h0)
set_option maxRecDepth 65536 in
set_option maxHeartbeats 40000000 in
theorem rm1 (l : Launch) (Z : State) (aZ : Array Value) (hw : ∀ d ∈ tables_1, d.before aZ Z = true) (ws : List Jvm.Cond) (p0 : Int32) (p1 : Int32) (h0 : Heap) (n0 : Nat) (Z0 : n0 ≤ h0.size)  :
    MetFree l (⟨"java/lang/Math", "max", "(II)I"⟩ : MethodName) (head1 (Jvm.Cond.code (⟨"java/lang/Math", "max", "(II)I"⟩ : MethodName) jdk_29_method_65_code 2 (some .int) :: ws) ({ frames := 0, cells := 0, slots := 0, locals := 0 } : Room)) (fun a U => a = #[(.int p0), (.int p1)] ∧ Z.Warmed39 U.vm ∧ U.heap = h0) (fun _ _ _ _ _ => True) (fun _ U o U' => ∃ v L, o = .returned v ∧ Q1 Z p0 p1 h0 n0 v U'.heap L ∧ FrameEnd U o U' L ({ frames := 0, cells := 0, slots := 0, locals := 0 } : Room).cells ({ frames := 0, cells := 0, slots := 0, locals := 0 } : Room).slots) := by
  refine MetFree.of_bodySF (Jvm.Free.JP.mathPlain rfl (by decide +kernel)) hisR ?_
  intro p e s m args below meth c s₁ Bd hml0 hP hK
  obtain ⟨rfl, hZ, hh⟩ := hP
  have hx := Bd.exec
  have hby := Bd.bytes
  have hml : c.maxLocals = 2 := hml0
  have hown : s.vm.findClass "java/lang/Math" = some m.cls := findClass_of_methodNamed Bd.named
  have hnm := (name_of_methodNamed Bd.named Bd.method).1
  have hlk : meth.locks = false := BodyLoose.notSynchronized Bd
  have X0 : Stand p l e ({ frames := 0, cells := 0, slots := 0, locals := 0 } : Room) s m #[(.int p0), (.int p1)] below meth c s₁ [] 0 0 := Stand.of_body Bd
  have e0 : s₁.heap = h0 := by rw [← hh, Bd.state]; rfl
  have N0 := Fr.nil n0
  have sq0 : h0.size ≤ h0.size := Nat.le_refl _
  change Go p e below s ({ frames := 0, cells := 0, slots := 0, locals := 0 } : Room).cells ({ frames := 0, cells := 0, slots := 0, locals := 0 } : Room).slots (Q1 Z p0 p1 h0 n0) (s₁.setTop (entryFrame m #[(.int p0), (.int p1)] 2))
  rw [ef_1 m p0 p1]
  show Go _ _ _ _ _ _ _ (s₁.setTop (mkF m 0 #[.val (.int p0), .val (.int p1)] []))
  refine Go.step (fun _ k => XS.iloadN X0.here hx rfl (hb hby d1_0) rfl  k) ?_
  show Go _ _ _ _ _ _ _ (s₁.setTop (mkF m 1 #[.val (.int p0), .val (.int p1)] [(.int p0)]))
  refine Go.step (fun _ k => XS.iloadN X0.here hx rfl (hb hby d1_1) rfl  k) ?_
  show Go _ _ _ _ _ _ _ (s₁.setTop (mkF m 2 #[.val (.int p0), .val (.int p1)] [(.int p1), (.int p0)]))
  by_cases hc2 : p0 < p1
  · skip
    refine Go.step (fun _ k => XS.icmpYes X0.here hx rfl (pc0 := 2) (pc' := 9) rfl (hb hby d1_2) rfl (tlt hc2).1 (by decide) (by decide) k) ?_
    show Go _ _ _ _ _ _ _ (s₁.setTop (mkF m 9 #[.val (.int p0), .val (.int p1)] []))
    refine Go.step (fun _ k => XS.iloadN X0.here hx rfl (hb hby d1_9) rfl  k) ?_
    show Go _ _ _ _ _ _ _ (s₁.setTop (mkF m 10 #[.val (.int p0), .val (.int p1)] [(.int p1)]))
    refine Go.retI X0 hx Bd.returns hlk (hb hby d1_10) ?_ (by decide) (by decide)
    rw [e0]
    exact ⟨(by first | rfl | rw [if_pos hc2] | rw [if_neg hc2]), N0, rfl⟩
  · skip
    refine Go.step (fun _ k => XS.icmpNo X0.here hx rfl (hb hby d1_2) rfl (flt hc2).1 k) ?_
    show Go _ _ _ _ _ _ _ (s₁.setTop (mkF m 5 #[.val (.int p0), .val (.int p1)] []))
    refine Go.step (fun _ k => XS.iloadN X0.here hx rfl (hb hby d1_5) rfl  k) ?_
    show Go _ _ _ _ _ _ _ (s₁.setTop (mkF m 6 #[.val (.int p0), .val (.int p1)] [(.int p0)]))
    refine Go.step (fun _ k => XS.goto X0.here hx rfl (pc0 := 6) (pc' := 10) rfl (hb hby d1_6) (by decide) (by decide) k) ?_
    show Go _ _ _ _ _ _ _ (s₁.setTop (mkF m 10 #[.val (.int p0), .val (.int p1)] [(.int p0)]))
    refine Go.retI X0 hx Bd.returns hlk (hb hby d1_10) ?_ (by decide) (by decide)
    rw [e0]
    exact ⟨(by first | rfl | rw [if_pos hc2] | rw [if_neg hc2]), N0, rfl⟩
theorem d6_0 : decode jdk_29_method_69_code 0 = .ok (.iload_n 0, 1) := by decide +kernel
theorem d6_1 : decode jdk_29_method_69_code 1 = .ok (.iload_n 1, 1) := by decide +kernel
theorem d6_2 : decode jdk_29_method_69_code 2 = .ok (.if_icmp .gt 7, 3) := by decide +kernel
theorem d6_5 : decode jdk_29_method_69_code 5 = .ok (.iload_n 0, 1) := by decide +kernel
theorem d6_6 : decode jdk_29_method_69_code 6 = .ok (.goto 4, 3) := by decide +kernel
theorem d6_9 : decode jdk_29_method_69_code 9 = .ok (.iload_n 1, 1) := by decide +kernel
theorem d6_10 : decode jdk_29_method_69_code 10 = .ok (.ireturn, 1) := by decide +kernel
theorem ef_6 (m : MethodId) (p0 : Int32) (p1 : Int32) : entryFrame m #[(.int p0), (.int p1)] 2 = mkF m 0 #[.val (.int p0), .val (.int p1)] [] := by first | (simp [entryFrame, mkF, argsToLocals, Value.category]; done) | rfl
def Q6 (Z : State) (p0 : Int32) (p1 : Int32) (h0 : Heap) (n0 : Nat) (v : Option Value) (h : Heap) (L : List Loc) : Prop := (v = some (.int (if p1 < p0 then p1 else p0))) ∧ (Fr n0 L) ∧ (h = h0)
set_option maxRecDepth 65536 in
set_option maxHeartbeats 40000000 in
theorem rm6 (l : Launch) (Z : State) (aZ : Array Value) (hw : ∀ d ∈ tables_1, d.before aZ Z = true) (ws : List Jvm.Cond) (p0 : Int32) (p1 : Int32) (h0 : Heap) (n0 : Nat) (Z0 : n0 ≤ h0.size)  :
    MetFree l (⟨"java/lang/Math", "min", "(II)I"⟩ : MethodName) (head1 (Jvm.Cond.code (⟨"java/lang/Math", "min", "(II)I"⟩ : MethodName) jdk_29_method_69_code 2 (some .int) :: ws) ({ frames := 0, cells := 0, slots := 0, locals := 0 } : Room)) (fun a U => a = #[(.int p0), (.int p1)] ∧ Z.Warmed39 U.vm ∧ U.heap = h0) (fun _ _ _ _ _ => True) (fun _ U o U' => ∃ v L, o = .returned v ∧ Q6 Z p0 p1 h0 n0 v U'.heap L ∧ FrameEnd U o U' L ({ frames := 0, cells := 0, slots := 0, locals := 0 } : Room).cells ({ frames := 0, cells := 0, slots := 0, locals := 0 } : Room).slots) := by
  refine MetFree.of_bodySF (Jvm.Free.JP.mathPlain rfl (by decide +kernel)) hisR ?_
  intro p e s m args below meth c s₁ Bd hml0 hP hK
  obtain ⟨rfl, hZ, hh⟩ := hP
  have hx := Bd.exec
  have hby := Bd.bytes
  have hml : c.maxLocals = 2 := hml0
  have hown : s.vm.findClass "java/lang/Math" = some m.cls := findClass_of_methodNamed Bd.named
  have hnm := (name_of_methodNamed Bd.named Bd.method).1
  have hlk : meth.locks = false := BodyLoose.notSynchronized Bd
  have X0 : Stand p l e ({ frames := 0, cells := 0, slots := 0, locals := 0 } : Room) s m #[(.int p0), (.int p1)] below meth c s₁ [] 0 0 := Stand.of_body Bd
  have e0 : s₁.heap = h0 := by rw [← hh, Bd.state]; rfl
  have N0 := Fr.nil n0
  have sq0 : h0.size ≤ h0.size := Nat.le_refl _
  change Go p e below s ({ frames := 0, cells := 0, slots := 0, locals := 0 } : Room).cells ({ frames := 0, cells := 0, slots := 0, locals := 0 } : Room).slots (Q6 Z p0 p1 h0 n0) (s₁.setTop (entryFrame m #[(.int p0), (.int p1)] 2))
  rw [ef_6 m p0 p1]
  show Go _ _ _ _ _ _ _ (s₁.setTop (mkF m 0 #[.val (.int p0), .val (.int p1)] []))
  refine Go.step (fun _ k => XS.iloadN X0.here hx rfl (hb hby d6_0) rfl  k) ?_
  show Go _ _ _ _ _ _ _ (s₁.setTop (mkF m 1 #[.val (.int p0), .val (.int p1)] [(.int p0)]))
  refine Go.step (fun _ k => XS.iloadN X0.here hx rfl (hb hby d6_1) rfl  k) ?_
  show Go _ _ _ _ _ _ _ (s₁.setTop (mkF m 2 #[.val (.int p0), .val (.int p1)] [(.int p1), (.int p0)]))
  by_cases hc2 : p1 < p0
  · skip
    refine Go.step (fun _ k => XS.icmpYes X0.here hx rfl (pc0 := 2) (pc' := 9) rfl (hb hby d6_2) rfl (tlt hc2).2.2.1 (by decide) (by decide) k) ?_
    show Go _ _ _ _ _ _ _ (s₁.setTop (mkF m 9 #[.val (.int p0), .val (.int p1)] []))
    refine Go.step (fun _ k => XS.iloadN X0.here hx rfl (hb hby d6_9) rfl  k) ?_
    show Go _ _ _ _ _ _ _ (s₁.setTop (mkF m 10 #[.val (.int p0), .val (.int p1)] [(.int p1)]))
    refine Go.retI X0 hx Bd.returns hlk (hb hby d6_10) ?_ (by decide) (by decide)
    rw [e0]
    exact ⟨(by first | rfl | rw [if_pos hc2] | rw [if_neg hc2]), N0, rfl⟩
  · skip
    refine Go.step (fun _ k => XS.icmpNo X0.here hx rfl (hb hby d6_2) rfl (flt hc2).2.2.1 k) ?_
    show Go _ _ _ _ _ _ _ (s₁.setTop (mkF m 5 #[.val (.int p0), .val (.int p1)] []))
    refine Go.step (fun _ k => XS.iloadN X0.here hx rfl (hb hby d6_5) rfl  k) ?_
    show Go _ _ _ _ _ _ _ (s₁.setTop (mkF m 6 #[.val (.int p0), .val (.int p1)] [(.int p0)]))
    refine Go.step (fun _ k => XS.goto X0.here hx rfl (pc0 := 6) (pc' := 10) rfl (hb hby d6_6) (by decide) (by decide) k) ?_
    show Go _ _ _ _ _ _ _ (s₁.setTop (mkF m 10 #[.val (.int p0), .val (.int p1)] [(.int p0)]))
    refine Go.retI X0 hx Bd.returns hlk (hb hby d6_10) ?_ (by decide) (by decide)
    rw [e0]
    exact ⟨(by first | rfl | rw [if_pos hc2] | rw [if_neg hc2]), N0, rfl⟩
theorem pn_0 : plainName "java/lang/Record" = true := by first | (simp [plainName, overriddenIn]; done) | decide +kernel
theorem d3_0 : decode jdk_30_method_1_code 0 = .ok (.aload_n 0, 1) := by decide +kernel
theorem d3_1 : decode jdk_30_method_1_code 1 = .ok (.invokespecial 1, 3) := by decide +kernel
theorem d3_4 : decode jdk_30_method_1_code 4 = .ok (.return_, 1) := by decide +kernel
theorem ef_3 (m : MethodId) (a0 : Addr) : entryFrame m #[(.ref a0)] 1 = mkF m 0 #[.val (.ref a0)] [] := by first | (simp [entryFrame, mkF, argsToLocals, Value.category]; done) | rfl
def Q3 (Z : State) (a0 : Addr) (h0 : Heap) (n0 : Nat) (v : Option Value) (h : Heap) (L : List Loc) : Prop := (v = none) ∧ (Fr n0 L) ∧ (h = h0)
set_option maxRecDepth 65536 in
set_option maxHeartbeats 40000000 in
theorem rm3 (l : Launch) (Z : State) (aZ : Array Value) (hw : ∀ d ∈ tables_1, d.before aZ Z = true) (ws : List Jvm.Cond) (a0 : Addr) (h0 : Heap) (n0 : Nat) (Z0 : n0 ≤ h0.size)  :
    MetFree l (⟨"java/lang/Record", "<init>", "()V"⟩ : MethodName) (head1 (Jvm.Cond.code (⟨"java/lang/Record", "<init>", "()V"⟩ : MethodName) jdk_30_method_1_code 1 none :: ws) ({ frames := 1, cells := 0, slots := 0, locals := 12 } : Room)) (fun a U => a = #[(.ref a0)] ∧ Z.Warmed39 U.vm ∧ U.heap = h0) (fun _ _ _ _ _ => True) (fun _ U o U' => ∃ v L, o = .returned v ∧ Q3 Z a0 h0 n0 v U'.heap L ∧ FrameEnd U o U' L ({ frames := 1, cells := 0, slots := 0, locals := 12 } : Room).cells ({ frames := 1, cells := 0, slots := 0, locals := 12 } : Room).slots) := by
  refine MetFree.of_bodySF (plainFor_of_name pn_0) hisR ?_
  intro p e s m args below meth c s₁ Bd hml0 hP hK
  obtain ⟨rfl, hZ, hh⟩ := hP
  have hx := Bd.exec
  have hby := Bd.bytes
  have hml : c.maxLocals = 1 := hml0
  have hown : s.vm.findClass "java/lang/Record" = some m.cls := findClass_of_methodNamed Bd.named
  have hnm := (name_of_methodNamed Bd.named Bd.method).1
  have hlk : meth.locks = false := BodyLoose.notSynchronized Bd
  have X0 : Stand p l e ({ frames := 1, cells := 0, slots := 0, locals := 12 } : Room) s m #[(.ref a0)] below meth c s₁ [] 0 0 := Stand.of_body Bd
  have e0 : s₁.heap = h0 := by rw [← hh, Bd.state]; rfl
  have N0 := Fr.nil n0
  have sq0 : h0.size ≤ h0.size := Nat.le_refl _
  change Go p e below s ({ frames := 1, cells := 0, slots := 0, locals := 12 } : Room).cells ({ frames := 1, cells := 0, slots := 0, locals := 12 } : Room).slots (Q3 Z a0 h0 n0) (s₁.setTop (entryFrame m #[(.ref a0)] 1))
  rw [ef_3 m a0]
  show Go _ _ _ _ _ _ _ (s₁.setTop (mkF m 0 #[.val (.ref a0)] []))
  refine Go.step (fun _ k => XS.aloadN X0.here hx rfl (hb hby d3_0) rfl rfl  k) ?_
  show Go _ _ _ _ _ _ _ (s₁.setTop (mkF m 1 #[.val (.ref a0)] [(.ref a0)]))
  obtain ⟨T1, X1, e1, st1⟩ := initO X0 hx hZ hown (hw _ (List.mem_of_getElem? (i := 16) rfl)) (hw _ (List.mem_of_getElem? (i := 17) rfl)) (hw _ (List.mem_of_getElem? (i := 18) rfl)) e0 (g := (mkF m 1 #[.val (.ref a0)] [(.ref a0)])) rfl (by rw [hml]; rfl) rfl (hb hby d3_1) (by decide) (W := 0) (by show 2 * 0 + _ ≤ _; exact Nat.le_of_eq rfl) (by decide)
  refine Go.step st1 ?_
  show Go _ _ _ _ _ _ _ (T1.setTop (mkF m 4 #[.val (.ref a0)] []))
  refine Go.retV X1 hx Bd.returns hlk (hb hby d3_4) ?_ (by decide) (by decide)
  rw [e1]
  exact ⟨(rfl), N0, rfl⟩
theorem pn_1 : plainName "com/example/punctual_lease/punctuallease/SessionTimeoutBounds" = true := by first | (simp [plainName, overriddenIn]; done) | decide +kernel
theorem pd_0 : parseMethodDescriptor "()V" = some ⟨[], none⟩ := by decide +kernel
theorem d2_0 : decode prog_7_method_1_code 0 = .ok (.aload_n 0, 1) := by decide +kernel
theorem d2_1 : decode prog_7_method_1_code 1 = .ok (.invokespecial 1, 3) := by decide +kernel
theorem d2_4 : decode prog_7_method_1_code 4 = .ok (.iload_n 1, 1) := by decide +kernel
theorem d2_5 : decode prog_7_method_1_code 5 = .ok (.iconst 1, 1) := by decide +kernel
theorem d2_6 : decode prog_7_method_1_code 6 = .ok (.if_icmp .ge 17, 3) := by decide +kernel
theorem d2_23 : decode prog_7_method_1_code 23 = .ok (.iload_n 1, 1) := by decide +kernel
theorem d2_24 : decode prog_7_method_1_code 24 = .ok (.iload_n 2, 1) := by decide +kernel
theorem d2_25 : decode prog_7_method_1_code 25 = .ok (.if_icmp .le 18, 3) := by decide +kernel
theorem d2_43 : decode prog_7_method_1_code 43 = .ok (.aload_n 0, 1) := by decide +kernel
theorem d2_44 : decode prog_7_method_1_code 44 = .ok (.iload_n 1, 1) := by decide +kernel
theorem d2_45 : decode prog_7_method_1_code 45 = .ok (.putfield 19, 3) := by decide +kernel
theorem d2_48 : decode prog_7_method_1_code 48 = .ok (.aload_n 0, 1) := by decide +kernel
theorem d2_49 : decode prog_7_method_1_code 49 = .ok (.iload_n 2, 1) := by decide +kernel
theorem d2_50 : decode prog_7_method_1_code 50 = .ok (.putfield 25, 3) := by decide +kernel
theorem d2_53 : decode prog_7_method_1_code 53 = .ok (.return_, 1) := by decide +kernel
theorem ef_2 (m : MethodId) (a0 : Addr) (p1 : Int32) (p2 : Int32) : entryFrame m #[(.ref a0), (.int p1), (.int p2)] 3 = mkF m 0 #[.val (.ref a0), .val (.int p1), .val (.int p2)] [] := by first | (simp [entryFrame, mkF, argsToLocals, Value.category]; done) | rfl
def Q2 (Z : State) (a0 : Addr) (p1 : Int32) (p2 : Int32) (h0 : Heap) (n0 : Nat) (v : Option Value) (h : Heap) (L : List Loc) : Prop := (v = none) ∧ (Fr n0 L) ∧ (Keep h0 h [a0]) ∧ (Exa Z h a0 "com/example/punctual_lease/punctuallease/SessionTimeoutBounds") ∧ (Fld Z h a0 "com/example/punctual_lease/punctuallease/SessionTimeoutBounds" "minMillis" "I" (.int p1)) ∧ (Fld Z h a0 "com/example/punctual_lease/punctuallease/SessionTimeoutBounds" "maxMillis" "I" (.int p2))
set_option maxRecDepth 65536 in
set_option maxHeartbeats 40000000 in
theorem rm2 (l : Launch) (Z : State) (aZ : Array Value) (hw : ∀ d ∈ tables_1, d.before aZ Z = true) (ws : List Jvm.Cond) (a0 : Addr) (p1 : Int32) (p2 : Int32) (h0 : Heap) (n0 : Nat) (Z0 : n0 ≤ h0.size) (E_0 : Exa Z h0 a0 "com/example/punctual_lease/punctuallease/SessionTimeoutBounds") (F_1 : Fld Z h0 a0 "com/example/punctual_lease/punctuallease/SessionTimeoutBounds" "minMillis" "I" (.int (0 : Int32))) (F_2 : Fld Z h0 a0 "com/example/punctual_lease/punctuallease/SessionTimeoutBounds" "maxMillis" "I" (.int (0 : Int32))) (g_3 : n0 ≤ a0) (h1 : ¬ p1 < 1) (h2 : ¬ p2 < p1) :
    MetFree l (⟨"com/example/punctual_lease/punctuallease/SessionTimeoutBounds", "<init>", "(II)V"⟩ : MethodName) (head1 (Jvm.Cond.code (⟨"com/example/punctual_lease/punctuallease/SessionTimeoutBounds", "<init>", "(II)V"⟩ : MethodName) prog_7_method_1_code 3 none :: ws) ({ frames := 2, cells := 0, slots := 0, locals := 24 } : Room)) (fun a U => a = #[(.ref a0), (.int p1), (.int p2)] ∧ Z.Warmed39 U.vm ∧ U.heap = h0) (fun _ _ _ _ _ => True) (fun _ U o U' => ∃ v L, o = .returned v ∧ Q2 Z a0 p1 p2 h0 n0 v U'.heap L ∧ FrameEnd U o U' L ({ frames := 2, cells := 0, slots := 0, locals := 24 } : Room).cells ({ frames := 2, cells := 0, slots := 0, locals := 24 } : Room).slots) := by
  refine MetFree.of_bodySF (plainFor_of_name pn_1) hisR ?_
  intro p e s m args below meth c s₁ Bd hml0 hP hK
  obtain ⟨rfl, hZ, hh⟩ := hP
  have hx := Bd.exec
  have hby := Bd.bytes
  have hml : c.maxLocals = 3 := hml0
  have hown : s.vm.findClass "com/example/punctual_lease/punctuallease/SessionTimeoutBounds" = some m.cls := findClass_of_methodNamed Bd.named
  have hnm := (name_of_methodNamed Bd.named Bd.method).1
  have hlk : meth.locks = false := BodyLoose.notSynchronized Bd
  have X0 : Stand p l e ({ frames := 2, cells := 0, slots := 0, locals := 24 } : Room) s m #[(.ref a0), (.int p1), (.int p2)] below meth c s₁ [] 0 0 := Stand.of_body Bd
  have e0 : s₁.heap = h0 := by rw [← hh, Bd.state]; rfl
  have N0 := Fr.nil n0
  have sq0 : h0.size ≤ h0.size := Nat.le_refl _
  have k0 : Keep h0 h0 [a0] := Keep.refl _ _
  change Go p e below s ({ frames := 2, cells := 0, slots := 0, locals := 24 } : Room).cells ({ frames := 2, cells := 0, slots := 0, locals := 24 } : Room).slots (Q2 Z a0 p1 p2 h0 n0) (s₁.setTop (entryFrame m #[(.ref a0), (.int p1), (.int p2)] 3))
  rw [ef_2 m a0 p1 p2]
  show Go _ _ _ _ _ _ _ (s₁.setTop (mkF m 0 #[.val (.ref a0), .val (.int p1), .val (.int p2)] []))
  refine Go.step (fun _ k => XS.aloadN X0.here hx rfl (hb hby d2_0) rfl rfl  k) ?_
  show Go _ _ _ _ _ _ _ (s₁.setTop (mkF m 1 #[.val (.ref a0), .val (.int p1), .val (.int p2)] [(.ref a0)]))
  obtain ⟨_, _, ⟨T1, L1, k1, n1⟩, -, X1, ⟨Lc1, hQ1, l1, y1, z1⟩, st1⟩ := X0.specialBack hx (y := (⟨"java/lang/Record", "<init>", "()V"⟩ : MethodName)) rfl hown (mvT hZ (hw _ (List.mem_of_getElem? (i := 11) rfl))) (mvT hZ (hw _ (List.mem_of_getElem? (i := 12) rfl))) (mvT hZ (hw _ (List.mem_of_getElem? (i := 15) rfl))) (by decide) (backOf (W := 0) (rm3 l Z aZ hw [] a0 h0 n0 Z0 ) hZ (hw _ (List.mem_of_getElem? (i := 15) rfl)) (hw _ (List.mem_of_getElem? (i := 14) rfl)) (by decide) (by decide)) (g := (mkF m 1 #[.val (.ref a0), .val (.int p1), .val (.int p2)] [(.ref a0)])) rfl (by rw [hml]; rfl) (Steps.refl _) (a := a0) (argsL := []) (rest := []) (lenOf pd_0 rfl) rfl (by show 2 * 0 + _ ≤ _; exact Nat.le_of_eq rfl) (hb hby d2_1) (fun _ _ => ⟨rfl, e0, (by decide : 0 + 0 ≤ _), (by decide : 0 + 0 ≤ _)⟩)
  dsimp only [Pt.U, Pt.locs, Pt.cells, Pt.slots] at X1 l1 y1 z1 st1 hQ1
  subst l1 y1 z1
  obtain ⟨rfl, Nq1, e1⟩ := hQ1
  have N1 := Fr.app N0 Nq1
  refine Go.tr st1 ?_
  show Go _ _ _ _ _ _ _ (T1.setTop (mkF m 4 #[.val (.ref a0), .val (.int p1), .val (.int p2)] []))
  refine Go.step (fun _ k => XS.iloadN X1.here hx rfl (hb hby d2_4) rfl  k) ?_
  show Go _ _ _ _ _ _ _ (T1.setTop (mkF m 5 #[.val (.ref a0), .val (.int p1), .val (.int p2)] [(.int p1)]))
  refine Go.step (fun _ k => XS.iconst X1.here hx rfl (hb hby d2_5) k) ?_
  show Go _ _ _ _ _ _ _ (T1.setTop (mkF m 6 #[.val (.ref a0), .val (.int p1), .val (.int p2)] [(.int (1 : Int32)), (.int p1)]))
  have hc6 : ¬ (p1 < (1 : Int32)) := h1
  refine Go.step (fun _ k => XS.icmpYes X1.here hx rfl (pc0 := 6) (pc' := 23) rfl (hb hby d2_6) rfl (flt hc6).2.1 (by decide) (by decide) k) ?_
  show Go _ _ _ _ _ _ _ (T1.setTop (mkF m 23 #[.val (.ref a0), .val (.int p1), .val (.int p2)] []))
  refine Go.step (fun _ k => XS.iloadN X1.here hx rfl (hb hby d2_23) rfl  k) ?_
  show Go _ _ _ _ _ _ _ (T1.setTop (mkF m 24 #[.val (.ref a0), .val (.int p1), .val (.int p2)] [(.int p1)]))
  refine Go.step (fun _ k => XS.iloadN X1.here hx rfl (hb hby d2_24) rfl  k) ?_
  show Go _ _ _ _ _ _ _ (T1.setTop (mkF m 25 #[.val (.ref a0), .val (.int p1), .val (.int p2)] [(.int p2), (.int p1)]))
  have hc25 : ¬ (p2 < p1) := h2
  refine Go.step (fun _ k => XS.icmpYes X1.here hx rfl (pc0 := 25) (pc' := 43) rfl (hb hby d2_25) rfl (flt hc25).2.2.2 (by decide) (by decide) k) ?_
  show Go _ _ _ _ _ _ _ (T1.setTop (mkF m 43 #[.val (.ref a0), .val (.int p1), .val (.int p2)] []))
  refine Go.step (fun _ k => XS.aloadN X1.here hx rfl (hb hby d2_43) rfl rfl  k) ?_
  show Go _ _ _ _ _ _ _ (T1.setTop (mkF m 44 #[.val (.ref a0), .val (.int p1), .val (.int p2)] [(.ref a0)]))
  refine Go.step (fun _ k => XS.iloadN X1.here hx rfl (hb hby d2_44) rfl  k) ?_
  show Go _ _ _ _ _ _ _ (T1.setTop (mkF m 45 #[.val (.ref a0), .val (.int p1), .val (.int p2)] [(.int p1), (.ref a0)]))
  obtain ⟨T2, h2, X2, e2, W2, st2⟩ := putF X1 hx hZ hown (host := "") (Or.inl (hw _ (List.mem_of_getElem? (i := 19) rfl))) Via.refl e1 F_1 E_0 (Or.inr ⟨(hw _ (List.mem_of_getElem? (i := 20) rfl)), rfl, hnm⟩) (hw _ (List.mem_of_getElem? (i := 6) rfl)) (ty := .int) (v := (.int p1)) (by decide) rfl rfl (g := (mkF m 45 #[.val (.ref a0), .val (.int p1), .val (.int p2)] [(.int p1), (.ref a0)])) rfl rfl (hb hby d2_45)
  refine Go.step st2 ?_
  have N2 := Fr.snoc X2 N1 g_3
  have z3 : n0 ≤ h2.size := Nat.le_trans Z0 (Keep.of_wr W2).1
  have sqz3 : h0.size ≤ h2.size := Nat.le_trans sq0 (Keep.of_wr W2).1
  have k4 : Keep h0 h2 [a0] := k0.wr W2 (Or.inl (List.mem_of_getElem? (i := 0) rfl))
  have f5 : Fld Z h2 a0 "com/example/punctual_lease/punctuallease/SessionTimeoutBounds" "minMillis" "I" (.int p1) := F_1.same W2
  show Go _ _ _ _ _ _ _ (T2.setTop (mkF m 48 #[.val (.ref a0), .val (.int p1), .val (.int p2)] []))
  refine Go.step (fun _ k => XS.aloadN X2.here hx rfl (hb hby d2_48) rfl rfl  k) ?_
  show Go _ _ _ _ _ _ _ (T2.setTop (mkF m 49 #[.val (.ref a0), .val (.int p1), .val (.int p2)] [(.ref a0)]))
  refine Go.step (fun _ k => XS.iloadN X2.here hx rfl (hb hby d2_49) rfl  k) ?_
  show Go _ _ _ _ _ _ _ (T2.setTop (mkF m 50 #[.val (.ref a0), .val (.int p1), .val (.int p2)] [(.int p2), (.ref a0)]))
  have f6 : Exa Z h2 a0 "com/example/punctual_lease/punctuallease/SessionTimeoutBounds" := (E_0.wr W2)
  have f7 : Fld Z h2 a0 "com/example/punctual_lease/punctuallease/SessionTimeoutBounds" "maxMillis" "I" (.int (0 : Int32)) := (F_2.other W2 (Or.inr (slot_ne (Or.inr (hw _ (List.mem_of_getElem? (i := 22) rfl))) (Or.inr (hw _ (List.mem_of_getElem? (i := 20) rfl))) (by decide) (t := .int) (t' := .int) (by decide) (by decide))))
  obtain ⟨T8, h8, X8, e8, W8, st8⟩ := putF X2 hx hZ hown (host := "") (Or.inl (hw _ (List.mem_of_getElem? (i := 21) rfl))) Via.refl e2 f7 f6 (Or.inr ⟨(hw _ (List.mem_of_getElem? (i := 22) rfl)), rfl, hnm⟩) (hw _ (List.mem_of_getElem? (i := 6) rfl)) (ty := .int) (v := (.int p2)) (by decide) rfl rfl (g := (mkF m 50 #[.val (.ref a0), .val (.int p1), .val (.int p2)] [(.int p2), (.ref a0)])) rfl rfl (hb hby d2_50)
  refine Go.step st8 ?_
  have N8 := Fr.snoc X8 N2 g_3
  have z9 : n0 ≤ h8.size := Nat.le_trans z3 (Keep.of_wr W8).1
  have sqz9 : h0.size ≤ h8.size := Nat.le_trans sqz3 (Keep.of_wr W8).1
  have k10 : Keep h0 h8 [a0] := k4.wr W8 (Or.inl (List.mem_of_getElem? (i := 0) rfl))
  have f11 : Fld Z h8 a0 "com/example/punctual_lease/punctuallease/SessionTimeoutBounds" "maxMillis" "I" (.int p2) := f7.same W8
  show Go _ _ _ _ _ _ _ (T8.setTop (mkF m 53 #[.val (.ref a0), .val (.int p1), .val (.int p2)] []))
  have f12 : Exa Z h8 a0 "com/example/punctual_lease/punctuallease/SessionTimeoutBounds" := (f6.wr W8)
  have f13 : Fld Z h8 a0 "com/example/punctual_lease/punctuallease/SessionTimeoutBounds" "minMillis" "I" (.int p1) := (f5.other W8 (Or.inr (slot_ne (Or.inr (hw _ (List.mem_of_getElem? (i := 20) rfl))) (Or.inr (hw _ (List.mem_of_getElem? (i := 22) rfl))) (by decide) (t := .int) (t' := .int) (by decide) (by decide))))
  refine Go.retV X8 hx Bd.returns hlk (hb hby d2_53) ?_ (by decide) (by decide)
  rw [e8]
  exact ⟨(rfl), N8, k10, f12, f13, f11⟩
theorem pd_1 : parseMethodDescriptor "(II)I" = some ⟨[.int, .int], some .int⟩ := by decide +kernel
theorem d5_0 : decode prog_7_method_3_code 0 = .ok (.aload_n 0, 1) := by decide +kernel
theorem d5_1 : decode prog_7_method_3_code 1 = .ok (.getfield 25, 3) := by decide +kernel
theorem d5_4 : decode prog_7_method_3_code 4 = .ok (.aload_n 0, 1) := by decide +kernel
theorem d5_5 : decode prog_7_method_3_code 5 = .ok (.getfield 19, 3) := by decide +kernel
theorem d5_8 : decode prog_7_method_3_code 8 = .ok (.iload_n 1, 1) := by decide +kernel
theorem d5_9 : decode prog_7_method_3_code 9 = .ok (.invokestatic 35, 3) := by decide +kernel
theorem d5_12 : decode prog_7_method_3_code 12 = .ok (.invokestatic 41, 3) := by decide +kernel
theorem d5_15 : decode prog_7_method_3_code 15 = .ok (.ireturn, 1) := by decide +kernel
theorem ef_5 (m : MethodId) (a0 : Addr) (p1 : Int32) : entryFrame m #[(.ref a0), (.int p1)] 2 = mkF m 0 #[.val (.ref a0), .val (.int p1)] [] := by first | (simp [entryFrame, mkF, argsToLocals, Value.category]; done) | rfl
def Q5 (Z : State) (a0 : Addr) (p1 : Int32) (w1 : Int32) (w2 : Int32) (h0 : Heap) (n0 : Nat) (v : Option Value) (h : Heap) (L : List Loc) : Prop := (v = some (.int (if (if w1 < p1 then p1 else w1) < w2 then (if w1 < p1 then p1 else w1) else w2))) ∧ (Fr n0 L) ∧ (h = h0)
set_option maxRecDepth 65536 in
set_option maxHeartbeats 40000000 in
theorem rm5 (l : Launch) (Z : State) (aZ : Array Value) (hw : ∀ d ∈ tables_1, d.before aZ Z = true) (ws : List Jvm.Cond) (a0 : Addr) (p1 : Int32) (w1 : Int32) (w2 : Int32) (h0 : Heap) (n0 : Nat) (Z0 : n0 ≤ h0.size) (F_0 : Fld Z h0 a0 "com/example/punctual_lease/punctuallease/SessionTimeoutBounds" "minMillis" "I" (.int w1)) (F_1 : Fld Z h0 a0 "com/example/punctual_lease/punctuallease/SessionTimeoutBounds" "maxMillis" "I" (.int w2)) :
    MetFree l (⟨"com/example/punctual_lease/punctuallease/SessionTimeoutBounds", "grant", "(I)I"⟩ : MethodName) (head1 (Jvm.Cond.code (⟨"com/example/punctual_lease/punctuallease/SessionTimeoutBounds", "grant", "(I)I"⟩ : MethodName) prog_7_method_3_code 2 (some .int) :: ws) ({ frames := 1, cells := 0, slots := 0, locals := 14 } : Room)) (fun a U => a = #[(.ref a0), (.int p1)] ∧ Z.Warmed39 U.vm ∧ U.heap = h0) (fun _ _ _ _ _ => True) (fun _ U o U' => ∃ v L, o = .returned v ∧ Q5 Z a0 p1 w1 w2 h0 n0 v U'.heap L ∧ FrameEnd U o U' L ({ frames := 1, cells := 0, slots := 0, locals := 14 } : Room).cells ({ frames := 1, cells := 0, slots := 0, locals := 14 } : Room).slots) := by
  refine MetFree.of_bodySF (plainFor_of_name pn_1) hisR ?_
  intro p e s m args below meth c s₁ Bd hml0 hP hK
  obtain ⟨rfl, hZ, hh⟩ := hP
  have hx := Bd.exec
  have hby := Bd.bytes
  have hml : c.maxLocals = 2 := hml0
  have hown : s.vm.findClass "com/example/punctual_lease/punctuallease/SessionTimeoutBounds" = some m.cls := findClass_of_methodNamed Bd.named
  have hnm := (name_of_methodNamed Bd.named Bd.method).1
  have hlk : meth.locks = false := BodyLoose.notSynchronized Bd
  have X0 : Stand p l e ({ frames := 1, cells := 0, slots := 0, locals := 14 } : Room) s m #[(.ref a0), (.int p1)] below meth c s₁ [] 0 0 := Stand.of_body Bd
  have e0 : s₁.heap = h0 := by rw [← hh, Bd.state]; rfl
  have N0 := Fr.nil n0
  have sq0 : h0.size ≤ h0.size := Nat.le_refl _
  change Go p e below s ({ frames := 1, cells := 0, slots := 0, locals := 14 } : Room).cells ({ frames := 1, cells := 0, slots := 0, locals := 14 } : Room).slots (Q5 Z a0 p1 w1 w2 h0 n0) (s₁.setTop (entryFrame m #[(.ref a0), (.int p1)] 2))
  rw [ef_5 m a0 p1]
  show Go _ _ _ _ _ _ _ (s₁.setTop (mkF m 0 #[.val (.ref a0), .val (.int p1)] []))
  refine Go.step (fun _ k => XS.aloadN X0.here hx rfl (hb hby d5_0) rfl rfl  k) ?_
  show Go _ _ _ _ _ _ _ (s₁.setTop (mkF m 1 #[.val (.ref a0), .val (.int p1)] [(.ref a0)]))
  obtain ⟨T1, X1, e1, st1⟩ := getF X0 hx hZ hown (host := "") (Or.inl (hw _ (List.mem_of_getElem? (i := 21) rfl))) Via.refl e0 F_1 (g := (mkF m 1 #[.val (.ref a0), .val (.int p1)] [(.ref a0)])) rfl rfl (hb hby d5_1)
  refine Go.step st1 ?_
  show Go _ _ _ _ _ _ _ (T1.setTop (mkF m 4 #[.val (.ref a0), .val (.int p1)] [(.int w2)]))
  refine Go.step (fun _ k => XS.aloadN X1.here hx rfl (hb hby d5_4) rfl rfl  k) ?_
  show Go _ _ _ _ _ _ _ (T1.setTop (mkF m 5 #[.val (.ref a0), .val (.int p1)] [(.ref a0), (.int w2)]))
  obtain ⟨T2, X2, e2, st2⟩ := getF X1 hx hZ hown (host := "") (Or.inl (hw _ (List.mem_of_getElem? (i := 19) rfl))) Via.refl e1 F_0 (g := (mkF m 5 #[.val (.ref a0), .val (.int p1)] [(.ref a0), (.int w2)])) rfl rfl (hb hby d5_5)
  refine Go.step st2 ?_
  show Go _ _ _ _ _ _ _ (T2.setTop (mkF m 8 #[.val (.ref a0), .val (.int p1)] [(.int w1), (.int w2)]))
  refine Go.step (fun _ k => XS.iloadN X2.here hx rfl (hb hby d5_8) rfl  k) ?_
  show Go _ _ _ _ _ _ _ (T2.setTop (mkF m 9 #[.val (.ref a0), .val (.int p1)] [(.int p1), (.int w1), (.int w2)]))
  obtain ⟨_, _, ⟨T3, L3, k3, n3⟩, -, X3, ⟨Lc3, hQ3, l3, y3, z3⟩, st3⟩ := Jvm.LawKit.callS X2 hx (y := (⟨"java/lang/Math", "max", "(II)I"⟩ : MethodName)) hown (mvT hZ (hw _ (List.mem_of_getElem? (i := 28) rfl))) (mvT hZ (hw _ (List.mem_of_getElem? (i := 2) rfl))) (mvT hZ (hw _ (List.mem_of_getElem? (i := 3) rfl))) (mvT hZ (hw _ (List.mem_of_getElem? (i := 4) rfl))) (by decide) (backOf (W := 1) (rm1 l Z aZ hw [] w1 p1 h0 n0 Z0 ) hZ (hw _ (List.mem_of_getElem? (i := 4) rfl)) (hw _ (List.mem_of_getElem? (i := 3) rfl)) (by decide) (by decide)) (g := (mkF m 9 #[.val (.ref a0), .val (.int p1)] [(.int p1), (.int w1), (.int w2)])) rfl (by rw [hml]; rfl) (argsL := [(.int w1), (.int p1)]) (rest := [(.int w2)]) (lenOf pd_1 rfl) rfl (by show 2 * 0 + _ ≤ _; exact Nat.le_of_eq rfl) (hb hby d5_9) (fun _ _ => ⟨rfl, e2, (by decide : 0 + 0 ≤ _), (by decide : 0 + 0 ≤ _)⟩)
  dsimp only [Pt.U, Pt.locs, Pt.cells, Pt.slots] at X3 l3 y3 z3 st3 hQ3
  subst l3 y3 z3
  obtain ⟨rfl, Nq3, e3⟩ := hQ3
  have N3 := Fr.app N0 Nq3
  refine Go.step st3 ?_
  show Go _ _ _ _ _ _ _ (T3.setTop (mkF m 12 #[.val (.ref a0), .val (.int p1)] [(.int (if w1 < p1 then p1 else w1)), (.int w2)]))
  obtain ⟨_, _, ⟨T4, L4, k4, n4⟩, -, X4, ⟨Lc4, hQ4, l4, y4, z4⟩, st4⟩ := Jvm.LawKit.callS X3 hx (y := (⟨"java/lang/Math", "min", "(II)I"⟩ : MethodName)) hown (mvT hZ (hw _ (List.mem_of_getElem? (i := 29) rfl))) (mvT hZ (hw _ (List.mem_of_getElem? (i := 30) rfl))) (mvT hZ (hw _ (List.mem_of_getElem? (i := 3) rfl))) (mvT hZ (hw _ (List.mem_of_getElem? (i := 31) rfl))) (by decide) (backOf (W := 0) (rm6 l Z aZ hw [] w2 (if w1 < p1 then p1 else w1) h0 n0 Z0 ) hZ (hw _ (List.mem_of_getElem? (i := 31) rfl)) (hw _ (List.mem_of_getElem? (i := 3) rfl)) (by decide) (by decide)) (g := (mkF m 12 #[.val (.ref a0), .val (.int p1)] [(.int (if w1 < p1 then p1 else w1)), (.int w2)])) rfl (by rw [hml]; rfl) (argsL := [(.int w2), (.int (if w1 < p1 then p1 else w1))]) (rest := []) (lenOf pd_1 rfl) rfl (by show 2 * 0 + _ ≤ _; exact Nat.le_of_eq rfl) (hb hby d5_12) (fun _ _ => ⟨rfl, e3, (by decide : 0 + 0 ≤ _), (by decide : 0 + 0 ≤ _)⟩)
  dsimp only [Pt.U, Pt.locs, Pt.cells, Pt.slots] at X4 l4 y4 z4 st4 hQ4
  subst l4 y4 z4
  obtain ⟨rfl, Nq4, e4⟩ := hQ4
  have N4 := Fr.app N3 Nq4
  refine Go.step st4 ?_
  show Go _ _ _ _ _ _ _ (T4.setTop (mkF m 15 #[.val (.ref a0), .val (.int p1)] [(.int (if (if w1 < p1 then p1 else w1) < w2 then (if w1 < p1 then p1 else w1) else w2))]))
  refine Go.retI X4 hx Bd.returns hlk (hb hby d5_15) ?_ (by decide) (by decide)
  rw [e4]
  exact ⟨(rfl), N4, rfl⟩
theorem pn_2 : plainName "com/example/punctual_lease/punctuallease/SessionTimeoutBoundsGrantPinLaw" = true := by first | (simp [plainName, overriddenIn]; done) | decide +kernel
theorem pd_2 : parseMethodDescriptor "(II)V" = some ⟨[.int, .int], none⟩ := by decide +kernel
theorem pd_3 : parseMethodDescriptor "(I)I" = some ⟨[.int], some .int⟩ := by decide +kernel
theorem ef_0 (m : MethodId) (qa : Int32) (qb : Int32) (qr : Int32) : entryFrame m #[(.int qa), (.int qb), (.int qr)] maxLocals = mkF m 0 #[.val (.int qa), .val (.int qb), .val (.int qr), .unset, .unset, .unset, .unset, .unset, .unset] [] := by first | (simp [entryFrame, mkF, argsToLocals, Value.category, maxLocals]; done) | rfl
def Q0 (Z : State) (qa : Int32) (qb : Int32) (qr : Int32) (h0 : Heap) (n0 : Nat) (v : Option Value) (h : Heap) (L : List Loc) : Prop := (v = some (.int 1)) ∧ (Fr n0 L)
set_option maxRecDepth 65536 in
set_option maxHeartbeats 40000000 in
theorem rm0 (l : Launch) (Z : State) (aZ : Array Value) (hw : ∀ d ∈ tables_1, d.before aZ Z = true) (ws : List Jvm.Cond) (qa : Int32) (qb : Int32) (qr : Int32) (h0 : Heap) (n0 : Nat) (Z0 : n0 ≤ h0.size)  :
    MetFree l x (head1 (Jvm.Cond.code x code maxLocals ret :: ws) room_1) (fun a U => a = #[(.int qa), (.int qb), (.int qr)] ∧ Z.Warmed39 U.vm ∧ U.heap = h0) (fun _ _ _ _ _ => True) (fun _ U o U' => ∃ v L, o = .returned v ∧ Q0 Z qa qb qr h0 n0 v U'.heap L ∧ FrameEnd U o U' L 1 2) := by
  refine MetFree.of_bodySF (plainFor_of_name pn_2) hisR ?_
  intro p e s m args below meth c s₁ Bd hml0 hP hK
  obtain ⟨rfl, hZ, hh⟩ := hP
  have hx := Bd.exec
  have hby := Bd.bytes
  have hml : c.maxLocals = 9 := hml0
  have hown : s.vm.findClass "com/example/punctual_lease/punctuallease/SessionTimeoutBoundsGrantPinLaw" = some m.cls := findClass_of_methodNamed Bd.named
  have hnm := (name_of_methodNamed Bd.named Bd.method).1
  have hlk : meth.locks = false := BodyLoose.notSynchronized Bd
  have X0 : Stand p l e room_1 s m #[(.int qa), (.int qb), (.int qr)] below meth c s₁ [] 0 0 := Stand.of_body Bd
  have e0 : s₁.heap = h0 := by rw [← hh, Bd.state]; rfl
  have N0 := Fr.nil n0
  have sq0 : h0.size ≤ h0.size := Nat.le_refl _
  change Go p e below s 1 2 (Q0 Z qa qb qr h0 n0) (s₁.setTop (entryFrame m #[(.int qa), (.int qb), (.int qr)] maxLocals))
  rw [ef_0 m qa qb qr]
  show Go _ _ _ _ _ _ _ (s₁.setTop (mkF m 0 #[.val (.int qa), .val (.int qb), .val (.int qr), .unset, .unset, .unset, .unset, .unset, .unset] []))
  refine Go.step (fun _ k => XS.iconst X0.here hx rfl (hb hby at_0) k) ?_
  show Go _ _ _ _ _ _ _ (s₁.setTop (mkF m 1 #[.val (.int qa), .val (.int qb), .val (.int qr), .unset, .unset, .unset, .unset, .unset, .unset] [(.int (1 : Int32))]))
  refine Go.step (fun _ k => XS.iloadN X0.here hx rfl (hb hby at_1) rfl  k) ?_
  show Go _ _ _ _ _ _ _ (s₁.setTop (mkF m 2 #[.val (.int qa), .val (.int qb), .val (.int qr), .unset, .unset, .unset, .unset, .unset, .unset] [(.int qa), (.int (1 : Int32))]))
  refine Go.step (X0.ldcInt hx hown (mvT hZ (hw _ (List.mem_of_getElem? (i := 0) rfl))) (g := (mkF m 2 #[.val (.int qa), .val (.int qb), .val (.int qr), .unset, .unset, .unset, .unset, .unset, .unset] [(.int qa), (.int (1 : Int32))])) rfl (hb hby at_2)) ?_
  show Go _ _ _ _ _ _ _ (s₁.setTop (mkF m 4 #[.val (.int qa), .val (.int qb), .val (.int qr), .unset, .unset, .unset, .unset, .unset, .unset] [(.int (2147483647 : Int32)), (.int qa), (.int (1 : Int32))]))
  refine Go.step (fun _ k => XS.iand X0.here hx rfl (hb hby at_4) rfl k) ?_
  show Go _ _ _ _ _ _ _ (s₁.setTop (mkF m 5 #[.val (.int qa), .val (.int qb), .val (.int qr), .unset, .unset, .unset, .unset, .unset, .unset] [(.int (qa &&& (2147483647 : Int32))), (.int (1 : Int32))]))
  obtain ⟨_, _, ⟨T1, L1, k1, n1⟩, -, X1, ⟨Lc1, hQ1, l1, y1, z1⟩, st1⟩ := Jvm.LawKit.callS X0 hx (y := (⟨"java/lang/Math", "max", "(II)I"⟩ : MethodName)) hown (mvT hZ (hw _ (List.mem_of_getElem? (i := 1) rfl))) (mvT hZ (hw _ (List.mem_of_getElem? (i := 2) rfl))) (mvT hZ (hw _ (List.mem_of_getElem? (i := 3) rfl))) (mvT hZ (hw _ (List.mem_of_getElem? (i := 4) rfl))) (by decide) (backOf (W := 0) (rm1 l Z aZ hw [] (1 : Int32) (qa &&& (2147483647 : Int32)) h0 n0 Z0 ) hZ (hw _ (List.mem_of_getElem? (i := 4) rfl)) (hw _ (List.mem_of_getElem? (i := 3) rfl)) (by decide) (by decide)) (g := (mkF m 5 #[.val (.int qa), .val (.int qb), .val (.int qr), .unset, .unset, .unset, .unset, .unset, .unset] [(.int (qa &&& (2147483647 : Int32))), (.int (1 : Int32))])) rfl (by rw [hml]; rfl) (argsL := [(.int (1 : Int32)), (.int (qa &&& (2147483647 : Int32)))]) (rest := []) (lenOf pd_1 rfl) rfl (by show 2 * 0 + _ ≤ _; exact Nat.le_of_eq rfl) (hb hby at_5) (fun _ _ => ⟨rfl, e0, (by decide : 0 + 0 ≤ _), (by decide : 0 + 0 ≤ _)⟩)
  dsimp only [Pt.U, Pt.locs, Pt.cells, Pt.slots] at X1 l1 y1 z1 st1 hQ1
  subst l1 y1 z1
  obtain ⟨rfl, Nq1, e1⟩ := hQ1
  have N1 := Fr.app N0 Nq1
  refine Go.step st1 ?_
  show Go _ _ _ _ _ _ _ (T1.setTop (mkF m 8 #[.val (.int qa), .val (.int qb), .val (.int qr), .unset, .unset, .unset, .unset, .unset, .unset] [(.int (if (1 : Int32) < (qa &&& (2147483647 : Int32)) then (qa &&& (2147483647 : Int32)) else (1 : Int32)))]))
  obtain ⟨lo, q_lo⟩ : ∃ z : Int32, z = (if (1 : Int32) < (qa &&& (2147483647 : Int32)) then (qa &&& (2147483647 : Int32)) else (1 : Int32)) := ⟨_, rfl⟩
  rw [← q_lo]
  have hlo : ¬ lo < 1 := by rw [q_lo]; exact own_lo qa
  show Go _ _ _ _ _ _ _ (T1.setTop (mkF m 8 #[.val (.int qa), .val (.int qb), .val (.int qr), .unset, .unset, .unset, .unset, .unset, .unset] [(.int lo)]))
  refine Go.step (fun _ k => XS.istoreN X1.here hx rfl (hb hby at_8) rfl (l' := #[.val (.int qa), .val (.int qb), .val (.int qr), .val (.int lo), .unset, .unset, .unset, .unset, .unset]) rfl k) ?_
  show Go _ _ _ _ _ _ _ (T1.setTop (mkF m 9 #[.val (.int qa), .val (.int qb), .val (.int qr), .val (.int lo), .unset, .unset, .unset, .unset, .unset] []))
  refine Go.step (X1.ldcInt hx hown (mvT hZ (hw _ (List.mem_of_getElem? (i := 0) rfl))) (g := (mkF m 9 #[.val (.int qa), .val (.int qb), .val (.int qr), .val (.int lo), .unset, .unset, .unset, .unset, .unset] [])) rfl (hb hby at_9)) ?_
  show Go _ _ _ _ _ _ _ (T1.setTop (mkF m 11 #[.val (.int qa), .val (.int qb), .val (.int qr), .val (.int lo), .unset, .unset, .unset, .unset, .unset] [(.int (2147483647 : Int32))]))
  refine Go.step (fun _ k => XS.iloadN X1.here hx rfl (hb hby at_11) rfl  k) ?_
  show Go _ _ _ _ _ _ _ (T1.setTop (mkF m 12 #[.val (.int qa), .val (.int qb), .val (.int qr), .val (.int lo), .unset, .unset, .unset, .unset, .unset] [(.int lo), (.int (2147483647 : Int32))]))
  refine Go.step (fun _ k => XS.isub X1.here hx rfl (hb hby at_12) rfl k) ?_
  show Go _ _ _ _ _ _ _ (T1.setTop (mkF m 13 #[.val (.int qa), .val (.int qb), .val (.int qr), .val (.int lo), .unset, .unset, .unset, .unset, .unset] [(.int ((2147483647 : Int32) - lo))]))
  refine Go.step (fun _ k => XS.iconst X1.here hx rfl (hb hby at_13) k) ?_
  show Go _ _ _ _ _ _ _ (T1.setTop (mkF m 14 #[.val (.int qa), .val (.int qb), .val (.int qr), .val (.int lo), .unset, .unset, .unset, .unset, .unset] [(.int (1 : Int32)), (.int ((2147483647 : Int32) - lo))]))
  refine Go.step (fun _ k => XS.iadd X1.here hx rfl (hb hby at_14) rfl k) ?_
  show Go _ _ _ _ _ _ _ (T1.setTop (mkF m 15 #[.val (.int qa), .val (.int qb), .val (.int qr), .val (.int lo), .unset, .unset, .unset, .unset, .unset] [(.int (((2147483647 : Int32) - lo) + (1 : Int32)))]))
  obtain ⟨sp, q_sp⟩ : ∃ z : Int32, z = (((2147483647 : Int32) - lo) + (1 : Int32)) := ⟨_, rfl⟩
  rw [← q_sp]
  have hsp : sp ≠ 0 := by rw [q_sp]; exact own_nz hlo
  show Go _ _ _ _ _ _ _ (T1.setTop (mkF m 15 #[.val (.int qa), .val (.int qb), .val (.int qr), .val (.int lo), .unset, .unset, .unset, .unset, .unset] [(.int sp)]))
  refine Go.step (fun _ k => XS.istore X1.here hx rfl (hb hby at_15) rfl (l' := #[.val (.int qa), .val (.int qb), .val (.int qr), .val (.int lo), .val (.int sp), .unset, .unset, .unset, .unset]) rfl k) ?_
  show Go _ _ _ _ _ _ _ (T1.setTop (mkF m 17 #[.val (.int qa), .val (.int qb), .val (.int qr), .val (.int lo), .val (.int sp), .unset, .unset, .unset, .unset] []))
  refine Go.step (fun _ k => XS.iloadN X1.here hx rfl (hb hby at_17) rfl  k) ?_
  show Go _ _ _ _ _ _ _ (T1.setTop (mkF m 18 #[.val (.int qa), .val (.int qb), .val (.int qr), .val (.int lo), .val (.int sp), .unset, .unset, .unset, .unset] [(.int lo)]))
  refine Go.step (fun _ k => XS.iloadN X1.here hx rfl (hb hby at_18) rfl  k) ?_
  show Go _ _ _ _ _ _ _ (T1.setTop (mkF m 19 #[.val (.int qa), .val (.int qb), .val (.int qr), .val (.int lo), .val (.int sp), .unset, .unset, .unset, .unset] [(.int qb), (.int lo)]))
  refine Go.step (X1.ldcInt hx hown (mvT hZ (hw _ (List.mem_of_getElem? (i := 0) rfl))) (g := (mkF m 19 #[.val (.int qa), .val (.int qb), .val (.int qr), .val (.int lo), .val (.int sp), .unset, .unset, .unset, .unset] [(.int qb), (.int lo)])) rfl (hb hby at_19)) ?_
  show Go _ _ _ _ _ _ _ (T1.setTop (mkF m 21 #[.val (.int qa), .val (.int qb), .val (.int qr), .val (.int lo), .val (.int sp), .unset, .unset, .unset, .unset] [(.int (2147483647 : Int32)), (.int qb), (.int lo)]))
  refine Go.step (fun _ k => XS.iand X1.here hx rfl (hb hby at_21) rfl k) ?_
  show Go _ _ _ _ _ _ _ (T1.setTop (mkF m 22 #[.val (.int qa), .val (.int qb), .val (.int qr), .val (.int lo), .val (.int sp), .unset, .unset, .unset, .unset] [(.int (qb &&& (2147483647 : Int32))), (.int lo)]))
  refine Go.step (fun _ k => XS.iload X1.here hx rfl (hb hby at_22) rfl  k) ?_
  show Go _ _ _ _ _ _ _ (T1.setTop (mkF m 24 #[.val (.int qa), .val (.int qb), .val (.int qr), .val (.int lo), .val (.int sp), .unset, .unset, .unset, .unset] [(.int sp), (.int (qb &&& (2147483647 : Int32))), (.int lo)]))
  have nz24 : sp ≠ 0 := hsp
  refine Go.step (fun _ k => iremM X1 hx rfl (hb hby at_24) rfl nz24 k) ?_
  show Go _ _ _ _ _ _ _ (T1.setTop (mkF m 25 #[.val (.int qa), .val (.int qb), .val (.int qr), .val (.int lo), .val (.int sp), .unset, .unset, .unset, .unset] [(.int ((qb &&& (2147483647 : Int32)) % sp)), (.int lo)]))
  refine Go.step (fun _ k => XS.iadd X1.here hx rfl (hb hby at_25) rfl k) ?_
  show Go _ _ _ _ _ _ _ (T1.setTop (mkF m 26 #[.val (.int qa), .val (.int qb), .val (.int qr), .val (.int lo), .val (.int sp), .unset, .unset, .unset, .unset] [(.int (lo + ((qb &&& (2147483647 : Int32)) % sp)))]))
  obtain ⟨hi, q_hi⟩ : ∃ z : Int32, z = (lo + ((qb &&& (2147483647 : Int32)) % sp)) := ⟨_, rfl⟩
  rw [← q_hi]
  have hle : ¬ hi < lo := by rw [q_hi]; exact own_hi hlo q_sp
  show Go _ _ _ _ _ _ _ (T1.setTop (mkF m 26 #[.val (.int qa), .val (.int qb), .val (.int qr), .val (.int lo), .val (.int sp), .unset, .unset, .unset, .unset] [(.int hi)]))
  refine Go.step (fun _ k => XS.istore X1.here hx rfl (hb hby at_26) rfl (l' := #[.val (.int qa), .val (.int qb), .val (.int qr), .val (.int lo), .val (.int sp), .val (.int hi), .unset, .unset, .unset]) rfl k) ?_
  show Go _ _ _ _ _ _ _ (T1.setTop (mkF m 28 #[.val (.int qa), .val (.int qb), .val (.int qr), .val (.int lo), .val (.int sp), .val (.int hi), .unset, .unset, .unset] []))
  obtain ⟨T2, h2, X2, e2, E2, A2, D2, -, st2⟩ := newO X1 hx hZ hown (hw _ (List.mem_of_getElem? (i := 5) rfl)) (hw _ (List.mem_of_getElem? (i := 6) rfl)) (hw _ (List.mem_of_getElem? (i := 7) rfl)) e1 (g := (mkF m 28 #[.val (.int qa), .val (.int qb), .val (.int qr), .val (.int lo), .val (.int sp), .val (.int hi), .unset, .unset, .unset] [])) rfl (hb hby at_28) (by decide) (by decide)
  obtain ⟨b2, g2⟩ : ∃ z, z = h0.size := ⟨_, rfl⟩
  rw [← g2] at A2 D2 st2
  refine Go.step st2 ?_
  have gn2 : n0 ≤ b2 := Nat.le_trans Z0 (Nat.le_of_eq g2.symm)
  have sz2 : h0.size ≤ b2 := Nat.le_trans sq0 (Nat.le_of_eq g2.symm)
  have z3 : n0 ≤ h2.size := Nat.le_trans Z0 E2.1
  have sqz3 : h0.size ≤ h2.size := Nat.le_trans sq0 E2.1
  have f5 : Fld Z h2 b2 "com/example/punctual_lease/punctuallease/SessionTimeoutBounds" "minMillis" "I" (.int (0 : Int32)) := D2 (Or.inr (hw _ (List.mem_of_getElem? (i := 20) rfl))) (ty := .int) (by decide)
  have f6 : Fld Z h2 b2 "com/example/punctual_lease/punctuallease/SessionTimeoutBounds" "maxMillis" "I" (.int (0 : Int32)) := D2 (Or.inr (hw _ (List.mem_of_getElem? (i := 22) rfl))) (ty := .int) (by decide)
  show Go _ _ _ _ _ _ _ (T2.setTop (mkF m 31 #[.val (.int qa), .val (.int qb), .val (.int qr), .val (.int lo), .val (.int sp), .val (.int hi), .unset, .unset, .unset] [(.ref b2)]))
  refine Go.step (fun _ k => XS.dup X2.here hx rfl (hb hby at_31) rfl rfl k) ?_
  show Go _ _ _ _ _ _ _ (T2.setTop (mkF m 32 #[.val (.int qa), .val (.int qb), .val (.int qr), .val (.int lo), .val (.int sp), .val (.int hi), .unset, .unset, .unset] [(.ref b2), (.ref b2)]))
  refine Go.step (fun _ k => XS.iloadN X2.here hx rfl (hb hby at_32) rfl  k) ?_
  show Go _ _ _ _ _ _ _ (T2.setTop (mkF m 33 #[.val (.int qa), .val (.int qb), .val (.int qr), .val (.int lo), .val (.int sp), .val (.int hi), .unset, .unset, .unset] [(.int lo), (.ref b2), (.ref b2)]))
  refine Go.step (fun _ k => XS.iload X2.here hx rfl (hb hby at_33) rfl  k) ?_
  show Go _ _ _ _ _ _ _ (T2.setTop (mkF m 35 #[.val (.int qa), .val (.int qb), .val (.int qr), .val (.int lo), .val (.int sp), .val (.int hi), .unset, .unset, .unset] [(.int hi), (.int lo), (.ref b2), (.ref b2)]))
  have pq7 : ¬ lo < 1 := hlo
  have pq8 : ¬ hi < lo := hle
  obtain ⟨_, _, ⟨T9, L9, k9, n9⟩, -, X9, ⟨Lc9, hQ9, l9, y9, z9⟩, st9⟩ := X2.specialBack hx (y := (⟨"com/example/punctual_lease/punctuallease/SessionTimeoutBounds", "<init>", "(II)V"⟩ : MethodName)) rfl hown (mvT hZ (hw _ (List.mem_of_getElem? (i := 8) rfl))) (mvT hZ (hw _ (List.mem_of_getElem? (i := 9) rfl))) (mvT hZ (hw _ (List.mem_of_getElem? (i := 10) rfl))) (by decide) (backOf (W := 1) (rm2 l Z aZ hw [] b2 lo hi h2 n0 z3 A2 f5 f6 gn2 pq7 pq8) hZ (hw _ (List.mem_of_getElem? (i := 10) rfl)) (hw _ (List.mem_of_getElem? (i := 7) rfl)) (by decide) (by decide)) (g := (mkF m 35 #[.val (.int qa), .val (.int qb), .val (.int qr), .val (.int lo), .val (.int sp), .val (.int hi), .unset, .unset, .unset] [(.int hi), (.int lo), (.ref b2), (.ref b2)])) rfl (by rw [hml]; rfl) (Steps.refl _) (a := b2) (argsL := [(.int lo), (.int hi)]) (rest := [(.ref b2)]) (lenOf pd_2 rfl) rfl (by show 2 * 0 + _ ≤ _; exact Nat.le_of_eq rfl) (hb hby at_35) (fun _ _ => ⟨rfl, e2, (by decide : 1 + 0 ≤ _), (by decide : 2 + 0 ≤ _)⟩)
  dsimp only [Pt.U, Pt.locs, Pt.cells, Pt.slots] at X9 l9 y9 z9 st9 hQ9
  subst l9 y9 z9
  obtain ⟨rfl, Nq9, K9, c9_0, c9_1, c9_2⟩ := hQ9
  have N9 := Fr.app N1 Nq9
  refine Go.tr st9 ?_
  have z10 : n0 ≤ T9.heap.size := Nat.le_trans z3 K9.1
  have sqz10 : h0.size ≤ T9.heap.size := Nat.le_trans sqz3 K9.1
  show Go _ _ _ _ _ _ _ (T9.setTop (mkF m 38 #[.val (.int qa), .val (.int qb), .val (.int qr), .val (.int lo), .val (.int sp), .val (.int hi), .unset, .unset, .unset] [(.ref b2)]))
  refine Go.step (fun _ k => XS.astore X9.here hx rfl (hb hby at_38) rfl rfl (l' := #[.val (.int qa), .val (.int qb), .val (.int qr), .val (.int lo), .val (.int sp), .val (.int hi), .val (.ref b2), .unset, .unset]) rfl k) ?_
  show Go _ _ _ _ _ _ _ (T9.setTop (mkF m 40 #[.val (.int qa), .val (.int qb), .val (.int qr), .val (.int lo), .val (.int sp), .val (.int hi), .val (.ref b2), .unset, .unset] []))
  refine Go.step (fun _ k => XS.aload X9.here hx rfl (hb hby at_40) rfl rfl  k) ?_
  show Go _ _ _ _ _ _ _ (T9.setTop (mkF m 42 #[.val (.int qa), .val (.int qb), .val (.int qr), .val (.int lo), .val (.int sp), .val (.int hi), .val (.ref b2), .unset, .unset] [(.ref b2)]))
  refine Go.step (fun _ k => XS.iloadN X9.here hx rfl (hb hby at_42) rfl  k) ?_
  show Go _ _ _ _ _ _ _ (T9.setTop (mkF m 43 #[.val (.int qa), .val (.int qb), .val (.int qr), .val (.int lo), .val (.int sp), .val (.int hi), .val (.ref b2), .unset, .unset] [(.int qr), (.ref b2)]))
  obtain ⟨cq12, kq12, q12a, q12b, q12c⟩ := isOf hZ rfl c9_0
  obtain ⟨_, _, ⟨T12, L12, k12, n12⟩, -, X12, ⟨Lc12, hQ12, l12, y12, z12⟩, st12⟩ := X9.virtualBack hx (y := (⟨"com/example/punctual_lease/punctuallease/SessionTimeoutBounds", "grant", "(I)I"⟩ : MethodName)) (z := (⟨"com/example/punctual_lease/punctuallease/SessionTimeoutBounds", "grant", "(I)I"⟩ : MethodName)) hown (mvT hZ (hw _ (List.mem_of_getElem? (i := 23) rfl))) (mvT hZ (hw _ (List.mem_of_getElem? (i := 24) rfl))) (notFace_of_selects (args := #[]) (mvT hZ (hw _ (List.mem_of_getElem? (i := 26) rfl)))) (mvT hZ (hw _ (List.mem_of_getElem? (i := 26) rfl))) (mvT hZ (hw _ (List.mem_of_getElem? (i := 25) rfl))) (by decide) (backOf (W := 0) (rm5 l Z aZ hw [] b2 qr lo hi T9.heap n0 z10 c9_1 c9_2) hZ (hw _ (List.mem_of_getElem? (i := 27) rfl)) (hw _ (List.mem_of_getElem? (i := 7) rfl)) (by decide) (by decide)) q12a q12c (g := (mkF m 43 #[.val (.int qa), .val (.int qb), .val (.int qr), .val (.int lo), .val (.int sp), .val (.int hi), .val (.ref b2), .unset, .unset] [(.int qr), (.ref b2)])) rfl (by rw [hml]; rfl) (Steps.refl _) (argsL := [(.int qr)]) (rest := []) (lenOf pd_3 rfl) rfl (by show 2 * 0 + _ ≤ _; exact Nat.le_of_eq rfl) (hb hby at_43) (fun _ _ => ⟨rfl, rfl, (by decide : 1 + 0 ≤ _), (by decide : 2 + 0 ≤ _)⟩)
  dsimp only [Pt.U, Pt.locs, Pt.cells, Pt.slots] at X12 l12 y12 z12 st12 hQ12
  subst l12 y12 z12
  obtain ⟨rfl, Nq12, e12⟩ := hQ12
  have N12 := Fr.app N9 Nq12
  refine Go.tr st12 ?_
  show Go _ _ _ _ _ _ _ (T12.setTop (mkF m 46 #[.val (.int qa), .val (.int qb), .val (.int qr), .val (.int lo), .val (.int sp), .val (.int hi), .val (.ref b2), .unset, .unset] [(.int (if (if lo < qr then qr else lo) < hi then (if lo < qr then qr else lo) else hi))]))
  refine Go.step (fun _ k => XS.istore X12.here hx rfl (hb hby at_46) rfl (l' := #[.val (.int qa), .val (.int qb), .val (.int qr), .val (.int lo), .val (.int sp), .val (.int hi), .val (.ref b2), .val (.int (if (if lo < qr then qr else lo) < hi then (if lo < qr then qr else lo) else hi)), .unset]) rfl k) ?_
  show Go _ _ _ _ _ _ _ (T12.setTop (mkF m 48 #[.val (.int qa), .val (.int qb), .val (.int qr), .val (.int lo), .val (.int sp), .val (.int hi), .val (.ref b2), .val (.int (if (if lo < qr then qr else lo) < hi then (if lo < qr then qr else lo) else hi)), .unset] []))
  refine Go.step (fun _ k => XS.iloadN X12.here hx rfl (hb hby at_48) rfl  k) ?_
  show Go _ _ _ _ _ _ _ (T12.setTop (mkF m 49 #[.val (.int qa), .val (.int qb), .val (.int qr), .val (.int lo), .val (.int sp), .val (.int hi), .val (.ref b2), .val (.int (if (if lo < qr then qr else lo) < hi then (if lo < qr then qr else lo) else hi)), .unset] [(.int qr)]))
  refine Go.step (fun _ k => XS.iloadN X12.here hx rfl (hb hby at_49) rfl  k) ?_
  show Go _ _ _ _ _ _ _ (T12.setTop (mkF m 50 #[.val (.int qa), .val (.int qb), .val (.int qr), .val (.int lo), .val (.int sp), .val (.int hi), .val (.ref b2), .val (.int (if (if lo < qr then qr else lo) < hi then (if lo < qr then qr else lo) else hi)), .unset] [(.int lo), (.int qr)]))
  by_cases hc50 : qr < lo
  · skip
    refine Go.step (fun _ k => XS.icmpNo X12.here hx rfl (hb hby at_50) rfl (tlt hc50).2.1 k) ?_
    show Go _ _ _ _ _ _ _ (T12.setTop (mkF m 53 #[.val (.int qa), .val (.int qb), .val (.int qr), .val (.int lo), .val (.int sp), .val (.int hi), .val (.ref b2), .val (.int (if (if lo < qr then qr else lo) < hi then (if lo < qr then qr else lo) else hi)), .unset] []))
    refine Go.step (fun _ k => XS.iloadN X12.here hx rfl (hb hby at_53) rfl  k) ?_
    show Go _ _ _ _ _ _ _ (T12.setTop (mkF m 54 #[.val (.int qa), .val (.int qb), .val (.int qr), .val (.int lo), .val (.int sp), .val (.int hi), .val (.ref b2), .val (.int (if (if lo < qr then qr else lo) < hi then (if lo < qr then qr else lo) else hi)), .unset] [(.int lo)]))
    refine Go.step (fun _ k => XS.istore X12.here hx rfl (hb hby at_54) rfl (l' := #[.val (.int qa), .val (.int qb), .val (.int qr), .val (.int lo), .val (.int sp), .val (.int hi), .val (.ref b2), .val (.int (if (if lo < qr then qr else lo) < hi then (if lo < qr then qr else lo) else hi)), .val (.int lo)]) rfl k) ?_
    show Go _ _ _ _ _ _ _ (T12.setTop (mkF m 56 #[.val (.int qa), .val (.int qb), .val (.int qr), .val (.int lo), .val (.int sp), .val (.int hi), .val (.ref b2), .val (.int (if (if lo < qr then qr else lo) < hi then (if lo < qr then qr else lo) else hi)), .val (.int lo)] []))
    refine Go.step (fun _ k => XS.goto X12.here hx rfl (pc0 := 56) (pc' := 75) rfl (hb hby at_56) (by decide) (by decide) k) ?_
    show Go _ _ _ _ _ _ _ (T12.setTop (mkF m 75 #[.val (.int qa), .val (.int qb), .val (.int qr), .val (.int lo), .val (.int sp), .val (.int hi), .val (.ref b2), .val (.int (if (if lo < qr then qr else lo) < hi then (if lo < qr then qr else lo) else hi)), .val (.int lo)] []))
    refine Go.step (fun _ k => XS.iload X12.here hx rfl (hb hby at_75) rfl  k) ?_
    show Go _ _ _ _ _ _ _ (T12.setTop (mkF m 77 #[.val (.int qa), .val (.int qb), .val (.int qr), .val (.int lo), .val (.int sp), .val (.int hi), .val (.ref b2), .val (.int (if (if lo < qr then qr else lo) < hi then (if lo < qr then qr else lo) else hi)), .val (.int lo)] [(.int (if (if lo < qr then qr else lo) < hi then (if lo < qr then qr else lo) else hi))]))
    refine Go.step (fun _ k => XS.iload X12.here hx rfl (hb hby at_77) rfl  k) ?_
    show Go _ _ _ _ _ _ _ (T12.setTop (mkF m 79 #[.val (.int qa), .val (.int qb), .val (.int qr), .val (.int lo), .val (.int sp), .val (.int hi), .val (.ref b2), .val (.int (if (if lo < qr then qr else lo) < hi then (if lo < qr then qr else lo) else hi)), .val (.int lo)] [(.int lo), (.int (if (if lo < qr then qr else lo) < hi then (if lo < qr then qr else lo) else hi))]))
    have hc79 : (if (if lo < qr then qr else lo) < hi then (if lo < qr then qr else lo) else hi) = lo := own_g1 hle hc50
    refine Go.step (fun _ k => XS.icmpNo X12.here hx rfl (hb hby at_79) rfl (teq hc79).2 k) ?_
    show Go _ _ _ _ _ _ _ (T12.setTop (mkF m 82 #[.val (.int qa), .val (.int qb), .val (.int qr), .val (.int lo), .val (.int sp), .val (.int hi), .val (.ref b2), .val (.int (if (if lo < qr then qr else lo) < hi then (if lo < qr then qr else lo) else hi)), .val (.int lo)] []))
    refine Go.step (fun _ k => XS.iconst X12.here hx rfl (hb hby at_82) k) ?_
    show Go _ _ _ _ _ _ _ (T12.setTop (mkF m 83 #[.val (.int qa), .val (.int qb), .val (.int qr), .val (.int lo), .val (.int sp), .val (.int hi), .val (.ref b2), .val (.int (if (if lo < qr then qr else lo) < hi then (if lo < qr then qr else lo) else hi)), .val (.int lo)] [(.int (1 : Int32))]))
    refine Go.step (fun _ k => XS.goto X12.here hx rfl (pc0 := 83) (pc' := 87) rfl (hb hby at_83) (by decide) (by decide) k) ?_
    show Go _ _ _ _ _ _ _ (T12.setTop (mkF m 87 #[.val (.int qa), .val (.int qb), .val (.int qr), .val (.int lo), .val (.int sp), .val (.int hi), .val (.ref b2), .val (.int (if (if lo < qr then qr else lo) < hi then (if lo < qr then qr else lo) else hi)), .val (.int lo)] [(.int (1 : Int32))]))
    refine Go.retN X12 hx (t := .boolean) Bd.returns (by simp) hlk (hb hby at_87) ?_ (by decide) (by decide)
    rw [e12]
    exact ⟨(by first | rfl | (simp_all [own_nb1, own_nb0]; done)), N12⟩
  · skip
    refine Go.step (fun _ k => XS.icmpYes X12.here hx rfl (pc0 := 50) (pc' := 59) rfl (hb hby at_50) rfl (flt hc50).2.1 (by decide) (by decide) k) ?_
    show Go _ _ _ _ _ _ _ (T12.setTop (mkF m 59 #[.val (.int qa), .val (.int qb), .val (.int qr), .val (.int lo), .val (.int sp), .val (.int hi), .val (.ref b2), .val (.int (if (if lo < qr then qr else lo) < hi then (if lo < qr then qr else lo) else hi)), .unset] []))
    refine Go.step (fun _ k => XS.iloadN X12.here hx rfl (hb hby at_59) rfl  k) ?_
    show Go _ _ _ _ _ _ _ (T12.setTop (mkF m 60 #[.val (.int qa), .val (.int qb), .val (.int qr), .val (.int lo), .val (.int sp), .val (.int hi), .val (.ref b2), .val (.int (if (if lo < qr then qr else lo) < hi then (if lo < qr then qr else lo) else hi)), .unset] [(.int qr)]))
    refine Go.step (fun _ k => XS.iload X12.here hx rfl (hb hby at_60) rfl  k) ?_
    show Go _ _ _ _ _ _ _ (T12.setTop (mkF m 62 #[.val (.int qa), .val (.int qb), .val (.int qr), .val (.int lo), .val (.int sp), .val (.int hi), .val (.ref b2), .val (.int (if (if lo < qr then qr else lo) < hi then (if lo < qr then qr else lo) else hi)), .unset] [(.int hi), (.int qr)]))
    by_cases hc62 : hi < qr
    · skip
      refine Go.step (fun _ k => XS.icmpNo X12.here hx rfl (hb hby at_62) rfl (tlt hc62).2.2.2 k) ?_
      show Go _ _ _ _ _ _ _ (T12.setTop (mkF m 65 #[.val (.int qa), .val (.int qb), .val (.int qr), .val (.int lo), .val (.int sp), .val (.int hi), .val (.ref b2), .val (.int (if (if lo < qr then qr else lo) < hi then (if lo < qr then qr else lo) else hi)), .unset] []))
      refine Go.step (fun _ k => XS.iload X12.here hx rfl (hb hby at_65) rfl  k) ?_
      show Go _ _ _ _ _ _ _ (T12.setTop (mkF m 67 #[.val (.int qa), .val (.int qb), .val (.int qr), .val (.int lo), .val (.int sp), .val (.int hi), .val (.ref b2), .val (.int (if (if lo < qr then qr else lo) < hi then (if lo < qr then qr else lo) else hi)), .unset] [(.int hi)]))
      refine Go.step (fun _ k => XS.istore X12.here hx rfl (hb hby at_67) rfl (l' := #[.val (.int qa), .val (.int qb), .val (.int qr), .val (.int lo), .val (.int sp), .val (.int hi), .val (.ref b2), .val (.int (if (if lo < qr then qr else lo) < hi then (if lo < qr then qr else lo) else hi)), .val (.int hi)]) rfl k) ?_
      show Go _ _ _ _ _ _ _ (T12.setTop (mkF m 69 #[.val (.int qa), .val (.int qb), .val (.int qr), .val (.int lo), .val (.int sp), .val (.int hi), .val (.ref b2), .val (.int (if (if lo < qr then qr else lo) < hi then (if lo < qr then qr else lo) else hi)), .val (.int hi)] []))
      refine Go.step (fun _ k => XS.goto X12.here hx rfl (pc0 := 69) (pc' := 75) rfl (hb hby at_69) (by decide) (by decide) k) ?_
      show Go _ _ _ _ _ _ _ (T12.setTop (mkF m 75 #[.val (.int qa), .val (.int qb), .val (.int qr), .val (.int lo), .val (.int sp), .val (.int hi), .val (.ref b2), .val (.int (if (if lo < qr then qr else lo) < hi then (if lo < qr then qr else lo) else hi)), .val (.int hi)] []))
      refine Go.step (fun _ k => XS.iload X12.here hx rfl (hb hby at_75) rfl  k) ?_
      show Go _ _ _ _ _ _ _ (T12.setTop (mkF m 77 #[.val (.int qa), .val (.int qb), .val (.int qr), .val (.int lo), .val (.int sp), .val (.int hi), .val (.ref b2), .val (.int (if (if lo < qr then qr else lo) < hi then (if lo < qr then qr else lo) else hi)), .val (.int hi)] [(.int (if (if lo < qr then qr else lo) < hi then (if lo < qr then qr else lo) else hi))]))
      refine Go.step (fun _ k => XS.iload X12.here hx rfl (hb hby at_77) rfl  k) ?_
      show Go _ _ _ _ _ _ _ (T12.setTop (mkF m 79 #[.val (.int qa), .val (.int qb), .val (.int qr), .val (.int lo), .val (.int sp), .val (.int hi), .val (.ref b2), .val (.int (if (if lo < qr then qr else lo) < hi then (if lo < qr then qr else lo) else hi)), .val (.int hi)] [(.int hi), (.int (if (if lo < qr then qr else lo) < hi then (if lo < qr then qr else lo) else hi))]))
      have hc79 : (if (if lo < qr then qr else lo) < hi then (if lo < qr then qr else lo) else hi) = hi := own_g2 hle hc50 hc62
      refine Go.step (fun _ k => XS.icmpNo X12.here hx rfl (hb hby at_79) rfl (teq hc79).2 k) ?_
      show Go _ _ _ _ _ _ _ (T12.setTop (mkF m 82 #[.val (.int qa), .val (.int qb), .val (.int qr), .val (.int lo), .val (.int sp), .val (.int hi), .val (.ref b2), .val (.int (if (if lo < qr then qr else lo) < hi then (if lo < qr then qr else lo) else hi)), .val (.int hi)] []))
      refine Go.step (fun _ k => XS.iconst X12.here hx rfl (hb hby at_82) k) ?_
      show Go _ _ _ _ _ _ _ (T12.setTop (mkF m 83 #[.val (.int qa), .val (.int qb), .val (.int qr), .val (.int lo), .val (.int sp), .val (.int hi), .val (.ref b2), .val (.int (if (if lo < qr then qr else lo) < hi then (if lo < qr then qr else lo) else hi)), .val (.int hi)] [(.int (1 : Int32))]))
      refine Go.step (fun _ k => XS.goto X12.here hx rfl (pc0 := 83) (pc' := 87) rfl (hb hby at_83) (by decide) (by decide) k) ?_
      show Go _ _ _ _ _ _ _ (T12.setTop (mkF m 87 #[.val (.int qa), .val (.int qb), .val (.int qr), .val (.int lo), .val (.int sp), .val (.int hi), .val (.ref b2), .val (.int (if (if lo < qr then qr else lo) < hi then (if lo < qr then qr else lo) else hi)), .val (.int hi)] [(.int (1 : Int32))]))
      refine Go.retN X12 hx (t := .boolean) Bd.returns (by simp) hlk (hb hby at_87) ?_ (by decide) (by decide)
      rw [e12]
      exact ⟨(by first | rfl | (simp_all [own_nb1, own_nb0]; done)), N12⟩
    · skip
      refine Go.step (fun _ k => XS.icmpYes X12.here hx rfl (pc0 := 62) (pc' := 72) rfl (hb hby at_62) rfl (flt hc62).2.2.2 (by decide) (by decide) k) ?_
      show Go _ _ _ _ _ _ _ (T12.setTop (mkF m 72 #[.val (.int qa), .val (.int qb), .val (.int qr), .val (.int lo), .val (.int sp), .val (.int hi), .val (.ref b2), .val (.int (if (if lo < qr then qr else lo) < hi then (if lo < qr then qr else lo) else hi)), .unset] []))
      refine Go.step (fun _ k => XS.iloadN X12.here hx rfl (hb hby at_72) rfl  k) ?_
      show Go _ _ _ _ _ _ _ (T12.setTop (mkF m 73 #[.val (.int qa), .val (.int qb), .val (.int qr), .val (.int lo), .val (.int sp), .val (.int hi), .val (.ref b2), .val (.int (if (if lo < qr then qr else lo) < hi then (if lo < qr then qr else lo) else hi)), .unset] [(.int qr)]))
      refine Go.step (fun _ k => XS.istore X12.here hx rfl (hb hby at_73) rfl (l' := #[.val (.int qa), .val (.int qb), .val (.int qr), .val (.int lo), .val (.int sp), .val (.int hi), .val (.ref b2), .val (.int (if (if lo < qr then qr else lo) < hi then (if lo < qr then qr else lo) else hi)), .val (.int qr)]) rfl k) ?_
      show Go _ _ _ _ _ _ _ (T12.setTop (mkF m 75 #[.val (.int qa), .val (.int qb), .val (.int qr), .val (.int lo), .val (.int sp), .val (.int hi), .val (.ref b2), .val (.int (if (if lo < qr then qr else lo) < hi then (if lo < qr then qr else lo) else hi)), .val (.int qr)] []))
      refine Go.step (fun _ k => XS.iload X12.here hx rfl (hb hby at_75) rfl  k) ?_
      show Go _ _ _ _ _ _ _ (T12.setTop (mkF m 77 #[.val (.int qa), .val (.int qb), .val (.int qr), .val (.int lo), .val (.int sp), .val (.int hi), .val (.ref b2), .val (.int (if (if lo < qr then qr else lo) < hi then (if lo < qr then qr else lo) else hi)), .val (.int qr)] [(.int (if (if lo < qr then qr else lo) < hi then (if lo < qr then qr else lo) else hi))]))
      refine Go.step (fun _ k => XS.iload X12.here hx rfl (hb hby at_77) rfl  k) ?_
      show Go _ _ _ _ _ _ _ (T12.setTop (mkF m 79 #[.val (.int qa), .val (.int qb), .val (.int qr), .val (.int lo), .val (.int sp), .val (.int hi), .val (.ref b2), .val (.int (if (if lo < qr then qr else lo) < hi then (if lo < qr then qr else lo) else hi)), .val (.int qr)] [(.int qr), (.int (if (if lo < qr then qr else lo) < hi then (if lo < qr then qr else lo) else hi))]))
      have hc79 : (if (if lo < qr then qr else lo) < hi then (if lo < qr then qr else lo) else hi) = qr := own_g3 hc50 hc62
      refine Go.step (fun _ k => XS.icmpNo X12.here hx rfl (hb hby at_79) rfl (teq hc79).2 k) ?_
      show Go _ _ _ _ _ _ _ (T12.setTop (mkF m 82 #[.val (.int qa), .val (.int qb), .val (.int qr), .val (.int lo), .val (.int sp), .val (.int hi), .val (.ref b2), .val (.int (if (if lo < qr then qr else lo) < hi then (if lo < qr then qr else lo) else hi)), .val (.int qr)] []))
      refine Go.step (fun _ k => XS.iconst X12.here hx rfl (hb hby at_82) k) ?_
      show Go _ _ _ _ _ _ _ (T12.setTop (mkF m 83 #[.val (.int qa), .val (.int qb), .val (.int qr), .val (.int lo), .val (.int sp), .val (.int hi), .val (.ref b2), .val (.int (if (if lo < qr then qr else lo) < hi then (if lo < qr then qr else lo) else hi)), .val (.int qr)] [(.int (1 : Int32))]))
      refine Go.step (fun _ k => XS.goto X12.here hx rfl (pc0 := 83) (pc' := 87) rfl (hb hby at_83) (by decide) (by decide) k) ?_
      show Go _ _ _ _ _ _ _ (T12.setTop (mkF m 87 #[.val (.int qa), .val (.int qb), .val (.int qr), .val (.int lo), .val (.int sp), .val (.int hi), .val (.ref b2), .val (.int (if (if lo < qr then qr else lo) < hi then (if lo < qr then qr else lo) else hi)), .val (.int qr)] [(.int (1 : Int32))]))
      refine Go.retN X12 hx (t := .boolean) Bd.returns (by simp) hlk (hb hby at_87) ?_ (by decide) (by decide)
      rw [e12]
      exact ⟨(by first | rfl | (simp_all [own_nb1, own_nb0]; done)), N12⟩
set_option maxRecDepth 65536 in
set_option maxHeartbeats 40000000 in
theorem comes_1 {Post : Tables → Env → Array Value → State → Outcome → State → Prop} (hpost : ∀ tb e args s v u, (limb_1_1.after args s (.returned v) u = true ∧ limb_1_2.after args s (.returned v) u = true ∧ True) → FrameEnd s (.returned v) u (Jvm.fieldLocs frame_1_writes args s ++ Jvm.arrayLocs frame_1_arrays args s ++ Jvm.staticLocs frame_1_statics s) 16 128 → Post tb e args s (.returned v) u) :
    ArmFor flags0 classFile x code maxLocals ret World_1 tables_1 room_1 Calls_1 rest_1 Pre_1 Post := by
  intro l hfl _ _ p e ha hc hk s m args below hf hA hF happ hP
  obtain ⟨hcalls, hrest, hpre⟩ := hP
  obtain ⟨-, -, -, hnamed, -, -, -, hat⟩ := (Spec.applies_iff hf).mp happ
  obtain ⟨hg, hn⟩ := and_e (Cond.before_iff.mp (show (Jvm.Cond.and given_1 narrow_1).before args s = true from hpre))
  obtain ⟨g0, r0⟩ := and_e hg
  obtain ⟨a0, r1⟩ := and_e r0
  obtain ⟨a1, r2⟩ := and_e r1
  have a2 := r2
  obtain ⟨w0, w1, w2, rfl⟩ : ∃ w0 w1 w2 : Value, args = #[w0, w1, w2] := by
    have hs : args.size = 3 := by simpa [Cond.value, given_1] using g0
    obtain ⟨L⟩ := args
    match L, hs with
    | [w0, w1, w2], _ => exact ⟨w0, w1, w2, rfl⟩
  have hw := fun d (hd : d ∈ tables_1) => atoms_spec (ws := Jvm.Cond.code x code maxLocals ret :: tables_1) hat d (List.mem_cons_of_mem _ hd)
  have hfit : Fit s := fun {y c} hc i hi => by
    obtain ⟨ha, rfl⟩ := Array.getElem?_eq_some_iff.mp hc
    have q := List.all_eq_true.mp ((Array.all_eq_true_iff_forall_mem.mp hF) _ (Array.getElem_mem ha)) i (List.mem_range.mpr hi)
    simpa [Array.getElem?_eq_getElem hi] using q
  obtain ⟨i0, ei0⟩ := is_v a0
  obtain rfl : w0 = (.int i0) := Option.some.inj ei0
  obtain ⟨i1, ei1⟩ := is_v a1
  obtain rfl : w1 = (.int i1) := Option.some.inj ei1
  obtain ⟨i2, ei2⟩ := is_v a2
  obtain rfl : w2 = (.int i2) := Option.some.inj ei2
  obtain ⟨n, o, h1, h2, h3, _, L, rfl, ⟨rfl, N⟩, hq⟩ := rm0 l s _ hw tables_1 i0 i1 i2  s.heap s.heap.size (Nat.le_refl _)  p e ha hc hk s m _ below hf ((Spec.applies_iff_loose hf).mp happ).1 ⟨rfl, State.Warmed39.refl s, rfl⟩ trivial
  refine ⟨n, _, h1, h2, h3, hpost _ _ _ _ _ _ ⟨Cond.after_iff.mpr rfl, Cond.after_iff.mpr (eq_i res_at (Term.int_eval (1)) rfl), trivial⟩ ⟨hq.1, hq.2.1, (hq.2.2.sift fun y hy => Or.inr (N y hy)).mono (by decide) (by decide)⟩⟩
theorem main_1_1 : Claimed_1_1 := comes_1 fun _ _ _ _ _ _ h hF => ⟨h.1, hF⟩
theorem main_1_2 : Claimed_1_2 := comes_1 fun _ _ _ _ _ _ h hF => ⟨h.2.1, hF⟩
end Jvm.Pilot.@@N@@
namespace Jvm.Pilot.@@N@@
open Jvm Jvm.ClassFile Sem Op Lib Jvm.Free Jvm.Stand Jvm.Pilot.@@N@@.Jvm.D
/-! MADE BY PROGRAM (witnessworld.py) out of the Statement's table words and the real class files: 11 classes; the members and pool entries that the words name. The judged class is class 1, her method 1. -/
namespace start1
open Jvm.ClassFile
def u (s : String) : CpInfo := .utf8 (stringToUtf16 s)
/-- a pool by its gaps: so many unusable entries, then the entry; so many at the end -/
def gap : Nat → List CpInfo → List CpInfo
  | 0, r => r
  | n + 1, r => .unusable :: gap n r
def poolList (es : List (Nat × CpInfo)) (last : Nat) : List CpInfo := es.foldr (fun e r => gap e.1 (e.2 :: r)) (gap last [])
def pool (es : List (Nat × CpInfo)) (last : Nat) : Array CpInfo := ⟨poolList es last⟩
def fileOf (pool : Array CpInfo) (this : Nat) (attrs : Array Attribute := #[]) (ms : Array MethodInfo := #[]) (fl : Nat := 33) (sup : Nat := 0) (ifs : Array Nat := #[]) (fds : Array FieldInfo := #[]) : ClassFile where
  minorVersion := 0
  majorVersion := 65
  constantPool := pool
  accessFlags := fl
  thisClass := this
  superClass := sup
  interfaces := ifs
  fields := fds
  methods := ms
  attributes := attrs
def plain (name : String) (sup : Option ClassId) : Class where
  name := name
  kind := .ordinary
  loader := none
  accessFlags := 33
  super := sup
  interfaces := #[]
  cf := none
  fields := #[]
  methods := #[]
  instanceTypes := #[]
  staticTypes := #[]
  resolved := #[]
  callSites := []
  init := .initialized
  statics := none
  mirror := none

def pool0 : Array CpInfo := pool [(5, u "<init>"), (0, u "()V"), (1, .class_ 10), (1, u "java/lang/Object")] 113

def k0c0 : Code := { maxStack := 0, maxLocals := 1, code := object_method_1_code, exceptionTable := #[], attributes := #[] }
def k0m0 : Method := { name := "<init>", desc := "()V", sig := { parameters := [], returnType := none }, accessFlags := 1, code := some k0c0 }
/-- java/lang/Object -/
def k0 : Class := { plain "java/lang/Object" none with
  accessFlags := 33
  interfaces := #[]
  cf := some (fileOf pool0 8 #[] #[{ accessFlags := 1, nameIndex := 5, descriptorIndex := 6, attributes := #[] }] 33 0 #[] #[])
  fields := #[]
  methods := #[k0m0]
  instanceTypes := #[]
  staticTypes := #[]
  resolved := Array.replicate 124 none
  statics := none }

def pool1 : Array CpInfo := pool [(2, .class_ 4), (1, u "java/lang/Object"), (0, u "<init>"), (0, u "()V"), (0, .integer 2147483647), (0, .methodref 9 10), (0, .class_ 11), (0, .nameAndType 12 13), (0, u "java/lang/Math"), (0, u "max"), (0, u "(II)I"), (2, .class_ 17), (0, u "com/example/punctual_lease/punctuallease/SessionTimeoutBounds"), (0, .methodref 16 19), (0, .nameAndType 5 20), (0, u "(II)V"), (0, .methodref 16 22), (0, .nameAndType 23 24), (0, u "grant"), (0, u "(I)I"), (0, .class_ 26), (0, u "com/example/punctual_lease/punctuallease/SessionTimeoutBoundsGrantPinLaw"), (2, u "law"), (0, u "(III)Z")] 3

def k1m0 : Method := { name := "<init>", desc := "()V", sig := { parameters := [], returnType := none }, accessFlags := 1, code := none }
def k1c1 : Code := { maxStack := 4, maxLocals := 9, code := code, exceptionTable := #[], attributes := #[] }
def k1m1 : Method := { name := "law", desc := "(III)Z", sig := { parameters := [.int, .int, .int], returnType := some .boolean }, accessFlags := 9, code := some k1c1 }
/-- com/example/punctual_lease/punctuallease/SessionTimeoutBoundsGrantPinLaw -/
def k1 : Class := { plain "com/example/punctual_lease/punctuallease/SessionTimeoutBoundsGrantPinLaw" (some 0) with
  accessFlags := 49
  interfaces := #[]
  cf := some (fileOf pool1 25 #[] #[{ accessFlags := 1, nameIndex := 5, descriptorIndex := 6, attributes := #[] }, { accessFlags := 9, nameIndex := 29, descriptorIndex := 30, attributes := #[] }] 49 2 #[] #[])
  fields := #[]
  methods := #[k1m0, k1m1]
  instanceTypes := #[]
  staticTypes := #[]
  resolved := Array.replicate 34 none
  statics := none }

def pool2 : Array CpInfo := pool [(1, .class_ 2), (0, u "java/lang/Math"), (1, .class_ 6), (1, u "java/lang/Object"), (0, u "<init>"), (0, u "()V"), (89, .class_ 100), (1, u "java/lang/Math$RandomNumberGeneratorHolder"), (71, u "negativeZeroFloatBits"), (0, u "J"), (2, u "negativeZeroDoubleBits"), (21, u "max"), (2, u "min"), (43, u "$assertionsDisabled"), (0, u "Z"), (88, u "(II)I"), (2, u "twoToTheDoubleScaleDown"), (0, u "D"), (4, u "twoToTheDoubleScaleUp"), (9, u "E"), (3, u "PI"), (2, u "TAU"), (2, u "DEGREES_TO_RADIANS"), (0, u "RADIANS_TO_DEGREES")] 94

def k2m0 : Method := { name := "<init>", desc := "()V", sig := { parameters := [], returnType := none }, accessFlags := 2, code := none }
def k2c1 : Code := { maxStack := 2, maxLocals := 2, code := jdk_29_method_65_code, exceptionTable := #[], attributes := #[] }
def k2m1 : Method := { name := "max", desc := "(II)I", sig := { parameters := [.int, .int], returnType := some .int }, accessFlags := 9, code := some k2c1 }
def k2c2 : Code := { maxStack := 2, maxLocals := 2, code := jdk_29_method_69_code, exceptionTable := #[], attributes := #[] }
def k2m2 : Method := { name := "min", desc := "(II)I", sig := { parameters := [.int, .int], returnType := some .int }, accessFlags := 9, code := some k2c2 }
/-- java/lang/Math -/
def k2 : Class := { plain "java/lang/Math" (some 0) with
  accessFlags := 49
  interfaces := #[]
  cf := some (fileOf pool2 1 #[.nestMembers #[98]] #[{ accessFlags := 2, nameIndex := 7, descriptorIndex := 8, attributes := #[] }, { accessFlags := 9, nameIndex := 198, descriptorIndex := 335, attributes := #[] }, { accessFlags := 9, nameIndex := 201, descriptorIndex := 335, attributes := #[] }] 49 4 #[] #[{ accessFlags := 25, nameIndex := 354, descriptorIndex := 339, attributes := #[] }, { accessFlags := 25, nameIndex := 358, descriptorIndex := 339, attributes := #[] }, { accessFlags := 25, nameIndex := 361, descriptorIndex := 339, attributes := #[] }, { accessFlags := 26, nameIndex := 364, descriptorIndex := 339, attributes := #[] }, { accessFlags := 26, nameIndex := 365, descriptorIndex := 339, attributes := #[] }, { accessFlags := 26, nameIndex := 172, descriptorIndex := 173, attributes := #[] }, { accessFlags := 26, nameIndex := 176, descriptorIndex := 173, attributes := #[] }, { accessFlags := 8, nameIndex := 344, descriptorIndex := 339, attributes := #[] }, { accessFlags := 8, nameIndex := 338, descriptorIndex := 339, attributes := #[] }, { accessFlags := 4120, nameIndex := 245, descriptorIndex := 246, attributes := #[] }])
  fields := #[{ name := "E", type := .double, accessFlags := 25, slot := 0, constantValue := 0 }, { name := "PI", type := .double, accessFlags := 25, slot := 1, constantValue := 0 }, { name := "TAU", type := .double, accessFlags := 25, slot := 2, constantValue := 0 }, { name := "DEGREES_TO_RADIANS", type := .double, accessFlags := 26, slot := 3, constantValue := 0 }, { name := "RADIANS_TO_DEGREES", type := .double, accessFlags := 26, slot := 4, constantValue := 0 }, { name := "negativeZeroFloatBits", type := .long, accessFlags := 26, slot := 5, constantValue := 0 }, { name := "negativeZeroDoubleBits", type := .long, accessFlags := 26, slot := 6, constantValue := 0 }, { name := "twoToTheDoubleScaleUp", type := .double, accessFlags := 8, slot := 7, constantValue := 0 }, { name := "twoToTheDoubleScaleDown", type := .double, accessFlags := 8, slot := 8, constantValue := 0 }, { name := "$assertionsDisabled", type := .boolean, accessFlags := 4120, slot := 9, constantValue := 0 }]
  methods := #[k2m0, k2m1, k2m2]
  instanceTypes := #[]
  staticTypes := #[.double, .double, .double, .double, .double, .long, .long, .double, .double, .boolean]
  resolved := Array.replicate 460 none
  statics := none }

def pool3 : Array CpInfo := pool [(1, .methodref 2 3), (0, .class_ 4), (0, .nameAndType 5 6), (0, u "java/lang/Object"), (0, u "<init>"), (0, u "()V"), (0, .class_ 8), (0, u "java/lang/Record")] 13

def k3c0 : Code := { maxStack := 1, maxLocals := 1, code := jdk_30_method_1_code, exceptionTable := #[], attributes := #[] }
def k3m0 : Method := { name := "<init>", desc := "()V", sig := { parameters := [], returnType := none }, accessFlags := 4, code := some k3c0 }
/-- java/lang/Record -/
def k3 : Class := { plain "java/lang/Record" (some 0) with
  accessFlags := 1057
  interfaces := #[]
  cf := some (fileOf pool3 7 #[] #[{ accessFlags := 4, nameIndex := 5, descriptorIndex := 6, attributes := #[] }] 1057 2 #[] #[])
  fields := #[]
  methods := #[k3m0]
  instanceTypes := #[]
  staticTypes := #[]
  resolved := Array.replicate 22 none
  statics := none }

def pool4 : Array CpInfo := pool [(1, .methodref 2 3), (0, .class_ 4), (0, .nameAndType 5 6), (0, u "java/lang/Record"), (0, u "<init>"), (0, u "()V"), (12, .fieldref 20 21), (0, .class_ 22), (0, .nameAndType 23 24), (0, u "com/example/punctual_lease/punctuallease/SessionTimeoutBounds"), (0, u "minMillis"), (0, u "I"), (0, .fieldref 20 26), (0, .nameAndType 27 24), (0, u "maxMillis"), (6, u "(II)V"), (0, .methodref 36 37), (0, .class_ 38), (0, .nameAndType 39 40), (0, u "java/lang/Math"), (0, u "max"), (0, u "(II)I"), (0, .methodref 36 42), (0, .nameAndType 43 40), (0, u "min"), (12, u "DEFAULT_MIN_TICKS"), (2, u "DEFAULT_MAX_TICKS"), (7, u "grant"), (0, u "(I)I")] 36

def k4c0 : Code := { maxStack := 4, maxLocals := 3, code := prog_7_method_1_code, exceptionTable := #[], attributes := #[] }
def k4m0 : Method := { name := "<init>", desc := "(II)V", sig := { parameters := [.int, .int], returnType := none }, accessFlags := 1, code := some k4c0 }
def k4c1 : Code := { maxStack := 3, maxLocals := 2, code := prog_7_method_3_code, exceptionTable := #[], attributes := #[] }
def k4m1 : Method := { name := "grant", desc := "(I)I", sig := { parameters := [.int], returnType := some .int }, accessFlags := 1, code := some k4c1 }
/-- com/example/punctual_lease/punctuallease/SessionTimeoutBounds -/
def k4 : Class := { plain "com/example/punctual_lease/punctuallease/SessionTimeoutBounds" (some 3) with
  accessFlags := 49
  interfaces := #[]
  cf := some (fileOf pool4 20 #[] #[{ accessFlags := 1, nameIndex := 5, descriptorIndex := 34, attributes := #[] }, { accessFlags := 1, nameIndex := 67, descriptorIndex := 68, attributes := #[] }] 49 2 #[] #[{ accessFlags := 18, nameIndex := 23, descriptorIndex := 24, attributes := #[] }, { accessFlags := 18, nameIndex := 27, descriptorIndex := 24, attributes := #[] }, { accessFlags := 26, nameIndex := 56, descriptorIndex := 24, attributes := #[] }, { accessFlags := 26, nameIndex := 59, descriptorIndex := 24, attributes := #[] }])
  fields := #[{ name := "minMillis", type := .int, accessFlags := 18, slot := 0, constantValue := 0 }, { name := "maxMillis", type := .int, accessFlags := 18, slot := 1, constantValue := 0 }, { name := "DEFAULT_MIN_TICKS", type := .int, accessFlags := 26, slot := 0, constantValue := 0 }, { name := "DEFAULT_MAX_TICKS", type := .int, accessFlags := 26, slot := 1, constantValue := 0 }]
  methods := #[k4m0, k4m1]
  instanceTypes := #[.int, .int]
  staticTypes := #[.int, .int]
  resolved := Array.replicate 105 none
  statics := none }

def pool5 : Array CpInfo := pool [(1, u "java/lang/Cloneable"), (0, .class_ 1), (0, u "java/lang/Object"), (0, .class_ 3)] 3

/-- java/lang/Cloneable -/
def k5 : Class := { plain "java/lang/Cloneable" (some 0) with
  accessFlags := 1537
  interfaces := #[]
  cf := some (fileOf pool5 2 #[] #[] 1537 4 #[] #[])
  fields := #[]
  methods := #[]
  instanceTypes := #[]
  staticTypes := #[]
  resolved := Array.replicate 8 none
  statics := none }

def pool6 : Array CpInfo := pool [(1, u "java/io/Serializable"), (0, .class_ 1), (0, u "java/lang/Object"), (0, .class_ 3)] 3

/-- java/io/Serializable -/
def k6 : Class := { plain "java/io/Serializable" (some 0) with
  accessFlags := 1537
  interfaces := #[]
  cf := some (fileOf pool6 2 #[] #[] 1537 4 #[] #[])
  fields := #[]
  methods := #[]
  instanceTypes := #[]
  staticTypes := #[]
  resolved := Array.replicate 8 none
  statics := none }

/-- the primitive byte -/
def k7 : Class := { plain "byte" none with kind := .primitive 'B', accessFlags := 0x411 }
/-- [B -/
def k8 : Class := { plain "[B" (some 0) with kind := .array 7 .byte, interfaces := #[5, 6], accessFlags := 1041 }

/-- the primitive int -/
def k9 : Class := { plain "int" none with kind := .primitive 'I', accessFlags := 0x411 }
/-- [I -/
def k10 : Class := { plain "[I" (some 0) with kind := .array 9 .int, interfaces := #[5, 6], accessFlags := 1041 }

def heap : Heap := #[]
def classes : Array Class := #[k0, k1, k2, k3, k4, k5, k6, k7, k8, k9, k10]
def interned : List (Array UInt16 × Addr) := []
def slotsUsed : Nat := 0
def theMethod : MethodId := ⟨1, 1⟩
def args0 : Array Value := #[.int 5, .int 3, .int 1]
def aboutOver (below : List Frame) : State where
  vm := { classes := classes, interned := interned.toArray }
  heap := heap
  slotsUsed := slotsUsed
  threads := #[{ frames := .invoking theMethod args0 :: below }]
def below0 : List Frame := [.native { method := ⟨0, 0⟩, args := #[] }]
def about1 : State := aboutOver below0
def p0 : Program := .bare "" "" ""
def e0 : Env := launch0.env 0 0 0
theorem w_frames : about1.frames = Frame.invoking theMethod args0 :: below0 := rfl
set_option maxRecDepth 65536 in
theorem w_args : argsFit about1.vm theMethod args0 = true := by decide +kernel
set_option maxRecDepth 65536 in
theorem w_heap : heapFits about1 = true := by decide +kernel
set_option maxRecDepth 65536 in
theorem w_runnable : about1.curStatus? = some .runnable := by decide +kernel
set_option maxRecDepth 65536 in
theorem w_alone : about1.alone = true := by decide +kernel
set_option maxRecDepth 65536 in
theorem w_named : about1.methodNamed? x = some theMethod := by decide +kernel
set_option maxRecDepth 65536 in
theorem w_hears : about1.hears theMethod below0 = true := by decide +kernel
set_option maxRecDepth 65536 in
theorem w_ripe : about1.ripe theMethod args0 below0 = true := by decide +kernel
theorem w_running : about1.status = .running := rfl
set_option maxRecDepth 65536 in
theorem w_room : about1.hasRoom e0.platform room_1 = true :=
  launch0.hasRoom_least _ room_1 (by decide +kernel) (by decide +kernel) (by decide +kernel) (by decide +kernel) (by decide +kernel) (by decide +kernel)
theorem allAtoms_all (ts : List Jvm.Cond) (a : Array Jvm.Value) (st : Jvm.State) : (allAtoms ts).before a st = ts.all (fun c => c.before a st) := by
  induction ts with
  | nil => rfl
  | cons c t ih =>
    show (Jvm.Cond.and c (allAtoms t)).before a st = _
    rw [Jvm.Cond.before_and, ih, List.all_cons]
def words1 : List Jvm.Cond := Jvm.Cond.code x code maxLocals ret :: tables_1
/-- a 'code' word, met by the world's own term for the bytes: nothing is compared byte by byte -/
theorem code_word {y : MethodName} {bytes : ByteArray} {mx : Nat} {rt : Option FieldType} {a : Array Value} {s : State} {m : MethodId} {meth : Method} {c : Code} (h1 : s.methodNamed? y = some m) (h2 : s.vm.method? m = some meth) (h3 : meth.code = some c) (h4 : c.code = bytes)
    (h5 : (c.maxLocals == mx && c.exceptionTable.isEmpty && decide (c.maxStack ≤ mostOperands) && decide (meth.sig.returnType = rt) && !meth.locks && decide (parseMethodDescriptor y.desc = some meth.sig)) = true) : (Jvm.Cond.code y bytes mx rt).before a s = true := by
  simp only [Bool.and_eq_true, beq_iff_eq, Bool.not_eq_true', decide_eq_true_eq] at h5
  obtain ⟨⟨⟨⟨⟨g1, g2⟩, g3⟩, g4⟩, g5⟩, g6⟩ := h5
  simp [Cond.before, Cond.holds, Cond.value, h1, h2, h3, h4, g1, g2, g3, g4, g5, g6]
def isCode : Jvm.Cond → Bool
  | .code _ _ _ _ => true
  | _ => false
theorem all_split {L : List Jvm.Cond} {P : Jvm.Cond → Bool} (h1 : L.all (fun c => isCode c || P c) = true) (h2 : ∀ c ∈ L.filter isCode, P c = true) : L.all P = true := by
  refine List.all_eq_true.mpr fun c hc => ?_
  have h := List.all_eq_true.mp h1 c hc
  rcases Bool.eq_false_or_eq_true (isCode c) with hi | hi
  · exact h2 c (List.mem_filter.mpr ⟨hc, hi⟩)
  · simpa [hi] using h
set_option maxRecDepth 65536 in
theorem w_c0 : (Jvm.Cond.code x code maxLocals ret).before args0 about1 = true := code_word (m := ⟨1, 1⟩) (meth := k1m1) (c := k1c1) (by decide +kernel) rfl rfl rfl (by decide +kernel)
set_option maxRecDepth 65536 in
theorem w_c1 : (Jvm.Cond.code ({ cls := "java/lang/Math", name := "max", desc := "(II)I" } : Jvm.MethodName) jdk_29_method_65_code (2 : Nat) (Option.some Jvm.ClassFile.FieldType.int)).before args0 about1 = true := code_word (m := ⟨2, 1⟩) (meth := k2m1) (c := k2c1) (by decide +kernel) rfl rfl rfl (by decide +kernel)
set_option maxRecDepth 65536 in
theorem w_c2 : (Jvm.Cond.code ({ cls := "com/example/punctual_lease/punctuallease/SessionTimeoutBounds", name := "<init>", desc := "(II)V" } : Jvm.MethodName) prog_7_method_1_code (3 : Nat) (Option.none : Option Jvm.ClassFile.FieldType)).before args0 about1 = true := code_word (m := ⟨4, 0⟩) (meth := k4m0) (c := k4c0) (by decide +kernel) rfl rfl rfl (by decide +kernel)
set_option maxRecDepth 65536 in
theorem w_c3 : (Jvm.Cond.code ({ cls := "java/lang/Record", name := "<init>", desc := "()V" } : Jvm.MethodName) jdk_30_method_1_code (1 : Nat) (Option.none : Option Jvm.ClassFile.FieldType)).before args0 about1 = true := code_word (m := ⟨3, 0⟩) (meth := k3m0) (c := k3c0) (by decide +kernel) rfl rfl rfl (by decide +kernel)
set_option maxRecDepth 65536 in
theorem w_c4 : (Jvm.Cond.code ({ cls := "java/lang/Object", name := "<init>", desc := "()V" } : Jvm.MethodName) object_method_1_code (1 : Nat) (Option.none : Option Jvm.ClassFile.FieldType)).before args0 about1 = true := code_word (m := ⟨0, 0⟩) (meth := k0m0) (c := k0c0) (by decide +kernel) rfl rfl rfl (by decide +kernel)
set_option maxRecDepth 65536 in
theorem w_c5 : (Jvm.Cond.code ({ cls := "com/example/punctual_lease/punctuallease/SessionTimeoutBounds", name := "grant", desc := "(I)I" } : Jvm.MethodName) prog_7_method_3_code (2 : Nat) (Option.some Jvm.ClassFile.FieldType.int)).before args0 about1 = true := code_word (m := ⟨4, 1⟩) (meth := k4m1) (c := k4c1) (by decide +kernel) rfl rfl rfl (by decide +kernel)
set_option maxRecDepth 65536 in
theorem w_c6 : (Jvm.Cond.code ({ cls := "java/lang/Math", name := "min", desc := "(II)I" } : Jvm.MethodName) jdk_29_method_69_code (2 : Nat) (Option.some Jvm.ClassFile.FieldType.int)).before args0 about1 = true := code_word (m := ⟨2, 2⟩) (meth := k2m2) (c := k2c2) (by decide +kernel) rfl rfl rfl (by decide +kernel)
def codes1 : List Jvm.Cond := [Jvm.Cond.code x code maxLocals ret, Jvm.Cond.code ({ cls := "java/lang/Math", name := "max", desc := "(II)I" } : Jvm.MethodName) jdk_29_method_65_code (2 : Nat) (Option.some Jvm.ClassFile.FieldType.int), Jvm.Cond.code ({ cls := "com/example/punctual_lease/punctuallease/SessionTimeoutBounds", name := "<init>", desc := "(II)V" } : Jvm.MethodName) prog_7_method_1_code (3 : Nat) (Option.none : Option Jvm.ClassFile.FieldType), Jvm.Cond.code ({ cls := "java/lang/Record", name := "<init>", desc := "()V" } : Jvm.MethodName) jdk_30_method_1_code (1 : Nat) (Option.none : Option Jvm.ClassFile.FieldType), Jvm.Cond.code ({ cls := "java/lang/Object", name := "<init>", desc := "()V" } : Jvm.MethodName) object_method_1_code (1 : Nat) (Option.none : Option Jvm.ClassFile.FieldType), Jvm.Cond.code ({ cls := "com/example/punctual_lease/punctuallease/SessionTimeoutBounds", name := "grant", desc := "(I)I" } : Jvm.MethodName) prog_7_method_3_code (2 : Nat) (Option.some Jvm.ClassFile.FieldType.int), Jvm.Cond.code ({ cls := "java/lang/Math", name := "min", desc := "(II)I" } : Jvm.MethodName) jdk_29_method_69_code (2 : Nat) (Option.some Jvm.ClassFile.FieldType.int)]
set_option maxRecDepth 65536 in
theorem codes_eq : words1.filter isCode = codes1 := rfl
theorem w_codes : ∀ c ∈ words1.filter isCode, c.before args0 about1 = true := by
  rw [codes_eq]
  intro c hc
  simp only [codes1, List.mem_cons, List.not_mem_nil, or_false] at hc
  rcases hc with rfl | rfl | rfl | rfl | rfl | rfl | rfl
  · exact w_c0
  · exact w_c1
  · exact w_c2
  · exact w_c3
  · exact w_c4
  · exact w_c5
  · exact w_c6
set_option maxRecDepth 65536 in
theorem w_t1 : (words1.take 24).all (fun c => isCode c || c.before args0 about1) = true := by decide +kernel
set_option maxRecDepth 65536 in
theorem w_t2 : (words1.drop 24).all (fun c => isCode c || c.before args0 about1) = true := by decide +kernel
theorem w_tables : (allAtoms (Jvm.Cond.code x code maxLocals ret :: tables_1)).before args0 about1 = true := by
  rw [allAtoms_all]
  show words1.all (fun c => c.before args0 about1) = true
  refine all_split ?_ w_codes
  rw [← List.take_append_drop 24 words1, List.all_append, w_t1, w_t2]
  rfl
set_option maxRecDepth 65536 in
theorem w_case : (Jvm.Cond.and given_1 narrow_1).before args0 about1 = true := by decide +kernel
theorem w_applies : (headSpec (Jvm.Cond.code x code maxLocals ret :: tables_1) room_1).applies x e0.platform about1 = true :=
  (Spec.applies_iff w_frames).mpr ⟨w_running, w_runnable, w_alone, w_named, w_hears, w_ripe, w_room, w_tables⟩
theorem atStart : AtStart classFile x code maxLocals ret World_1 tables_1 room_1 Calls_1 rest_1 Pre_1 launch0 p0 e0 about1 theMethod args0 below0 :=
  ⟨lists_1, trivial, launch0.admits_env _ _ _, launch0.least_env, fairChoices_fair.cas, fairChoices_fair.clock, w_frames, w_args, w_heap, w_applies, trivial, trivial, w_case⟩
end start1
theorem witness_1 : WitnessClaimed_1 := ⟨start1.p0, start1.e0, start1.about1, start1.theMethod, start1.args0, start1.below0, start1.atStart⟩
end Jvm.Pilot.@@N@@
