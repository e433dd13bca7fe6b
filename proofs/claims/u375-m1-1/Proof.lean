import JvmDerived
import JvmDerived.Pilot.@@N@@Statement
import JvmDerived.Pilot.@@N@@Code
set_option linter.unusedVariables false
set_option linter.unusedSimpArgs false
namespace Jvm.Pilot.@@N@@
open Jvm Jvm.ClassFile Sem Op Lib Jvm.Free Jvm.Stand Jvm.LawKit Jvm.RoadKit Bundle Jvm.Pilot.@@N@@.Jvm.D
section Own
variable {p : Program} {l : Launch} {e : Env} {R : Room} {s : State} {m : MethodId} {args : Array Value} {below : List Frame} {meth : Method} {c : Code} {T : State} {locs : List Loc} {cells slots : Nat} {C N : Nat} {Q : Option Value → Heap → List Loc → Prop} {S S' : State} {Z : State} {h h' : Heap}
/-- from the state S the invocation ends in a return, and Q holds there -/
def Go (p : Program) (e : Env) (below : List Frame) (s : State) (C N : Nat) (Q : Option Value → Heap → List Loc → Prop) (S : State) : Prop :=
  ∃ s₂ o, Steps p.tables e below S s₂ ∧ s₂.status = .running ∧ Ended s₂ below o ∧ ∃ v L, o = .returned v ∧ Q v s₂.heap L ∧ FrameEnd s o s₂ L C N
theorem Go.step (st : ∀ t, Steps p.tables e below S' t → Steps p.tables e below S t) (G : Go p e below s C N Q S') : Go p e below s C N Q S := by
  obtain ⟨s₂, o, h, r⟩ := G
  exact ⟨s₂, o, st _ h, r⟩
theorem Go.tr (st : Steps p.tables e below S S') (G : Go p e below s C N Q S') : Go p e below s C N Q S := by
  obtain ⟨s₂, o, h, r⟩ := G
  exact ⟨s₂, o, st.trans h, r⟩
theorem Go.out (X : Stand p l e R s m args below meth c T locs cells slots) {v : Option Value} {g : JFrame} (hv : meth.sig.returnType = none → v = none) (hlk : meth.locks = false)
    (hst : ∀ fs, (∀ (f : JFrame) (acts : List Action), f.method = m → f.locked = none → f.entered = [] → (doReturn e (T.setTop f) acts v).1 = T.setFrames fs) → Steps p.tables e below (T.setTop g) (T.setFrames fs))
    (hQ : Q v T.heap locs) (hc : cells ≤ C) (hn : slots ≤ N) : Go p e below s C N Q (T.setTop g) := by
  obtain ⟨fs, hr, hrun, hended, hW, hsame⟩ := X.leave (v := v) hv hlk
  exact ⟨_, _, hst fs hr, hrun, hended, _, _, rfl, hQ, ⟨_, rfl⟩, hW, hsame.mono hc hn⟩
theorem Go.retV (X : Stand p l e R s m args below meth c T locs cells slots) (hx : p.tables.exec = Jvm.exec) {pc : Nat} {Ls : Array Slot} (hret : meth.sig.returnType = none) (hlk : meth.locks = false) (hd : decode c.code pc = .ok (.return_, 1))
    (hQ : Q none T.heap locs) (hc : cells ≤ C) (hn : slots ≤ N) : Go p e below s C N Q (T.setTop (mkF m pc Ls [])) :=
  Go.out X (fun _ => rfl) hlk (fun fs hr => X.returnOut hx hret hd hr) hQ hc hn
theorem Go.retI (X : Stand p l e R s m args below meth c T locs cells slots) (hx : p.tables.exec = Jvm.exec) {pc : Nat} {Ls : Array Slot} {z : Int32} {rest : List Value} (hret : meth.sig.returnType = some .int) (hlk : meth.locks = false) (hd : decode c.code pc = .ok (.ireturn, 1))
    (hQ : Q (some (.int z)) T.heap locs) (hc : cells ≤ C) (hn : slots ≤ N) : Go p e below s C N Q (T.setTop (mkF m pc Ls (.int z :: rest))) :=
  Go.out X (fun h => by rw [hret] at h; cases h) hlk (fun fs hr => retOut X hx hret rfl (Or.inl ⟨rfl, Or.inl rfl, z, rfl⟩) hd hr) hQ hc hn
theorem Go.retN (X : Stand p l e R s m args below meth c T locs cells slots) (hx : p.tables.exec = Jvm.exec) {pc : Nat} {Ls : Array Slot} {z : Int32} {t : FieldType} {rest : List Value} (hret : meth.sig.returnType = some t) (ht : t = .boolean ∨ t = .byte ∨ t = .char ∨ t = .short) (hlk : meth.locks = false) (hd : decode c.code pc = .ok (.ireturn, 1))
    (hQ : Q (some (.int (nar t z))) T.heap locs) (hc : cells ≤ C) (hn : slots ≤ N) : Go p e below s C N Q (T.setTop (mkF m pc Ls (.int z :: rest))) :=
  Go.out X (fun h => by rw [hret] at h; cases h) hlk (fun fs hr => Jvm.RoadKit.retN X hx hret ht hd hr) hQ hc hn
theorem Go.retJ (X : Stand p l e R s m args below meth c T locs cells slots) (hx : p.tables.exec = Jvm.exec) {pc : Nat} {Ls : Array Slot} {z : Int64} {rest : List Value} (hret : meth.sig.returnType = some .long) (hlk : meth.locks = false) (hd : decode c.code pc = .ok (.lreturn, 1))
    (hQ : Q (some (.long z)) T.heap locs) (hc : cells ≤ C) (hn : slots ≤ N) : Go p e below s C N Q (T.setTop (mkF m pc Ls (.long z :: rest))) :=
  Go.out X (fun h => by rw [hret] at h; cases h) hlk (fun fs hr => retOut X hx hret rfl (Or.inr (Or.inl ⟨rfl, rfl, z, rfl⟩)) hd hr) hQ hc hn
theorem Go.retA (X : Stand p l e R s m args below meth c T locs cells slots) (hx : p.tables.exec = Jvm.exec) {pc : Nat} {Ls : Array Slot} {w : Value} {t : FieldType} {rest : List Value} (hret : meth.sig.returnType = some t) (ht : t.isReference = true) (hw : w.isRef = true) (hlk : meth.locks = false) (hd : decode c.code pc = .ok (.areturn, 1))
    (hQ : Q (some w) T.heap locs) (hc : cells ≤ C) (hn : slots ≤ N) : Go p e below s C N Q (T.setTop (mkF m pc Ls (w :: rest))) :=
  Go.out X (fun h => by rw [hret] at h; cases h) hlk (fun fs hr => retOut X hx hret (by rcases ref_cases hw with rfl | ⟨a, rfl⟩ <;> cases t <;> first | rfl | cases ht) (Or.inr (Or.inr (Or.inr (Or.inr ⟨rfl, ht, hw⟩)))) hd hr) hQ hc hn
/-- an array of ints, bytes ..: z places, the j-th holds f j -/
def Ai (Z : State) (h : Heap) (a : Addr) (ty : FieldType) (z : Int32) (f : Int32 → Int32) : Prop :=
  ∃ c : Cell, Arr Z h a c ty ∧ c.slots.size = z.toNatClampNeg ∧ ¬ z < 0 ∧ ∀ j : Int32, ¬ j < 0 → j < z → c.slots[j.toNatClampNeg]? = some (.int (f j))
theorem own_inb {cl : Cell} {z j : Int32} (S : cl.slots.size = z.toNatClampNeg) (h0 : ¬ j < 0) (h1 : j < z) : ¬ (j < 0 ∨ cl.slots.size ≤ j.toNatClampNeg) := inb_of S ⟨h0, h1⟩
theorem Ai.lt {a : Addr} {ty : FieldType} {z : Int32} {f : Int32 → Int32} (F : Ai Z h a ty z f) : a < h.size := by obtain ⟨c, A, -⟩ := F; exact A.lt
theorem Ai.nn {a : Addr} {ty : FieldType} {z : Int32} {f : Int32 → Int32} (F : Ai Z h a ty z f) : ¬ z < 0 := by obtain ⟨c, -, -, q, -⟩ := F; exact q
theorem Ai.ext {a : Addr} {ty : FieldType} {z : Int32} {f : Int32 → Int32} (F : Ai Z h a ty z f) (E : Ext h h') : Ai Z h' a ty z f := by obtain ⟨c, A, r⟩ := F; exact ⟨c, A.ext E, r⟩
theorem Ai.other {a b : Addr} {sl : Nat} {v : Value} {ty : FieldType} {z : Int32} {f : Int32 → Int32} (F : Ai Z h b ty z f) (W : Wr h h' a sl v) (q : b ≠ a) : Ai Z h' b ty z f := by obtain ⟨c, A, r⟩ := F; exact ⟨c, A.other W q, r⟩
theorem Ai.keep {a : Addr} {ws : List Addr} {ty : FieldType} {z : Int32} {f : Int32 → Int32} (F : Ai Z h a ty z f) (K : Keep h h' ws) (q : a ∉ ws) : Ai Z h' a ty z f := by obtain ⟨c, A, r⟩ := F; exact ⟨c, ⟨K.2.1 a c A.1 q, A.2⟩, r⟩
theorem Ai.new {a : Addr} {k : ClassId} {ty : FieldType} {z : Int32} (A : Arr Z h a (newA k ty z) ty) (q : ¬ z < 0) (hd : defaultValue ty = .int 0) : Ai Z h a ty z (fun _ => 0) :=
  ⟨_, A, sz_new _ _ _, q, fun j h0 h1 => by rw [get_new (sz_new k ty z ▸ own_inb (sz_new k ty z) h0 h1), hd]⟩
theorem Ai.eqf {a : Addr} {ty : FieldType} {z : Int32} {f g : Int32 → Int32} (F : Ai Z h a ty z f) (q : ∀ j : Int32, ¬ j < 0 → j < z → f j = g j) : Ai Z h a ty z g := by
  obtain ⟨c, A, S, n, H⟩ := F; exact ⟨c, A, S, n, fun j h0 h1 => by rw [← q j h0 h1]; exact H j h0 h1⟩
theorem Ai.set {a : Addr} {ty : FieldType} {z j x : Int32} {f : Int32 → Int32} (F : Ai Z h a ty z f) (h0 : ¬ j < 0) (h1 : j < z) (W : Wr h h' a j.toNatClampNeg (.int x)) : Ai Z h' a ty z (fun i => if i = j then x else f i) := by
  obtain ⟨c, A, S, n, H⟩ := F
  refine ⟨_, A.same W, by rw [sz_set]; exact S, n, fun i g0 g1 => ?_⟩
  by_cases e : i = j
  · rw [get_hit (own_inb S h0 h1) e]; simp [e]
  · rw [get_miss h0 g0 e, H i g0 g1]; simp [e]
theorem Ai.len (X : Stand p l e R s m args below meth c T locs cells slots) (hx : p.tables.exec = Jvm.exec) (hZ : Z.Warmed39 s.vm) (eT : T.heap = h) {a : Addr} {ty : FieldType} {z : Int32} {f : Int32 → Int32} (F : Ai Z h a ty z f)
    {g : JFrame} (hg : g.method = m) {rest : List Value} (hs : g.stack = .ref a :: rest) (hd : decode c.code g.pc = .ok (.arraylength, 1)) : ∀ target, Steps p.tables e below (T.setTop { g with pc := g.pc + 1, stack := .int z :: rest }) target → Steps p.tables e below (T.setTop g) target := by
  obtain ⟨cl, A, S, n, H⟩ := F
  intro t k
  refine X.arraylength hx (by rw [eT]; exact A.1) (State.isArrayOf_alike hZ.alike A.2.1) hg hs hd _ ?_
  rw [len_of S n]; exact k
theorem Ai.iaload (X : Stand p l e R s m args below meth c T locs cells slots) (hx : p.tables.exec = Jvm.exec) (hZ : Z.Warmed39 s.vm) (eT : T.heap = h) {a : Addr} {z j : Int32} {f : Int32 → Int32} (F : Ai Z h a .int z f) (h0 : ¬ j < 0) (h1 : j < z)
    {g : JFrame} (hg : g.method = m) {rest : List Value} (hs : g.stack = .int j :: .ref a :: rest) (hd : decode c.code g.pc = .ok (.iaload, 1)) : ∀ target, Steps p.tables e below (T.setTop { g with pc := g.pc + 1, stack := .int (f j) :: rest }) target → Steps p.tables e below (T.setTop g) target := by
  obtain ⟨cl, A, S, n, H⟩ := F
  exact X.iaload hx (by rw [eT]; exact A.1) (State.isArrayOf_alike hZ.alike A.2.1) A.2.2 (own_inb S h0 h1) (H j h0 h1) hg hs hd
theorem Ai.baload (X : Stand p l e R s m args below meth c T locs cells slots) (hx : p.tables.exec = Jvm.exec) (hZ : Z.Warmed39 s.vm) (eT : T.heap = h) {a : Addr} {z j : Int32} {f : Int32 → Int32} (F : Ai Z h a .byte z f) (h0 : ¬ j < 0) (h1 : j < z)
    {g : JFrame} (hg : g.method = m) {rest : List Value} (hs : g.stack = .int j :: .ref a :: rest) (hd : decode c.code g.pc = .ok (.baload, 1)) : ∀ target, Steps p.tables e below (T.setTop { g with pc := g.pc + 1, stack := .int (f j) :: rest }) target → Steps p.tables e below (T.setTop g) target := by
  obtain ⟨cl, A, S, n, H⟩ := F
  exact X.baloadBytes hx (by rw [eT]; exact A.1) (State.isArrayOf_alike hZ.alike A.2.1) A.2.2 (own_inb S h0 h1) (H j h0 h1) hg hs hd
theorem Ai.stI (X : Stand p l e R s m args below meth c T locs cells slots) (hx : p.tables.exec = Jvm.exec) (hZ : Z.Warmed39 s.vm) (eT : T.heap = h) {a : Addr} {z j x : Int32} {f : Int32 → Int32} (F : Ai Z h a .int z f) (h0 : ¬ j < 0) (h1 : j < z)
    {g : JFrame} (hg : g.method = m) {rest : List Value} (hs : g.stack = .int x :: .int j :: .ref a :: rest) (hd : decode c.code g.pc = .ok (.iastore, 1)) :
    ∃ T' h', Stand p l e R s m args below meth c T' (locs ++ [⟨a, j.toNatClampNeg⟩]) cells slots ∧ T'.heap = h' ∧ Wr h h' a j.toNatClampNeg (.int x) ∧ Ai Z h' a .int z (fun i => if i = j then x else f i) ∧ ∀ target, Steps p.tables e below (T'.setTop { g with pc := g.pc + 1, stack := rest }) target → Steps p.tables e below (T.setTop g) target := by
  obtain ⟨cl, A, S, n, H⟩ := F
  obtain ⟨T', h', X', e', W, st⟩ := Jvm.RoadKit.stI X hx hZ eT A (own_inb S h0 h1) hg hs hd
  exact ⟨T', h', X', e', W, Ai.set ⟨cl, A, S, n, H⟩ h0 h1 W, st⟩
theorem Ai.stB (X : Stand p l e R s m args below meth c T locs cells slots) (hx : p.tables.exec = Jvm.exec) (hZ : Z.Warmed39 s.vm) (eT : T.heap = h) {a : Addr} {z j x : Int32} {f : Int32 → Int32} (F : Ai Z h a .byte z f) (h0 : ¬ j < 0) (h1 : j < z)
    {g : JFrame} (hg : g.method = m) {rest : List Value} (hs : g.stack = .int x :: .int j :: .ref a :: rest) (hd : decode c.code g.pc = .ok (.bastore, 1)) :
    ∃ T' h', Stand p l e R s m args below meth c T' (locs ++ [⟨a, j.toNatClampNeg⟩]) cells slots ∧ T'.heap = h' ∧ Wr h h' a j.toNatClampNeg (.int (nar .byte x)) ∧ Ai Z h' a .byte z (fun i => if i = j then nar .byte x else f i) ∧ ∀ target, Steps p.tables e below (T'.setTop { g with pc := g.pc + 1, stack := rest }) target → Steps p.tables e below (T.setTop g) target := by
  obtain ⟨cl, A, S, n, H⟩ := F
  obtain ⟨T', h', X', e', W, st⟩ := Jvm.RoadKit.stB X hx hZ eT A (own_inb S h0 h1) hg hs hd
  exact ⟨T', h', X', e', W, Ai.set ⟨cl, A, S, n, H⟩ h0 h1 W, st⟩
end Own
theorem narrow_ref {t : FieldType} {v : Value} (hv : v.isRef = true) (ht : t.isReference = true) : narrow t v = v := by rcases ref_cases hv with rfl | ⟨a, rfl⟩ <;> cases t <;> first | rfl | cases ht
theorem fits_refV {t : FieldType} {v : Value} (hv : v.isRef = true) (ht : t.isReference = true) : fits t v = true := by rcases ref_cases hv with rfl | ⟨a, rfl⟩ <;> cases t <;> first | rfl | cases ht
theorem own_iincW {tb : Tables} [Ours tb] {e : Env} {below : List Frame} {T target : State} {m : MethodId} {c : Code} {g : JFrame} (h : At T m c below) (hx : tb.exec = Jvm.exec) (hg : g.method = m) {k : Nat} {cst : Int} {x : Int32} {l' : Array Slot} (hd : decode c.code g.pc = .ok (.iinc k cst, 6)) (hl : g.locals[k]? = some (.val (.int x))) (hl' : storeLocals g.locals k (.int (x + Int32.ofInt cst)) = some l')
    (hr : Steps tb e below (T.setTop { g with pc := g.pc + 6, locals := l' }) target) : Steps tb e below (T.setTop g) target := by
  subst hg
  jvm_step h [h.top, hx, hd, hl, hl']
  exact hr

theorem own_nb1 : nar .boolean 1 = 1 := by decide
theorem own_nb0 : nar .boolean 0 = 0 := by decide
theorem pn_0 : plainName "com/example/tree_automata_reducer/treeautomatareducer/io/LineEndsEndsLinePinLaw" = true := by first | (simp [plainName, overriddenIn]; done) | decide +kernel
theorem d1_0 : decode method_2_code 0 = .ok (.iload_n 0, 1) := by decide +kernel
theorem d1_1 : decode method_2_code 1 = .ok (.ifCond .ne 6, 3) := by decide +kernel
theorem d1_4 : decode method_2_code 4 = .ok (.bipush 10, 2) := by decide +kernel
theorem d1_6 : decode method_2_code 6 = .ok (.ireturn, 1) := by decide +kernel
theorem d1_7 : decode method_2_code 7 = .ok (.iload_n 0, 1) := by decide +kernel
theorem d1_8 : decode method_2_code 8 = .ok (.iconst 1, 1) := by decide +kernel
theorem d1_9 : decode method_2_code 9 = .ok (.if_icmp .ne 6, 3) := by decide +kernel
theorem d1_12 : decode method_2_code 12 = .ok (.bipush 13, 2) := by decide +kernel
theorem d1_14 : decode method_2_code 14 = .ok (.ireturn, 1) := by decide +kernel
theorem d1_15 : decode method_2_code 15 = .ok (.iload_n 0, 1) := by decide +kernel
theorem d1_16 : decode method_2_code 16 = .ok (.iconst 2, 1) := by decide +kernel
theorem d1_17 : decode method_2_code 17 = .ok (.if_icmp .ne 5, 3) := by decide +kernel
theorem d1_20 : decode method_2_code 20 = .ok (.iconst (-1), 1) := by decide +kernel
theorem d1_21 : decode method_2_code 21 = .ok (.ireturn, 1) := by decide +kernel
theorem d1_22 : decode method_2_code 22 = .ok (.iload_n 1, 1) := by decide +kernel
theorem d1_23 : decode method_2_code 23 = .ok (.ireturn, 1) := by decide +kernel
theorem ef_1 (m : MethodId) (p0 : Int32) (p1 : Int32) : entryFrame m #[(.int p0), (.int p1)] 2 = mkF m 0 #[.val (.int p0), .val (.int p1)] [] := by first | (simp [entryFrame, mkF, argsToLocals, Value.category]; done) | rfl
def Q1 (Z : State) (p0 : Int32) (p1 : Int32) (h0 : Heap) (n0 : Nat) (v : Option Value) (h : Heap) (L : List Loc) : Prop := ∃ (w : Int32), (v = some (.int w)) ∧ (Fr n0 L) ∧ (h = h0)
set_option maxRecDepth 65536 in
set_option maxHeartbeats 40000000 in
theorem rm1 (l : Launch) (Z : State) (aZ : Array Value) (hw : ∀ d ∈ tables_1, d.before aZ Z = true) (ws : List Jvm.Cond) (p0 : Int32) (p1 : Int32) (h0 : Heap) (n0 : Nat) (Z0 : n0 ≤ h0.size)  :
    MetFree l (⟨"com/example/tree_automata_reducer/treeautomatareducer/io/LineEndsEndsLinePinLaw", "pick", "(II)I"⟩ : MethodName) (head1 (Jvm.Cond.code (⟨"com/example/tree_automata_reducer/treeautomatareducer/io/LineEndsEndsLinePinLaw", "pick", "(II)I"⟩ : MethodName) method_2_code 2 (some .int) :: ws) ({ frames := 0, cells := 0, slots := 0, locals := 0 } : Room)) (fun a U => a = #[(.int p0), (.int p1)] ∧ Z.Warmed39 U.vm ∧ U.heap = h0) (fun _ _ _ _ _ => True) (fun _ U o U' => ∃ v L, o = .returned v ∧ Q1 Z p0 p1 h0 n0 v U'.heap L ∧ FrameEnd U o U' L ({ frames := 0, cells := 0, slots := 0, locals := 0 } : Room).cells ({ frames := 0, cells := 0, slots := 0, locals := 0 } : Room).slots) := by
  refine MetFree.of_bodySF (plainFor_of_name pn_0) hisR ?_
  intro p e s m args below meth c s₁ Bd hml0 hP hK
  obtain ⟨rfl, hZ, hh⟩ := hP
  have hx := Bd.exec
  have hby := Bd.bytes
  have hml : c.maxLocals = 2 := hml0
  have hown : s.vm.findClass "com/example/tree_automata_reducer/treeautomatareducer/io/LineEndsEndsLinePinLaw" = some m.cls := findClass_of_methodNamed Bd.named
  have hnm := (name_of_methodNamed Bd.named Bd.method).1
  have hlk : meth.locks = false := BodyLoose.notSynchronized Bd
  have X0 : Stand p l e ({ frames := 0, cells := 0, slots := 0, locals := 0 } : Room) s m #[(.int p0), (.int p1)] below meth c s₁ [] 0 0 := Stand.of_body Bd
  have e0 : s₁.heap = h0 := by rw [← hh, Bd.state]; rfl
  have N0 := Fr.nil n0
  have sq0 : h0.size ≤ h0.size := Nat.le_refl _
  change Go p e below s ({ frames := 0, cells := 0, slots := 0, locals := 0 } : Room).cells ({ frames := 0, cells := 0, slots := 0, locals := 0 } : Room).slots (Q1 Z p0 p1 h0 n0) (s₁.setTop (entryFrame m #[(.int p0), (.int p1)] 2))
  rw [ef_1 m p0 p1]
  show Go _ _ _ _ _ _ _ (s₁.setTop (mkF m 0 #[.val (.int p0), .val (.int p1)] []))
  refine Go.step (fun _ k => XS.iloadN X0.here hx rfl (hb hby d1_0) rfl  k) ?_
  show Go _ _ _ _ _ _ _ (s₁.setTop (mkF m 1 #[.val (.int p0), .val (.int p1)] [(.int p0)]))
  by_cases hc1 : p0 = (0 : Int32)
  · skip
    refine Go.step (fun _ k => XS.ifNo X0.here hx rfl (hb hby d1_1) rfl ((if0 _ _).trans (teq hc1).2) k) ?_
    show Go _ _ _ _ _ _ _ (s₁.setTop (mkF m 4 #[.val (.int p0), .val (.int p1)] []))
    refine Go.step (fun _ k => XS.bipush X0.here hx rfl (hb hby d1_4) k) ?_
    show Go _ _ _ _ _ _ _ (s₁.setTop (mkF m 6 #[.val (.int p0), .val (.int p1)] [(.int (10 : Int32))]))
    refine Go.retI X0 hx Bd.returns hlk (hb hby d1_6) ?_ (by decide) (by decide)
    rw [e0]
    exact ⟨(10 : Int32), (rfl), N0, rfl⟩
  · skip
    refine Go.step (fun _ k => XS.ifYes X0.here hx rfl (pc0 := 1) (pc' := 7) rfl (hb hby d1_1) rfl ((if0 _ _).trans (feq hc1).2) (by decide) (by decide) k) ?_
    show Go _ _ _ _ _ _ _ (s₁.setTop (mkF m 7 #[.val (.int p0), .val (.int p1)] []))
    refine Go.step (fun _ k => XS.iloadN X0.here hx rfl (hb hby d1_7) rfl  k) ?_
    show Go _ _ _ _ _ _ _ (s₁.setTop (mkF m 8 #[.val (.int p0), .val (.int p1)] [(.int p0)]))
    refine Go.step (fun _ k => XS.iconst X0.here hx rfl (hb hby d1_8) k) ?_
    show Go _ _ _ _ _ _ _ (s₁.setTop (mkF m 9 #[.val (.int p0), .val (.int p1)] [(.int (1 : Int32)), (.int p0)]))
    by_cases hc9 : p0 = (1 : Int32)
    · skip
      refine Go.step (fun _ k => XS.icmpNo X0.here hx rfl (hb hby d1_9) rfl (teq hc9).2 k) ?_
      show Go _ _ _ _ _ _ _ (s₁.setTop (mkF m 12 #[.val (.int p0), .val (.int p1)] []))
      refine Go.step (fun _ k => XS.bipush X0.here hx rfl (hb hby d1_12) k) ?_
      show Go _ _ _ _ _ _ _ (s₁.setTop (mkF m 14 #[.val (.int p0), .val (.int p1)] [(.int (13 : Int32))]))
      refine Go.retI X0 hx Bd.returns hlk (hb hby d1_14) ?_ (by decide) (by decide)
      rw [e0]
      exact ⟨(13 : Int32), (rfl), N0, rfl⟩
    · skip
      refine Go.step (fun _ k => XS.icmpYes X0.here hx rfl (pc0 := 9) (pc' := 15) rfl (hb hby d1_9) rfl (feq hc9).2 (by decide) (by decide) k) ?_
      show Go _ _ _ _ _ _ _ (s₁.setTop (mkF m 15 #[.val (.int p0), .val (.int p1)] []))
      refine Go.step (fun _ k => XS.iloadN X0.here hx rfl (hb hby d1_15) rfl  k) ?_
      show Go _ _ _ _ _ _ _ (s₁.setTop (mkF m 16 #[.val (.int p0), .val (.int p1)] [(.int p0)]))
      refine Go.step (fun _ k => XS.iconst X0.here hx rfl (hb hby d1_16) k) ?_
      show Go _ _ _ _ _ _ _ (s₁.setTop (mkF m 17 #[.val (.int p0), .val (.int p1)] [(.int (2 : Int32)), (.int p0)]))
      by_cases hc17 : p0 = (2 : Int32)
      · skip
        refine Go.step (fun _ k => XS.icmpNo X0.here hx rfl (hb hby d1_17) rfl (teq hc17).2 k) ?_
        show Go _ _ _ _ _ _ _ (s₁.setTop (mkF m 20 #[.val (.int p0), .val (.int p1)] []))
        refine Go.step (fun _ k => XS.iconst X0.here hx rfl (hb hby d1_20) k) ?_
        show Go _ _ _ _ _ _ _ (s₁.setTop (mkF m 21 #[.val (.int p0), .val (.int p1)] [(.int (-1 : Int32))]))
        refine Go.retI X0 hx Bd.returns hlk (hb hby d1_21) ?_ (by decide) (by decide)
        rw [e0]
        exact ⟨(-1 : Int32), (rfl), N0, rfl⟩
      · skip
        refine Go.step (fun _ k => XS.icmpYes X0.here hx rfl (pc0 := 17) (pc' := 22) rfl (hb hby d1_17) rfl (feq hc17).2 (by decide) (by decide) k) ?_
        show Go _ _ _ _ _ _ _ (s₁.setTop (mkF m 22 #[.val (.int p0), .val (.int p1)] []))
        refine Go.step (fun _ k => XS.iloadN X0.here hx rfl (hb hby d1_22) rfl  k) ?_
        show Go _ _ _ _ _ _ _ (s₁.setTop (mkF m 23 #[.val (.int p0), .val (.int p1)] [(.int p1)]))
        refine Go.retI X0 hx Bd.returns hlk (hb hby d1_23) ?_ (by decide) (by decide)
        rw [e0]
        exact ⟨p1, (rfl), N0, rfl⟩
theorem pn_1 : plainName "com/example/tree_automata_reducer/treeautomatareducer/io/LineEnds" = true := by first | (simp [plainName, overriddenIn]; done) | decide +kernel
theorem d2_0 : decode prog_14_method_3_code 0 = .ok (.iload_n 0, 1) := by decide +kernel
theorem d2_1 : decode prog_14_method_3_code 1 = .ok (.bipush 10, 2) := by decide +kernel
theorem d2_3 : decode prog_14_method_3_code 3 = .ok (.if_icmp .eq 15, 3) := by decide +kernel
theorem d2_6 : decode prog_14_method_3_code 6 = .ok (.iload_n 0, 1) := by decide +kernel
theorem d2_7 : decode prog_14_method_3_code 7 = .ok (.bipush 13, 2) := by decide +kernel
theorem d2_9 : decode prog_14_method_3_code 9 = .ok (.if_icmp .ne 13, 3) := by decide +kernel
theorem d2_12 : decode prog_14_method_3_code 12 = .ok (.iload_n 1, 1) := by decide +kernel
theorem d2_13 : decode prog_14_method_3_code 13 = .ok (.bipush 10, 2) := by decide +kernel
theorem d2_15 : decode prog_14_method_3_code 15 = .ok (.if_icmp .eq 7, 3) := by decide +kernel
theorem d2_18 : decode prog_14_method_3_code 18 = .ok (.iconst 1, 1) := by decide +kernel
theorem d2_19 : decode prog_14_method_3_code 19 = .ok (.goto 4, 3) := by decide +kernel
theorem d2_22 : decode prog_14_method_3_code 22 = .ok (.iconst 0, 1) := by decide +kernel
theorem d2_23 : decode prog_14_method_3_code 23 = .ok (.ireturn, 1) := by decide +kernel
theorem ef_2 (m : MethodId) (p0 : Int32) (p1 : Int32) : entryFrame m #[(.int p0), (.int p1)] 2 = mkF m 0 #[.val (.int p0), .val (.int p1)] [] := by first | (simp [entryFrame, mkF, argsToLocals, Value.category]; done) | rfl
def Q2 (Z : State) (p0 : Int32) (p1 : Int32) (h0 : Heap) (n0 : Nat) (v : Option Value) (h : Heap) (L : List Loc) : Prop := (v = some (.int (if p0 = 10 ∨ (p0 = 13 ∧ ¬ p1 = 10) then (1 : Int32) else 0))) ∧ (Fr n0 L) ∧ (h = h0)
set_option maxRecDepth 65536 in
set_option maxHeartbeats 40000000 in
theorem rm2 (l : Launch) (Z : State) (aZ : Array Value) (hw : ∀ d ∈ tables_1, d.before aZ Z = true) (ws : List Jvm.Cond) (p0 : Int32) (p1 : Int32) (h0 : Heap) (n0 : Nat) (Z0 : n0 ≤ h0.size)  :
    MetFree l (⟨"com/example/tree_automata_reducer/treeautomatareducer/io/LineEnds", "endsLine", "(II)Z"⟩ : MethodName) (head1 (Jvm.Cond.code (⟨"com/example/tree_automata_reducer/treeautomatareducer/io/LineEnds", "endsLine", "(II)Z"⟩ : MethodName) prog_14_method_3_code 2 (some .boolean) :: ws) ({ frames := 0, cells := 0, slots := 0, locals := 0 } : Room)) (fun a U => a = #[(.int p0), (.int p1)] ∧ Z.Warmed39 U.vm ∧ U.heap = h0) (fun _ _ _ _ _ => True) (fun _ U o U' => ∃ v L, o = .returned v ∧ Q2 Z p0 p1 h0 n0 v U'.heap L ∧ FrameEnd U o U' L ({ frames := 0, cells := 0, slots := 0, locals := 0 } : Room).cells ({ frames := 0, cells := 0, slots := 0, locals := 0 } : Room).slots) := by
  refine MetFree.of_bodySF (plainFor_of_name pn_1) hisR ?_
  intro p e s m args below meth c s₁ Bd hml0 hP hK
  obtain ⟨rfl, hZ, hh⟩ := hP
  have hx := Bd.exec
  have hby := Bd.bytes
  have hml : c.maxLocals = 2 := hml0
  have hown : s.vm.findClass "com/example/tree_automata_reducer/treeautomatareducer/io/LineEnds" = some m.cls := findClass_of_methodNamed Bd.named
  have hnm := (name_of_methodNamed Bd.named Bd.method).1
  have hlk : meth.locks = false := BodyLoose.notSynchronized Bd
  have X0 : Stand p l e ({ frames := 0, cells := 0, slots := 0, locals := 0 } : Room) s m #[(.int p0), (.int p1)] below meth c s₁ [] 0 0 := Stand.of_body Bd
  have e0 : s₁.heap = h0 := by rw [← hh, Bd.state]; rfl
  have N0 := Fr.nil n0
  have sq0 : h0.size ≤ h0.size := Nat.le_refl _
  change Go p e below s ({ frames := 0, cells := 0, slots := 0, locals := 0 } : Room).cells ({ frames := 0, cells := 0, slots := 0, locals := 0 } : Room).slots (Q2 Z p0 p1 h0 n0) (s₁.setTop (entryFrame m #[(.int p0), (.int p1)] 2))
  rw [ef_2 m p0 p1]
  show Go _ _ _ _ _ _ _ (s₁.setTop (mkF m 0 #[.val (.int p0), .val (.int p1)] []))
  refine Go.step (fun _ k => XS.iloadN X0.here hx rfl (hb hby d2_0) rfl  k) ?_
  show Go _ _ _ _ _ _ _ (s₁.setTop (mkF m 1 #[.val (.int p0), .val (.int p1)] [(.int p0)]))
  refine Go.step (fun _ k => XS.bipush X0.here hx rfl (hb hby d2_1) k) ?_
  show Go _ _ _ _ _ _ _ (s₁.setTop (mkF m 3 #[.val (.int p0), .val (.int p1)] [(.int (10 : Int32)), (.int p0)]))
  by_cases hc3 : p0 = (10 : Int32)
  · skip
    refine Go.step (fun _ k => XS.icmpYes X0.here hx rfl (pc0 := 3) (pc' := 18) rfl (hb hby d2_3) rfl (teq hc3).1 (by decide) (by decide) k) ?_
    show Go _ _ _ _ _ _ _ (s₁.setTop (mkF m 18 #[.val (.int p0), .val (.int p1)] []))
    refine Go.step (fun _ k => XS.iconst X0.here hx rfl (hb hby d2_18) k) ?_
    show Go _ _ _ _ _ _ _ (s₁.setTop (mkF m 19 #[.val (.int p0), .val (.int p1)] [(.int (1 : Int32))]))
    refine Go.step (fun _ k => XS.goto X0.here hx rfl (pc0 := 19) (pc' := 23) rfl (hb hby d2_19) (by decide) (by decide) k) ?_
    show Go _ _ _ _ _ _ _ (s₁.setTop (mkF m 23 #[.val (.int p0), .val (.int p1)] [(.int (1 : Int32))]))
    refine Go.retN X0 hx (t := .boolean) Bd.returns (by simp) hlk (hb hby d2_23) ?_ (by decide) (by decide)
    rw [e0]
    exact ⟨(by first | rfl | (simp_all [own_nb1, own_nb0]; done)), N0, rfl⟩
  · skip
    refine Go.step (fun _ k => XS.icmpNo X0.here hx rfl (hb hby d2_3) rfl (feq hc3).1 k) ?_
    show Go _ _ _ _ _ _ _ (s₁.setTop (mkF m 6 #[.val (.int p0), .val (.int p1)] []))
    refine Go.step (fun _ k => XS.iloadN X0.here hx rfl (hb hby d2_6) rfl  k) ?_
    show Go _ _ _ _ _ _ _ (s₁.setTop (mkF m 7 #[.val (.int p0), .val (.int p1)] [(.int p0)]))
    refine Go.step (fun _ k => XS.bipush X0.here hx rfl (hb hby d2_7) k) ?_
    show Go _ _ _ _ _ _ _ (s₁.setTop (mkF m 9 #[.val (.int p0), .val (.int p1)] [(.int (13 : Int32)), (.int p0)]))
    by_cases hc9 : p0 = (13 : Int32)
    · skip
      refine Go.step (fun _ k => XS.icmpNo X0.here hx rfl (hb hby d2_9) rfl (teq hc9).2 k) ?_
      show Go _ _ _ _ _ _ _ (s₁.setTop (mkF m 12 #[.val (.int p0), .val (.int p1)] []))
      refine Go.step (fun _ k => XS.iloadN X0.here hx rfl (hb hby d2_12) rfl  k) ?_
      show Go _ _ _ _ _ _ _ (s₁.setTop (mkF m 13 #[.val (.int p0), .val (.int p1)] [(.int p1)]))
      refine Go.step (fun _ k => XS.bipush X0.here hx rfl (hb hby d2_13) k) ?_
      show Go _ _ _ _ _ _ _ (s₁.setTop (mkF m 15 #[.val (.int p0), .val (.int p1)] [(.int (10 : Int32)), (.int p1)]))
      by_cases hc15 : p1 = (10 : Int32)
      · skip
        refine Go.step (fun _ k => XS.icmpYes X0.here hx rfl (pc0 := 15) (pc' := 22) rfl (hb hby d2_15) rfl (teq hc15).1 (by decide) (by decide) k) ?_
        show Go _ _ _ _ _ _ _ (s₁.setTop (mkF m 22 #[.val (.int p0), .val (.int p1)] []))
        refine Go.step (fun _ k => XS.iconst X0.here hx rfl (hb hby d2_22) k) ?_
        show Go _ _ _ _ _ _ _ (s₁.setTop (mkF m 23 #[.val (.int p0), .val (.int p1)] [(.int (0 : Int32))]))
        refine Go.retN X0 hx (t := .boolean) Bd.returns (by simp) hlk (hb hby d2_23) ?_ (by decide) (by decide)
        rw [e0]
        exact ⟨(by first | rfl | (simp_all [own_nb1, own_nb0]; done)), N0, rfl⟩
      · skip
        refine Go.step (fun _ k => XS.icmpNo X0.here hx rfl (hb hby d2_15) rfl (feq hc15).1 k) ?_
        show Go _ _ _ _ _ _ _ (s₁.setTop (mkF m 18 #[.val (.int p0), .val (.int p1)] []))
        refine Go.step (fun _ k => XS.iconst X0.here hx rfl (hb hby d2_18) k) ?_
        show Go _ _ _ _ _ _ _ (s₁.setTop (mkF m 19 #[.val (.int p0), .val (.int p1)] [(.int (1 : Int32))]))
        refine Go.step (fun _ k => XS.goto X0.here hx rfl (pc0 := 19) (pc' := 23) rfl (hb hby d2_19) (by decide) (by decide) k) ?_
        show Go _ _ _ _ _ _ _ (s₁.setTop (mkF m 23 #[.val (.int p0), .val (.int p1)] [(.int (1 : Int32))]))
        refine Go.retN X0 hx (t := .boolean) Bd.returns (by simp) hlk (hb hby d2_23) ?_ (by decide) (by decide)
        rw [e0]
        exact ⟨(by first | rfl | (simp_all [own_nb1, own_nb0]; done)), N0, rfl⟩
    · skip
      refine Go.step (fun _ k => XS.icmpYes X0.here hx rfl (pc0 := 9) (pc' := 22) rfl (hb hby d2_9) rfl (feq hc9).2 (by decide) (by decide) k) ?_
      show Go _ _ _ _ _ _ _ (s₁.setTop (mkF m 22 #[.val (.int p0), .val (.int p1)] []))
      refine Go.step (fun _ k => XS.iconst X0.here hx rfl (hb hby d2_22) k) ?_
      show Go _ _ _ _ _ _ _ (s₁.setTop (mkF m 23 #[.val (.int p0), .val (.int p1)] [(.int (0 : Int32))]))
      refine Go.retN X0 hx (t := .boolean) Bd.returns (by simp) hlk (hb hby d2_23) ?_ (by decide) (by decide)
      rw [e0]
      exact ⟨(by first | rfl | (simp_all [own_nb1, own_nb0]; done)), N0, rfl⟩
theorem pd_0 : parseMethodDescriptor "(II)I" = some ⟨[.int, .int], some .int⟩ := by decide +kernel
theorem pd_1 : parseMethodDescriptor "(II)Z" = some ⟨[.int, .int], some .boolean⟩ := by decide +kernel
theorem ef_0 (m : MethodId) (qa : Int32) (qb : Int32) (qe : Int32) (qd : Int32) : entryFrame m #[(.int qa), (.int qb), (.int qe), (.int qd)] maxLocals = mkF m 0 #[.val (.int qa), .val (.int qb), .val (.int qe), .val (.int qd), .unset, .unset, .unset, .unset, .unset] [] := by first | (simp [entryFrame, mkF, argsToLocals, Value.category, maxLocals]; done) | rfl
def Q0 (Z : State) (qa : Int32) (qb : Int32) (qe : Int32) (qd : Int32) (h0 : Heap) (n0 : Nat) (v : Option Value) (h : Heap) (L : List Loc) : Prop := (v = some (.int 1)) ∧ (Fr n0 L)
set_option maxRecDepth 65536 in
set_option maxHeartbeats 40000000 in
theorem rm0 (l : Launch) (Z : State) (aZ : Array Value) (hw : ∀ d ∈ tables_1, d.before aZ Z = true) (ws : List Jvm.Cond) (qa : Int32) (qb : Int32) (qe : Int32) (qd : Int32) (h0 : Heap) (n0 : Nat) (Z0 : n0 ≤ h0.size)  :
    MetFree l x (head1 (Jvm.Cond.code x code maxLocals ret :: ws) room_1) (fun a U => a = #[(.int qa), (.int qb), (.int qe), (.int qd)] ∧ Z.Warmed39 U.vm ∧ U.heap = h0) (fun _ _ _ _ _ => True) (fun _ U o U' => ∃ v L, o = .returned v ∧ Q0 Z qa qb qe qd h0 n0 v U'.heap L ∧ FrameEnd U o U' L 0 0) := by
  refine MetFree.of_bodySF (plainFor_of_name pn_0) hisR ?_
  intro p e s m args below meth c s₁ Bd hml0 hP hK
  obtain ⟨rfl, hZ, hh⟩ := hP
  have hx := Bd.exec
  have hby := Bd.bytes
  have hml : c.maxLocals = 9 := hml0
  have hown : s.vm.findClass "com/example/tree_automata_reducer/treeautomatareducer/io/LineEndsEndsLinePinLaw" = some m.cls := findClass_of_methodNamed Bd.named
  have hnm := (name_of_methodNamed Bd.named Bd.method).1
  have hlk : meth.locks = false := BodyLoose.notSynchronized Bd
  have X0 : Stand p l e room_1 s m #[(.int qa), (.int qb), (.int qe), (.int qd)] below meth c s₁ [] 0 0 := Stand.of_body Bd
  have e0 : s₁.heap = h0 := by rw [← hh, Bd.state]; rfl
  have N0 := Fr.nil n0
  have sq0 : h0.size ≤ h0.size := Nat.le_refl _
  change Go p e below s 0 0 (Q0 Z qa qb qe qd h0 n0) (s₁.setTop (entryFrame m #[(.int qa), (.int qb), (.int qe), (.int qd)] maxLocals))
  rw [ef_0 m qa qb qe qd]
  show Go _ _ _ _ _ _ _ (s₁.setTop (mkF m 0 #[.val (.int qa), .val (.int qb), .val (.int qe), .val (.int qd), .unset, .unset, .unset, .unset, .unset] []))
  refine Go.step (fun _ k => XS.iloadN X0.here hx rfl (hb hby at_0) rfl  k) ?_
  show Go _ _ _ _ _ _ _ (s₁.setTop (mkF m 1 #[.val (.int qa), .val (.int qb), .val (.int qe), .val (.int qd), .unset, .unset, .unset, .unset, .unset] [(.int qd)]))
  refine Go.step (fun _ k => XS.iconst X0.here hx rfl (hb hby at_1) k) ?_
  show Go _ _ _ _ _ _ _ (s₁.setTop (mkF m 2 #[.val (.int qa), .val (.int qb), .val (.int qe), .val (.int qd), .unset, .unset, .unset, .unset, .unset] [(.int (3 : Int32)), (.int qd)]))
  refine Go.step (fun _ k => XS.iand X0.here hx rfl (hb hby at_2) rfl k) ?_
  show Go _ _ _ _ _ _ _ (s₁.setTop (mkF m 3 #[.val (.int qa), .val (.int qb), .val (.int qe), .val (.int qd), .unset, .unset, .unset, .unset, .unset] [(.int (qd &&& (3 : Int32)))]))
  refine Go.step (fun _ k => XS.iloadN X0.here hx rfl (hb hby at_3) rfl  k) ?_
  show Go _ _ _ _ _ _ _ (s₁.setTop (mkF m 4 #[.val (.int qa), .val (.int qb), .val (.int qe), .val (.int qd), .unset, .unset, .unset, .unset, .unset] [(.int qa), (.int (qd &&& (3 : Int32)))]))
  obtain ⟨_, _, ⟨T1, L1, k1, n1⟩, -, X1, ⟨Lc1, hQ1, l1, y1, z1⟩, st1⟩ := Jvm.LawKit.callS X0 hx (y := (⟨"com/example/tree_automata_reducer/treeautomatareducer/io/LineEndsEndsLinePinLaw", "pick", "(II)I"⟩ : MethodName)) hown (mvT hZ (hw _ (List.mem_of_getElem? (i := 0) rfl))) (mvT hZ (hw _ (List.mem_of_getElem? (i := 1) rfl))) (mvT hZ (hw _ (List.mem_of_getElem? (i := 2) rfl))) (mvT hZ (hw _ (List.mem_of_getElem? (i := 3) rfl))) (by decide) (backOf (W := 0) (rm1 l Z aZ hw [] (qd &&& (3 : Int32)) qa h0 n0 Z0 ) hZ (hw _ (List.mem_of_getElem? (i := 3) rfl)) (hw _ (List.mem_of_getElem? (i := 2) rfl)) (by decide) (by decide)) (g := (mkF m 4 #[.val (.int qa), .val (.int qb), .val (.int qe), .val (.int qd), .unset, .unset, .unset, .unset, .unset] [(.int qa), (.int (qd &&& (3 : Int32)))])) rfl (by rw [hml]; rfl) (argsL := [(.int (qd &&& (3 : Int32))), (.int qa)]) (rest := []) (lenOf pd_0 rfl) rfl (by show 2 * 0 + _ ≤ _; exact Nat.le_of_eq rfl) (hb hby at_4) (fun _ _ => ⟨rfl, e0, (by decide : 0 + 0 ≤ _), (by decide : 0 + 0 ≤ _)⟩)
  dsimp only [Pt.U, Pt.locs, Pt.cells, Pt.slots] at X1 l1 y1 z1 st1 hQ1
  subst l1 y1 z1
  obtain ⟨w_1, rfl, Nq1, e1⟩ := hQ1
  have N1 := Fr.app N0 Nq1
  refine Go.step st1 ?_
  show Go _ _ _ _ _ _ _ (T1.setTop (mkF m 7 #[.val (.int qa), .val (.int qb), .val (.int qe), .val (.int qd), .unset, .unset, .unset, .unset, .unset] [(.int w_1)]))
  refine Go.step (fun _ k => XS.istore X1.here hx rfl (hb hby at_7) rfl (l' := #[.val (.int qa), .val (.int qb), .val (.int qe), .val (.int qd), .val (.int w_1), .unset, .unset, .unset, .unset]) rfl k) ?_
  show Go _ _ _ _ _ _ _ (T1.setTop (mkF m 9 #[.val (.int qa), .val (.int qb), .val (.int qe), .val (.int qd), .val (.int w_1), .unset, .unset, .unset, .unset] []))
  refine Go.step (fun _ k => XS.iloadN X1.here hx rfl (hb hby at_9) rfl  k) ?_
  show Go _ _ _ _ _ _ _ (T1.setTop (mkF m 10 #[.val (.int qa), .val (.int qb), .val (.int qe), .val (.int qd), .val (.int w_1), .unset, .unset, .unset, .unset] [(.int qd)]))
  refine Go.step (fun _ k => XS.iconst X1.here hx rfl (hb hby at_10) k) ?_
  show Go _ _ _ _ _ _ _ (T1.setTop (mkF m 11 #[.val (.int qa), .val (.int qb), .val (.int qe), .val (.int qd), .val (.int w_1), .unset, .unset, .unset, .unset] [(.int (2 : Int32)), (.int qd)]))
  refine Go.step (fun _ k => XS.ishr X1.here hx rfl (hb hby at_11) rfl k) ?_
  show Go _ _ _ _ _ _ _ (T1.setTop (mkF m 12 #[.val (.int qa), .val (.int qb), .val (.int qe), .val (.int qd), .val (.int w_1), .unset, .unset, .unset, .unset] [(.int (qd >>> ((2 : Int32) &&& 31)))]))
  refine Go.step (fun _ k => XS.iconst X1.here hx rfl (hb hby at_12) k) ?_
  show Go _ _ _ _ _ _ _ (T1.setTop (mkF m 13 #[.val (.int qa), .val (.int qb), .val (.int qe), .val (.int qd), .val (.int w_1), .unset, .unset, .unset, .unset] [(.int (3 : Int32)), (.int (qd >>> ((2 : Int32) &&& 31)))]))
  refine Go.step (fun _ k => XS.iand X1.here hx rfl (hb hby at_13) rfl k) ?_
  show Go _ _ _ _ _ _ _ (T1.setTop (mkF m 14 #[.val (.int qa), .val (.int qb), .val (.int qe), .val (.int qd), .val (.int w_1), .unset, .unset, .unset, .unset] [(.int ((qd >>> ((2 : Int32) &&& 31)) &&& (3 : Int32)))]))
  refine Go.step (fun _ k => XS.iloadN X1.here hx rfl (hb hby at_14) rfl  k) ?_
  show Go _ _ _ _ _ _ _ (T1.setTop (mkF m 15 #[.val (.int qa), .val (.int qb), .val (.int qe), .val (.int qd), .val (.int w_1), .unset, .unset, .unset, .unset] [(.int qb), (.int ((qd >>> ((2 : Int32) &&& 31)) &&& (3 : Int32)))]))
  obtain ⟨_, _, ⟨T2, L2, k2, n2⟩, -, X2, ⟨Lc2, hQ2, l2, y2, z2⟩, st2⟩ := Jvm.LawKit.callS X1 hx (y := (⟨"com/example/tree_automata_reducer/treeautomatareducer/io/LineEndsEndsLinePinLaw", "pick", "(II)I"⟩ : MethodName)) hown (mvT hZ (hw _ (List.mem_of_getElem? (i := 0) rfl))) (mvT hZ (hw _ (List.mem_of_getElem? (i := 1) rfl))) (mvT hZ (hw _ (List.mem_of_getElem? (i := 2) rfl))) (mvT hZ (hw _ (List.mem_of_getElem? (i := 3) rfl))) (by decide) (backOf (W := 0) (rm1 l Z aZ hw [] ((qd >>> ((2 : Int32) &&& 31)) &&& (3 : Int32)) qb h0 n0 Z0 ) hZ (hw _ (List.mem_of_getElem? (i := 3) rfl)) (hw _ (List.mem_of_getElem? (i := 2) rfl)) (by decide) (by decide)) (g := (mkF m 15 #[.val (.int qa), .val (.int qb), .val (.int qe), .val (.int qd), .val (.int w_1), .unset, .unset, .unset, .unset] [(.int qb), (.int ((qd >>> ((2 : Int32) &&& 31)) &&& (3 : Int32)))])) rfl (by rw [hml]; rfl) (argsL := [(.int ((qd >>> ((2 : Int32) &&& 31)) &&& (3 : Int32))), (.int qb)]) (rest := []) (lenOf pd_0 rfl) rfl (by show 2 * 0 + _ ≤ _; exact Nat.le_of_eq rfl) (hb hby at_15) (fun _ _ => ⟨rfl, e1, (by decide : 0 + 0 ≤ _), (by decide : 0 + 0 ≤ _)⟩)
  dsimp only [Pt.U, Pt.locs, Pt.cells, Pt.slots] at X2 l2 y2 z2 st2 hQ2
  subst l2 y2 z2
  obtain ⟨w_2, rfl, Nq2, e2⟩ := hQ2
  have N2 := Fr.app N1 Nq2
  refine Go.step st2 ?_
  show Go _ _ _ _ _ _ _ (T2.setTop (mkF m 18 #[.val (.int qa), .val (.int qb), .val (.int qe), .val (.int qd), .val (.int w_1), .unset, .unset, .unset, .unset] [(.int w_2)]))
  refine Go.step (fun _ k => XS.istore X2.here hx rfl (hb hby at_18) rfl (l' := #[.val (.int qa), .val (.int qb), .val (.int qe), .val (.int qd), .val (.int w_1), .val (.int w_2), .unset, .unset, .unset]) rfl k) ?_
  show Go _ _ _ _ _ _ _ (T2.setTop (mkF m 20 #[.val (.int qa), .val (.int qb), .val (.int qe), .val (.int qd), .val (.int w_1), .val (.int w_2), .unset, .unset, .unset] []))
  refine Go.step (fun _ k => XS.iloadN X2.here hx rfl (hb hby at_20) rfl  k) ?_
  show Go _ _ _ _ _ _ _ (T2.setTop (mkF m 21 #[.val (.int qa), .val (.int qb), .val (.int qe), .val (.int qd), .val (.int w_1), .val (.int w_2), .unset, .unset, .unset] [(.int qd)]))
  refine Go.step (fun _ k => XS.iconst X2.here hx rfl (hb hby at_21) k) ?_
  show Go _ _ _ _ _ _ _ (T2.setTop (mkF m 22 #[.val (.int qa), .val (.int qb), .val (.int qe), .val (.int qd), .val (.int w_1), .val (.int w_2), .unset, .unset, .unset] [(.int (4 : Int32)), (.int qd)]))
  refine Go.step (fun _ k => XS.ishr X2.here hx rfl (hb hby at_22) rfl k) ?_
  show Go _ _ _ _ _ _ _ (T2.setTop (mkF m 23 #[.val (.int qa), .val (.int qb), .val (.int qe), .val (.int qd), .val (.int w_1), .val (.int w_2), .unset, .unset, .unset] [(.int (qd >>> ((4 : Int32) &&& 31)))]))
  refine Go.step (fun _ k => XS.iconst X2.here hx rfl (hb hby at_23) k) ?_
  show Go _ _ _ _ _ _ _ (T2.setTop (mkF m 24 #[.val (.int qa), .val (.int qb), .val (.int qe), .val (.int qd), .val (.int w_1), .val (.int w_2), .unset, .unset, .unset] [(.int (3 : Int32)), (.int (qd >>> ((4 : Int32) &&& 31)))]))
  refine Go.step (fun _ k => XS.iand X2.here hx rfl (hb hby at_24) rfl k) ?_
  show Go _ _ _ _ _ _ _ (T2.setTop (mkF m 25 #[.val (.int qa), .val (.int qb), .val (.int qe), .val (.int qd), .val (.int w_1), .val (.int w_2), .unset, .unset, .unset] [(.int ((qd >>> ((4 : Int32) &&& 31)) &&& (3 : Int32)))]))
  refine Go.step (fun _ k => XS.iloadN X2.here hx rfl (hb hby at_25) rfl  k) ?_
  show Go _ _ _ _ _ _ _ (T2.setTop (mkF m 26 #[.val (.int qa), .val (.int qb), .val (.int qe), .val (.int qd), .val (.int w_1), .val (.int w_2), .unset, .unset, .unset] [(.int qe), (.int ((qd >>> ((4 : Int32) &&& 31)) &&& (3 : Int32)))]))
  obtain ⟨_, _, ⟨T3, L3, k3, n3⟩, -, X3, ⟨Lc3, hQ3, l3, y3, z3⟩, st3⟩ := Jvm.LawKit.callS X2 hx (y := (⟨"com/example/tree_automata_reducer/treeautomatareducer/io/LineEndsEndsLinePinLaw", "pick", "(II)I"⟩ : MethodName)) hown (mvT hZ (hw _ (List.mem_of_getElem? (i := 0) rfl))) (mvT hZ (hw _ (List.mem_of_getElem? (i := 1) rfl))) (mvT hZ (hw _ (List.mem_of_getElem? (i := 2) rfl))) (mvT hZ (hw _ (List.mem_of_getElem? (i := 3) rfl))) (by decide) (backOf (W := 0) (rm1 l Z aZ hw [] ((qd >>> ((4 : Int32) &&& 31)) &&& (3 : Int32)) qe h0 n0 Z0 ) hZ (hw _ (List.mem_of_getElem? (i := 3) rfl)) (hw _ (List.mem_of_getElem? (i := 2) rfl)) (by decide) (by decide)) (g := (mkF m 26 #[.val (.int qa), .val (.int qb), .val (.int qe), .val (.int qd), .val (.int w_1), .val (.int w_2), .unset, .unset, .unset] [(.int qe), (.int ((qd >>> ((4 : Int32) &&& 31)) &&& (3 : Int32)))])) rfl (by rw [hml]; rfl) (argsL := [(.int ((qd >>> ((4 : Int32) &&& 31)) &&& (3 : Int32))), (.int qe)]) (rest := []) (lenOf pd_0 rfl) rfl (by show 2 * 0 + _ ≤ _; exact Nat.le_of_eq rfl) (hb hby at_26) (fun _ _ => ⟨rfl, e2, (by decide : 0 + 0 ≤ _), (by decide : 0 + 0 ≤ _)⟩)
  dsimp only [Pt.U, Pt.locs, Pt.cells, Pt.slots] at X3 l3 y3 z3 st3 hQ3
  subst l3 y3 z3
  obtain ⟨w_3, rfl, Nq3, e3⟩ := hQ3
  have N3 := Fr.app N2 Nq3
  refine Go.step st3 ?_
  show Go _ _ _ _ _ _ _ (T3.setTop (mkF m 29 #[.val (.int qa), .val (.int qb), .val (.int qe), .val (.int qd), .val (.int w_1), .val (.int w_2), .unset, .unset, .unset] [(.int w_3)]))
  refine Go.step (fun _ k => XS.istore X3.here hx rfl (hb hby at_29) rfl (l' := #[.val (.int qa), .val (.int qb), .val (.int qe), .val (.int qd), .val (.int w_1), .val (.int w_2), .val (.int w_3), .unset, .unset]) rfl k) ?_
  show Go _ _ _ _ _ _ _ (T3.setTop (mkF m 31 #[.val (.int qa), .val (.int qb), .val (.int qe), .val (.int qd), .val (.int w_1), .val (.int w_2), .val (.int w_3), .unset, .unset] []))
  refine Go.step (fun _ k => XS.iload X3.here hx rfl (hb hby at_31) rfl  k) ?_
  show Go _ _ _ _ _ _ _ (T3.setTop (mkF m 33 #[.val (.int qa), .val (.int qb), .val (.int qe), .val (.int qd), .val (.int w_1), .val (.int w_2), .val (.int w_3), .unset, .unset] [(.int w_1)]))
  refine Go.step (fun _ k => XS.iload X3.here hx rfl (hb hby at_33) rfl  k) ?_
  show Go _ _ _ _ _ _ _ (T3.setTop (mkF m 35 #[.val (.int qa), .val (.int qb), .val (.int qe), .val (.int qd), .val (.int w_1), .val (.int w_2), .val (.int w_3), .unset, .unset] [(.int w_2), (.int w_1)]))
  obtain ⟨_, _, ⟨T4, L4, k4, n4⟩, -, X4, ⟨Lc4, hQ4, l4, y4, z4⟩, st4⟩ := Jvm.LawKit.callS X3 hx (y := (⟨"com/example/tree_automata_reducer/treeautomatareducer/io/LineEnds", "endsLine", "(II)Z"⟩ : MethodName)) hown (mvT hZ (hw _ (List.mem_of_getElem? (i := 4) rfl))) (mvT hZ (hw _ (List.mem_of_getElem? (i := 5) rfl))) (mvT hZ (hw _ (List.mem_of_getElem? (i := 6) rfl))) (mvT hZ (hw _ (List.mem_of_getElem? (i := 7) rfl))) (by decide) (backOf (W := 0) (rm2 l Z aZ hw [] w_1 w_2 h0 n0 Z0 ) hZ (hw _ (List.mem_of_getElem? (i := 7) rfl)) (hw _ (List.mem_of_getElem? (i := 6) rfl)) (by decide) (by decide)) (g := (mkF m 35 #[.val (.int qa), .val (.int qb), .val (.int qe), .val (.int qd), .val (.int w_1), .val (.int w_2), .val (.int w_3), .unset, .unset] [(.int w_2), (.int w_1)])) rfl (by rw [hml]; rfl) (argsL := [(.int w_1), (.int w_2)]) (rest := []) (lenOf pd_1 rfl) rfl (by show 2 * 0 + _ ≤ _; exact Nat.le_of_eq rfl) (hb hby at_35) (fun _ _ => ⟨rfl, e3, (by decide : 0 + 0 ≤ _), (by decide : 0 + 0 ≤ _)⟩)
  dsimp only [Pt.U, Pt.locs, Pt.cells, Pt.slots] at X4 l4 y4 z4 st4 hQ4
  subst l4 y4 z4
  obtain ⟨rfl, Nq4, e4⟩ := hQ4
  have N4 := Fr.app N3 Nq4
  refine Go.step st4 ?_
  show Go _ _ _ _ _ _ _ (T4.setTop (mkF m 38 #[.val (.int qa), .val (.int qb), .val (.int qe), .val (.int qd), .val (.int w_1), .val (.int w_2), .val (.int w_3), .unset, .unset] [(.int (if w_1 = 10 ∨ (w_1 = 13 ∧ ¬ w_2 = 10) then (1 : Int32) else 0))]))
  refine Go.step (fun _ k => XS.istore X4.here hx rfl (hb hby at_38) rfl (l' := #[.val (.int qa), .val (.int qb), .val (.int qe), .val (.int qd), .val (.int w_1), .val (.int w_2), .val (.int w_3), .val (.int (if w_1 = 10 ∨ (w_1 = 13 ∧ ¬ w_2 = 10) then (1 : Int32) else 0)), .unset]) rfl k) ?_
  show Go _ _ _ _ _ _ _ (T4.setTop (mkF m 40 #[.val (.int qa), .val (.int qb), .val (.int qe), .val (.int qd), .val (.int w_1), .val (.int w_2), .val (.int w_3), .val (.int (if w_1 = 10 ∨ (w_1 = 13 ∧ ¬ w_2 = 10) then (1 : Int32) else 0)), .unset] []))
  refine Go.step (fun _ k => XS.iload X4.here hx rfl (hb hby at_40) rfl  k) ?_
  show Go _ _ _ _ _ _ _ (T4.setTop (mkF m 42 #[.val (.int qa), .val (.int qb), .val (.int qe), .val (.int qd), .val (.int w_1), .val (.int w_2), .val (.int w_3), .val (.int (if w_1 = 10 ∨ (w_1 = 13 ∧ ¬ w_2 = 10) then (1 : Int32) else 0)), .unset] [(.int w_1)]))
  refine Go.step (fun _ k => XS.bipush X4.here hx rfl (hb hby at_42) k) ?_
  show Go _ _ _ _ _ _ _ (T4.setTop (mkF m 44 #[.val (.int qa), .val (.int qb), .val (.int qe), .val (.int qd), .val (.int w_1), .val (.int w_2), .val (.int w_3), .val (.int (if w_1 = 10 ∨ (w_1 = 13 ∧ ¬ w_2 = 10) then (1 : Int32) else 0)), .unset] [(.int (10 : Int32)), (.int w_1)]))
  by_cases hc44 : w_1 = (10 : Int32)
  · skip
    refine Go.step (fun _ k => XS.icmpNo X4.here hx rfl (hb hby at_44) rfl (teq hc44).2 k) ?_
    show Go _ _ _ _ _ _ _ (T4.setTop (mkF m 47 #[.val (.int qa), .val (.int qb), .val (.int qe), .val (.int qd), .val (.int w_1), .val (.int w_2), .val (.int w_3), .val (.int (if w_1 = 10 ∨ (w_1 = 13 ∧ ¬ w_2 = 10) then (1 : Int32) else 0)), .unset] []))
    refine Go.step (fun _ k => XS.iconst X4.here hx rfl (hb hby at_47) k) ?_
    show Go _ _ _ _ _ _ _ (T4.setTop (mkF m 48 #[.val (.int qa), .val (.int qb), .val (.int qe), .val (.int qd), .val (.int w_1), .val (.int w_2), .val (.int w_3), .val (.int (if w_1 = 10 ∨ (w_1 = 13 ∧ ¬ w_2 = 10) then (1 : Int32) else 0)), .unset] [(.int (1 : Int32))]))
    refine Go.step (fun _ k => XS.istore X4.here hx rfl (hb hby at_48) rfl (l' := #[.val (.int qa), .val (.int qb), .val (.int qe), .val (.int qd), .val (.int w_1), .val (.int w_2), .val (.int w_3), .val (.int (if w_1 = 10 ∨ (w_1 = 13 ∧ ¬ w_2 = 10) then (1 : Int32) else 0)), .val (.int (1 : Int32))]) rfl k) ?_
    show Go _ _ _ _ _ _ _ (T4.setTop (mkF m 50 #[.val (.int qa), .val (.int qb), .val (.int qe), .val (.int qd), .val (.int w_1), .val (.int w_2), .val (.int w_3), .val (.int (if w_1 = 10 ∨ (w_1 = 13 ∧ ¬ w_2 = 10) then (1 : Int32) else 0)), .val (.int (1 : Int32))] []))
    refine Go.step (fun _ k => XS.goto X4.here hx rfl (pc0 := 50) (pc' := 82) rfl (hb hby at_50) (by decide) (by decide) k) ?_
    show Go _ _ _ _ _ _ _ (T4.setTop (mkF m 82 #[.val (.int qa), .val (.int qb), .val (.int qe), .val (.int qd), .val (.int w_1), .val (.int w_2), .val (.int w_3), .val (.int (if w_1 = 10 ∨ (w_1 = 13 ∧ ¬ w_2 = 10) then (1 : Int32) else 0)), .val (.int (1 : Int32))] []))
    refine Go.step (fun _ k => XS.iload X4.here hx rfl (hb hby at_82) rfl  k) ?_
    show Go _ _ _ _ _ _ _ (T4.setTop (mkF m 84 #[.val (.int qa), .val (.int qb), .val (.int qe), .val (.int qd), .val (.int w_1), .val (.int w_2), .val (.int w_3), .val (.int (if w_1 = 10 ∨ (w_1 = 13 ∧ ¬ w_2 = 10) then (1 : Int32) else 0)), .val (.int (1 : Int32))] [(.int (if w_1 = 10 ∨ (w_1 = 13 ∧ ¬ w_2 = 10) then (1 : Int32) else 0))]))
    refine Go.step (fun _ k => XS.iload X4.here hx rfl (hb hby at_84) rfl  k) ?_
    show Go _ _ _ _ _ _ _ (T4.setTop (mkF m 86 #[.val (.int qa), .val (.int qb), .val (.int qe), .val (.int qd), .val (.int w_1), .val (.int w_2), .val (.int w_3), .val (.int (if w_1 = 10 ∨ (w_1 = 13 ∧ ¬ w_2 = 10) then (1 : Int32) else 0)), .val (.int (1 : Int32))] [(.int (1 : Int32)), (.int (if w_1 = 10 ∨ (w_1 = 13 ∧ ¬ w_2 = 10) then (1 : Int32) else 0))]))
    by_cases hc86 : (if w_1 = 10 ∨ (w_1 = 13 ∧ ¬ w_2 = 10) then (1 : Int32) else 0) = (1 : Int32)
    · skip
      refine Go.step (fun _ k => XS.icmpYes X4.here hx rfl (pc0 := 86) (pc' := 91) rfl (hb hby at_86) rfl (teq hc86).1 (by decide) (by decide) k) ?_
      show Go _ _ _ _ _ _ _ (T4.setTop (mkF m 91 #[.val (.int qa), .val (.int qb), .val (.int qe), .val (.int qd), .val (.int w_1), .val (.int w_2), .val (.int w_3), .val (.int (if w_1 = 10 ∨ (w_1 = 13 ∧ ¬ w_2 = 10) then (1 : Int32) else 0)), .val (.int (1 : Int32))] []))
      refine Go.step (fun _ k => XS.iload X4.here hx rfl (hb hby at_91) rfl  k) ?_
      show Go _ _ _ _ _ _ _ (T4.setTop (mkF m 93 #[.val (.int qa), .val (.int qb), .val (.int qe), .val (.int qd), .val (.int w_1), .val (.int w_2), .val (.int w_3), .val (.int (if w_1 = 10 ∨ (w_1 = 13 ∧ ¬ w_2 = 10) then (1 : Int32) else 0)), .val (.int (1 : Int32))] [(.int w_1)]))
      refine Go.step (fun _ k => XS.bipush X4.here hx rfl (hb hby at_93) k) ?_
      show Go _ _ _ _ _ _ _ (T4.setTop (mkF m 95 #[.val (.int qa), .val (.int qb), .val (.int qe), .val (.int qd), .val (.int w_1), .val (.int w_2), .val (.int w_3), .val (.int (if w_1 = 10 ∨ (w_1 = 13 ∧ ¬ w_2 = 10) then (1 : Int32) else 0)), .val (.int (1 : Int32))] [(.int (13 : Int32)), (.int w_1)]))
      by_cases hc95 : w_1 = (13 : Int32)
      · skip
        refine Go.step (fun _ k => XS.icmpNo X4.here hx rfl (hb hby at_95) rfl (teq hc95).2 k) ?_
        show Go _ _ _ _ _ _ _ (T4.setTop (mkF m 98 #[.val (.int qa), .val (.int qb), .val (.int qe), .val (.int qd), .val (.int w_1), .val (.int w_2), .val (.int w_3), .val (.int (if w_1 = 10 ∨ (w_1 = 13 ∧ ¬ w_2 = 10) then (1 : Int32) else 0)), .val (.int (1 : Int32))] []))
        refine Go.step (fun _ k => XS.iload X4.here hx rfl (hb hby at_98) rfl  k) ?_
        show Go _ _ _ _ _ _ _ (T4.setTop (mkF m 100 #[.val (.int qa), .val (.int qb), .val (.int qe), .val (.int qd), .val (.int w_1), .val (.int w_2), .val (.int w_3), .val (.int (if w_1 = 10 ∨ (w_1 = 13 ∧ ¬ w_2 = 10) then (1 : Int32) else 0)), .val (.int (1 : Int32))] [(.int w_2)]))
        refine Go.step (fun _ k => XS.bipush X4.here hx rfl (hb hby at_100) k) ?_
        show Go _ _ _ _ _ _ _ (T4.setTop (mkF m 102 #[.val (.int qa), .val (.int qb), .val (.int qe), .val (.int qd), .val (.int w_1), .val (.int w_2), .val (.int w_3), .val (.int (if w_1 = 10 ∨ (w_1 = 13 ∧ ¬ w_2 = 10) then (1 : Int32) else 0)), .val (.int (1 : Int32))] [(.int (10 : Int32)), (.int w_2)]))
        by_cases hc102 : w_2 = (10 : Int32)
        · skip
          refine Go.step (fun _ k => XS.icmpNo X4.here hx rfl (hb hby at_102) rfl (teq hc102).2 k) ?_
          show Go _ _ _ _ _ _ _ (T4.setTop (mkF m 105 #[.val (.int qa), .val (.int qb), .val (.int qe), .val (.int qd), .val (.int w_1), .val (.int w_2), .val (.int w_3), .val (.int (if w_1 = 10 ∨ (w_1 = 13 ∧ ¬ w_2 = 10) then (1 : Int32) else 0)), .val (.int (1 : Int32))] []))
          refine Go.step (fun _ k => XS.iload X4.here hx rfl (hb hby at_105) rfl  k) ?_
          show Go _ _ _ _ _ _ _ (T4.setTop (mkF m 107 #[.val (.int qa), .val (.int qb), .val (.int qe), .val (.int qd), .val (.int w_1), .val (.int w_2), .val (.int w_3), .val (.int (if w_1 = 10 ∨ (w_1 = 13 ∧ ¬ w_2 = 10) then (1 : Int32) else 0)), .val (.int (1 : Int32))] [(.int (if w_1 = 10 ∨ (w_1 = 13 ∧ ¬ w_2 = 10) then (1 : Int32) else 0))]))
          by_cases hc107 : (if w_1 = 10 ∨ (w_1 = 13 ∧ ¬ w_2 = 10) then (1 : Int32) else 0) = (0 : Int32)
          · skip
            refine Go.step (fun _ k => XS.ifNo X4.here hx rfl (hb hby at_107) rfl ((if0 _ _).trans (teq hc107).2) k) ?_
            show Go _ _ _ _ _ _ _ (T4.setTop (mkF m 110 #[.val (.int qa), .val (.int qb), .val (.int qe), .val (.int qd), .val (.int w_1), .val (.int w_2), .val (.int w_3), .val (.int (if w_1 = 10 ∨ (w_1 = 13 ∧ ¬ w_2 = 10) then (1 : Int32) else 0)), .val (.int (1 : Int32))] []))
            refine Go.step (fun _ k => XS.iload X4.here hx rfl (hb hby at_110) rfl  k) ?_
            show Go _ _ _ _ _ _ _ (T4.setTop (mkF m 112 #[.val (.int qa), .val (.int qb), .val (.int qe), .val (.int qd), .val (.int w_1), .val (.int w_2), .val (.int w_3), .val (.int (if w_1 = 10 ∨ (w_1 = 13 ∧ ¬ w_2 = 10) then (1 : Int32) else 0)), .val (.int (1 : Int32))] [(.int w_2)]))
            refine Go.step (fun _ k => XS.iload X4.here hx rfl (hb hby at_112) rfl  k) ?_
            show Go _ _ _ _ _ _ _ (T4.setTop (mkF m 114 #[.val (.int qa), .val (.int qb), .val (.int qe), .val (.int qd), .val (.int w_1), .val (.int w_2), .val (.int w_3), .val (.int (if w_1 = 10 ∨ (w_1 = 13 ∧ ¬ w_2 = 10) then (1 : Int32) else 0)), .val (.int (1 : Int32))] [(.int w_3), (.int w_2)]))
            obtain ⟨_, _, ⟨T5, L5, k5, n5⟩, -, X5, ⟨Lc5, hQ5, l5, y5, z5⟩, st5⟩ := Jvm.LawKit.callS X4 hx (y := (⟨"com/example/tree_automata_reducer/treeautomatareducer/io/LineEnds", "endsLine", "(II)Z"⟩ : MethodName)) hown (mvT hZ (hw _ (List.mem_of_getElem? (i := 4) rfl))) (mvT hZ (hw _ (List.mem_of_getElem? (i := 5) rfl))) (mvT hZ (hw _ (List.mem_of_getElem? (i := 6) rfl))) (mvT hZ (hw _ (List.mem_of_getElem? (i := 7) rfl))) (by decide) (backOf (W := 0) (rm2 l Z aZ hw [] w_2 w_3 h0 n0 Z0 ) hZ (hw _ (List.mem_of_getElem? (i := 7) rfl)) (hw _ (List.mem_of_getElem? (i := 6) rfl)) (by decide) (by decide)) (g := (mkF m 114 #[.val (.int qa), .val (.int qb), .val (.int qe), .val (.int qd), .val (.int w_1), .val (.int w_2), .val (.int w_3), .val (.int (if w_1 = 10 ∨ (w_1 = 13 ∧ ¬ w_2 = 10) then (1 : Int32) else 0)), .val (.int (1 : Int32))] [(.int w_3), (.int w_2)])) rfl (by rw [hml]; rfl) (argsL := [(.int w_2), (.int w_3)]) (rest := []) (lenOf pd_1 rfl) rfl (by show 2 * 0 + _ ≤ _; exact Nat.le_of_eq rfl) (hb hby at_114) (fun _ _ => ⟨rfl, e4, (by decide : 0 + 0 ≤ _), (by decide : 0 + 0 ≤ _)⟩)
            dsimp only [Pt.U, Pt.locs, Pt.cells, Pt.slots] at X5 l5 y5 z5 st5 hQ5
            subst l5 y5 z5
            obtain ⟨rfl, Nq5, e5⟩ := hQ5
            have N5 := Fr.app N4 Nq5
            refine Go.step st5 ?_
            show Go _ _ _ _ _ _ _ (T5.setTop (mkF m 117 #[.val (.int qa), .val (.int qb), .val (.int qe), .val (.int qd), .val (.int w_1), .val (.int w_2), .val (.int w_3), .val (.int (if w_1 = 10 ∨ (w_1 = 13 ∧ ¬ w_2 = 10) then (1 : Int32) else 0)), .val (.int (1 : Int32))] [(.int (if w_2 = 10 ∨ (w_2 = 13 ∧ ¬ w_3 = 10) then (1 : Int32) else 0))]))
            by_cases hc117 : (if w_2 = 10 ∨ (w_2 = 13 ∧ ¬ w_3 = 10) then (1 : Int32) else 0) = (0 : Int32)
            · skip
              refine Go.step (fun _ k => XS.ifYes X5.here hx rfl (pc0 := 117) (pc' := 124) rfl (hb hby at_117) rfl ((if0 _ _).trans (teq hc117).1) (by decide) (by decide) k) ?_
              show Go _ _ _ _ _ _ _ (T5.setTop (mkF m 124 #[.val (.int qa), .val (.int qb), .val (.int qe), .val (.int qd), .val (.int w_1), .val (.int w_2), .val (.int w_3), .val (.int (if w_1 = 10 ∨ (w_1 = 13 ∧ ¬ w_2 = 10) then (1 : Int32) else 0)), .val (.int (1 : Int32))] []))
              refine Go.step (fun _ k => XS.iconst X5.here hx rfl (hb hby at_124) k) ?_
              show Go _ _ _ _ _ _ _ (T5.setTop (mkF m 125 #[.val (.int qa), .val (.int qb), .val (.int qe), .val (.int qd), .val (.int w_1), .val (.int w_2), .val (.int w_3), .val (.int (if w_1 = 10 ∨ (w_1 = 13 ∧ ¬ w_2 = 10) then (1 : Int32) else 0)), .val (.int (1 : Int32))] [(.int (0 : Int32))]))
              refine Go.retN X5 hx (t := .boolean) Bd.returns (by simp) hlk (hb hby at_125) ?_ (by decide) (by decide)
              rw [e5]
              exact ⟨(by first | rfl | (simp_all [own_nb1, own_nb0]; done)), N5⟩
            · skip
              refine Go.step (fun _ k => XS.ifNo X5.here hx rfl (hb hby at_117) rfl ((if0 _ _).trans (feq hc117).1) k) ?_
              show Go _ _ _ _ _ _ _ (T5.setTop (mkF m 120 #[.val (.int qa), .val (.int qb), .val (.int qe), .val (.int qd), .val (.int w_1), .val (.int w_2), .val (.int w_3), .val (.int (if w_1 = 10 ∨ (w_1 = 13 ∧ ¬ w_2 = 10) then (1 : Int32) else 0)), .val (.int (1 : Int32))] []))
              refine Go.step (fun _ k => XS.iconst X5.here hx rfl (hb hby at_120) k) ?_
              show Go _ _ _ _ _ _ _ (T5.setTop (mkF m 121 #[.val (.int qa), .val (.int qb), .val (.int qe), .val (.int qd), .val (.int w_1), .val (.int w_2), .val (.int w_3), .val (.int (if w_1 = 10 ∨ (w_1 = 13 ∧ ¬ w_2 = 10) then (1 : Int32) else 0)), .val (.int (1 : Int32))] [(.int (1 : Int32))]))
              refine Go.step (fun _ k => XS.goto X5.here hx rfl (pc0 := 121) (pc' := 125) rfl (hb hby at_121) (by decide) (by decide) k) ?_
              show Go _ _ _ _ _ _ _ (T5.setTop (mkF m 125 #[.val (.int qa), .val (.int qb), .val (.int qe), .val (.int qd), .val (.int w_1), .val (.int w_2), .val (.int w_3), .val (.int (if w_1 = 10 ∨ (w_1 = 13 ∧ ¬ w_2 = 10) then (1 : Int32) else 0)), .val (.int (1 : Int32))] [(.int (1 : Int32))]))
              refine Go.retN X5 hx (t := .boolean) Bd.returns (by simp) hlk (hb hby at_125) ?_ (by decide) (by decide)
              rw [e5]
              exact ⟨(by first | rfl | (simp_all [own_nb1, own_nb0]; done)), N5⟩
          · skip
            refine Go.step (fun _ k => XS.ifYes X4.here hx rfl (pc0 := 107) (pc' := 124) rfl (hb hby at_107) rfl ((if0 _ _).trans (feq hc107).2) (by decide) (by decide) k) ?_
            show Go _ _ _ _ _ _ _ (T4.setTop (mkF m 124 #[.val (.int qa), .val (.int qb), .val (.int qe), .val (.int qd), .val (.int w_1), .val (.int w_2), .val (.int w_3), .val (.int (if w_1 = 10 ∨ (w_1 = 13 ∧ ¬ w_2 = 10) then (1 : Int32) else 0)), .val (.int (1 : Int32))] []))
            refine Go.step (fun _ k => XS.iconst X4.here hx rfl (hb hby at_124) k) ?_
            show Go _ _ _ _ _ _ _ (T4.setTop (mkF m 125 #[.val (.int qa), .val (.int qb), .val (.int qe), .val (.int qd), .val (.int w_1), .val (.int w_2), .val (.int w_3), .val (.int (if w_1 = 10 ∨ (w_1 = 13 ∧ ¬ w_2 = 10) then (1 : Int32) else 0)), .val (.int (1 : Int32))] [(.int (0 : Int32))]))
            refine Go.retN X4 hx (t := .boolean) Bd.returns (by simp) hlk (hb hby at_125) ?_ (by decide) (by decide)
            rw [e4]
            exact ⟨(by first | rfl | (simp_all [own_nb1, own_nb0]; done)), N4⟩
        · skip
          refine Go.step (fun _ k => XS.icmpYes X4.here hx rfl (pc0 := 102) (pc' := 126) rfl (hb hby at_102) rfl (feq hc102).2 (by decide) (by decide) k) ?_
          show Go _ _ _ _ _ _ _ (T4.setTop (mkF m 126 #[.val (.int qa), .val (.int qb), .val (.int qe), .val (.int qd), .val (.int w_1), .val (.int w_2), .val (.int w_3), .val (.int (if w_1 = 10 ∨ (w_1 = 13 ∧ ¬ w_2 = 10) then (1 : Int32) else 0)), .val (.int (1 : Int32))] []))
          refine Go.step (fun _ k => XS.iconst X4.here hx rfl (hb hby at_126) k) ?_
          show Go _ _ _ _ _ _ _ (T4.setTop (mkF m 127 #[.val (.int qa), .val (.int qb), .val (.int qe), .val (.int qd), .val (.int w_1), .val (.int w_2), .val (.int w_3), .val (.int (if w_1 = 10 ∨ (w_1 = 13 ∧ ¬ w_2 = 10) then (1 : Int32) else 0)), .val (.int (1 : Int32))] [(.int (1 : Int32))]))
          refine Go.retN X4 hx (t := .boolean) Bd.returns (by simp) hlk (hb hby at_127) ?_ (by decide) (by decide)
          rw [e4]
          exact ⟨(by first | rfl | (simp_all [own_nb1, own_nb0]; done)), N4⟩
      · skip
        refine Go.step (fun _ k => XS.icmpYes X4.here hx rfl (pc0 := 95) (pc' := 126) rfl (hb hby at_95) rfl (feq hc95).2 (by decide) (by decide) k) ?_
        show Go _ _ _ _ _ _ _ (T4.setTop (mkF m 126 #[.val (.int qa), .val (.int qb), .val (.int qe), .val (.int qd), .val (.int w_1), .val (.int w_2), .val (.int w_3), .val (.int (if w_1 = 10 ∨ (w_1 = 13 ∧ ¬ w_2 = 10) then (1 : Int32) else 0)), .val (.int (1 : Int32))] []))
        refine Go.step (fun _ k => XS.iconst X4.here hx rfl (hb hby at_126) k) ?_
        show Go _ _ _ _ _ _ _ (T4.setTop (mkF m 127 #[.val (.int qa), .val (.int qb), .val (.int qe), .val (.int qd), .val (.int w_1), .val (.int w_2), .val (.int w_3), .val (.int (if w_1 = 10 ∨ (w_1 = 13 ∧ ¬ w_2 = 10) then (1 : Int32) else 0)), .val (.int (1 : Int32))] [(.int (1 : Int32))]))
        refine Go.retN X4 hx (t := .boolean) Bd.returns (by simp) hlk (hb hby at_127) ?_ (by decide) (by decide)
        rw [e4]
        exact ⟨(by first | rfl | (simp_all [own_nb1, own_nb0]; done)), N4⟩
    · skip
      refine Go.step (fun _ k => XS.icmpNo X4.here hx rfl (hb hby at_86) rfl (feq hc86).1 k) ?_
      show Go _ _ _ _ _ _ _ (T4.setTop (mkF m 89 #[.val (.int qa), .val (.int qb), .val (.int qe), .val (.int qd), .val (.int w_1), .val (.int w_2), .val (.int w_3), .val (.int (if w_1 = 10 ∨ (w_1 = 13 ∧ ¬ w_2 = 10) then (1 : Int32) else 0)), .val (.int (1 : Int32))] []))
      refine Go.step (fun _ k => XS.iconst X4.here hx rfl (hb hby at_89) k) ?_
      show Go _ _ _ _ _ _ _ (T4.setTop (mkF m 90 #[.val (.int qa), .val (.int qb), .val (.int qe), .val (.int qd), .val (.int w_1), .val (.int w_2), .val (.int w_3), .val (.int (if w_1 = 10 ∨ (w_1 = 13 ∧ ¬ w_2 = 10) then (1 : Int32) else 0)), .val (.int (1 : Int32))] [(.int (0 : Int32))]))
      refine Go.retN X4 hx (t := .boolean) Bd.returns (by simp) hlk (hb hby at_90) ?_ (by decide) (by decide)
      rw [e4]
      exact ⟨(by first | rfl | (simp_all [own_nb1, own_nb0]; done)), N4⟩
  · skip
    refine Go.step (fun _ k => XS.icmpYes X4.here hx rfl (pc0 := 44) (pc' := 53) rfl (hb hby at_44) rfl (feq hc44).2 (by decide) (by decide) k) ?_
    show Go _ _ _ _ _ _ _ (T4.setTop (mkF m 53 #[.val (.int qa), .val (.int qb), .val (.int qe), .val (.int qd), .val (.int w_1), .val (.int w_2), .val (.int w_3), .val (.int (if w_1 = 10 ∨ (w_1 = 13 ∧ ¬ w_2 = 10) then (1 : Int32) else 0)), .unset] []))
    refine Go.step (fun _ k => XS.iload X4.here hx rfl (hb hby at_53) rfl  k) ?_
    show Go _ _ _ _ _ _ _ (T4.setTop (mkF m 55 #[.val (.int qa), .val (.int qb), .val (.int qe), .val (.int qd), .val (.int w_1), .val (.int w_2), .val (.int w_3), .val (.int (if w_1 = 10 ∨ (w_1 = 13 ∧ ¬ w_2 = 10) then (1 : Int32) else 0)), .unset] [(.int w_1)]))
    refine Go.step (fun _ k => XS.bipush X4.here hx rfl (hb hby at_55) k) ?_
    show Go _ _ _ _ _ _ _ (T4.setTop (mkF m 57 #[.val (.int qa), .val (.int qb), .val (.int qe), .val (.int qd), .val (.int w_1), .val (.int w_2), .val (.int w_3), .val (.int (if w_1 = 10 ∨ (w_1 = 13 ∧ ¬ w_2 = 10) then (1 : Int32) else 0)), .unset] [(.int (13 : Int32)), (.int w_1)]))
    by_cases hc57 : w_1 = (13 : Int32)
    · skip
      refine Go.step (fun _ k => XS.icmpNo X4.here hx rfl (hb hby at_57) rfl (teq hc57).2 k) ?_
      show Go _ _ _ _ _ _ _ (T4.setTop (mkF m 60 #[.val (.int qa), .val (.int qb), .val (.int qe), .val (.int qd), .val (.int w_1), .val (.int w_2), .val (.int w_3), .val (.int (if w_1 = 10 ∨ (w_1 = 13 ∧ ¬ w_2 = 10) then (1 : Int32) else 0)), .unset] []))
      refine Go.step (fun _ k => XS.iload X4.here hx rfl (hb hby at_60) rfl  k) ?_
      show Go _ _ _ _ _ _ _ (T4.setTop (mkF m 62 #[.val (.int qa), .val (.int qb), .val (.int qe), .val (.int qd), .val (.int w_1), .val (.int w_2), .val (.int w_3), .val (.int (if w_1 = 10 ∨ (w_1 = 13 ∧ ¬ w_2 = 10) then (1 : Int32) else 0)), .unset] [(.int w_2)]))
      refine Go.step (fun _ k => XS.bipush X4.here hx rfl (hb hby at_62) k) ?_
      show Go _ _ _ _ _ _ _ (T4.setTop (mkF m 64 #[.val (.int qa), .val (.int qb), .val (.int qe), .val (.int qd), .val (.int w_1), .val (.int w_2), .val (.int w_3), .val (.int (if w_1 = 10 ∨ (w_1 = 13 ∧ ¬ w_2 = 10) then (1 : Int32) else 0)), .unset] [(.int (10 : Int32)), (.int w_2)]))
      by_cases hc64 : w_2 = (10 : Int32)
      · skip
        refine Go.step (fun _ k => XS.icmpNo X4.here hx rfl (hb hby at_64) rfl (teq hc64).2 k) ?_
        show Go _ _ _ _ _ _ _ (T4.setTop (mkF m 67 #[.val (.int qa), .val (.int qb), .val (.int qe), .val (.int qd), .val (.int w_1), .val (.int w_2), .val (.int w_3), .val (.int (if w_1 = 10 ∨ (w_1 = 13 ∧ ¬ w_2 = 10) then (1 : Int32) else 0)), .unset] []))
        refine Go.step (fun _ k => XS.iconst X4.here hx rfl (hb hby at_67) k) ?_
        show Go _ _ _ _ _ _ _ (T4.setTop (mkF m 68 #[.val (.int qa), .val (.int qb), .val (.int qe), .val (.int qd), .val (.int w_1), .val (.int w_2), .val (.int w_3), .val (.int (if w_1 = 10 ∨ (w_1 = 13 ∧ ¬ w_2 = 10) then (1 : Int32) else 0)), .unset] [(.int (0 : Int32))]))
        refine Go.step (fun _ k => XS.istore X4.here hx rfl (hb hby at_68) rfl (l' := #[.val (.int qa), .val (.int qb), .val (.int qe), .val (.int qd), .val (.int w_1), .val (.int w_2), .val (.int w_3), .val (.int (if w_1 = 10 ∨ (w_1 = 13 ∧ ¬ w_2 = 10) then (1 : Int32) else 0)), .val (.int (0 : Int32))]) rfl k) ?_
        show Go _ _ _ _ _ _ _ (T4.setTop (mkF m 70 #[.val (.int qa), .val (.int qb), .val (.int qe), .val (.int qd), .val (.int w_1), .val (.int w_2), .val (.int w_3), .val (.int (if w_1 = 10 ∨ (w_1 = 13 ∧ ¬ w_2 = 10) then (1 : Int32) else 0)), .val (.int (0 : Int32))] []))
        refine Go.step (fun _ k => XS.goto X4.here hx rfl (pc0 := 70) (pc' := 82) rfl (hb hby at_70) (by decide) (by decide) k) ?_
        show Go _ _ _ _ _ _ _ (T4.setTop (mkF m 82 #[.val (.int qa), .val (.int qb), .val (.int qe), .val (.int qd), .val (.int w_1), .val (.int w_2), .val (.int w_3), .val (.int (if w_1 = 10 ∨ (w_1 = 13 ∧ ¬ w_2 = 10) then (1 : Int32) else 0)), .val (.int (0 : Int32))] []))
        refine Go.step (fun _ k => XS.iload X4.here hx rfl (hb hby at_82) rfl  k) ?_
        show Go _ _ _ _ _ _ _ (T4.setTop (mkF m 84 #[.val (.int qa), .val (.int qb), .val (.int qe), .val (.int qd), .val (.int w_1), .val (.int w_2), .val (.int w_3), .val (.int (if w_1 = 10 ∨ (w_1 = 13 ∧ ¬ w_2 = 10) then (1 : Int32) else 0)), .val (.int (0 : Int32))] [(.int (if w_1 = 10 ∨ (w_1 = 13 ∧ ¬ w_2 = 10) then (1 : Int32) else 0))]))
        refine Go.step (fun _ k => XS.iload X4.here hx rfl (hb hby at_84) rfl  k) ?_
        show Go _ _ _ _ _ _ _ (T4.setTop (mkF m 86 #[.val (.int qa), .val (.int qb), .val (.int qe), .val (.int qd), .val (.int w_1), .val (.int w_2), .val (.int w_3), .val (.int (if w_1 = 10 ∨ (w_1 = 13 ∧ ¬ w_2 = 10) then (1 : Int32) else 0)), .val (.int (0 : Int32))] [(.int (0 : Int32)), (.int (if w_1 = 10 ∨ (w_1 = 13 ∧ ¬ w_2 = 10) then (1 : Int32) else 0))]))
        by_cases hc86 : (if w_1 = 10 ∨ (w_1 = 13 ∧ ¬ w_2 = 10) then (1 : Int32) else 0) = (0 : Int32)
        · skip
          refine Go.step (fun _ k => XS.icmpYes X4.here hx rfl (pc0 := 86) (pc' := 91) rfl (hb hby at_86) rfl (teq hc86).1 (by decide) (by decide) k) ?_
          show Go _ _ _ _ _ _ _ (T4.setTop (mkF m 91 #[.val (.int qa), .val (.int qb), .val (.int qe), .val (.int qd), .val (.int w_1), .val (.int w_2), .val (.int w_3), .val (.int (if w_1 = 10 ∨ (w_1 = 13 ∧ ¬ w_2 = 10) then (1 : Int32) else 0)), .val (.int (0 : Int32))] []))
          refine Go.step (fun _ k => XS.iload X4.here hx rfl (hb hby at_91) rfl  k) ?_
          show Go _ _ _ _ _ _ _ (T4.setTop (mkF m 93 #[.val (.int qa), .val (.int qb), .val (.int qe), .val (.int qd), .val (.int w_1), .val (.int w_2), .val (.int w_3), .val (.int (if w_1 = 10 ∨ (w_1 = 13 ∧ ¬ w_2 = 10) then (1 : Int32) else 0)), .val (.int (0 : Int32))] [(.int w_1)]))
          refine Go.step (fun _ k => XS.bipush X4.here hx rfl (hb hby at_93) k) ?_
          show Go _ _ _ _ _ _ _ (T4.setTop (mkF m 95 #[.val (.int qa), .val (.int qb), .val (.int qe), .val (.int qd), .val (.int w_1), .val (.int w_2), .val (.int w_3), .val (.int (if w_1 = 10 ∨ (w_1 = 13 ∧ ¬ w_2 = 10) then (1 : Int32) else 0)), .val (.int (0 : Int32))] [(.int (13 : Int32)), (.int w_1)]))
          have hc95 : w_1 = (13 : Int32) := hc57
          refine Go.step (fun _ k => XS.icmpNo X4.here hx rfl (hb hby at_95) rfl (teq hc95).2 k) ?_
          show Go _ _ _ _ _ _ _ (T4.setTop (mkF m 98 #[.val (.int qa), .val (.int qb), .val (.int qe), .val (.int qd), .val (.int w_1), .val (.int w_2), .val (.int w_3), .val (.int (if w_1 = 10 ∨ (w_1 = 13 ∧ ¬ w_2 = 10) then (1 : Int32) else 0)), .val (.int (0 : Int32))] []))
          refine Go.step (fun _ k => XS.iload X4.here hx rfl (hb hby at_98) rfl  k) ?_
          show Go _ _ _ _ _ _ _ (T4.setTop (mkF m 100 #[.val (.int qa), .val (.int qb), .val (.int qe), .val (.int qd), .val (.int w_1), .val (.int w_2), .val (.int w_3), .val (.int (if w_1 = 10 ∨ (w_1 = 13 ∧ ¬ w_2 = 10) then (1 : Int32) else 0)), .val (.int (0 : Int32))] [(.int w_2)]))
          refine Go.step (fun _ k => XS.bipush X4.here hx rfl (hb hby at_100) k) ?_
          show Go _ _ _ _ _ _ _ (T4.setTop (mkF m 102 #[.val (.int qa), .val (.int qb), .val (.int qe), .val (.int qd), .val (.int w_1), .val (.int w_2), .val (.int w_3), .val (.int (if w_1 = 10 ∨ (w_1 = 13 ∧ ¬ w_2 = 10) then (1 : Int32) else 0)), .val (.int (0 : Int32))] [(.int (10 : Int32)), (.int w_2)]))
          have hc102 : w_2 = (10 : Int32) := hc64
          refine Go.step (fun _ k => XS.icmpNo X4.here hx rfl (hb hby at_102) rfl (teq hc102).2 k) ?_
          show Go _ _ _ _ _ _ _ (T4.setTop (mkF m 105 #[.val (.int qa), .val (.int qb), .val (.int qe), .val (.int qd), .val (.int w_1), .val (.int w_2), .val (.int w_3), .val (.int (if w_1 = 10 ∨ (w_1 = 13 ∧ ¬ w_2 = 10) then (1 : Int32) else 0)), .val (.int (0 : Int32))] []))
          refine Go.step (fun _ k => XS.iload X4.here hx rfl (hb hby at_105) rfl  k) ?_
          show Go _ _ _ _ _ _ _ (T4.setTop (mkF m 107 #[.val (.int qa), .val (.int qb), .val (.int qe), .val (.int qd), .val (.int w_1), .val (.int w_2), .val (.int w_3), .val (.int (if w_1 = 10 ∨ (w_1 = 13 ∧ ¬ w_2 = 10) then (1 : Int32) else 0)), .val (.int (0 : Int32))] [(.int (if w_1 = 10 ∨ (w_1 = 13 ∧ ¬ w_2 = 10) then (1 : Int32) else 0))]))
          have hc107 : (if w_1 = 10 ∨ (w_1 = 13 ∧ ¬ w_2 = 10) then (1 : Int32) else 0) = (0 : Int32) := hc86
          refine Go.step (fun _ k => XS.ifNo X4.here hx rfl (hb hby at_107) rfl ((if0 _ _).trans (teq hc107).2) k) ?_
          show Go _ _ _ _ _ _ _ (T4.setTop (mkF m 110 #[.val (.int qa), .val (.int qb), .val (.int qe), .val (.int qd), .val (.int w_1), .val (.int w_2), .val (.int w_3), .val (.int (if w_1 = 10 ∨ (w_1 = 13 ∧ ¬ w_2 = 10) then (1 : Int32) else 0)), .val (.int (0 : Int32))] []))
          refine Go.step (fun _ k => XS.iload X4.here hx rfl (hb hby at_110) rfl  k) ?_
          show Go _ _ _ _ _ _ _ (T4.setTop (mkF m 112 #[.val (.int qa), .val (.int qb), .val (.int qe), .val (.int qd), .val (.int w_1), .val (.int w_2), .val (.int w_3), .val (.int (if w_1 = 10 ∨ (w_1 = 13 ∧ ¬ w_2 = 10) then (1 : Int32) else 0)), .val (.int (0 : Int32))] [(.int w_2)]))
          refine Go.step (fun _ k => XS.iload X4.here hx rfl (hb hby at_112) rfl  k) ?_
          show Go _ _ _ _ _ _ _ (T4.setTop (mkF m 114 #[.val (.int qa), .val (.int qb), .val (.int qe), .val (.int qd), .val (.int w_1), .val (.int w_2), .val (.int w_3), .val (.int (if w_1 = 10 ∨ (w_1 = 13 ∧ ¬ w_2 = 10) then (1 : Int32) else 0)), .val (.int (0 : Int32))] [(.int w_3), (.int w_2)]))
          obtain ⟨_, _, ⟨T6, L6, k6, n6⟩, -, X6, ⟨Lc6, hQ6, l6, y6, z6⟩, st6⟩ := Jvm.LawKit.callS X4 hx (y := (⟨"com/example/tree_automata_reducer/treeautomatareducer/io/LineEnds", "endsLine", "(II)Z"⟩ : MethodName)) hown (mvT hZ (hw _ (List.mem_of_getElem? (i := 4) rfl))) (mvT hZ (hw _ (List.mem_of_getElem? (i := 5) rfl))) (mvT hZ (hw _ (List.mem_of_getElem? (i := 6) rfl))) (mvT hZ (hw _ (List.mem_of_getElem? (i := 7) rfl))) (by decide) (backOf (W := 0) (rm2 l Z aZ hw [] w_2 w_3 h0 n0 Z0 ) hZ (hw _ (List.mem_of_getElem? (i := 7) rfl)) (hw _ (List.mem_of_getElem? (i := 6) rfl)) (by decide) (by decide)) (g := (mkF m 114 #[.val (.int qa), .val (.int qb), .val (.int qe), .val (.int qd), .val (.int w_1), .val (.int w_2), .val (.int w_3), .val (.int (if w_1 = 10 ∨ (w_1 = 13 ∧ ¬ w_2 = 10) then (1 : Int32) else 0)), .val (.int (0 : Int32))] [(.int w_3), (.int w_2)])) rfl (by rw [hml]; rfl) (argsL := [(.int w_2), (.int w_3)]) (rest := []) (lenOf pd_1 rfl) rfl (by show 2 * 0 + _ ≤ _; exact Nat.le_of_eq rfl) (hb hby at_114) (fun _ _ => ⟨rfl, e4, (by decide : 0 + 0 ≤ _), (by decide : 0 + 0 ≤ _)⟩)
          dsimp only [Pt.U, Pt.locs, Pt.cells, Pt.slots] at X6 l6 y6 z6 st6 hQ6
          subst l6 y6 z6
          obtain ⟨rfl, Nq6, e6⟩ := hQ6
          have N6 := Fr.app N4 Nq6
          refine Go.step st6 ?_
          show Go _ _ _ _ _ _ _ (T6.setTop (mkF m 117 #[.val (.int qa), .val (.int qb), .val (.int qe), .val (.int qd), .val (.int w_1), .val (.int w_2), .val (.int w_3), .val (.int (if w_1 = 10 ∨ (w_1 = 13 ∧ ¬ w_2 = 10) then (1 : Int32) else 0)), .val (.int (0 : Int32))] [(.int (if w_2 = 10 ∨ (w_2 = 13 ∧ ¬ w_3 = 10) then (1 : Int32) else 0))]))
          by_cases hc117 : (if w_2 = 10 ∨ (w_2 = 13 ∧ ¬ w_3 = 10) then (1 : Int32) else 0) = (0 : Int32)
          · skip
            refine Go.step (fun _ k => XS.ifYes X6.here hx rfl (pc0 := 117) (pc' := 124) rfl (hb hby at_117) rfl ((if0 _ _).trans (teq hc117).1) (by decide) (by decide) k) ?_
            show Go _ _ _ _ _ _ _ (T6.setTop (mkF m 124 #[.val (.int qa), .val (.int qb), .val (.int qe), .val (.int qd), .val (.int w_1), .val (.int w_2), .val (.int w_3), .val (.int (if w_1 = 10 ∨ (w_1 = 13 ∧ ¬ w_2 = 10) then (1 : Int32) else 0)), .val (.int (0 : Int32))] []))
            refine Go.step (fun _ k => XS.iconst X6.here hx rfl (hb hby at_124) k) ?_
            show Go _ _ _ _ _ _ _ (T6.setTop (mkF m 125 #[.val (.int qa), .val (.int qb), .val (.int qe), .val (.int qd), .val (.int w_1), .val (.int w_2), .val (.int w_3), .val (.int (if w_1 = 10 ∨ (w_1 = 13 ∧ ¬ w_2 = 10) then (1 : Int32) else 0)), .val (.int (0 : Int32))] [(.int (0 : Int32))]))
            refine Go.retN X6 hx (t := .boolean) Bd.returns (by simp) hlk (hb hby at_125) ?_ (by decide) (by decide)
            rw [e6]
            exact ⟨(by first | rfl | (simp_all [own_nb1, own_nb0]; done)), N6⟩
          · skip
            refine Go.step (fun _ k => XS.ifNo X6.here hx rfl (hb hby at_117) rfl ((if0 _ _).trans (feq hc117).1) k) ?_
            show Go _ _ _ _ _ _ _ (T6.setTop (mkF m 120 #[.val (.int qa), .val (.int qb), .val (.int qe), .val (.int qd), .val (.int w_1), .val (.int w_2), .val (.int w_3), .val (.int (if w_1 = 10 ∨ (w_1 = 13 ∧ ¬ w_2 = 10) then (1 : Int32) else 0)), .val (.int (0 : Int32))] []))
            refine Go.step (fun _ k => XS.iconst X6.here hx rfl (hb hby at_120) k) ?_
            show Go _ _ _ _ _ _ _ (T6.setTop (mkF m 121 #[.val (.int qa), .val (.int qb), .val (.int qe), .val (.int qd), .val (.int w_1), .val (.int w_2), .val (.int w_3), .val (.int (if w_1 = 10 ∨ (w_1 = 13 ∧ ¬ w_2 = 10) then (1 : Int32) else 0)), .val (.int (0 : Int32))] [(.int (1 : Int32))]))
            refine Go.step (fun _ k => XS.goto X6.here hx rfl (pc0 := 121) (pc' := 125) rfl (hb hby at_121) (by decide) (by decide) k) ?_
            show Go _ _ _ _ _ _ _ (T6.setTop (mkF m 125 #[.val (.int qa), .val (.int qb), .val (.int qe), .val (.int qd), .val (.int w_1), .val (.int w_2), .val (.int w_3), .val (.int (if w_1 = 10 ∨ (w_1 = 13 ∧ ¬ w_2 = 10) then (1 : Int32) else 0)), .val (.int (0 : Int32))] [(.int (1 : Int32))]))
            refine Go.retN X6 hx (t := .boolean) Bd.returns (by simp) hlk (hb hby at_125) ?_ (by decide) (by decide)
            rw [e6]
            exact ⟨(by first | rfl | (simp_all [own_nb1, own_nb0]; done)), N6⟩
        · skip
          refine Go.step (fun _ k => XS.icmpNo X4.here hx rfl (hb hby at_86) rfl (feq hc86).1 k) ?_
          show Go _ _ _ _ _ _ _ (T4.setTop (mkF m 89 #[.val (.int qa), .val (.int qb), .val (.int qe), .val (.int qd), .val (.int w_1), .val (.int w_2), .val (.int w_3), .val (.int (if w_1 = 10 ∨ (w_1 = 13 ∧ ¬ w_2 = 10) then (1 : Int32) else 0)), .val (.int (0 : Int32))] []))
          refine Go.step (fun _ k => XS.iconst X4.here hx rfl (hb hby at_89) k) ?_
          show Go _ _ _ _ _ _ _ (T4.setTop (mkF m 90 #[.val (.int qa), .val (.int qb), .val (.int qe), .val (.int qd), .val (.int w_1), .val (.int w_2), .val (.int w_3), .val (.int (if w_1 = 10 ∨ (w_1 = 13 ∧ ¬ w_2 = 10) then (1 : Int32) else 0)), .val (.int (0 : Int32))] [(.int (0 : Int32))]))
          refine Go.retN X4 hx (t := .boolean) Bd.returns (by simp) hlk (hb hby at_90) ?_ (by decide) (by decide)
          rw [e4]
          exact ⟨(by first | rfl | (simp_all [own_nb1, own_nb0]; done)), N4⟩
      · skip
        refine Go.step (fun _ k => XS.icmpYes X4.here hx rfl (pc0 := 64) (pc' := 73) rfl (hb hby at_64) rfl (feq hc64).2 (by decide) (by decide) k) ?_
        show Go _ _ _ _ _ _ _ (T4.setTop (mkF m 73 #[.val (.int qa), .val (.int qb), .val (.int qe), .val (.int qd), .val (.int w_1), .val (.int w_2), .val (.int w_3), .val (.int (if w_1 = 10 ∨ (w_1 = 13 ∧ ¬ w_2 = 10) then (1 : Int32) else 0)), .unset] []))
        refine Go.step (fun _ k => XS.iconst X4.here hx rfl (hb hby at_73) k) ?_
        show Go _ _ _ _ _ _ _ (T4.setTop (mkF m 74 #[.val (.int qa), .val (.int qb), .val (.int qe), .val (.int qd), .val (.int w_1), .val (.int w_2), .val (.int w_3), .val (.int (if w_1 = 10 ∨ (w_1 = 13 ∧ ¬ w_2 = 10) then (1 : Int32) else 0)), .unset] [(.int (1 : Int32))]))
        refine Go.step (fun _ k => XS.istore X4.here hx rfl (hb hby at_74) rfl (l' := #[.val (.int qa), .val (.int qb), .val (.int qe), .val (.int qd), .val (.int w_1), .val (.int w_2), .val (.int w_3), .val (.int (if w_1 = 10 ∨ (w_1 = 13 ∧ ¬ w_2 = 10) then (1 : Int32) else 0)), .val (.int (1 : Int32))]) rfl k) ?_
        show Go _ _ _ _ _ _ _ (T4.setTop (mkF m 76 #[.val (.int qa), .val (.int qb), .val (.int qe), .val (.int qd), .val (.int w_1), .val (.int w_2), .val (.int w_3), .val (.int (if w_1 = 10 ∨ (w_1 = 13 ∧ ¬ w_2 = 10) then (1 : Int32) else 0)), .val (.int (1 : Int32))] []))
        refine Go.step (fun _ k => XS.goto X4.here hx rfl (pc0 := 76) (pc' := 82) rfl (hb hby at_76) (by decide) (by decide) k) ?_
        show Go _ _ _ _ _ _ _ (T4.setTop (mkF m 82 #[.val (.int qa), .val (.int qb), .val (.int qe), .val (.int qd), .val (.int w_1), .val (.int w_2), .val (.int w_3), .val (.int (if w_1 = 10 ∨ (w_1 = 13 ∧ ¬ w_2 = 10) then (1 : Int32) else 0)), .val (.int (1 : Int32))] []))
        refine Go.step (fun _ k => XS.iload X4.here hx rfl (hb hby at_82) rfl  k) ?_
        show Go _ _ _ _ _ _ _ (T4.setTop (mkF m 84 #[.val (.int qa), .val (.int qb), .val (.int qe), .val (.int qd), .val (.int w_1), .val (.int w_2), .val (.int w_3), .val (.int (if w_1 = 10 ∨ (w_1 = 13 ∧ ¬ w_2 = 10) then (1 : Int32) else 0)), .val (.int (1 : Int32))] [(.int (if w_1 = 10 ∨ (w_1 = 13 ∧ ¬ w_2 = 10) then (1 : Int32) else 0))]))
        refine Go.step (fun _ k => XS.iload X4.here hx rfl (hb hby at_84) rfl  k) ?_
        show Go _ _ _ _ _ _ _ (T4.setTop (mkF m 86 #[.val (.int qa), .val (.int qb), .val (.int qe), .val (.int qd), .val (.int w_1), .val (.int w_2), .val (.int w_3), .val (.int (if w_1 = 10 ∨ (w_1 = 13 ∧ ¬ w_2 = 10) then (1 : Int32) else 0)), .val (.int (1 : Int32))] [(.int (1 : Int32)), (.int (if w_1 = 10 ∨ (w_1 = 13 ∧ ¬ w_2 = 10) then (1 : Int32) else 0))]))
        by_cases hc86 : (if w_1 = 10 ∨ (w_1 = 13 ∧ ¬ w_2 = 10) then (1 : Int32) else 0) = (1 : Int32)
        · skip
          refine Go.step (fun _ k => XS.icmpYes X4.here hx rfl (pc0 := 86) (pc' := 91) rfl (hb hby at_86) rfl (teq hc86).1 (by decide) (by decide) k) ?_
          show Go _ _ _ _ _ _ _ (T4.setTop (mkF m 91 #[.val (.int qa), .val (.int qb), .val (.int qe), .val (.int qd), .val (.int w_1), .val (.int w_2), .val (.int w_3), .val (.int (if w_1 = 10 ∨ (w_1 = 13 ∧ ¬ w_2 = 10) then (1 : Int32) else 0)), .val (.int (1 : Int32))] []))
          refine Go.step (fun _ k => XS.iload X4.here hx rfl (hb hby at_91) rfl  k) ?_
          show Go _ _ _ _ _ _ _ (T4.setTop (mkF m 93 #[.val (.int qa), .val (.int qb), .val (.int qe), .val (.int qd), .val (.int w_1), .val (.int w_2), .val (.int w_3), .val (.int (if w_1 = 10 ∨ (w_1 = 13 ∧ ¬ w_2 = 10) then (1 : Int32) else 0)), .val (.int (1 : Int32))] [(.int w_1)]))
          refine Go.step (fun _ k => XS.bipush X4.here hx rfl (hb hby at_93) k) ?_
          show Go _ _ _ _ _ _ _ (T4.setTop (mkF m 95 #[.val (.int qa), .val (.int qb), .val (.int qe), .val (.int qd), .val (.int w_1), .val (.int w_2), .val (.int w_3), .val (.int (if w_1 = 10 ∨ (w_1 = 13 ∧ ¬ w_2 = 10) then (1 : Int32) else 0)), .val (.int (1 : Int32))] [(.int (13 : Int32)), (.int w_1)]))
          have hc95 : w_1 = (13 : Int32) := hc57
          refine Go.step (fun _ k => XS.icmpNo X4.here hx rfl (hb hby at_95) rfl (teq hc95).2 k) ?_
          show Go _ _ _ _ _ _ _ (T4.setTop (mkF m 98 #[.val (.int qa), .val (.int qb), .val (.int qe), .val (.int qd), .val (.int w_1), .val (.int w_2), .val (.int w_3), .val (.int (if w_1 = 10 ∨ (w_1 = 13 ∧ ¬ w_2 = 10) then (1 : Int32) else 0)), .val (.int (1 : Int32))] []))
          refine Go.step (fun _ k => XS.iload X4.here hx rfl (hb hby at_98) rfl  k) ?_
          show Go _ _ _ _ _ _ _ (T4.setTop (mkF m 100 #[.val (.int qa), .val (.int qb), .val (.int qe), .val (.int qd), .val (.int w_1), .val (.int w_2), .val (.int w_3), .val (.int (if w_1 = 10 ∨ (w_1 = 13 ∧ ¬ w_2 = 10) then (1 : Int32) else 0)), .val (.int (1 : Int32))] [(.int w_2)]))
          refine Go.step (fun _ k => XS.bipush X4.here hx rfl (hb hby at_100) k) ?_
          show Go _ _ _ _ _ _ _ (T4.setTop (mkF m 102 #[.val (.int qa), .val (.int qb), .val (.int qe), .val (.int qd), .val (.int w_1), .val (.int w_2), .val (.int w_3), .val (.int (if w_1 = 10 ∨ (w_1 = 13 ∧ ¬ w_2 = 10) then (1 : Int32) else 0)), .val (.int (1 : Int32))] [(.int (10 : Int32)), (.int w_2)]))
          have hc102 : ¬ (w_2 = (10 : Int32)) := hc64
          refine Go.step (fun _ k => XS.icmpYes X4.here hx rfl (pc0 := 102) (pc' := 126) rfl (hb hby at_102) rfl (feq hc102).2 (by decide) (by decide) k) ?_
          show Go _ _ _ _ _ _ _ (T4.setTop (mkF m 126 #[.val (.int qa), .val (.int qb), .val (.int qe), .val (.int qd), .val (.int w_1), .val (.int w_2), .val (.int w_3), .val (.int (if w_1 = 10 ∨ (w_1 = 13 ∧ ¬ w_2 = 10) then (1 : Int32) else 0)), .val (.int (1 : Int32))] []))
          refine Go.step (fun _ k => XS.iconst X4.here hx rfl (hb hby at_126) k) ?_
          show Go _ _ _ _ _ _ _ (T4.setTop (mkF m 127 #[.val (.int qa), .val (.int qb), .val (.int qe), .val (.int qd), .val (.int w_1), .val (.int w_2), .val (.int w_3), .val (.int (if w_1 = 10 ∨ (w_1 = 13 ∧ ¬ w_2 = 10) then (1 : Int32) else 0)), .val (.int (1 : Int32))] [(.int (1 : Int32))]))
          refine Go.retN X4 hx (t := .boolean) Bd.returns (by simp) hlk (hb hby at_127) ?_ (by decide) (by decide)
          rw [e4]
          exact ⟨(by first | rfl | (simp_all [own_nb1, own_nb0]; done)), N4⟩
        · skip
          refine Go.step (fun _ k => XS.icmpNo X4.here hx rfl (hb hby at_86) rfl (feq hc86).1 k) ?_
          show Go _ _ _ _ _ _ _ (T4.setTop (mkF m 89 #[.val (.int qa), .val (.int qb), .val (.int qe), .val (.int qd), .val (.int w_1), .val (.int w_2), .val (.int w_3), .val (.int (if w_1 = 10 ∨ (w_1 = 13 ∧ ¬ w_2 = 10) then (1 : Int32) else 0)), .val (.int (1 : Int32))] []))
          refine Go.step (fun _ k => XS.iconst X4.here hx rfl (hb hby at_89) k) ?_
          show Go _ _ _ _ _ _ _ (T4.setTop (mkF m 90 #[.val (.int qa), .val (.int qb), .val (.int qe), .val (.int qd), .val (.int w_1), .val (.int w_2), .val (.int w_3), .val (.int (if w_1 = 10 ∨ (w_1 = 13 ∧ ¬ w_2 = 10) then (1 : Int32) else 0)), .val (.int (1 : Int32))] [(.int (0 : Int32))]))
          refine Go.retN X4 hx (t := .boolean) Bd.returns (by simp) hlk (hb hby at_90) ?_ (by decide) (by decide)
          rw [e4]
          exact ⟨(by first | rfl | (simp_all [own_nb1, own_nb0]; done)), N4⟩
    · skip
      refine Go.step (fun _ k => XS.icmpYes X4.here hx rfl (pc0 := 57) (pc' := 79) rfl (hb hby at_57) rfl (feq hc57).2 (by decide) (by decide) k) ?_
      show Go _ _ _ _ _ _ _ (T4.setTop (mkF m 79 #[.val (.int qa), .val (.int qb), .val (.int qe), .val (.int qd), .val (.int w_1), .val (.int w_2), .val (.int w_3), .val (.int (if w_1 = 10 ∨ (w_1 = 13 ∧ ¬ w_2 = 10) then (1 : Int32) else 0)), .unset] []))
      refine Go.step (fun _ k => XS.iconst X4.here hx rfl (hb hby at_79) k) ?_
      show Go _ _ _ _ _ _ _ (T4.setTop (mkF m 80 #[.val (.int qa), .val (.int qb), .val (.int qe), .val (.int qd), .val (.int w_1), .val (.int w_2), .val (.int w_3), .val (.int (if w_1 = 10 ∨ (w_1 = 13 ∧ ¬ w_2 = 10) then (1 : Int32) else 0)), .unset] [(.int (0 : Int32))]))
      refine Go.step (fun _ k => XS.istore X4.here hx rfl (hb hby at_80) rfl (l' := #[.val (.int qa), .val (.int qb), .val (.int qe), .val (.int qd), .val (.int w_1), .val (.int w_2), .val (.int w_3), .val (.int (if w_1 = 10 ∨ (w_1 = 13 ∧ ¬ w_2 = 10) then (1 : Int32) else 0)), .val (.int (0 : Int32))]) rfl k) ?_
      show Go _ _ _ _ _ _ _ (T4.setTop (mkF m 82 #[.val (.int qa), .val (.int qb), .val (.int qe), .val (.int qd), .val (.int w_1), .val (.int w_2), .val (.int w_3), .val (.int (if w_1 = 10 ∨ (w_1 = 13 ∧ ¬ w_2 = 10) then (1 : Int32) else 0)), .val (.int (0 : Int32))] []))
      refine Go.step (fun _ k => XS.iload X4.here hx rfl (hb hby at_82) rfl  k) ?_
      show Go _ _ _ _ _ _ _ (T4.setTop (mkF m 84 #[.val (.int qa), .val (.int qb), .val (.int qe), .val (.int qd), .val (.int w_1), .val (.int w_2), .val (.int w_3), .val (.int (if w_1 = 10 ∨ (w_1 = 13 ∧ ¬ w_2 = 10) then (1 : Int32) else 0)), .val (.int (0 : Int32))] [(.int (if w_1 = 10 ∨ (w_1 = 13 ∧ ¬ w_2 = 10) then (1 : Int32) else 0))]))
      refine Go.step (fun _ k => XS.iload X4.here hx rfl (hb hby at_84) rfl  k) ?_
      show Go _ _ _ _ _ _ _ (T4.setTop (mkF m 86 #[.val (.int qa), .val (.int qb), .val (.int qe), .val (.int qd), .val (.int w_1), .val (.int w_2), .val (.int w_3), .val (.int (if w_1 = 10 ∨ (w_1 = 13 ∧ ¬ w_2 = 10) then (1 : Int32) else 0)), .val (.int (0 : Int32))] [(.int (0 : Int32)), (.int (if w_1 = 10 ∨ (w_1 = 13 ∧ ¬ w_2 = 10) then (1 : Int32) else 0))]))
      by_cases hc86 : (if w_1 = 10 ∨ (w_1 = 13 ∧ ¬ w_2 = 10) then (1 : Int32) else 0) = (0 : Int32)
      · skip
        refine Go.step (fun _ k => XS.icmpYes X4.here hx rfl (pc0 := 86) (pc' := 91) rfl (hb hby at_86) rfl (teq hc86).1 (by decide) (by decide) k) ?_
        show Go _ _ _ _ _ _ _ (T4.setTop (mkF m 91 #[.val (.int qa), .val (.int qb), .val (.int qe), .val (.int qd), .val (.int w_1), .val (.int w_2), .val (.int w_3), .val (.int (if w_1 = 10 ∨ (w_1 = 13 ∧ ¬ w_2 = 10) then (1 : Int32) else 0)), .val (.int (0 : Int32))] []))
        refine Go.step (fun _ k => XS.iload X4.here hx rfl (hb hby at_91) rfl  k) ?_
        show Go _ _ _ _ _ _ _ (T4.setTop (mkF m 93 #[.val (.int qa), .val (.int qb), .val (.int qe), .val (.int qd), .val (.int w_1), .val (.int w_2), .val (.int w_3), .val (.int (if w_1 = 10 ∨ (w_1 = 13 ∧ ¬ w_2 = 10) then (1 : Int32) else 0)), .val (.int (0 : Int32))] [(.int w_1)]))
        refine Go.step (fun _ k => XS.bipush X4.here hx rfl (hb hby at_93) k) ?_
        show Go _ _ _ _ _ _ _ (T4.setTop (mkF m 95 #[.val (.int qa), .val (.int qb), .val (.int qe), .val (.int qd), .val (.int w_1), .val (.int w_2), .val (.int w_3), .val (.int (if w_1 = 10 ∨ (w_1 = 13 ∧ ¬ w_2 = 10) then (1 : Int32) else 0)), .val (.int (0 : Int32))] [(.int (13 : Int32)), (.int w_1)]))
        have hc95 : ¬ (w_1 = (13 : Int32)) := hc57
        refine Go.step (fun _ k => XS.icmpYes X4.here hx rfl (pc0 := 95) (pc' := 126) rfl (hb hby at_95) rfl (feq hc95).2 (by decide) (by decide) k) ?_
        show Go _ _ _ _ _ _ _ (T4.setTop (mkF m 126 #[.val (.int qa), .val (.int qb), .val (.int qe), .val (.int qd), .val (.int w_1), .val (.int w_2), .val (.int w_3), .val (.int (if w_1 = 10 ∨ (w_1 = 13 ∧ ¬ w_2 = 10) then (1 : Int32) else 0)), .val (.int (0 : Int32))] []))
        refine Go.step (fun _ k => XS.iconst X4.here hx rfl (hb hby at_126) k) ?_
        show Go _ _ _ _ _ _ _ (T4.setTop (mkF m 127 #[.val (.int qa), .val (.int qb), .val (.int qe), .val (.int qd), .val (.int w_1), .val (.int w_2), .val (.int w_3), .val (.int (if w_1 = 10 ∨ (w_1 = 13 ∧ ¬ w_2 = 10) then (1 : Int32) else 0)), .val (.int (0 : Int32))] [(.int (1 : Int32))]))
        refine Go.retN X4 hx (t := .boolean) Bd.returns (by simp) hlk (hb hby at_127) ?_ (by decide) (by decide)
        rw [e4]
        exact ⟨(by first | rfl | (simp_all [own_nb1, own_nb0]; done)), N4⟩
      · skip
        refine Go.step (fun _ k => XS.icmpNo X4.here hx rfl (hb hby at_86) rfl (feq hc86).1 k) ?_
        show Go _ _ _ _ _ _ _ (T4.setTop (mkF m 89 #[.val (.int qa), .val (.int qb), .val (.int qe), .val (.int qd), .val (.int w_1), .val (.int w_2), .val (.int w_3), .val (.int (if w_1 = 10 ∨ (w_1 = 13 ∧ ¬ w_2 = 10) then (1 : Int32) else 0)), .val (.int (0 : Int32))] []))
        refine Go.step (fun _ k => XS.iconst X4.here hx rfl (hb hby at_89) k) ?_
        show Go _ _ _ _ _ _ _ (T4.setTop (mkF m 90 #[.val (.int qa), .val (.int qb), .val (.int qe), .val (.int qd), .val (.int w_1), .val (.int w_2), .val (.int w_3), .val (.int (if w_1 = 10 ∨ (w_1 = 13 ∧ ¬ w_2 = 10) then (1 : Int32) else 0)), .val (.int (0 : Int32))] [(.int (0 : Int32))]))
        refine Go.retN X4 hx (t := .boolean) Bd.returns (by simp) hlk (hb hby at_90) ?_ (by decide) (by decide)
        rw [e4]
        exact ⟨(by first | rfl | (simp_all [own_nb1, own_nb0]; done)), N4⟩
set_option maxRecDepth 65536 in
set_option maxHeartbeats 40000000 in
theorem comes_1 {Post : Tables → Env → Array Value → State → Outcome → State → Prop} (hpost : ∀ tb e args s v u, (limb_1_1.after args s (.returned v) u = true ∧ limb_1_2.after args s (.returned v) u = true ∧ True) → FrameEnd s (.returned v) u (Jvm.fieldLocs frame_1_writes args s ++ Jvm.arrayLocs frame_1_arrays args s ++ Jvm.staticLocs frame_1_statics s) 0 0 → Post tb e args s (.returned v) u) :
    ArmFor flags0 classFile x code maxLocals ret World_1 tables_1 room_1 Calls_1 rest_1 Pre_1 Post := by
  intro l hfl _ _ p e ha hc hk s m args below hf hA hF happ hP
  obtain ⟨hcalls, hrest, hpre⟩ := hP
  obtain ⟨-, -, -, hnamed, -, -, -, hat⟩ := (Spec.applies_iff hf).mp happ
  obtain ⟨hg, hn⟩ := and_e (Cond.before_iff.mp (show (Jvm.Cond.and given_1 narrow_1).before args s = true from hpre))
  obtain ⟨g0, r0⟩ := and_e hg
  obtain ⟨a0, r1⟩ := and_e r0
  obtain ⟨a1, r2⟩ := and_e r1
  obtain ⟨a2, r3⟩ := and_e r2
  have a3 := r3
  obtain ⟨w0, w1, w2, w3, rfl⟩ : ∃ w0 w1 w2 w3 : Value, args = #[w0, w1, w2, w3] := by
    have hs : args.size = 4 := by simpa [Cond.value, given_1] using g0
    obtain ⟨L⟩ := args
    match L, hs with
    | [w0, w1, w2, w3], _ => exact ⟨w0, w1, w2, w3, rfl⟩
  have hw := fun d (hd : d ∈ tables_1) => atoms_spec (ws := Jvm.Cond.code x code maxLocals ret :: tables_1) hat d (List.mem_cons_of_mem _ hd)
  have hfit : Fit s := fun {y c} hc i hi => by
    obtain ⟨ha, rfl⟩ := Array.getElem?_eq_some_iff.mp hc
    have q := List.all_eq_true.mp ((Array.all_eq_true_iff_forall_mem.mp hF) _ (Array.getElem_mem ha)) i (List.mem_range.mpr hi)
    simpa [Array.getElem?_eq_getElem hi] using q
  obtain ⟨i0, ei0⟩ := is_v a0
  obtain rfl : w0 = (.int i0) := Option.some.inj ei0
  obtain ⟨i1, ei1⟩ := is_v a1
  obtain rfl : w1 = (.int i1) := Option.some.inj ei1
  obtain ⟨i2, ei2⟩ := is_v a2
  obtain rfl : w2 = (.int i2) := Option.some.inj ei2
  obtain ⟨i3, ei3⟩ := is_v a3
  obtain rfl : w3 = (.int i3) := Option.some.inj ei3
  obtain ⟨n, o, h1, h2, h3, _, L, rfl, ⟨rfl, N⟩, hq⟩ := rm0 l s _ hw tables_1 i0 i1 i2 i3  s.heap s.heap.size (Nat.le_refl _)  p e ha hc hk s m _ below hf ((Spec.applies_iff_loose hf).mp happ).1 ⟨rfl, State.Warmed39.refl s, rfl⟩ trivial
  refine ⟨n, _, h1, h2, h3, hpost _ _ _ _ _ _ ⟨Cond.after_iff.mpr rfl, Cond.after_iff.mpr (eq_i res_at (Term.int_eval (1)) rfl), trivial⟩ ⟨hq.1, hq.2.1, (hq.2.2.sift fun y hy => Or.inr (N y hy)).mono (by decide) (by decide)⟩⟩
theorem main_1_1 : Claimed_1_1 := comes_1 fun _ _ _ _ _ _ h hF => ⟨h.1, hF⟩
theorem main_1_2 : Claimed_1_2 := comes_1 fun _ _ _ _ _ _ h hF => ⟨h.2.1, hF⟩
end Jvm.Pilot.@@N@@
namespace Jvm.Pilot.@@N@@
open Jvm Jvm.ClassFile Sem Op Lib Jvm.Free Jvm.Stand Jvm.Pilot.@@N@@.Jvm.D
/-! MADE BY PROGRAM (witnessworld.py) out of the Statement's table words and the real class files: 9 classes; the members and pool entries that the words name. The judged class is class 1, her method 2. -/
namespace start1
open Jvm.ClassFile
def u (s : String) : CpInfo := .utf8 (stringToUtf16 s)
/-- a pool by its gaps: so many unusable entries, then the entry; so many at the end -/
def gap : Nat → List CpInfo → List CpInfo
  | 0, r => r
  | n + 1, r => .unusable :: gap n r
def poolList (es : List (Nat × CpInfo)) (last : Nat) : List CpInfo := es.foldr (fun e r => gap e.1 (e.2 :: r)) (gap last [])
def pool (es : List (Nat × CpInfo)) (last : Nat) : Array CpInfo := ⟨poolList es last⟩
def fileOf (pool : Array CpInfo) (this : Nat) (attrs : Array Attribute := #[]) (ms : Array MethodInfo := #[]) (fl : Nat := 33) (sup : Nat := 0) (ifs : Array Nat := #[]) (fds : Array FieldInfo := #[]) : ClassFile where
  minorVersion := 0
  majorVersion := 65
  constantPool := pool
  accessFlags := fl
  thisClass := this
  superClass := sup
  interfaces := ifs
  fields := fds
  methods := ms
  attributes := attrs
def plain (name : String) (sup : Option ClassId) : Class where
  name := name
  kind := .ordinary
  loader := none
  accessFlags := 33
  super := sup
  interfaces := #[]
  cf := none
  fields := #[]
  methods := #[]
  instanceTypes := #[]
  staticTypes := #[]
  resolved := #[]
  callSites := []
  init := .initialized
  statics := none
  mirror := none

def pool0 : Array CpInfo := pool [(5, u "<init>"), (0, u "()V"), (1, .class_ 10), (1, u "java/lang/Object")] 113

def k0m0 : Method := { name := "<init>", desc := "()V", sig := { parameters := [], returnType := none }, accessFlags := 1, code := none }
/-- java/lang/Object -/
def k0 : Class := { plain "java/lang/Object" none with
  accessFlags := 33
  interfaces := #[]
  cf := some (fileOf pool0 8 #[] #[{ accessFlags := 1, nameIndex := 5, descriptorIndex := 6, attributes := #[] }] 33 0 #[] #[])
  fields := #[]
  methods := #[k0m0]
  instanceTypes := #[]
  staticTypes := #[]
  resolved := Array.replicate 124 none
  statics := none }

def pool1 : Array CpInfo := pool [(2, .class_ 4), (1, u "java/lang/Object"), (0, u "<init>"), (0, u "()V"), (0, .methodref 8 9), (0, .class_ 10), (0, .nameAndType 11 12), (0, u "com/example/tree_automata_reducer/treeautomatareducer/io/LineEndsEndsLinePinLaw"), (0, u "pick"), (0, u "(II)I"), (0, .methodref 14 15), (0, .class_ 16), (0, .nameAndType 17 18), (0, u "com/example/tree_automata_reducer/treeautomatareducer/io/LineEnds"), (0, u "endsLine"), (0, u "(II)Z"), (3, u "law"), (0, u "(IIII)Z")] 2

def k1m0 : Method := { name := "<init>", desc := "()V", sig := { parameters := [], returnType := none }, accessFlags := 2, code := none }
def k1c1 : Code := { maxStack := 2, maxLocals := 2, code := method_2_code, exceptionTable := #[], attributes := #[] }
def k1m1 : Method := { name := "pick", desc := "(II)I", sig := { parameters := [.int, .int], returnType := some .int }, accessFlags := 10, code := some k1c1 }
def k1c2 : Code := { maxStack := 2, maxLocals := 9, code := code, exceptionTable := #[], attributes := #[] }
def k1m2 : Method := { name := "law", desc := "(IIII)Z", sig := { parameters := [.int, .int, .int, .int], returnType := some .boolean }, accessFlags := 9, code := some k1c2 }
/-- com/example/tree_automata_reducer/treeautomatareducer/io/LineEndsEndsLinePinLaw -/
def k1 : Class := { plain "com/example/tree_automata_reducer/treeautomatareducer/io/LineEndsEndsLinePinLaw" (some 0) with
  accessFlags := 49
  interfaces := #[]
  cf := some (fileOf pool1 8 #[] #[{ accessFlags := 2, nameIndex := 5, descriptorIndex := 6, attributes := #[] }, { accessFlags := 10, nameIndex := 11, descriptorIndex := 12, attributes := #[] }, { accessFlags := 9, nameIndex := 22, descriptorIndex := 23, attributes := #[] }] 49 2 #[] #[])
  fields := #[]
  methods := #[k1m0, k1m1, k1m2]
  instanceTypes := #[]
  staticTypes := #[]
  resolved := Array.replicate 26 none
  statics := none }

def pool2 : Array CpInfo := pool [(2, .class_ 4), (1, u "java/lang/Object"), (0, u "<init>"), (0, u "()V"), (0, .class_ 8), (0, u "com/example/tree_automata_reducer/treeautomatareducer/io/LineEnds"), (5, u "endsLine"), (0, u "(II)Z")] 2

def k2m0 : Method := { name := "<init>", desc := "()V", sig := { parameters := [], returnType := none }, accessFlags := 2, code := none }
def k2c1 : Code := { maxStack := 2, maxLocals := 2, code := prog_14_method_3_code, exceptionTable := #[], attributes := #[] }
def k2m1 : Method := { name := "endsLine", desc := "(II)Z", sig := { parameters := [.int, .int], returnType := some .boolean }, accessFlags := 8, code := some k2c1 }
/-- com/example/tree_automata_reducer/treeautomatareducer/io/LineEnds -/
def k2 : Class := { plain "com/example/tree_automata_reducer/treeautomatareducer/io/LineEnds" (some 0) with
  accessFlags := 49
  interfaces := #[]
  cf := some (fileOf pool2 7 #[] #[{ accessFlags := 2, nameIndex := 5, descriptorIndex := 6, attributes := #[] }, { accessFlags := 8, nameIndex := 14, descriptorIndex := 15, attributes := #[] }] 49 2 #[] #[])
  fields := #[]
  methods := #[k2m0, k2m1]
  instanceTypes := #[]
  staticTypes := #[]
  resolved := Array.replicate 18 none
  statics := none }

def pool3 : Array CpInfo := pool [(1, u "java/lang/Cloneable"), (0, .class_ 1), (0, u "java/lang/Object"), (0, .class_ 3)] 3

/-- java/lang/Cloneable -/
def k3 : Class := { plain "java/lang/Cloneable" (some 0) with
  accessFlags := 1537
  interfaces := #[]
  cf := some (fileOf pool3 2 #[] #[] 1537 4 #[] #[])
  fields := #[]
  methods := #[]
  instanceTypes := #[]
  staticTypes := #[]
  resolved := Array.replicate 8 none
  statics := none }

def pool4 : Array CpInfo := pool [(1, u "java/io/Serializable"), (0, .class_ 1), (0, u "java/lang/Object"), (0, .class_ 3)] 3

/-- java/io/Serializable -/
def k4 : Class := { plain "java/io/Serializable" (some 0) with
  accessFlags := 1537
  interfaces := #[]
  cf := some (fileOf pool4 2 #[] #[] 1537 4 #[] #[])
  fields := #[]
  methods := #[]
  instanceTypes := #[]
  staticTypes := #[]
  resolved := Array.replicate 8 none
  statics := none }

/-- the primitive byte -/
def k5 : Class := { plain "byte" none with kind := .primitive 'B', accessFlags := 0x411 }
/-- [B -/
def k6 : Class := { plain "[B" (some 0) with kind := .array 5 .byte, interfaces := #[3, 4], accessFlags := 1041 }

/-- the primitive int -/
def k7 : Class := { plain "int" none with kind := .primitive 'I', accessFlags := 0x411 }
/-- [I -/
def k8 : Class := { plain "[I" (some 0) with kind := .array 7 .int, interfaces := #[3, 4], accessFlags := 1041 }

def heap : Heap := #[]
def classes : Array Class := #[k0, k1, k2, k3, k4, k5, k6, k7, k8]
def interned : List (Array UInt16 × Addr) := []
def slotsUsed : Nat := 0
def theMethod : MethodId := ⟨1, 2⟩
def args0 : Array Value := #[.int 5, .int 3, .int 1, .int 2]
def aboutOver (below : List Frame) : State where
  vm := { classes := classes, interned := interned.toArray }
  heap := heap
  slotsUsed := slotsUsed
  threads := #[{ frames := .invoking theMethod args0 :: below }]
def below0 : List Frame := [.native { method := ⟨0, 0⟩, args := #[] }]
def about1 : State := aboutOver below0
def p0 : Program := .bare "" "" ""
def e0 : Env := launch0.env 0 0 0
theorem w_frames : about1.frames = Frame.invoking theMethod args0 :: below0 := rfl
set_option maxRecDepth 65536 in
theorem w_args : argsFit about1.vm theMethod args0 = true := by decide +kernel
set_option maxRecDepth 65536 in
theorem w_heap : heapFits about1 = true := by decide +kernel
set_option maxRecDepth 65536 in
theorem w_runnable : about1.curStatus? = some .runnable := by decide +kernel
set_option maxRecDepth 65536 in
theorem w_alone : about1.alone = true := by decide +kernel
set_option maxRecDepth 65536 in
theorem w_named : about1.methodNamed? x = some theMethod := by decide +kernel
set_option maxRecDepth 65536 in
theorem w_hears : about1.hears theMethod below0 = true := by decide +kernel
set_option maxRecDepth 65536 in
theorem w_ripe : about1.ripe theMethod args0 below0 = true := by decide +kernel
theorem w_running : about1.status = .running := rfl
set_option maxRecDepth 65536 in
theorem w_room : about1.hasRoom e0.platform room_1 = true :=
  launch0.hasRoom_least _ room_1 (by decide +kernel) (by decide +kernel) (by decide +kernel) (by decide +kernel) (by decide +kernel) (by decide +kernel)
theorem allAtoms_all (ts : List Jvm.Cond) (a : Array Jvm.Value) (st : Jvm.State) : (allAtoms ts).before a st = ts.all (fun c => c.before a st) := by
  induction ts with
  | nil => rfl
  | cons c t ih =>
    show (Jvm.Cond.and c (allAtoms t)).before a st = _
    rw [Jvm.Cond.before_and, ih, List.all_cons]
def words1 : List Jvm.Cond := Jvm.Cond.code x code maxLocals ret :: tables_1
/-- a 'code' word, met by the world's own term for the bytes: nothing is compared byte by byte -/
theorem code_word {y : MethodName} {bytes : ByteArray} {mx : Nat} {rt : Option FieldType} {a : Array Value} {s : State} {m : MethodId} {meth : Method} {c : Code} (h1 : s.methodNamed? y = some m) (h2 : s.vm.method? m = some meth) (h3 : meth.code = some c) (h4 : c.code = bytes)
    (h5 : (c.maxLocals == mx && c.exceptionTable.isEmpty && decide (c.maxStack ≤ mostOperands) && decide (meth.sig.returnType = rt) && !meth.locks && decide (parseMethodDescriptor y.desc = some meth.sig)) = true) : (Jvm.Cond.code y bytes mx rt).before a s = true := by
  simp only [Bool.and_eq_true, beq_iff_eq, Bool.not_eq_true', decide_eq_true_eq] at h5
  obtain ⟨⟨⟨⟨⟨g1, g2⟩, g3⟩, g4⟩, g5⟩, g6⟩ := h5
  simp [Cond.before, Cond.holds, Cond.value, h1, h2, h3, h4, g1, g2, g3, g4, g5, g6]
def isCode : Jvm.Cond → Bool
  | .code _ _ _ _ => true
  | _ => false
theorem all_split {L : List Jvm.Cond} {P : Jvm.Cond → Bool} (h1 : L.all (fun c => isCode c || P c) = true) (h2 : ∀ c ∈ L.filter isCode, P c = true) : L.all P = true := by
  refine List.all_eq_true.mpr fun c hc => ?_
  have h := List.all_eq_true.mp h1 c hc
  rcases Bool.eq_false_or_eq_true (isCode c) with hi | hi
  · exact h2 c (List.mem_filter.mpr ⟨hc, hi⟩)
  · simpa [hi] using h
set_option maxRecDepth 65536 in
theorem w_c0 : (Jvm.Cond.code x code maxLocals ret).before args0 about1 = true := code_word (m := ⟨1, 2⟩) (meth := k1m2) (c := k1c2) (by decide +kernel) rfl rfl rfl (by decide +kernel)
set_option maxRecDepth 65536 in
theorem w_c1 : (Jvm.Cond.code ({ cls := "com/example/tree_automata_reducer/treeautomatareducer/io/LineEndsEndsLinePinLaw", name := "pick", desc := "(II)I" } : Jvm.MethodName) method_2_code (2 : Nat) (Option.some Jvm.ClassFile.FieldType.int)).before args0 about1 = true := code_word (m := ⟨1, 1⟩) (meth := k1m1) (c := k1c1) (by decide +kernel) rfl rfl rfl (by decide +kernel)
set_option maxRecDepth 65536 in
theorem w_c2 : (Jvm.Cond.code ({ cls := "com/example/tree_automata_reducer/treeautomatareducer/io/LineEnds", name := "endsLine", desc := "(II)Z" } : Jvm.MethodName) prog_14_method_3_code (2 : Nat) (Option.some Jvm.ClassFile.FieldType.boolean)).before args0 about1 = true := code_word (m := ⟨2, 1⟩) (meth := k2m1) (c := k2c1) (by decide +kernel) rfl rfl rfl (by decide +kernel)
def codes1 : List Jvm.Cond := [Jvm.Cond.code x code maxLocals ret, Jvm.Cond.code ({ cls := "com/example/tree_automata_reducer/treeautomatareducer/io/LineEndsEndsLinePinLaw", name := "pick", desc := "(II)I" } : Jvm.MethodName) method_2_code (2 : Nat) (Option.some Jvm.ClassFile.FieldType.int), Jvm.Cond.code ({ cls := "com/example/tree_automata_reducer/treeautomatareducer/io/LineEnds", name := "endsLine", desc := "(II)Z" } : Jvm.MethodName) prog_14_method_3_code (2 : Nat) (Option.some Jvm.ClassFile.FieldType.boolean)]
set_option maxRecDepth 65536 in
theorem codes_eq : words1.filter isCode = codes1 := rfl
theorem w_codes : ∀ c ∈ words1.filter isCode, c.before args0 about1 = true := by
  rw [codes_eq]
  intro c hc
  simp only [codes1, List.mem_cons, List.not_mem_nil, or_false] at hc
  rcases hc with rfl | rfl | rfl
  · exact w_c0
  · exact w_c1
  · exact w_c2
set_option maxRecDepth 65536 in
theorem w_t1 : words1.all (fun c => isCode c || c.before args0 about1) = true := by decide +kernel
theorem w_tables : (allAtoms (Jvm.Cond.code x code maxLocals ret :: tables_1)).before args0 about1 = true := by
  rw [allAtoms_all]
  show words1.all (fun c => c.before args0 about1) = true
  refine all_split ?_ w_codes
  rw [w_t1]
set_option maxRecDepth 65536 in
theorem w_case : (Jvm.Cond.and given_1 narrow_1).before args0 about1 = true := by decide +kernel
theorem w_applies : (headSpec (Jvm.Cond.code x code maxLocals ret :: tables_1) room_1).applies x e0.platform about1 = true :=
  (Spec.applies_iff w_frames).mpr ⟨w_running, w_runnable, w_alone, w_named, w_hears, w_ripe, w_room, w_tables⟩
theorem atStart : AtStart classFile x code maxLocals ret World_1 tables_1 room_1 Calls_1 rest_1 Pre_1 launch0 p0 e0 about1 theMethod args0 below0 :=
  ⟨lists_1, trivial, launch0.admits_env _ _ _, launch0.least_env, fairChoices_fair.cas, fairChoices_fair.clock, w_frames, w_args, w_heap, w_applies, trivial, trivial, w_case⟩
end start1
theorem witness_1 : WitnessClaimed_1 := ⟨start1.p0, start1.e0, start1.about1, start1.theMethod, start1.args0, start1.below0, start1.atStart⟩
end Jvm.Pilot.@@N@@
