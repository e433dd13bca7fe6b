import JvmDerived
import JvmDerived.Pilot.@@N@@Statement
import JvmDerived.Pilot.@@N@@Code
set_option linter.unusedVariables false
set_option linter.unusedSimpArgs false
namespace Jvm.Pilot.@@N@@
open Jvm Jvm.ClassFile Sem Op Lib Jvm.Free Jvm.Stand Jvm.LawKit Jvm.RoadKit Bundle Jvm.Pilot.@@N@@.Jvm.D
section Own
variable {p : Program} {l : Launch} {e : Env} {R : Room} {s : State} {m : MethodId} {args : Array Value} {below : List Frame} {meth : Method} {c : Code} {T : State} {locs : List Loc} {cells slots : Nat} {C N : Nat} {Q : Option Value → Heap → List Loc → Prop} {S S' : State} {Z : State} {h h' : Heap}
/-- from the state S the invocation ends in a return, and Q holds there -/
def Go (p : Program) (e : Env) (below : List Frame) (s : State) (C N : Nat) (Q : Option Value → Heap → List Loc → Prop) (S : State) : Prop :=
  ∃ s₂ o, Steps p.tables e below S s₂ ∧ s₂.status = .running ∧ Ended s₂ below o ∧ ∃ v L, o = .returned v ∧ Q v s₂.heap L ∧ FrameEnd s o s₂ L C N
theorem Go.step (st : ∀ t, Steps p.tables e below S' t → Steps p.tables e below S t) (G : Go p e below s C N Q S') : Go p e below s C N Q S := by
  obtain ⟨s₂, o, h, r⟩ := G
  exact ⟨s₂, o, st _ h, r⟩
theorem Go.tr (st : Steps p.tables e below S S') (G : Go p e below s C N Q S') : Go p e below s C N Q S := by
  obtain ⟨s₂, o, h, r⟩ := G
  exact ⟨s₂, o, st.trans h, r⟩
theorem Go.out (X : Stand p l e R s m args below meth c T locs cells slots) {v : Option Value} {g : JFrame} (hv : meth.sig.returnType = none → v = none) (hlk : meth.locks = false)
    (hst : ∀ fs, (∀ (f : JFrame) (acts : List Action), f.method = m → f.locked = none → f.entered = [] → (doReturn e (T.setTop f) acts v).1 = T.setFrames fs) → Steps p.tables e below (T.setTop g) (T.setFrames fs))
    (hQ : Q v T.heap locs) (hc : cells ≤ C) (hn : slots ≤ N) : Go p e below s C N Q (T.setTop g) := by
  obtain ⟨fs, hr, hrun, hended, hW, hsame⟩ := X.leave (v := v) hv hlk
  exact ⟨_, _, hst fs hr, hrun, hended, _, _, rfl, hQ, ⟨_, rfl⟩, hW, hsame.mono hc hn⟩
theorem Go.retV (X : Stand p l e R s m args below meth c T locs cells slots) (hx : p.tables.exec = Jvm.exec) {pc : Nat} {Ls : Array Slot} (hret : meth.sig.returnType = none) (hlk : meth.locks = false) (hd : decode c.code pc = .ok (.return_, 1))
    (hQ : Q none T.heap locs) (hc : cells ≤ C) (hn : slots ≤ N) : Go p e below s C N Q (T.setTop (mkF m pc Ls [])) :=
  Go.out X (fun _ => rfl) hlk (fun fs hr => X.returnOut hx hret hd hr) hQ hc hn
theorem Go.retI (X : Stand p l e R s m args below meth c T locs cells slots) (hx : p.tables.exec = Jvm.exec) {pc : Nat} {Ls : Array Slot} {z : Int32} {rest : List Value} (hret : meth.sig.returnType = some .int) (hlk : meth.locks = false) (hd : decode c.code pc = .ok (.ireturn, 1))
    (hQ : Q (some (.int z)) T.heap locs) (hc : cells ≤ C) (hn : slots ≤ N) : Go p e below s C N Q (T.setTop (mkF m pc Ls (.int z :: rest))) :=
  Go.out X (fun h => by rw [hret] at h; cases h) hlk (fun fs hr => retOut X hx hret rfl (Or.inl ⟨rfl, Or.inl rfl, z, rfl⟩) hd hr) hQ hc hn
theorem Go.retN (X : Stand p l e R s m args below meth c T locs cells slots) (hx : p.tables.exec = Jvm.exec) {pc : Nat} {Ls : Array Slot} {z : Int32} {t : FieldType} {rest : List Value} (hret : meth.sig.returnType = some t) (ht : t = .boolean ∨ t = .byte ∨ t = .char ∨ t = .short) (hlk : meth.locks = false) (hd : decode c.code pc = .ok (.ireturn, 1))
    (hQ : Q (some (.int (nar t z))) T.heap locs) (hc : cells ≤ C) (hn : slots ≤ N) : Go p e below s C N Q (T.setTop (mkF m pc Ls (.int z :: rest))) :=
  Go.out X (fun h => by rw [hret] at h; cases h) hlk (fun fs hr => Jvm.RoadKit.retN X hx hret ht hd hr) hQ hc hn
theorem Go.retJ (X : Stand p l e R s m args below meth c T locs cells slots) (hx : p.tables.exec = Jvm.exec) {pc : Nat} {Ls : Array Slot} {z : Int64} {rest : List Value} (hret : meth.sig.returnType = some .long) (hlk : meth.locks = false) (hd : decode c.code pc = .ok (.lreturn, 1))
    (hQ : Q (some (.long z)) T.heap locs) (hc : cells ≤ C) (hn : slots ≤ N) : Go p e below s C N Q (T.setTop (mkF m pc Ls (.long z :: rest))) :=
  Go.out X (fun h => by rw [hret] at h; cases h) hlk (fun fs hr => retOut X hx hret rfl (Or.inr (Or.inl ⟨rfl, rfl, z, rfl⟩)) hd hr) hQ hc hn
theorem Go.retA (X : Stand p l e R s m args below meth c T locs cells slots) (hx : p.tables.exec = Jvm.exec) {pc : Nat} {Ls : Array Slot} {w : Value} {t : FieldType} {rest : List Value} (hret : meth.sig.returnType = some t) (ht : t.isReference = true) (hw : w.isRef = true) (hlk : meth.locks = false) (hd : decode c.code pc = .ok (.areturn, 1))
    (hQ : Q (some w) T.heap locs) (hc : cells ≤ C) (hn : slots ≤ N) : Go p e below s C N Q (T.setTop (mkF m pc Ls (w :: rest))) :=
  Go.out X (fun h => by rw [hret] at h; cases h) hlk (fun fs hr => retOut X hx hret (by rcases ref_cases hw with rfl | ⟨a, rfl⟩ <;> cases t <;> first | rfl | cases ht) (Or.inr (Or.inr (Or.inr (Or.inr ⟨rfl, ht, hw⟩)))) hd hr) hQ hc hn
/-- an array of ints, bytes ..: z places, the j-th holds f j -/
def Ai (Z : State) (h : Heap) (a : Addr) (ty : FieldType) (z : Int32) (f : Int32 → Int32) : Prop :=
  ∃ c : Cell, Arr Z h a c ty ∧ c.slots.size = z.toNatClampNeg ∧ ¬ z < 0 ∧ ∀ j : Int32, ¬ j < 0 → j < z → c.slots[j.toNatClampNeg]? = some (.int (f j))
theorem own_inb {cl : Cell} {z j : Int32} (S : cl.slots.size = z.toNatClampNeg) (h0 : ¬ j < 0) (h1 : j < z) : ¬ (j < 0 ∨ cl.slots.size ≤ j.toNatClampNeg) := inb_of S ⟨h0, h1⟩
theorem Ai.lt {a : Addr} {ty : FieldType} {z : Int32} {f : Int32 → Int32} (F : Ai Z h a ty z f) : a < h.size := by obtain ⟨c, A, -⟩ := F; exact A.lt
theorem Ai.nn {a : Addr} {ty : FieldType} {z : Int32} {f : Int32 → Int32} (F : Ai Z h a ty z f) : ¬ z < 0 := by obtain ⟨c, -, -, q, -⟩ := F; exact q
theorem Ai.ext {a : Addr} {ty : FieldType} {z : Int32} {f : Int32 → Int32} (F : Ai Z h a ty z f) (E : Ext h h') : Ai Z h' a ty z f := by obtain ⟨c, A, r⟩ := F; exact ⟨c, A.ext E, r⟩
theorem Ai.other {a b : Addr} {sl : Nat} {v : Value} {ty : FieldType} {z : Int32} {f : Int32 → Int32} (F : Ai Z h b ty z f) (W : Wr h h' a sl v) (q : b ≠ a) : Ai Z h' b ty z f := by obtain ⟨c, A, r⟩ := F; exact ⟨c, A.other W q, r⟩
theorem Ai.keep {a : Addr} {ws : List Addr} {ty : FieldType} {z : Int32} {f : Int32 → Int32} (F : Ai Z h a ty z f) (K : Keep h h' ws) (q : a ∉ ws) : Ai Z h' a ty z f := by obtain ⟨c, A, r⟩ := F; exact ⟨c, ⟨K.2.1 a c A.1 q, A.2⟩, r⟩
theorem Ai.new {a : Addr} {k : ClassId} {ty : FieldType} {z : Int32} (A : Arr Z h a (newA k ty z) ty) (q : ¬ z < 0) (hd : defaultValue ty = .int 0) : Ai Z h a ty z (fun _ => 0) :=
  ⟨_, A, sz_new _ _ _, q, fun j h0 h1 => by rw [get_new (sz_new k ty z ▸ own_inb (sz_new k ty z) h0 h1), hd]⟩
theorem Ai.eqf {a : Addr} {ty : FieldType} {z : Int32} {f g : Int32 → Int32} (F : Ai Z h a ty z f) (q : ∀ j : Int32, ¬ j < 0 → j < z → f j = g j) : Ai Z h a ty z g := by
  obtain ⟨c, A, S, n, H⟩ := F; exact ⟨c, A, S, n, fun j h0 h1 => by rw [← q j h0 h1]; exact H j h0 h1⟩
theorem Ai.set {a : Addr} {ty : FieldType} {z j x : Int32} {f : Int32 → Int32} (F : Ai Z h a ty z f) (h0 : ¬ j < 0) (h1 : j < z) (W : Wr h h' a j.toNatClampNeg (.int x)) : Ai Z h' a ty z (fun i => if i = j then x else f i) := by
  obtain ⟨c, A, S, n, H⟩ := F
  refine ⟨_, A.same W, by rw [sz_set]; exact S, n, fun i g0 g1 => ?_⟩
  by_cases e : i = j
  · rw [get_hit (own_inb S h0 h1) e]; simp [e]
  · rw [get_miss h0 g0 e, H i g0 g1]; simp [e]
theorem Ai.len (X : Stand p l e R s m args below meth c T locs cells slots) (hx : p.tables.exec = Jvm.exec) (hZ : Z.Warmed39 s.vm) (eT : T.heap = h) {a : Addr} {ty : FieldType} {z : Int32} {f : Int32 → Int32} (F : Ai Z h a ty z f)
    {g : JFrame} (hg : g.method = m) {rest : List Value} (hs : g.stack = .ref a :: rest) (hd : decode c.code g.pc = .ok (.arraylength, 1)) : ∀ target, Steps p.tables e below (T.setTop { g with pc := g.pc + 1, stack := .int z :: rest }) target → Steps p.tables e below (T.setTop g) target := by
  obtain ⟨cl, A, S, n, H⟩ := F
  intro t k
  refine X.arraylength hx (by rw [eT]; exact A.1) (State.isArrayOf_alike hZ.alike A.2.1) hg hs hd _ ?_
  rw [len_of S n]; exact k
theorem Ai.iaload (X : Stand p l e R s m args below meth c T locs cells slots) (hx : p.tables.exec = Jvm.exec) (hZ : Z.Warmed39 s.vm) (eT : T.heap = h) {a : Addr} {z j : Int32} {f : Int32 → Int32} (F : Ai Z h a .int z f) (h0 : ¬ j < 0) (h1 : j < z)
    {g : JFrame} (hg : g.method = m) {rest : List Value} (hs : g.stack = .int j :: .ref a :: rest) (hd : decode c.code g.pc = .ok (.iaload, 1)) : ∀ target, Steps p.tables e below (T.setTop { g with pc := g.pc + 1, stack := .int (f j) :: rest }) target → Steps p.tables e below (T.setTop g) target := by
  obtain ⟨cl, A, S, n, H⟩ := F
  exact X.iaload hx (by rw [eT]; exact A.1) (State.isArrayOf_alike hZ.alike A.2.1) A.2.2 (own_inb S h0 h1) (H j h0 h1) hg hs hd
theorem Ai.baload (X : Stand p l e R s m args below meth c T locs cells slots) (hx : p.tables.exec = Jvm.exec) (hZ : Z.Warmed39 s.vm) (eT : T.heap = h) {a : Addr} {z j : Int32} {f : Int32 → Int32} (F : Ai Z h a .byte z f) (h0 : ¬ j < 0) (h1 : j < z)
    {g : JFrame} (hg : g.method = m) {rest : List Value} (hs : g.stack = .int j :: .ref a :: rest) (hd : decode c.code g.pc = .ok (.baload, 1)) : ∀ target, Steps p.tables e below (T.setTop { g with pc := g.pc + 1, stack := .int (f j) :: rest }) target → Steps p.tables e below (T.setTop g) target := by
  obtain ⟨cl, A, S, n, H⟩ := F
  exact X.baloadBytes hx (by rw [eT]; exact A.1) (State.isArrayOf_alike hZ.alike A.2.1) A.2.2 (own_inb S h0 h1) (H j h0 h1) hg hs hd
theorem Ai.stI (X : Stand p l e R s m args below meth c T locs cells slots) (hx : p.tables.exec = Jvm.exec) (hZ : Z.Warmed39 s.vm) (eT : T.heap = h) {a : Addr} {z j x : Int32} {f : Int32 → Int32} (F : Ai Z h a .int z f) (h0 : ¬ j < 0) (h1 : j < z)
    {g : JFrame} (hg : g.method = m) {rest : List Value} (hs : g.stack = .int x :: .int j :: .ref a :: rest) (hd : decode c.code g.pc = .ok (.iastore, 1)) :
    ∃ T' h', Stand p l e R s m args below meth c T' (locs ++ [⟨a, j.toNatClampNeg⟩]) cells slots ∧ T'.heap = h' ∧ Wr h h' a j.toNatClampNeg (.int x) ∧ Ai Z h' a .int z (fun i => if i = j then x else f i) ∧ ∀ target, Steps p.tables e below (T'.setTop { g with pc := g.pc + 1, stack := rest }) target → Steps p.tables e below (T.setTop g) target := by
  obtain ⟨cl, A, S, n, H⟩ := F
  obtain ⟨T', h', X', e', W, st⟩ := Jvm.RoadKit.stI X hx hZ eT A (own_inb S h0 h1) hg hs hd
  exact ⟨T', h', X', e', W, Ai.set ⟨cl, A, S, n, H⟩ h0 h1 W, st⟩
theorem Ai.stB (X : Stand p l e R s m args below meth c T locs cells slots) (hx : p.tables.exec = Jvm.exec) (hZ : Z.Warmed39 s.vm) (eT : T.heap = h) {a : Addr} {z j x : Int32} {f : Int32 → Int32} (F : Ai Z h a .byte z f) (h0 : ¬ j < 0) (h1 : j < z)
    {g : JFrame} (hg : g.method = m) {rest : List Value} (hs : g.stack = .int x :: .int j :: .ref a :: rest) (hd : decode c.code g.pc = .ok (.bastore, 1)) :
    ∃ T' h', Stand p l e R s m args below meth c T' (locs ++ [⟨a, j.toNatClampNeg⟩]) cells slots ∧ T'.heap = h' ∧ Wr h h' a j.toNatClampNeg (.int (nar .byte x)) ∧ Ai Z h' a .byte z (fun i => if i = j then nar .byte x else f i) ∧ ∀ target, Steps p.tables e below (T'.setTop { g with pc := g.pc + 1, stack := rest }) target → Steps p.tables e below (T.setTop g) target := by
  obtain ⟨cl, A, S, n, H⟩ := F
  obtain ⟨T', h', X', e', W, st⟩ := Jvm.RoadKit.stB X hx hZ eT A (own_inb S h0 h1) hg hs hd
  exact ⟨T', h', X', e', W, Ai.set ⟨cl, A, S, n, H⟩ h0 h1 W, st⟩
end Own
theorem narrow_ref {t : FieldType} {v : Value} (hv : v.isRef = true) (ht : t.isReference = true) : narrow t v = v := by rcases ref_cases hv with rfl | ⟨a, rfl⟩ <;> cases t <;> first | rfl | cases ht
theorem fits_refV {t : FieldType} {v : Value} (hv : v.isRef = true) (ht : t.isReference = true) : fits t v = true := by rcases ref_cases hv with rfl | ⟨a, rfl⟩ <;> cases t <;> first | rfl | cases ht
theorem own_iincW {tb : Tables} [Ours tb] {e : Env} {below : List Frame} {T target : State} {m : MethodId} {c : Code} {g : JFrame} (h : At T m c below) (hx : tb.exec = Jvm.exec) (hg : g.method = m) {k : Nat} {cst : Int} {x : Int32} {l' : Array Slot} (hd : decode c.code g.pc = .ok (.iinc k cst, 6)) (hl : g.locals[k]? = some (.val (.int x))) (hl' : storeLocals g.locals k (.int (x + Int32.ofInt cst)) = some l')
    (hr : Steps tb e below (T.setTop { g with pc := g.pc + 6, locals := l' }) target) : Steps tb e below (T.setTop g) target := by
  subst hg
  jvm_step h [h.top, hx, hd, hl, hl']
  exact hr

theorem own_nb1 : nar .boolean 1 = 1 := by decide
theorem own_nb0 : nar .boolean 0 = 0 := by decide
theorem own_clamp {z : Int32} {n : Nat} (h : z.toInt ≤ n) : z.toNatClampNeg ≤ n := by
  show z.toInt.toNat ≤ n
  omega
theorem own_n31 (x : Int32) : ¬ (x &&& 31) < 0 ∧ (x &&& 31).toNatClampNeg ≤ 31 := by
  have h := c_mask x 31 5 (by decide) (by decide)
  refine ⟨?_, own_clamp (by omega)⟩
  rw [Int32.lt_iff_toInt_lt]
  have e0 : (0 : Int32).toInt = 0 := by decide
  omega
theorem pn_0 : plainName "java/util/AbstractCollection" = true := by first | (simp [plainName, overriddenIn]; done) | decide +kernel
theorem d3_0 : decode jdk_22_method_1_code 0 = .ok (.aload_n 0, 1) := by decide +kernel
theorem d3_1 : decode jdk_22_method_1_code 1 = .ok (.invokespecial 1, 3) := by decide +kernel
theorem d3_4 : decode jdk_22_method_1_code 4 = .ok (.return_, 1) := by decide +kernel
theorem ef_3 (m : MethodId) (a0 : Addr) : entryFrame m #[(.ref a0)] 1 = mkF m 0 #[.val (.ref a0)] [] := by first | (simp [entryFrame, mkF, argsToLocals, Value.category]; done) | rfl
def Q3 (Z : State) (a0 : Addr) (h0 : Heap) (n0 : Nat) (v : Option Value) (h : Heap) (L : List Loc) : Prop := (v = none) ∧ (Fr n0 L) ∧ (h = h0)
set_option maxRecDepth 65536 in
set_option maxHeartbeats 40000000 in
theorem rm3 (l : Launch) (Z : State) (aZ : Array Value) (hw : ∀ d ∈ tables_1, d.before aZ Z = true) (ws : List Jvm.Cond) (a0 : Addr) (h0 : Heap) (n0 : Nat) (Z0 : n0 ≤ h0.size)  :
    MetFree l (⟨"java/util/AbstractCollection", "<init>", "()V"⟩ : MethodName) (head1 (Jvm.Cond.code (⟨"java/util/AbstractCollection", "<init>", "()V"⟩ : MethodName) jdk_22_method_1_code 1 none :: ws) ({ frames := 1, cells := 0, slots := 0, locals := 12 } : Room)) (fun a U => a = #[(.ref a0)] ∧ Z.Warmed39 U.vm ∧ U.heap = h0) (fun _ _ _ _ _ => True) (fun _ U o U' => ∃ v L, o = .returned v ∧ Q3 Z a0 h0 n0 v U'.heap L ∧ FrameEnd U o U' L ({ frames := 1, cells := 0, slots := 0, locals := 12 } : Room).cells ({ frames := 1, cells := 0, slots := 0, locals := 12 } : Room).slots) := by
  refine MetFree.of_bodySF (plainFor_of_name pn_0) hisR ?_
  intro p e s m args below meth c s₁ Bd hml0 hP hK
  obtain ⟨rfl, hZ, hh⟩ := hP
  have hx := Bd.exec
  have hby := Bd.bytes
  have hml : c.maxLocals = 1 := hml0
  have hown : s.vm.findClass "java/util/AbstractCollection" = some m.cls := findClass_of_methodNamed Bd.named
  have hnm := (name_of_methodNamed Bd.named Bd.method).1
  have hlk : meth.locks = false := BodyLoose.notSynchronized Bd
  have X0 : Stand p l e ({ frames := 1, cells := 0, slots := 0, locals := 12 } : Room) s m #[(.ref a0)] below meth c s₁ [] 0 0 := Stand.of_body Bd
  have e0 : s₁.heap = h0 := by rw [← hh, Bd.state]; rfl
  have N0 := Fr.nil n0
  have sq0 : h0.size ≤ h0.size := Nat.le_refl _
  change Go p e below s ({ frames := 1, cells := 0, slots := 0, locals := 12 } : Room).cells ({ frames := 1, cells := 0, slots := 0, locals := 12 } : Room).slots (Q3 Z a0 h0 n0) (s₁.setTop (entryFrame m #[(.ref a0)] 1))
  rw [ef_3 m a0]
  show Go _ _ _ _ _ _ _ (s₁.setTop (mkF m 0 #[.val (.ref a0)] []))
  refine Go.step (fun _ k => XS.aloadN X0.here hx rfl (hb hby d3_0) rfl rfl  k) ?_
  show Go _ _ _ _ _ _ _ (s₁.setTop (mkF m 1 #[.val (.ref a0)] [(.ref a0)]))
  obtain ⟨T1, X1, e1, st1⟩ := initO X0 hx hZ hown (hw _ (List.mem_of_getElem? (i := 21) rfl)) (hw _ (List.mem_of_getElem? (i := 22) rfl)) (hw _ (List.mem_of_getElem? (i := 23) rfl)) e0 (g := (mkF m 1 #[.val (.ref a0)] [(.ref a0)])) rfl (by rw [hml]; rfl) rfl (hb hby d3_1) (by decide) (W := 0) (by show 2 * 0 + _ ≤ _; exact Nat.le_of_eq rfl) (by decide)
  refine Go.step st1 ?_
  show Go _ _ _ _ _ _ _ (T1.setTop (mkF m 4 #[.val (.ref a0)] []))
  refine Go.retV X1 hx Bd.returns hlk (hb hby d3_4) ?_ (by decide) (by decide)
  rw [e1]
  exact ⟨(rfl), N0, rfl⟩
theorem pn_1 : plainName "java/util/AbstractSet" = true := by first | (simp [plainName, overriddenIn]; done) | decide +kernel
theorem pd_0 : parseMethodDescriptor "()V" = some ⟨[], none⟩ := by decide +kernel
theorem d7_0 : decode jdk_91_method_1_code 0 = .ok (.aload_n 0, 1) := by decide +kernel
theorem d7_1 : decode jdk_91_method_1_code 1 = .ok (.invokespecial 1, 3) := by decide +kernel
theorem d7_4 : decode jdk_91_method_1_code 4 = .ok (.return_, 1) := by decide +kernel
theorem ef_7 (m : MethodId) (a0 : Addr) : entryFrame m #[(.ref a0)] 1 = mkF m 0 #[.val (.ref a0)] [] := by first | (simp [entryFrame, mkF, argsToLocals, Value.category]; done) | rfl
def Q7 (Z : State) (a0 : Addr) (h0 : Heap) (n0 : Nat) (v : Option Value) (h : Heap) (L : List Loc) : Prop := (v = none) ∧ (Fr n0 L) ∧ (h = h0)
set_option maxRecDepth 65536 in
set_option maxHeartbeats 40000000 in
theorem rm7 (l : Launch) (Z : State) (aZ : Array Value) (hw : ∀ d ∈ tables_1, d.before aZ Z = true) (ws : List Jvm.Cond) (a0 : Addr) (h0 : Heap) (n0 : Nat) (Z0 : n0 ≤ h0.size)  :
    MetFree l (⟨"java/util/AbstractSet", "<init>", "()V"⟩ : MethodName) (head1 (Jvm.Cond.code (⟨"java/util/AbstractSet", "<init>", "()V"⟩ : MethodName) jdk_91_method_1_code 1 none :: ws) ({ frames := 2, cells := 0, slots := 0, locals := 24 } : Room)) (fun a U => a = #[(.ref a0)] ∧ Z.Warmed39 U.vm ∧ U.heap = h0) (fun _ _ _ _ _ => True) (fun _ U o U' => ∃ v L, o = .returned v ∧ Q7 Z a0 h0 n0 v U'.heap L ∧ FrameEnd U o U' L ({ frames := 2, cells := 0, slots := 0, locals := 24 } : Room).cells ({ frames := 2, cells := 0, slots := 0, locals := 24 } : Room).slots) := by
  refine MetFree.of_bodySF (plainFor_of_name pn_1) hisR ?_
  intro p e s m args below meth c s₁ Bd hml0 hP hK
  obtain ⟨rfl, hZ, hh⟩ := hP
  have hx := Bd.exec
  have hby := Bd.bytes
  have hml : c.maxLocals = 1 := hml0
  have hown : s.vm.findClass "java/util/AbstractSet" = some m.cls := findClass_of_methodNamed Bd.named
  have hnm := (name_of_methodNamed Bd.named Bd.method).1
  have hlk : meth.locks = false := BodyLoose.notSynchronized Bd
  have X0 : Stand p l e ({ frames := 2, cells := 0, slots := 0, locals := 24 } : Room) s m #[(.ref a0)] below meth c s₁ [] 0 0 := Stand.of_body Bd
  have e0 : s₁.heap = h0 := by rw [← hh, Bd.state]; rfl
  have N0 := Fr.nil n0
  have sq0 : h0.size ≤ h0.size := Nat.le_refl _
  change Go p e below s ({ frames := 2, cells := 0, slots := 0, locals := 24 } : Room).cells ({ frames := 2, cells := 0, slots := 0, locals := 24 } : Room).slots (Q7 Z a0 h0 n0) (s₁.setTop (entryFrame m #[(.ref a0)] 1))
  rw [ef_7 m a0]
  show Go _ _ _ _ _ _ _ (s₁.setTop (mkF m 0 #[.val (.ref a0)] []))
  refine Go.step (fun _ k => XS.aloadN X0.here hx rfl (hb hby d7_0) rfl rfl  k) ?_
  show Go _ _ _ _ _ _ _ (s₁.setTop (mkF m 1 #[.val (.ref a0)] [(.ref a0)]))
  obtain ⟨_, _, ⟨T1, L1, k1, n1⟩, -, X1, ⟨Lc1, hQ1, l1, y1, z1⟩, st1⟩ := X0.specialBack hx (y := (⟨"java/util/AbstractCollection", "<init>", "()V"⟩ : MethodName)) rfl hown (mvT hZ (hw _ (List.mem_of_getElem? (i := 45) rfl))) (mvT hZ (hw _ (List.mem_of_getElem? (i := 16) rfl))) (mvT hZ (hw _ (List.mem_of_getElem? (i := 20) rfl))) (by decide) (backOf (W := 0) (rm3 l Z aZ hw [] a0 h0 n0 Z0 ) hZ (hw _ (List.mem_of_getElem? (i := 20) rfl)) (hw _ (List.mem_of_getElem? (i := 19) rfl)) (by decide) (by decide)) (g := (mkF m 1 #[.val (.ref a0)] [(.ref a0)])) rfl (by rw [hml]; rfl) (Steps.refl _) (a := a0) (argsL := []) (rest := []) (lenOf pd_0 rfl) rfl (by show 2 * 0 + _ ≤ _; exact Nat.le_of_eq rfl) (hb hby d7_1) (fun _ _ => ⟨rfl, e0, (by decide : 0 + 0 ≤ _), (by decide : 0 + 0 ≤ _)⟩)
  dsimp only [Pt.U, Pt.locs, Pt.cells, Pt.slots] at X1 l1 y1 z1 st1 hQ1
  subst l1 y1 z1
  obtain ⟨rfl, Nq1, e1⟩ := hQ1
  have N1 := Fr.app N0 Nq1
  refine Go.tr st1 ?_
  show Go _ _ _ _ _ _ _ (T1.setTop (mkF m 4 #[.val (.ref a0)] []))
  refine Go.retV X1 hx Bd.returns hlk (hb hby d7_4) ?_ (by decide) (by decide)
  rw [e1]
  exact ⟨(rfl), N1, rfl⟩
theorem pn_2 : plainName "java/util/AbstractMap" = true := by first | (simp [plainName, overriddenIn]; done) | decide +kernel
theorem d9_0 : decode jdk_71_method_1_code 0 = .ok (.aload_n 0, 1) := by decide +kernel
theorem d9_1 : decode jdk_71_method_1_code 1 = .ok (.invokespecial 1, 3) := by decide +kernel
theorem d9_4 : decode jdk_71_method_1_code 4 = .ok (.return_, 1) := by decide +kernel
theorem ef_9 (m : MethodId) (a0 : Addr) : entryFrame m #[(.ref a0)] 1 = mkF m 0 #[.val (.ref a0)] [] := by first | (simp [entryFrame, mkF, argsToLocals, Value.category]; done) | rfl
def Q9 (Z : State) (a0 : Addr) (h0 : Heap) (n0 : Nat) (v : Option Value) (h : Heap) (L : List Loc) : Prop := (v = none) ∧ (Fr n0 L) ∧ (h = h0)
set_option maxRecDepth 65536 in
set_option maxHeartbeats 40000000 in
theorem rm9 (l : Launch) (Z : State) (aZ : Array Value) (hw : ∀ d ∈ tables_1, d.before aZ Z = true) (ws : List Jvm.Cond) (a0 : Addr) (h0 : Heap) (n0 : Nat) (Z0 : n0 ≤ h0.size)  :
    MetFree l (⟨"java/util/AbstractMap", "<init>", "()V"⟩ : MethodName) (head1 (Jvm.Cond.code (⟨"java/util/AbstractMap", "<init>", "()V"⟩ : MethodName) jdk_71_method_1_code 1 none :: ws) ({ frames := 1, cells := 0, slots := 0, locals := 12 } : Room)) (fun a U => a = #[(.ref a0)] ∧ Z.Warmed39 U.vm ∧ U.heap = h0) (fun _ _ _ _ _ => True) (fun _ U o U' => ∃ v L, o = .returned v ∧ Q9 Z a0 h0 n0 v U'.heap L ∧ FrameEnd U o U' L ({ frames := 1, cells := 0, slots := 0, locals := 12 } : Room).cells ({ frames := 1, cells := 0, slots := 0, locals := 12 } : Room).slots) := by
  refine MetFree.of_bodySF (plainFor_of_name pn_2) hisR ?_
  intro p e s m args below meth c s₁ Bd hml0 hP hK
  obtain ⟨rfl, hZ, hh⟩ := hP
  have hx := Bd.exec
  have hby := Bd.bytes
  have hml : c.maxLocals = 1 := hml0
  have hown : s.vm.findClass "java/util/AbstractMap" = some m.cls := findClass_of_methodNamed Bd.named
  have hnm := (name_of_methodNamed Bd.named Bd.method).1
  have hlk : meth.locks = false := BodyLoose.notSynchronized Bd
  have X0 : Stand p l e ({ frames := 1, cells := 0, slots := 0, locals := 12 } : Room) s m #[(.ref a0)] below meth c s₁ [] 0 0 := Stand.of_body Bd
  have e0 : s₁.heap = h0 := by rw [← hh, Bd.state]; rfl
  have N0 := Fr.nil n0
  have sq0 : h0.size ≤ h0.size := Nat.le_refl _
  change Go p e below s ({ frames := 1, cells := 0, slots := 0, locals := 12 } : Room).cells ({ frames := 1, cells := 0, slots := 0, locals := 12 } : Room).slots (Q9 Z a0 h0 n0) (s₁.setTop (entryFrame m #[(.ref a0)] 1))
  rw [ef_9 m a0]
  show Go _ _ _ _ _ _ _ (s₁.setTop (mkF m 0 #[.val (.ref a0)] []))
  refine Go.step (fun _ k => XS.aloadN X0.here hx rfl (hb hby d9_0) rfl rfl  k) ?_
  show Go _ _ _ _ _ _ _ (s₁.setTop (mkF m 1 #[.val (.ref a0)] [(.ref a0)]))
  obtain ⟨T1, X1, e1, st1⟩ := initO X0 hx hZ hown (hw _ (List.mem_of_getElem? (i := 60) rfl)) (hw _ (List.mem_of_getElem? (i := 22) rfl)) (hw _ (List.mem_of_getElem? (i := 23) rfl)) e0 (g := (mkF m 1 #[.val (.ref a0)] [(.ref a0)])) rfl (by rw [hml]; rfl) rfl (hb hby d9_1) (by decide) (W := 0) (by show 2 * 0 + _ ≤ _; exact Nat.le_of_eq rfl) (by decide)
  refine Go.step st1 ?_
  show Go _ _ _ _ _ _ _ (T1.setTop (mkF m 4 #[.val (.ref a0)] []))
  refine Go.retV X1 hx Bd.returns hlk (hb hby d9_4) ?_ (by decide) (by decide)
  rw [e1]
  exact ⟨(rfl), N0, rfl⟩
theorem pn_3 : plainName "java/util/AbstractList" = true := by first | (simp [plainName, overriddenIn]; done) | decide +kernel
theorem d2_0 : decode jdk_39_method_1_code 0 = .ok (.aload_n 0, 1) := by decide +kernel
theorem d2_1 : decode jdk_39_method_1_code 1 = .ok (.invokespecial 1, 3) := by decide +kernel
theorem d2_4 : decode jdk_39_method_1_code 4 = .ok (.aload_n 0, 1) := by decide +kernel
theorem d2_5 : decode jdk_39_method_1_code 5 = .ok (.iconst 0, 1) := by decide +kernel
theorem d2_6 : decode jdk_39_method_1_code 6 = .ok (.putfield 7, 3) := by decide +kernel
theorem d2_9 : decode jdk_39_method_1_code 9 = .ok (.return_, 1) := by decide +kernel
theorem ef_2 (m : MethodId) (a0 : Addr) : entryFrame m #[(.ref a0)] 1 = mkF m 0 #[.val (.ref a0)] [] := by first | (simp [entryFrame, mkF, argsToLocals, Value.category]; done) | rfl
def Q2 (Z : State) (a0 : Addr) (h0 : Heap) (n0 : Nat) (v : Option Value) (h : Heap) (L : List Loc) : Prop := (v = none) ∧ (Fr n0 L) ∧ (Keep h0 h [a0]) ∧ (Exa Z h a0 "java/util/ArrayList") ∧ (Fld Z h a0 "java/util/ArrayList" "elementData" "[Ljava/lang/Object;" .null) ∧ (Fld Z h a0 "java/util/AbstractList" "modCount" "I" (.int (0 : Int32)))
set_option maxRecDepth 65536 in
set_option maxHeartbeats 40000000 in
theorem rm2 (l : Launch) (Z : State) (aZ : Array Value) (hw : ∀ d ∈ tables_1, d.before aZ Z = true) (ws : List Jvm.Cond) (a0 : Addr) (h0 : Heap) (n0 : Nat) (Z0 : n0 ≤ h0.size) (E_0 : Exa Z h0 a0 "java/util/ArrayList") (F_1 : Fld Z h0 a0 "java/util/AbstractList" "modCount" "I" (.int (0 : Int32))) (F_2 : Fld Z h0 a0 "java/util/ArrayList" "elementData" "[Ljava/lang/Object;" .null) (g_3 : n0 ≤ a0) :
    MetFree l (⟨"java/util/AbstractList", "<init>", "()V"⟩ : MethodName) (head1 (Jvm.Cond.code (⟨"java/util/AbstractList", "<init>", "()V"⟩ : MethodName) jdk_39_method_1_code 1 none :: ws) ({ frames := 2, cells := 0, slots := 0, locals := 24 } : Room)) (fun a U => a = #[(.ref a0)] ∧ Z.Warmed39 U.vm ∧ U.heap = h0) (fun _ _ _ _ _ => True) (fun _ U o U' => ∃ v L, o = .returned v ∧ Q2 Z a0 h0 n0 v U'.heap L ∧ FrameEnd U o U' L ({ frames := 2, cells := 0, slots := 0, locals := 24 } : Room).cells ({ frames := 2, cells := 0, slots := 0, locals := 24 } : Room).slots) := by
  refine MetFree.of_bodySF (plainFor_of_name pn_3) hisR ?_
  intro p e s m args below meth c s₁ Bd hml0 hP hK
  obtain ⟨rfl, hZ, hh⟩ := hP
  have hx := Bd.exec
  have hby := Bd.bytes
  have hml : c.maxLocals = 1 := hml0
  have hown : s.vm.findClass "java/util/AbstractList" = some m.cls := findClass_of_methodNamed Bd.named
  have hnm := (name_of_methodNamed Bd.named Bd.method).1
  have hlk : meth.locks = false := BodyLoose.notSynchronized Bd
  have X0 : Stand p l e ({ frames := 2, cells := 0, slots := 0, locals := 24 } : Room) s m #[(.ref a0)] below meth c s₁ [] 0 0 := Stand.of_body Bd
  have e0 : s₁.heap = h0 := by rw [← hh, Bd.state]; rfl
  have N0 := Fr.nil n0
  have sq0 : h0.size ≤ h0.size := Nat.le_refl _
  have k0 : Keep h0 h0 [a0] := Keep.refl _ _
  change Go p e below s ({ frames := 2, cells := 0, slots := 0, locals := 24 } : Room).cells ({ frames := 2, cells := 0, slots := 0, locals := 24 } : Room).slots (Q2 Z a0 h0 n0) (s₁.setTop (entryFrame m #[(.ref a0)] 1))
  rw [ef_2 m a0]
  show Go _ _ _ _ _ _ _ (s₁.setTop (mkF m 0 #[.val (.ref a0)] []))
  refine Go.step (fun _ k => XS.aloadN X0.here hx rfl (hb hby d2_0) rfl rfl  k) ?_
  show Go _ _ _ _ _ _ _ (s₁.setTop (mkF m 1 #[.val (.ref a0)] [(.ref a0)]))
  obtain ⟨_, _, ⟨T1, L1, k1, n1⟩, -, X1, ⟨Lc1, hQ1, l1, y1, z1⟩, st1⟩ := X0.specialBack hx (y := (⟨"java/util/AbstractCollection", "<init>", "()V"⟩ : MethodName)) rfl hown (mvT hZ (hw _ (List.mem_of_getElem? (i := 15) rfl))) (mvT hZ (hw _ (List.mem_of_getElem? (i := 16) rfl))) (mvT hZ (hw _ (List.mem_of_getElem? (i := 20) rfl))) (by decide) (backOf (W := 0) (rm3 l Z aZ hw [] a0 h0 n0 Z0 ) hZ (hw _ (List.mem_of_getElem? (i := 20) rfl)) (hw _ (List.mem_of_getElem? (i := 19) rfl)) (by decide) (by decide)) (g := (mkF m 1 #[.val (.ref a0)] [(.ref a0)])) rfl (by rw [hml]; rfl) (Steps.refl _) (a := a0) (argsL := []) (rest := []) (lenOf pd_0 rfl) rfl (by show 2 * 0 + _ ≤ _; exact Nat.le_of_eq rfl) (hb hby d2_1) (fun _ _ => ⟨rfl, e0, (by decide : 0 + 0 ≤ _), (by decide : 0 + 0 ≤ _)⟩)
  dsimp only [Pt.U, Pt.locs, Pt.cells, Pt.slots] at X1 l1 y1 z1 st1 hQ1
  subst l1 y1 z1
  obtain ⟨rfl, Nq1, e1⟩ := hQ1
  have N1 := Fr.app N0 Nq1
  refine Go.tr st1 ?_
  show Go _ _ _ _ _ _ _ (T1.setTop (mkF m 4 #[.val (.ref a0)] []))
  refine Go.step (fun _ k => XS.aloadN X1.here hx rfl (hb hby d2_4) rfl rfl  k) ?_
  show Go _ _ _ _ _ _ _ (T1.setTop (mkF m 5 #[.val (.ref a0)] [(.ref a0)]))
  refine Go.step (fun _ k => XS.iconst X1.here hx rfl (hb hby d2_5) k) ?_
  show Go _ _ _ _ _ _ _ (T1.setTop (mkF m 6 #[.val (.ref a0)] [(.int (0 : Int32)), (.ref a0)]))
  obtain ⟨T2, h2, X2, e2, W2, st2⟩ := putF X1 hx hZ hown (host := "") (Or.inl (hw _ (List.mem_of_getElem? (i := 24) rfl))) Via.refl e1 F_1 E_0 (Or.inl (hw _ (List.mem_of_getElem? (i := 25) rfl))) (hw _ (List.mem_of_getElem? (i := 4) rfl)) (ty := .int) (v := (.int (0 : Int32))) (by decide) rfl rfl (g := (mkF m 6 #[.val (.ref a0)] [(.int (0 : Int32)), (.ref a0)])) rfl rfl (hb hby d2_6)
  refine Go.step st2 ?_
  have N2 := Fr.snoc X2 N1 g_3
  have z3 : n0 ≤ h2.size := Nat.le_trans Z0 (Keep.of_wr W2).1
  have sqz3 : h0.size ≤ h2.size := Nat.le_trans sq0 (Keep.of_wr W2).1
  have k4 : Keep h0 h2 [a0] := k0.wr W2 (Or.inl (List.mem_of_getElem? (i := 0) rfl))
  have f5 : Fld Z h2 a0 "java/util/AbstractList" "modCount" "I" (.int (0 : Int32)) := F_1.same W2
  show Go _ _ _ _ _ _ _ (T2.setTop (mkF m 9 #[.val (.ref a0)] []))
  have f6 : Exa Z h2 a0 "java/util/ArrayList" := (E_0.wr W2)
  have f7 : Fld Z h2 a0 "java/util/ArrayList" "elementData" "[Ljava/lang/Object;" .null := (F_2.other W2 (Or.inr (slot_ne (Or.inl (hw _ (List.mem_of_getElem? (i := 28) rfl))) (Or.inl (hw _ (List.mem_of_getElem? (i := 25) rfl))) (by decide) (t := (.array (.object "java/lang/Object"))) (t' := .int) (by decide) (by decide))))
  refine Go.retV X2 hx Bd.returns hlk (hb hby d2_9) ?_ (by decide) (by decide)
  rw [e2]
  exact ⟨(rfl), N2, k4, f6, f7, f5⟩
theorem pn_4 : plainName "java/util/ArrayList" = true := by first | (simp [plainName, overriddenIn]; done) | decide +kernel
theorem d1_0 : decode jdk_38_method_2_code 0 = .ok (.aload_n 0, 1) := by decide +kernel
theorem d1_1 : decode jdk_38_method_2_code 1 = .ok (.invokespecial 1, 3) := by decide +kernel
theorem d1_4 : decode jdk_38_method_2_code 4 = .ok (.aload_n 0, 1) := by decide +kernel
theorem d1_5 : decode jdk_38_method_2_code 5 = .ok (.getstatic 39, 3) := by decide +kernel
theorem d1_8 : decode jdk_38_method_2_code 8 = .ok (.putfield 9, 3) := by decide +kernel
theorem d1_11 : decode jdk_38_method_2_code 11 = .ok (.return_, 1) := by decide +kernel
theorem ef_1 (m : MethodId) (a0 : Addr) : entryFrame m #[(.ref a0)] 1 = mkF m 0 #[.val (.ref a0)] [] := by first | (simp [entryFrame, mkF, argsToLocals, Value.category]; done) | rfl
def Q1 (Z : State) (a0 : Addr) (w0 : Addr) (h0 : Heap) (n0 : Nat) (v : Option Value) (h : Heap) (L : List Loc) : Prop := (v = none) ∧ (Fr n0 L) ∧ (Keep h0 h [a0]) ∧ (Exa Z h a0 "java/util/ArrayList") ∧ (Fld Z h a0 "java/util/ArrayList" "elementData" "[Ljava/lang/Object;" (.ref w0)) ∧ (Fld Z h a0 "java/util/AbstractList" "modCount" "I" (.int (0 : Int32)))
set_option maxRecDepth 65536 in
set_option maxHeartbeats 40000000 in
theorem rm1 (l : Launch) (Z : State) (aZ : Array Value) (hw : ∀ d ∈ tables_1, d.before aZ Z = true) (ws : List Jvm.Cond) (a0 : Addr) (w0 : Addr) (h0 : Heap) (n0 : Nat) (Z0 : n0 ≤ h0.size) (O_0 : Old Z n0 h0) (S_1 : Sta Z Z.heap "java/util/ArrayList" "DEFAULTCAPACITY_EMPTY_ELEMENTDATA" "[Ljava/lang/Object;" (.ref w0)) (E_2 : Exa Z h0 a0 "java/util/ArrayList") (F_3 : Fld Z h0 a0 "java/util/AbstractList" "modCount" "I" (.int (0 : Int32))) (F_4 : Fld Z h0 a0 "java/util/ArrayList" "elementData" "[Ljava/lang/Object;" .null) (g_5 : n0 ≤ a0) :
    MetFree l (⟨"java/util/ArrayList", "<init>", "()V"⟩ : MethodName) (head1 (Jvm.Cond.code (⟨"java/util/ArrayList", "<init>", "()V"⟩ : MethodName) jdk_38_method_2_code 1 none :: ws) ({ frames := 3, cells := 0, slots := 0, locals := 36 } : Room)) (fun a U => a = #[(.ref a0)] ∧ Z.Warmed39 U.vm ∧ U.heap = h0) (fun _ _ _ _ _ => True) (fun _ U o U' => ∃ v L, o = .returned v ∧ Q1 Z a0 w0 h0 n0 v U'.heap L ∧ FrameEnd U o U' L ({ frames := 3, cells := 0, slots := 0, locals := 36 } : Room).cells ({ frames := 3, cells := 0, slots := 0, locals := 36 } : Room).slots) := by
  refine MetFree.of_bodySF (plainFor_of_name pn_4) hisR ?_
  intro p e s m args below meth c s₁ Bd hml0 hP hK
  obtain ⟨rfl, hZ, hh⟩ := hP
  have hx := Bd.exec
  have hby := Bd.bytes
  have hml : c.maxLocals = 1 := hml0
  have hown : s.vm.findClass "java/util/ArrayList" = some m.cls := findClass_of_methodNamed Bd.named
  have hnm := (name_of_methodNamed Bd.named Bd.method).1
  have hlk : meth.locks = false := BodyLoose.notSynchronized Bd
  have X0 : Stand p l e ({ frames := 3, cells := 0, slots := 0, locals := 36 } : Room) s m #[(.ref a0)] below meth c s₁ [] 0 0 := Stand.of_body Bd
  have e0 : s₁.heap = h0 := by rw [← hh, Bd.state]; rfl
  have N0 := Fr.nil n0
  have sq0 : h0.size ≤ h0.size := Nat.le_refl _
  have k0 : Keep h0 h0 [a0] := Keep.refl _ _
  change Go p e below s ({ frames := 3, cells := 0, slots := 0, locals := 36 } : Room).cells ({ frames := 3, cells := 0, slots := 0, locals := 36 } : Room).slots (Q1 Z a0 w0 h0 n0) (s₁.setTop (entryFrame m #[(.ref a0)] 1))
  rw [ef_1 m a0]
  show Go _ _ _ _ _ _ _ (s₁.setTop (mkF m 0 #[.val (.ref a0)] []))
  refine Go.step (fun _ k => XS.aloadN X0.here hx rfl (hb hby d1_0) rfl rfl  k) ?_
  show Go _ _ _ _ _ _ _ (s₁.setTop (mkF m 1 #[.val (.ref a0)] [(.ref a0)]))
  obtain ⟨_, _, ⟨T1, L1, k1, n1⟩, -, X1, ⟨Lc1, hQ1, l1, y1, z1⟩, st1⟩ := X0.specialBack hx (y := (⟨"java/util/AbstractList", "<init>", "()V"⟩ : MethodName)) rfl hown (mvT hZ (hw _ (List.mem_of_getElem? (i := 9) rfl))) (mvT hZ (hw _ (List.mem_of_getElem? (i := 10) rfl))) (mvT hZ (hw _ (List.mem_of_getElem? (i := 14) rfl))) (by decide) (backOf (W := 0) (rm2 l Z aZ hw [] a0 h0 n0 Z0 E_2 F_3 F_4 g_5) hZ (hw _ (List.mem_of_getElem? (i := 14) rfl)) (hw _ (List.mem_of_getElem? (i := 13) rfl)) (by decide) (by decide)) (g := (mkF m 1 #[.val (.ref a0)] [(.ref a0)])) rfl (by rw [hml]; rfl) (Steps.refl _) (a := a0) (argsL := []) (rest := []) (lenOf pd_0 rfl) rfl (by show 2 * 0 + _ ≤ _; exact Nat.le_of_eq rfl) (hb hby d1_1) (fun _ _ => ⟨rfl, e0, (by decide : 0 + 0 ≤ _), (by decide : 0 + 0 ≤ _)⟩)
  dsimp only [Pt.U, Pt.locs, Pt.cells, Pt.slots] at X1 l1 y1 z1 st1 hQ1
  subst l1 y1 z1
  obtain ⟨rfl, Nq1, K1, c1_0, c1_1, c1_2⟩ := hQ1
  have N1 := Fr.app N0 Nq1
  refine Go.tr st1 ?_
  have z2 : n0 ≤ T1.heap.size := Nat.le_trans Z0 K1.1
  have sqz2 : h0.size ≤ T1.heap.size := Nat.le_trans sq0 K1.1
  have k3 : Keep h0 T1.heap [a0] := k0.trans K1 (allS (Or.inl (List.mem_of_getElem? (i := 0) rfl)) all0)
  show Go _ _ _ _ _ _ _ (T1.setTop (mkF m 4 #[.val (.ref a0)] []))
  refine Go.step (fun _ k => XS.aloadN X1.here hx rfl (hb hby d1_4) rfl rfl  k) ?_
  show Go _ _ _ _ _ _ _ (T1.setTop (mkF m 5 #[.val (.ref a0)] [(.ref a0)]))
  have f4 : Old Z n0 T1.heap := (O_0.keep K1 (allS g_5 all0))
  obtain ⟨T5, X5, e5, st5⟩ := getS2 X1 hx hZ hown (host := "") (Or.inl (hw _ (List.mem_of_getElem? (i := 26) rfl))) Via.refl rfl (S_1.ext f4.2) (g := (mkF m 5 #[.val (.ref a0)] [(.ref a0)])) rfl (hb hby d1_5)
  refine Go.step st5 ?_
  show Go _ _ _ _ _ _ _ (T5.setTop (mkF m 8 #[.val (.ref a0)] [(.ref w0), (.ref a0)]))
  obtain ⟨T6, h6, X6, e6, W6, st6⟩ := putF X5 hx hZ hown (host := "") (Or.inl (hw _ (List.mem_of_getElem? (i := 27) rfl))) Via.refl e5 c1_1 c1_0 (Or.inl (hw _ (List.mem_of_getElem? (i := 28) rfl))) (hw _ (List.mem_of_getElem? (i := 4) rfl)) (ty := (.array (.object "java/lang/Object"))) (v := (.ref w0)) (by decide) rfl rfl (g := (mkF m 8 #[.val (.ref a0)] [(.ref w0), (.ref a0)])) rfl rfl (hb hby d1_8)
  refine Go.step st6 ?_
  have N6 := Fr.snoc X6 N1 g_5
  have z7 : n0 ≤ h6.size := Nat.le_trans z2 (Keep.of_wr W6).1
  have sqz7 : h0.size ≤ h6.size := Nat.le_trans sqz2 (Keep.of_wr W6).1
  have k8 : Keep h0 h6 [a0] := k3.wr W6 (Or.inl (List.mem_of_getElem? (i := 0) rfl))
  have f9 : Fld Z h6 a0 "java/util/ArrayList" "elementData" "[Ljava/lang/Object;" (.ref w0) := c1_1.same W6
  show Go _ _ _ _ _ _ _ (T6.setTop (mkF m 11 #[.val (.ref a0)] []))
  have f10 : Exa Z h6 a0 "java/util/ArrayList" := (c1_0.wr W6)
  have f11 : Fld Z h6 a0 "java/util/AbstractList" "modCount" "I" (.int (0 : Int32)) := (c1_2.other W6 (Or.inr (slot_ne (Or.inl (hw _ (List.mem_of_getElem? (i := 25) rfl))) (Or.inl (hw _ (List.mem_of_getElem? (i := 28) rfl))) (by decide) (t := .int) (t' := (.array (.object "java/lang/Object"))) (by decide) (by decide))))
  refine Go.retV X6 hx Bd.returns hlk (hb hby d1_11) ?_ (by decide) (by decide)
  rw [e6]
  exact ⟨(rfl), N6, k8, f10, f9, f11⟩
theorem pn_5 : plainName "java/util/HashMap" = true := by first | (simp [plainName, overriddenIn]; done) | decide +kernel
theorem d8_0 : decode jdk_69_method_7_code 0 = .ok (.aload_n 0, 1) := by decide +kernel
theorem d8_1 : decode jdk_69_method_7_code 1 = .ok (.invokespecial 43, 3) := by decide +kernel
theorem d8_4 : decode jdk_69_method_7_code 4 = .ok (.aload_n 0, 1) := by decide +kernel
theorem d8_5 : decode jdk_69_method_7_code 5 = .ok (.ldc 92, 2) := by decide +kernel
theorem d8_7 : decode jdk_69_method_7_code 7 = .ok (.putfield 81, 3) := by decide +kernel
theorem d8_10 : decode jdk_69_method_7_code 10 = .ok (.return_, 1) := by decide +kernel
theorem ef_8 (m : MethodId) (a0 : Addr) : entryFrame m #[(.ref a0)] 1 = mkF m 0 #[.val (.ref a0)] [] := by first | (simp [entryFrame, mkF, argsToLocals, Value.category]; done) | rfl
def Q8 (Z : State) (a0 : Addr) (h0 : Heap) (n0 : Nat) (v : Option Value) (h : Heap) (L : List Loc) : Prop := (v = none) ∧ (Fr n0 L) ∧ (Keep h0 h [a0]) ∧ (Exa Z h a0 "java/util/HashMap")
set_option maxRecDepth 65536 in
set_option maxHeartbeats 40000000 in
theorem rm8 (l : Launch) (Z : State) (aZ : Array Value) (hw : ∀ d ∈ tables_1, d.before aZ Z = true) (ws : List Jvm.Cond) (a0 : Addr) (h0 : Heap) (n0 : Nat) (Z0 : n0 ≤ h0.size) (E_0 : Exa Z h0 a0 "java/util/HashMap") (F_1 : Fld Z h0 a0 "java/util/HashMap" "loadFactor" "F" (.float 0)) (g_2 : n0 ≤ a0) :
    MetFree l (⟨"java/util/HashMap", "<init>", "()V"⟩ : MethodName) (head1 (Jvm.Cond.code (⟨"java/util/HashMap", "<init>", "()V"⟩ : MethodName) jdk_69_method_7_code 1 none :: ws) ({ frames := 2, cells := 0, slots := 0, locals := 24 } : Room)) (fun a U => a = #[(.ref a0)] ∧ Z.Warmed39 U.vm ∧ U.heap = h0) (fun _ _ _ _ _ => True) (fun _ U o U' => ∃ v L, o = .returned v ∧ Q8 Z a0 h0 n0 v U'.heap L ∧ FrameEnd U o U' L ({ frames := 2, cells := 0, slots := 0, locals := 24 } : Room).cells ({ frames := 2, cells := 0, slots := 0, locals := 24 } : Room).slots) := by
  refine MetFree.of_bodySF (plainFor_of_name pn_5) hisR ?_
  intro p e s m args below meth c s₁ Bd hml0 hP hK
  obtain ⟨rfl, hZ, hh⟩ := hP
  have hx := Bd.exec
  have hby := Bd.bytes
  have hml : c.maxLocals = 1 := hml0
  have hown : s.vm.findClass "java/util/HashMap" = some m.cls := findClass_of_methodNamed Bd.named
  have hnm := (name_of_methodNamed Bd.named Bd.method).1
  have hlk : meth.locks = false := BodyLoose.notSynchronized Bd
  have X0 : Stand p l e ({ frames := 2, cells := 0, slots := 0, locals := 24 } : Room) s m #[(.ref a0)] below meth c s₁ [] 0 0 := Stand.of_body Bd
  have e0 : s₁.heap = h0 := by rw [← hh, Bd.state]; rfl
  have N0 := Fr.nil n0
  have sq0 : h0.size ≤ h0.size := Nat.le_refl _
  have k0 : Keep h0 h0 [a0] := Keep.refl _ _
  change Go p e below s ({ frames := 2, cells := 0, slots := 0, locals := 24 } : Room).cells ({ frames := 2, cells := 0, slots := 0, locals := 24 } : Room).slots (Q8 Z a0 h0 n0) (s₁.setTop (entryFrame m #[(.ref a0)] 1))
  rw [ef_8 m a0]
  show Go _ _ _ _ _ _ _ (s₁.setTop (mkF m 0 #[.val (.ref a0)] []))
  refine Go.step (fun _ k => XS.aloadN X0.here hx rfl (hb hby d8_0) rfl rfl  k) ?_
  show Go _ _ _ _ _ _ _ (s₁.setTop (mkF m 1 #[.val (.ref a0)] [(.ref a0)]))
  obtain ⟨_, _, ⟨T1, L1, k1, n1⟩, -, X1, ⟨Lc1, hQ1, l1, y1, z1⟩, st1⟩ := X0.specialBack hx (y := (⟨"java/util/AbstractMap", "<init>", "()V"⟩ : MethodName)) rfl hown (mvT hZ (hw _ (List.mem_of_getElem? (i := 54) rfl))) (mvT hZ (hw _ (List.mem_of_getElem? (i := 55) rfl))) (mvT hZ (hw _ (List.mem_of_getElem? (i := 59) rfl))) (by decide) (backOf (W := 0) (rm9 l Z aZ hw [] a0 h0 n0 Z0 ) hZ (hw _ (List.mem_of_getElem? (i := 59) rfl)) (hw _ (List.mem_of_getElem? (i := 58) rfl)) (by decide) (by decide)) (g := (mkF m 1 #[.val (.ref a0)] [(.ref a0)])) rfl (by rw [hml]; rfl) (Steps.refl _) (a := a0) (argsL := []) (rest := []) (lenOf pd_0 rfl) rfl (by show 2 * 0 + _ ≤ _; exact Nat.le_of_eq rfl) (hb hby d8_1) (fun _ _ => ⟨rfl, e0, (by decide : 0 + 0 ≤ _), (by decide : 0 + 0 ≤ _)⟩)
  dsimp only [Pt.U, Pt.locs, Pt.cells, Pt.slots] at X1 l1 y1 z1 st1 hQ1
  subst l1 y1 z1
  obtain ⟨rfl, Nq1, e1⟩ := hQ1
  have N1 := Fr.app N0 Nq1
  refine Go.tr st1 ?_
  show Go _ _ _ _ _ _ _ (T1.setTop (mkF m 4 #[.val (.ref a0)] []))
  refine Go.step (fun _ k => XS.aloadN X1.here hx rfl (hb hby d8_4) rfl rfl  k) ?_
  show Go _ _ _ _ _ _ _ (T1.setTop (mkF m 5 #[.val (.ref a0)] [(.ref a0)]))
  refine Go.step (X1.ldcFloatC hx hown (mvT hZ (hw _ (List.mem_of_getElem? (i := 61) rfl))) (g := (mkF m 5 #[.val (.ref a0)] [(.ref a0)])) rfl (hb hby d8_5)) ?_
  show Go _ _ _ _ _ _ _ (T1.setTop (mkF m 7 #[.val (.ref a0)] [(.float (1061158912 : UInt32)), (.ref a0)]))
  obtain ⟨T2, h2, X2, e2, W2, st2⟩ := putF X1 hx hZ hown (host := "") (Or.inl (hw _ (List.mem_of_getElem? (i := 62) rfl))) Via.refl e1 F_1 E_0 (Or.inr ⟨(hw _ (List.mem_of_getElem? (i := 63) rfl)), rfl, hnm⟩) (hw _ (List.mem_of_getElem? (i := 48) rfl)) (ty := .float) (v := (.float (1061158912 : UInt32))) (by decide) rfl rfl (g := (mkF m 7 #[.val (.ref a0)] [(.float (1061158912 : UInt32)), (.ref a0)])) rfl rfl (hb hby d8_7)
  refine Go.step st2 ?_
  have N2 := Fr.snoc X2 N1 g_2
  have z3 : n0 ≤ h2.size := Nat.le_trans Z0 (Keep.of_wr W2).1
  have sqz3 : h0.size ≤ h2.size := Nat.le_trans sq0 (Keep.of_wr W2).1
  have k4 : Keep h0 h2 [a0] := k0.wr W2 (Or.inl (List.mem_of_getElem? (i := 0) rfl))
  have f5 : Fld Z h2 a0 "java/util/HashMap" "loadFactor" "F" (.float (1061158912 : UInt32)) := F_1.same W2
  show Go _ _ _ _ _ _ _ (T2.setTop (mkF m 10 #[.val (.ref a0)] []))
  have f6 : Exa Z h2 a0 "java/util/HashMap" := (E_0.wr W2)
  refine Go.retV X2 hx Bd.returns hlk (hb hby d8_10) ?_ (by decide) (by decide)
  rw [e2]
  exact ⟨(rfl), N2, k4, f6⟩
theorem pn_6 : plainName "java/util/HashSet" = true := by first | (simp [plainName, overriddenIn]; done) | decide +kernel
theorem d6_0 : decode jdk_93_method_1_code 0 = .ok (.aload_n 0, 1) := by decide +kernel
theorem d6_1 : decode jdk_93_method_1_code 1 = .ok (.invokespecial 1, 3) := by decide +kernel
theorem d6_4 : decode jdk_93_method_1_code 4 = .ok (.aload_n 0, 1) := by decide +kernel
theorem d6_5 : decode jdk_93_method_1_code 5 = .ok (.new 7, 3) := by decide +kernel
theorem d6_8 : decode jdk_93_method_1_code 8 = .ok (.dup, 1) := by decide +kernel
theorem d6_9 : decode jdk_93_method_1_code 9 = .ok (.invokespecial 9, 3) := by decide +kernel
theorem d6_12 : decode jdk_93_method_1_code 12 = .ok (.putfield 10, 3) := by decide +kernel
theorem d6_15 : decode jdk_93_method_1_code 15 = .ok (.return_, 1) := by decide +kernel
theorem ef_6 (m : MethodId) (a0 : Addr) : entryFrame m #[(.ref a0)] 1 = mkF m 0 #[.val (.ref a0)] [] := by first | (simp [entryFrame, mkF, argsToLocals, Value.category]; done) | rfl
def Q6 (Z : State) (a0 : Addr) (h0 : Heap) (n0 : Nat) (v : Option Value) (h : Heap) (L : List Loc) : Prop := (v = none) ∧ (Fr n0 L) ∧ (Keep h0 h [a0]) ∧ (Exa Z h a0 "java/util/HashSet")
set_option maxRecDepth 65536 in
set_option maxHeartbeats 40000000 in
theorem rm6 (l : Launch) (Z : State) (aZ : Array Value) (hw : ∀ d ∈ tables_1, d.before aZ Z = true) (ws : List Jvm.Cond) (a0 : Addr) (h0 : Heap) (n0 : Nat) (Z0 : n0 ≤ h0.size) (E_0 : Exa Z h0 a0 "java/util/HashSet") (F_1 : Fld Z h0 a0 "java/util/HashSet" "map" "Ljava/util/HashMap;" .null) (g_2 : n0 ≤ a0) :
    MetFree l (⟨"java/util/HashSet", "<init>", "()V"⟩ : MethodName) (head1 (Jvm.Cond.code (⟨"java/util/HashSet", "<init>", "()V"⟩ : MethodName) jdk_93_method_1_code 1 none :: ws) ({ frames := 3, cells := 1, slots := 8, locals := 38 } : Room)) (fun a U => a = #[(.ref a0)] ∧ Z.Warmed39 U.vm ∧ U.heap = h0) (fun _ _ _ _ _ => True) (fun _ U o U' => ∃ v L, o = .returned v ∧ Q6 Z a0 h0 n0 v U'.heap L ∧ FrameEnd U o U' L ({ frames := 3, cells := 1, slots := 8, locals := 38 } : Room).cells ({ frames := 3, cells := 1, slots := 8, locals := 38 } : Room).slots) := by
  refine MetFree.of_bodySF (plainFor_of_name pn_6) hisR ?_
  intro p e s m args below meth c s₁ Bd hml0 hP hK
  obtain ⟨rfl, hZ, hh⟩ := hP
  have hx := Bd.exec
  have hby := Bd.bytes
  have hml : c.maxLocals = 1 := hml0
  have hown : s.vm.findClass "java/util/HashSet" = some m.cls := findClass_of_methodNamed Bd.named
  have hnm := (name_of_methodNamed Bd.named Bd.method).1
  have hlk : meth.locks = false := BodyLoose.notSynchronized Bd
  have X0 : Stand p l e ({ frames := 3, cells := 1, slots := 8, locals := 38 } : Room) s m #[(.ref a0)] below meth c s₁ [] 0 0 := Stand.of_body Bd
  have e0 : s₁.heap = h0 := by rw [← hh, Bd.state]; rfl
  have N0 := Fr.nil n0
  have sq0 : h0.size ≤ h0.size := Nat.le_refl _
  have k0 : Keep h0 h0 [a0] := Keep.refl _ _
  change Go p e below s ({ frames := 3, cells := 1, slots := 8, locals := 38 } : Room).cells ({ frames := 3, cells := 1, slots := 8, locals := 38 } : Room).slots (Q6 Z a0 h0 n0) (s₁.setTop (entryFrame m #[(.ref a0)] 1))
  rw [ef_6 m a0]
  show Go _ _ _ _ _ _ _ (s₁.setTop (mkF m 0 #[.val (.ref a0)] []))
  refine Go.step (fun _ k => XS.aloadN X0.here hx rfl (hb hby d6_0) rfl rfl  k) ?_
  show Go _ _ _ _ _ _ _ (s₁.setTop (mkF m 1 #[.val (.ref a0)] [(.ref a0)]))
  obtain ⟨_, _, ⟨T1, L1, k1, n1⟩, -, X1, ⟨Lc1, hQ1, l1, y1, z1⟩, st1⟩ := X0.specialBack hx (y := (⟨"java/util/AbstractSet", "<init>", "()V"⟩ : MethodName)) rfl hown (mvT hZ (hw _ (List.mem_of_getElem? (i := 39) rfl))) (mvT hZ (hw _ (List.mem_of_getElem? (i := 40) rfl))) (mvT hZ (hw _ (List.mem_of_getElem? (i := 44) rfl))) (by decide) (backOf (W := 0) (rm7 l Z aZ hw [] a0 h0 n0 Z0 ) hZ (hw _ (List.mem_of_getElem? (i := 44) rfl)) (hw _ (List.mem_of_getElem? (i := 43) rfl)) (by decide) (by decide)) (g := (mkF m 1 #[.val (.ref a0)] [(.ref a0)])) rfl (by rw [hml]; rfl) (Steps.refl _) (a := a0) (argsL := []) (rest := []) (lenOf pd_0 rfl) rfl (by show 2 * 0 + _ ≤ _; exact Nat.le_of_eq rfl) (hb hby d6_1) (fun _ _ => ⟨rfl, e0, (by decide : 0 + 0 ≤ _), (by decide : 0 + 0 ≤ _)⟩)
  dsimp only [Pt.U, Pt.locs, Pt.cells, Pt.slots] at X1 l1 y1 z1 st1 hQ1
  subst l1 y1 z1
  obtain ⟨rfl, Nq1, e1⟩ := hQ1
  have N1 := Fr.app N0 Nq1
  refine Go.tr st1 ?_
  show Go _ _ _ _ _ _ _ (T1.setTop (mkF m 4 #[.val (.ref a0)] []))
  refine Go.step (fun _ k => XS.aloadN X1.here hx rfl (hb hby d6_4) rfl rfl  k) ?_
  show Go _ _ _ _ _ _ _ (T1.setTop (mkF m 5 #[.val (.ref a0)] [(.ref a0)]))
  obtain ⟨T2, h2, X2, e2, E2, A2, D2, -, st2⟩ := newO X1 hx hZ hown (hw _ (List.mem_of_getElem? (i := 47) rfl)) (hw _ (List.mem_of_getElem? (i := 48) rfl)) (hw _ (List.mem_of_getElem? (i := 49) rfl)) e1 (g := (mkF m 5 #[.val (.ref a0)] [(.ref a0)])) rfl (hb hby d6_5) (by decide) (by decide)
  obtain ⟨b2, g2⟩ : ∃ z, z = h0.size := ⟨_, rfl⟩
  rw [← g2] at A2 D2 st2
  refine Go.step st2 ?_
  have gn2 : n0 ≤ b2 := Nat.le_trans Z0 (Nat.le_of_eq g2.symm)
  have sz2 : h0.size ≤ b2 := Nat.le_trans sq0 (Nat.le_of_eq g2.symm)
  have ne3 : a0 ≠ b2 := Nat.ne_of_lt (Nat.lt_of_lt_of_le E_0.lt (Nat.le_of_eq g2.symm))
  have z4 : n0 ≤ h2.size := Nat.le_trans Z0 E2.1
  have sqz4 : h0.size ≤ h2.size := Nat.le_trans sq0 E2.1
  have k5 : Keep h0 h2 [a0] := k0.ext E2
  have f6 : Fld Z h2 b2 "java/util/HashMap" "loadFactor" "F" (.float 0) := D2 (Or.inr (hw _ (List.mem_of_getElem? (i := 63) rfl))) (ty := .float) (by decide)
  show Go _ _ _ _ _ _ _ (T2.setTop (mkF m 8 #[.val (.ref a0)] [(.ref b2), (.ref a0)]))
  refine Go.step (fun _ k => XS.dup X2.here hx rfl (hb hby d6_8) rfl rfl k) ?_
  show Go _ _ _ _ _ _ _ (T2.setTop (mkF m 9 #[.val (.ref a0)] [(.ref b2), (.ref b2), (.ref a0)]))
  obtain ⟨_, _, ⟨T7, L7, k7, n7⟩, -, X7, ⟨Lc7, hQ7, l7, y7, z7⟩, st7⟩ := X2.specialBack hx (y := (⟨"java/util/HashMap", "<init>", "()V"⟩ : MethodName)) rfl hown (mvT hZ (hw _ (List.mem_of_getElem? (i := 50) rfl))) (mvT hZ (hw _ (List.mem_of_getElem? (i := 51) rfl))) (mvT hZ (hw _ (List.mem_of_getElem? (i := 53) rfl))) (by decide) (backOf (W := 2) (rm8 l Z aZ hw [] b2 h2 n0 z4 A2 f6 gn2) hZ (hw _ (List.mem_of_getElem? (i := 53) rfl)) (hw _ (List.mem_of_getElem? (i := 49) rfl)) (by decide) (by decide)) (g := (mkF m 9 #[.val (.ref a0)] [(.ref b2), (.ref b2), (.ref a0)])) rfl (by rw [hml]; rfl) (Steps.refl _) (a := b2) (argsL := []) (rest := [(.ref b2), (.ref a0)]) (lenOf pd_0 rfl) rfl (by show 2 * 0 + _ ≤ _; exact Nat.le_of_eq rfl) (hb hby d6_9) (fun _ _ => ⟨rfl, e2, (by decide : 1 + 0 ≤ _), (by decide : 8 + 0 ≤ _)⟩)
  dsimp only [Pt.U, Pt.locs, Pt.cells, Pt.slots] at X7 l7 y7 z7 st7 hQ7
  subst l7 y7 z7
  obtain ⟨rfl, Nq7, K7, c7_0⟩ := hQ7
  have N7 := Fr.app N1 Nq7
  refine Go.tr st7 ?_
  have z8 : n0 ≤ T7.heap.size := Nat.le_trans z4 K7.1
  have sqz8 : h0.size ≤ T7.heap.size := Nat.le_trans sqz4 K7.1
  have k9 : Keep h0 T7.heap [a0] := k5.trans K7 (allS (Or.inr sz2) all0)
  show Go _ _ _ _ _ _ _ (T7.setTop (mkF m 12 #[.val (.ref a0)] [(.ref b2), (.ref a0)]))
  have f10 : Exa Z T7.heap a0 "java/util/HashSet" := ((E_0.ext E2).keep K7)
  have f11 : Fld Z T7.heap a0 "java/util/HashSet" "map" "Ljava/util/HashMap;" .null := ((F_1.ext E2).keep K7 (ninS ne3 nin0))
  obtain ⟨T12, h12, X12, e12, W12, st12⟩ := putF X7 hx hZ hown (host := "") (Or.inl (hw _ (List.mem_of_getElem? (i := 64) rfl))) Via.refl rfl f11 f10 (Or.inl (hw _ (List.mem_of_getElem? (i := 65) rfl))) (hw _ (List.mem_of_getElem? (i := 34) rfl)) (ty := (.object "java/util/HashMap")) (v := (.ref b2)) (by decide) rfl rfl (g := (mkF m 12 #[.val (.ref a0)] [(.ref b2), (.ref a0)])) rfl rfl (hb hby d6_12)
  refine Go.step st12 ?_
  have N12 := Fr.snoc X12 N7 g_2
  have z13 : n0 ≤ h12.size := Nat.le_trans z8 (Keep.of_wr W12).1
  have sqz13 : h0.size ≤ h12.size := Nat.le_trans sqz8 (Keep.of_wr W12).1
  have k14 : Keep h0 h12 [a0] := k9.wr W12 (Or.inl (List.mem_of_getElem? (i := 0) rfl))
  have f15 : Fld Z h12 a0 "java/util/HashSet" "map" "Ljava/util/HashMap;" (.ref b2) := f11.same W12
  show Go _ _ _ _ _ _ _ (T12.setTop (mkF m 15 #[.val (.ref a0)] []))
  have f16 : Exa Z h12 a0 "java/util/HashSet" := (f10.wr W12)
  refine Go.retV X12 hx Bd.returns hlk (hb hby d6_15) ?_ (by decide) (by decide)
  rw [e12]
  exact ⟨(rfl), N12, k14, f16⟩
theorem pn_7 : plainName "com/example/punctual_lease/punctuallease/Node" = true := by first | (simp [plainName, overriddenIn]; done) | decide +kernel
theorem d5_0 : decode prog_5_method_1_code 0 = .ok (.aload_n 0, 1) := by decide +kernel
theorem d5_1 : decode prog_5_method_1_code 1 = .ok (.invokespecial 1, 3) := by decide +kernel
theorem d5_4 : decode prog_5_method_1_code 4 = .ok (.aload_n 0, 1) := by decide +kernel
theorem d5_5 : decode prog_5_method_1_code 5 = .ok (.new 7, 3) := by decide +kernel
theorem d5_8 : decode prog_5_method_1_code 8 = .ok (.dup, 1) := by decide +kernel
theorem d5_9 : decode prog_5_method_1_code 9 = .ok (.invokespecial 9, 3) := by decide +kernel
theorem d5_12 : decode prog_5_method_1_code 12 = .ok (.putfield 10, 3) := by decide +kernel
theorem d5_15 : decode prog_5_method_1_code 15 = .ok (.aload_n 0, 1) := by decide +kernel
theorem d5_16 : decode prog_5_method_1_code 16 = .ok (.lload_n 1, 1) := by decide +kernel
theorem d5_17 : decode prog_5_method_1_code 17 = .ok (.putfield 16, 3) := by decide +kernel
theorem d5_20 : decode prog_5_method_1_code 20 = .ok (.aload_n 0, 1) := by decide +kernel
theorem d5_21 : decode prog_5_method_1_code 21 = .ok (.lload_n 3, 1) := by decide +kernel
theorem d5_22 : decode prog_5_method_1_code 22 = .ok (.putfield 20, 3) := by decide +kernel
theorem d5_25 : decode prog_5_method_1_code 25 = .ok (.aload_n 0, 1) := by decide +kernel
theorem d5_26 : decode prog_5_method_1_code 26 = .ok (.lload 5, 2) := by decide +kernel
theorem d5_28 : decode prog_5_method_1_code 28 = .ok (.putfield 23, 3) := by decide +kernel
theorem d5_31 : decode prog_5_method_1_code 31 = .ok (.aload_n 0, 1) := by decide +kernel
theorem d5_32 : decode prog_5_method_1_code 32 = .ok (.aload 7, 2) := by decide +kernel
theorem d5_34 : decode prog_5_method_1_code 34 = .ok (.putfield 26, 3) := by decide +kernel
theorem d5_37 : decode prog_5_method_1_code 37 = .ok (.aload_n 0, 1) := by decide +kernel
theorem d5_38 : decode prog_5_method_1_code 38 = .ok (.aload 8, 2) := by decide +kernel
theorem d5_40 : decode prog_5_method_1_code 40 = .ok (.putfield 30, 3) := by decide +kernel
theorem d5_43 : decode prog_5_method_1_code 43 = .ok (.aload_n 0, 1) := by decide +kernel
theorem d5_44 : decode prog_5_method_1_code 44 = .ok (.lload_n 1, 1) := by decide +kernel
theorem d5_45 : decode prog_5_method_1_code 45 = .ok (.putfield 34, 3) := by decide +kernel
theorem d5_48 : decode prog_5_method_1_code 48 = .ok (.aload_n 0, 1) := by decide +kernel
theorem d5_49 : decode prog_5_method_1_code 49 = .ok (.lload_n 3, 1) := by decide +kernel
theorem d5_50 : decode prog_5_method_1_code 50 = .ok (.putfield 37, 3) := by decide +kernel
theorem d5_53 : decode prog_5_method_1_code 53 = .ok (.aload_n 0, 1) := by decide +kernel
theorem d5_54 : decode prog_5_method_1_code 54 = .ok (.lload_n 1, 1) := by decide +kernel
theorem d5_55 : decode prog_5_method_1_code 55 = .ok (.putfield 40, 3) := by decide +kernel
theorem d5_58 : decode prog_5_method_1_code 58 = .ok (.return_, 1) := by decide +kernel
theorem ef_5 (m : MethodId) (a0 : Addr) (z1 : Int64) (z2 : Int64) (z3 : Int64) (pl : Addr) (pd : Value) (hpd : pd.isRef = true) : entryFrame m #[(.ref a0), (.long z1), (.long z2), (.long z3), (.ref pl), pd] 9 = mkF m 0 #[.val (.ref a0), .val (.long z1), .second, .val (.long z2), .second, .val (.long z3), .second, .val (.ref pl), .val pd] [] := by rcases ref_cases hpd with rfl | ⟨zpd, rfl⟩ <;> first | (simp [entryFrame, mkF, argsToLocals, Value.category]; done) | rfl
def Q5 (Z : State) (a0 : Addr) (z1 : Int64) (z2 : Int64) (z3 : Int64) (pl : Addr) (pd : Value) (h0 : Heap) (n0 : Nat) (v : Option Value) (h : Heap) (L : List Loc) : Prop := (v = none) ∧ (Fr n0 L) ∧ (Keep h0 h [a0]) ∧ (Exa Z h a0 "com/example/punctual_lease/punctuallease/Node") ∧ (Fld Z h a0 "com/example/punctual_lease/punctuallease/Node" "ephemeralOwner" "J" (.long z3)) ∧ (Fld Z h a0 "com/example/punctual_lease/punctuallease/Node" "data" "[B" pd)
set_option maxRecDepth 65536 in
set_option maxHeartbeats 40000000 in
theorem rm5 (l : Launch) (Z : State) (aZ : Array Value) (hw : ∀ d ∈ tables_1, d.before aZ Z = true) (ws : List Jvm.Cond) (a0 : Addr) (z1 : Int64) (z2 : Int64) (z3 : Int64) (pl : Addr) (pd : Value) (h0 : Heap) (n0 : Nat) (Z0 : n0 ≤ h0.size) (hpd : pd.isRef = true) (E_1 : Exa Z h0 a0 "com/example/punctual_lease/punctuallease/Node") (F_2 : Fld Z h0 a0 "com/example/punctual_lease/punctuallease/Node" "children" "Ljava/util/Set;" .null) (F_3 : Fld Z h0 a0 "com/example/punctual_lease/punctuallease/Node" "czxid" "J" (.long (0 : Int64))) (F_4 : Fld Z h0 a0 "com/example/punctual_lease/punctuallease/Node" "ctime" "J" (.long (0 : Int64))) (F_5 : Fld Z h0 a0 "com/example/punctual_lease/punctuallease/Node" "ephemeralOwner" "J" (.long (0 : Int64))) (F_6 : Fld Z h0 a0 "com/example/punctual_lease/punctuallease/Node" "acl" "Ljava/util/List;" .null) (F_7 : Fld Z h0 a0 "com/example/punctual_lease/punctuallease/Node" "data" "[B" .null) (F_8 : Fld Z h0 a0 "com/example/punctual_lease/punctuallease/Node" "mzxid" "J" (.long (0 : Int64))) (F_9 : Fld Z h0 a0 "com/example/punctual_lease/punctuallease/Node" "mtime" "J" (.long (0 : Int64))) (F_10 : Fld Z h0 a0 "com/example/punctual_lease/punctuallease/Node" "pzxid" "J" (.long (0 : Int64))) (g_11 : n0 ≤ a0) :
    MetFree l (⟨"com/example/punctual_lease/punctuallease/Node", "<init>", "(JJJLjava/util/List;[B)V"⟩ : MethodName) (head1 (Jvm.Cond.code (⟨"com/example/punctual_lease/punctuallease/Node", "<init>", "(JJJLjava/util/List;[B)V"⟩ : MethodName) prog_5_method_1_code 9 none :: ws) ({ frames := 4, cells := 2, slots := 9, locals := 52 } : Room)) (fun a U => a = #[(.ref a0), (.long z1), (.long z2), (.long z3), (.ref pl), pd] ∧ Z.Warmed39 U.vm ∧ U.heap = h0) (fun _ _ _ _ _ => True) (fun _ U o U' => ∃ v L, o = .returned v ∧ Q5 Z a0 z1 z2 z3 pl pd h0 n0 v U'.heap L ∧ FrameEnd U o U' L ({ frames := 4, cells := 2, slots := 9, locals := 52 } : Room).cells ({ frames := 4, cells := 2, slots := 9, locals := 52 } : Room).slots) := by
  refine MetFree.of_bodySF (plainFor_of_name pn_7) hisR ?_
  intro p e s m args below meth c s₁ Bd hml0 hP hK
  obtain ⟨rfl, hZ, hh⟩ := hP
  have hx := Bd.exec
  have hby := Bd.bytes
  have hml : c.maxLocals = 9 := hml0
  have hown : s.vm.findClass "com/example/punctual_lease/punctuallease/Node" = some m.cls := findClass_of_methodNamed Bd.named
  have hnm := (name_of_methodNamed Bd.named Bd.method).1
  have hlk : meth.locks = false := BodyLoose.notSynchronized Bd
  have X0 : Stand p l e ({ frames := 4, cells := 2, slots := 9, locals := 52 } : Room) s m #[(.ref a0), (.long z1), (.long z2), (.long z3), (.ref pl), pd] below meth c s₁ [] 0 0 := Stand.of_body Bd
  have e0 : s₁.heap = h0 := by rw [← hh, Bd.state]; rfl
  have N0 := Fr.nil n0
  have sq0 : h0.size ≤ h0.size := Nat.le_refl _
  have k0 : Keep h0 h0 [a0] := Keep.refl _ _
  change Go p e below s ({ frames := 4, cells := 2, slots := 9, locals := 52 } : Room).cells ({ frames := 4, cells := 2, slots := 9, locals := 52 } : Room).slots (Q5 Z a0 z1 z2 z3 pl pd h0 n0) (s₁.setTop (entryFrame m #[(.ref a0), (.long z1), (.long z2), (.long z3), (.ref pl), pd] 9))
  rw [ef_5 m a0 z1 z2 z3 pl pd hpd]
  show Go _ _ _ _ _ _ _ (s₁.setTop (mkF m 0 #[.val (.ref a0), .val (.long z1), .second, .val (.long z2), .second, .val (.long z3), .second, .val (.ref pl), .val pd] []))
  refine Go.step (fun _ k => XS.aloadN X0.here hx rfl (hb hby d5_0) rfl rfl  k) ?_
  show Go _ _ _ _ _ _ _ (s₁.setTop (mkF m 1 #[.val (.ref a0), .val (.long z1), .second, .val (.long z2), .second, .val (.long z3), .second, .val (.ref pl), .val pd] [(.ref a0)]))
  obtain ⟨T1, X1, e1, st1⟩ := initO X0 hx hZ hown (hw _ (List.mem_of_getElem? (i := 32) rfl)) (hw _ (List.mem_of_getElem? (i := 22) rfl)) (hw _ (List.mem_of_getElem? (i := 23) rfl)) e0 (g := (mkF m 1 #[.val (.ref a0), .val (.long z1), .second, .val (.long z2), .second, .val (.long z3), .second, .val (.ref pl), .val pd] [(.ref a0)])) rfl (by rw [hml]; rfl) rfl (hb hby d5_1) (by decide) (W := 0) (by show 2 * 0 + _ ≤ _; exact Nat.le_of_eq rfl) (by decide)
  refine Go.step st1 ?_
  show Go _ _ _ _ _ _ _ (T1.setTop (mkF m 4 #[.val (.ref a0), .val (.long z1), .second, .val (.long z2), .second, .val (.long z3), .second, .val (.ref pl), .val pd] []))
  refine Go.step (fun _ k => XS.aloadN X1.here hx rfl (hb hby d5_4) rfl rfl  k) ?_
  show Go _ _ _ _ _ _ _ (T1.setTop (mkF m 5 #[.val (.ref a0), .val (.long z1), .second, .val (.long z2), .second, .val (.long z3), .second, .val (.ref pl), .val pd] [(.ref a0)]))
  obtain ⟨T2, h2, X2, e2, E2, A2, D2, -, st2⟩ := newO X1 hx hZ hown (hw _ (List.mem_of_getElem? (i := 33) rfl)) (hw _ (List.mem_of_getElem? (i := 34) rfl)) (hw _ (List.mem_of_getElem? (i := 35) rfl)) e1 (g := (mkF m 5 #[.val (.ref a0), .val (.long z1), .second, .val (.long z2), .second, .val (.long z3), .second, .val (.ref pl), .val pd] [(.ref a0)])) rfl (hb hby d5_5) (by decide) (by decide)
  obtain ⟨b2, g2⟩ : ∃ z, z = h0.size := ⟨_, rfl⟩
  rw [← g2] at A2 D2 st2
  refine Go.step st2 ?_
  have gn2 : n0 ≤ b2 := Nat.le_trans Z0 (Nat.le_of_eq g2.symm)
  have sz2 : h0.size ≤ b2 := Nat.le_trans sq0 (Nat.le_of_eq g2.symm)
  have ne3 : a0 ≠ b2 := Nat.ne_of_lt (Nat.lt_of_lt_of_le E_1.lt (Nat.le_of_eq g2.symm))
  have z4 : n0 ≤ h2.size := Nat.le_trans Z0 E2.1
  have sqz4 : h0.size ≤ h2.size := Nat.le_trans sq0 E2.1
  have k5 : Keep h0 h2 [a0] := k0.ext E2
  have f6 : Fld Z h2 b2 "java/util/HashSet" "map" "Ljava/util/HashMap;" .null := D2 (Or.inl (hw _ (List.mem_of_getElem? (i := 65) rfl))) (ty := (.object "java/util/HashMap")) (by decide)
  show Go _ _ _ _ _ _ _ (T2.setTop (mkF m 8 #[.val (.ref a0), .val (.long z1), .second, .val (.long z2), .second, .val (.long z3), .second, .val (.ref pl), .val pd] [(.ref b2), (.ref a0)]))
  refine Go.step (fun _ k => XS.dup X2.here hx rfl (hb hby d5_8) rfl rfl k) ?_
  show Go _ _ _ _ _ _ _ (T2.setTop (mkF m 9 #[.val (.ref a0), .val (.long z1), .second, .val (.long z2), .second, .val (.long z3), .second, .val (.ref pl), .val pd] [(.ref b2), (.ref b2), (.ref a0)]))
  obtain ⟨_, _, ⟨T7, L7, k7, n7⟩, -, X7, ⟨Lc7, hQ7, l7, y7, z7⟩, st7⟩ := X2.specialBack hx (y := (⟨"java/util/HashSet", "<init>", "()V"⟩ : MethodName)) rfl hown (mvT hZ (hw _ (List.mem_of_getElem? (i := 36) rfl))) (mvT hZ (hw _ (List.mem_of_getElem? (i := 37) rfl))) (mvT hZ (hw _ (List.mem_of_getElem? (i := 38) rfl))) (by decide) (backOf (W := 2) (rm6 l Z aZ hw [] b2 h2 n0 z4 A2 f6 gn2) hZ (hw _ (List.mem_of_getElem? (i := 38) rfl)) (hw _ (List.mem_of_getElem? (i := 35) rfl)) (by decide) (by decide)) (g := (mkF m 9 #[.val (.ref a0), .val (.long z1), .second, .val (.long z2), .second, .val (.long z3), .second, .val (.ref pl), .val pd] [(.ref b2), (.ref b2), (.ref a0)])) rfl (by rw [hml]; rfl) (Steps.refl _) (a := b2) (argsL := []) (rest := [(.ref b2), (.ref a0)]) (lenOf pd_0 rfl) rfl (by show 2 * 0 + _ ≤ _; exact Nat.le_of_eq rfl) (hb hby d5_9) (fun _ _ => ⟨rfl, e2, (by decide : 1 + 1 ≤ _), (by decide : 1 + 8 ≤ _)⟩)
  dsimp only [Pt.U, Pt.locs, Pt.cells, Pt.slots] at X7 l7 y7 z7 st7 hQ7
  subst l7 y7 z7
  obtain ⟨rfl, Nq7, K7, c7_0⟩ := hQ7
  have N7 := Fr.app N0 Nq7
  refine Go.tr st7 ?_
  have z8 : n0 ≤ T7.heap.size := Nat.le_trans z4 K7.1
  have sqz8 : h0.size ≤ T7.heap.size := Nat.le_trans sqz4 K7.1
  have k9 : Keep h0 T7.heap [a0] := k5.trans K7 (allS (Or.inr sz2) all0)
  show Go _ _ _ _ _ _ _ (T7.setTop (mkF m 12 #[.val (.ref a0), .val (.long z1), .second, .val (.long z2), .second, .val (.long z3), .second, .val (.ref pl), .val pd] [(.ref b2), (.ref a0)]))
  have f10 : Exa Z T7.heap a0 "com/example/punctual_lease/punctuallease/Node" := ((E_1.ext E2).keep K7)
  have f11 : Fld Z T7.heap a0 "com/example/punctual_lease/punctuallease/Node" "children" "Ljava/util/Set;" .null := ((F_2.ext E2).keep K7 (ninS ne3 nin0))
  obtain ⟨T12, h12, X12, e12, W12, st12⟩ := putF X7 hx hZ hown (host := "") (Or.inl (hw _ (List.mem_of_getElem? (i := 66) rfl))) Via.refl rfl f11 f10 (Or.inr ⟨(hw _ (List.mem_of_getElem? (i := 67) rfl)), rfl, hnm⟩) (hw _ (List.mem_of_getElem? (i := 1) rfl)) (ty := (.object "java/util/Set")) (v := (.ref b2)) (by decide) rfl rfl (g := (mkF m 12 #[.val (.ref a0), .val (.long z1), .second, .val (.long z2), .second, .val (.long z3), .second, .val (.ref pl), .val pd] [(.ref b2), (.ref a0)])) rfl rfl (hb hby d5_12)
  refine Go.step st12 ?_
  have N12 := Fr.snoc X12 N7 g_11
  have z13 : n0 ≤ h12.size := Nat.le_trans z8 (Keep.of_wr W12).1
  have sqz13 : h0.size ≤ h12.size := Nat.le_trans sqz8 (Keep.of_wr W12).1
  have k14 : Keep h0 h12 [a0] := k9.wr W12 (Or.inl (List.mem_of_getElem? (i := 0) rfl))
  have f15 : Fld Z h12 a0 "com/example/punctual_lease/punctuallease/Node" "children" "Ljava/util/Set;" (.ref b2) := f11.same W12
  show Go _ _ _ _ _ _ _ (T12.setTop (mkF m 15 #[.val (.ref a0), .val (.long z1), .second, .val (.long z2), .second, .val (.long z3), .second, .val (.ref pl), .val pd] []))
  refine Go.step (fun _ k => XS.aloadN X12.here hx rfl (hb hby d5_15) rfl rfl  k) ?_
  show Go _ _ _ _ _ _ _ (T12.setTop (mkF m 16 #[.val (.ref a0), .val (.long z1), .second, .val (.long z2), .second, .val (.long z3), .second, .val (.ref pl), .val pd] [(.ref a0)]))
  refine Go.step (fun _ k => XS.lloadN X12.here hx rfl (hb hby d5_16) rfl  k) ?_
  show Go _ _ _ _ _ _ _ (T12.setTop (mkF m 17 #[.val (.ref a0), .val (.long z1), .second, .val (.long z2), .second, .val (.long z3), .second, .val (.ref pl), .val pd] [(.long z1), (.ref a0)]))
  have f16 : Exa Z h12 a0 "com/example/punctual_lease/punctuallease/Node" := (f10.wr W12)
  have f17 : Fld Z h12 a0 "com/example/punctual_lease/punctuallease/Node" "czxid" "J" (.long (0 : Int64)) := (((F_3.ext E2).keep K7 (ninS ne3 nin0)).other W12 (Or.inr (slot_ne (Or.inr (hw _ (List.mem_of_getElem? (i := 69) rfl))) (Or.inr (hw _ (List.mem_of_getElem? (i := 67) rfl))) (by decide) (t := .long) (t' := (.object "java/util/Set")) (by decide) (by decide))))
  obtain ⟨T18, h18, X18, e18, W18, st18⟩ := putF X12 hx hZ hown (host := "") (Or.inl (hw _ (List.mem_of_getElem? (i := 68) rfl))) Via.refl e12 f17 f16 (Or.inr ⟨(hw _ (List.mem_of_getElem? (i := 69) rfl)), rfl, hnm⟩) (hw _ (List.mem_of_getElem? (i := 1) rfl)) (ty := .long) (v := (.long z1)) (by decide) rfl rfl (g := (mkF m 17 #[.val (.ref a0), .val (.long z1), .second, .val (.long z2), .second, .val (.long z3), .second, .val (.ref pl), .val pd] [(.long z1), (.ref a0)])) rfl rfl (hb hby d5_17)
  refine Go.step st18 ?_
  have N18 := Fr.snoc X18 N12 g_11
  have z19 : n0 ≤ h18.size := Nat.le_trans z13 (Keep.of_wr W18).1
  have sqz19 : h0.size ≤ h18.size := Nat.le_trans sqz13 (Keep.of_wr W18).1
  have k20 : Keep h0 h18 [a0] := k14.wr W18 (Or.inl (List.mem_of_getElem? (i := 0) rfl))
  have f21 : Fld Z h18 a0 "com/example/punctual_lease/punctuallease/Node" "czxid" "J" (.long z1) := f17.same W18
  show Go _ _ _ _ _ _ _ (T18.setTop (mkF m 20 #[.val (.ref a0), .val (.long z1), .second, .val (.long z2), .second, .val (.long z3), .second, .val (.ref pl), .val pd] []))
  refine Go.step (fun _ k => XS.aloadN X18.here hx rfl (hb hby d5_20) rfl rfl  k) ?_
  show Go _ _ _ _ _ _ _ (T18.setTop (mkF m 21 #[.val (.ref a0), .val (.long z1), .second, .val (.long z2), .second, .val (.long z3), .second, .val (.ref pl), .val pd] [(.ref a0)]))
  refine Go.step (fun _ k => XS.lloadN X18.here hx rfl (hb hby d5_21) rfl  k) ?_
  show Go _ _ _ _ _ _ _ (T18.setTop (mkF m 22 #[.val (.ref a0), .val (.long z1), .second, .val (.long z2), .second, .val (.long z3), .second, .val (.ref pl), .val pd] [(.long z2), (.ref a0)]))
  have f22 : Exa Z h18 a0 "com/example/punctual_lease/punctuallease/Node" := (f16.wr W18)
  have f23 : Fld Z h18 a0 "com/example/punctual_lease/punctuallease/Node" "ctime" "J" (.long (0 : Int64)) := ((((F_4.ext E2).keep K7 (ninS ne3 nin0)).other W12 (Or.inr (slot_ne (Or.inr (hw _ (List.mem_of_getElem? (i := 71) rfl))) (Or.inr (hw _ (List.mem_of_getElem? (i := 67) rfl))) (by decide) (t := .long) (t' := (.object "java/util/Set")) (by decide) (by decide)))).other W18 (Or.inr (slot_ne (Or.inr (hw _ (List.mem_of_getElem? (i := 71) rfl))) (Or.inr (hw _ (List.mem_of_getElem? (i := 69) rfl))) (by decide) (t := .long) (t' := .long) (by decide) (by decide))))
  obtain ⟨T24, h24, X24, e24, W24, st24⟩ := putF X18 hx hZ hown (host := "") (Or.inl (hw _ (List.mem_of_getElem? (i := 70) rfl))) Via.refl e18 f23 f22 (Or.inr ⟨(hw _ (List.mem_of_getElem? (i := 71) rfl)), rfl, hnm⟩) (hw _ (List.mem_of_getElem? (i := 1) rfl)) (ty := .long) (v := (.long z2)) (by decide) rfl rfl (g := (mkF m 22 #[.val (.ref a0), .val (.long z1), .second, .val (.long z2), .second, .val (.long z3), .second, .val (.ref pl), .val pd] [(.long z2), (.ref a0)])) rfl rfl (hb hby d5_22)
  refine Go.step st24 ?_
  have N24 := Fr.snoc X24 N18 g_11
  have z25 : n0 ≤ h24.size := Nat.le_trans z19 (Keep.of_wr W24).1
  have sqz25 : h0.size ≤ h24.size := Nat.le_trans sqz19 (Keep.of_wr W24).1
  have k26 : Keep h0 h24 [a0] := k20.wr W24 (Or.inl (List.mem_of_getElem? (i := 0) rfl))
  have f27 : Fld Z h24 a0 "com/example/punctual_lease/punctuallease/Node" "ctime" "J" (.long z2) := f23.same W24
  show Go _ _ _ _ _ _ _ (T24.setTop (mkF m 25 #[.val (.ref a0), .val (.long z1), .second, .val (.long z2), .second, .val (.long z3), .second, .val (.ref pl), .val pd] []))
  refine Go.step (fun _ k => XS.aloadN X24.here hx rfl (hb hby d5_25) rfl rfl  k) ?_
  show Go _ _ _ _ _ _ _ (T24.setTop (mkF m 26 #[.val (.ref a0), .val (.long z1), .second, .val (.long z2), .second, .val (.long z3), .second, .val (.ref pl), .val pd] [(.ref a0)]))
  refine Go.step (fun _ k => XS.lload X24.here hx rfl (hb hby d5_26) rfl  k) ?_
  show Go _ _ _ _ _ _ _ (T24.setTop (mkF m 28 #[.val (.ref a0), .val (.long z1), .second, .val (.long z2), .second, .val (.long z3), .second, .val (.ref pl), .val pd] [(.long z3), (.ref a0)]))
  have f28 : Exa Z h24 a0 "com/example/punctual_lease/punctuallease/Node" := (f22.wr W24)
  have f29 : Fld Z h24 a0 "com/example/punctual_lease/punctuallease/Node" "ephemeralOwner" "J" (.long (0 : Int64)) := (((((F_5.ext E2).keep K7 (ninS ne3 nin0)).other W12 (Or.inr (slot_ne (Or.inr (hw _ (List.mem_of_getElem? (i := 73) rfl))) (Or.inr (hw _ (List.mem_of_getElem? (i := 67) rfl))) (by decide) (t := .long) (t' := (.object "java/util/Set")) (by decide) (by decide)))).other W18 (Or.inr (slot_ne (Or.inr (hw _ (List.mem_of_getElem? (i := 73) rfl))) (Or.inr (hw _ (List.mem_of_getElem? (i := 69) rfl))) (by decide) (t := .long) (t' := .long) (by decide) (by decide)))).other W24 (Or.inr (slot_ne (Or.inr (hw _ (List.mem_of_getElem? (i := 73) rfl))) (Or.inr (hw _ (List.mem_of_getElem? (i := 71) rfl))) (by decide) (t := .long) (t' := .long) (by decide) (by decide))))
  obtain ⟨T30, h30, X30, e30, W30, st30⟩ := putF X24 hx hZ hown (host := "") (Or.inl (hw _ (List.mem_of_getElem? (i := 72) rfl))) Via.refl e24 f29 f28 (Or.inr ⟨(hw _ (List.mem_of_getElem? (i := 73) rfl)), rfl, hnm⟩) (hw _ (List.mem_of_getElem? (i := 1) rfl)) (ty := .long) (v := (.long z3)) (by decide) rfl rfl (g := (mkF m 28 #[.val (.ref a0), .val (.long z1), .second, .val (.long z2), .second, .val (.long z3), .second, .val (.ref pl), .val pd] [(.long z3), (.ref a0)])) rfl rfl (hb hby d5_28)
  refine Go.step st30 ?_
  have N30 := Fr.snoc X30 N24 g_11
  have z31 : n0 ≤ h30.size := Nat.le_trans z25 (Keep.of_wr W30).1
  have sqz31 : h0.size ≤ h30.size := Nat.le_trans sqz25 (Keep.of_wr W30).1
  have k32 : Keep h0 h30 [a0] := k26.wr W30 (Or.inl (List.mem_of_getElem? (i := 0) rfl))
  have f33 : Fld Z h30 a0 "com/example/punctual_lease/punctuallease/Node" "ephemeralOwner" "J" (.long z3) := f29.same W30
  show Go _ _ _ _ _ _ _ (T30.setTop (mkF m 31 #[.val (.ref a0), .val (.long z1), .second, .val (.long z2), .second, .val (.long z3), .second, .val (.ref pl), .val pd] []))
  refine Go.step (fun _ k => XS.aloadN X30.here hx rfl (hb hby d5_31) rfl rfl  k) ?_
  show Go _ _ _ _ _ _ _ (T30.setTop (mkF m 32 #[.val (.ref a0), .val (.long z1), .second, .val (.long z2), .second, .val (.long z3), .second, .val (.ref pl), .val pd] [(.ref a0)]))
  refine Go.step (fun _ k => XS.aload X30.here hx rfl (hb hby d5_32) rfl rfl  k) ?_
  show Go _ _ _ _ _ _ _ (T30.setTop (mkF m 34 #[.val (.ref a0), .val (.long z1), .second, .val (.long z2), .second, .val (.long z3), .second, .val (.ref pl), .val pd] [(.ref pl), (.ref a0)]))
  have f34 : Exa Z h30 a0 "com/example/punctual_lease/punctuallease/Node" := (f28.wr W30)
  have f35 : Fld Z h30 a0 "com/example/punctual_lease/punctuallease/Node" "acl" "Ljava/util/List;" .null := ((((((F_6.ext E2).keep K7 (ninS ne3 nin0)).other W12 (Or.inr (slot_ne (Or.inr (hw _ (List.mem_of_getElem? (i := 75) rfl))) (Or.inr (hw _ (List.mem_of_getElem? (i := 67) rfl))) (by decide) (t := (.object "java/util/List")) (t' := (.object "java/util/Set")) (by decide) (by decide)))).other W18 (Or.inr (slot_ne (Or.inr (hw _ (List.mem_of_getElem? (i := 75) rfl))) (Or.inr (hw _ (List.mem_of_getElem? (i := 69) rfl))) (by decide) (t := (.object "java/util/List")) (t' := .long) (by decide) (by decide)))).other W24 (Or.inr (slot_ne (Or.inr (hw _ (List.mem_of_getElem? (i := 75) rfl))) (Or.inr (hw _ (List.mem_of_getElem? (i := 71) rfl))) (by decide) (t := (.object "java/util/List")) (t' := .long) (by decide) (by decide)))).other W30 (Or.inr (slot_ne (Or.inr (hw _ (List.mem_of_getElem? (i := 75) rfl))) (Or.inr (hw _ (List.mem_of_getElem? (i := 73) rfl))) (by decide) (t := (.object "java/util/List")) (t' := .long) (by decide) (by decide))))
  obtain ⟨T36, h36, X36, e36, W36, st36⟩ := putF X30 hx hZ hown (host := "") (Or.inl (hw _ (List.mem_of_getElem? (i := 74) rfl))) Via.refl e30 f35 f34 (Or.inr ⟨(hw _ (List.mem_of_getElem? (i := 75) rfl)), rfl, hnm⟩) (hw _ (List.mem_of_getElem? (i := 1) rfl)) (ty := (.object "java/util/List")) (v := (.ref pl)) (by decide) rfl rfl (g := (mkF m 34 #[.val (.ref a0), .val (.long z1), .second, .val (.long z2), .second, .val (.long z3), .second, .val (.ref pl), .val pd] [(.ref pl), (.ref a0)])) rfl rfl (hb hby d5_34)
  refine Go.step st36 ?_
  have N36 := Fr.snoc X36 N30 g_11
  have z37 : n0 ≤ h36.size := Nat.le_trans z31 (Keep.of_wr W36).1
  have sqz37 : h0.size ≤ h36.size := Nat.le_trans sqz31 (Keep.of_wr W36).1
  have k38 : Keep h0 h36 [a0] := k32.wr W36 (Or.inl (List.mem_of_getElem? (i := 0) rfl))
  have f39 : Fld Z h36 a0 "com/example/punctual_lease/punctuallease/Node" "acl" "Ljava/util/List;" (.ref pl) := f35.same W36
  show Go _ _ _ _ _ _ _ (T36.setTop (mkF m 37 #[.val (.ref a0), .val (.long z1), .second, .val (.long z2), .second, .val (.long z3), .second, .val (.ref pl), .val pd] []))
  refine Go.step (fun _ k => XS.aloadN X36.here hx rfl (hb hby d5_37) rfl rfl  k) ?_
  show Go _ _ _ _ _ _ _ (T36.setTop (mkF m 38 #[.val (.ref a0), .val (.long z1), .second, .val (.long z2), .second, .val (.long z3), .second, .val (.ref pl), .val pd] [(.ref a0)]))
  refine Go.step (fun _ k => XS.aload X36.here hx rfl (hb hby d5_38) rfl (by assumption)  k) ?_
  show Go _ _ _ _ _ _ _ (T36.setTop (mkF m 40 #[.val (.ref a0), .val (.long z1), .second, .val (.long z2), .second, .val (.long z3), .second, .val (.ref pl), .val pd] [pd, (.ref a0)]))
  have f40 : Exa Z h36 a0 "com/example/punctual_lease/punctuallease/Node" := (f34.wr W36)
  have f41 : Fld Z h36 a0 "com/example/punctual_lease/punctuallease/Node" "data" "[B" .null := (((((((F_7.ext E2).keep K7 (ninS ne3 nin0)).other W12 (Or.inr (slot_ne (Or.inl (hw _ (List.mem_of_getElem? (i := 77) rfl))) (Or.inr (hw _ (List.mem_of_getElem? (i := 67) rfl))) (by decide) (t := (.array .byte)) (t' := (.object "java/util/Set")) (by decide) (by decide)))).other W18 (Or.inr (slot_ne (Or.inl (hw _ (List.mem_of_getElem? (i := 77) rfl))) (Or.inr (hw _ (List.mem_of_getElem? (i := 69) rfl))) (by decide) (t := (.array .byte)) (t' := .long) (by decide) (by decide)))).other W24 (Or.inr (slot_ne (Or.inl (hw _ (List.mem_of_getElem? (i := 77) rfl))) (Or.inr (hw _ (List.mem_of_getElem? (i := 71) rfl))) (by decide) (t := (.array .byte)) (t' := .long) (by decide) (by decide)))).other W30 (Or.inr (slot_ne (Or.inl (hw _ (List.mem_of_getElem? (i := 77) rfl))) (Or.inr (hw _ (List.mem_of_getElem? (i := 73) rfl))) (by decide) (t := (.array .byte)) (t' := .long) (by decide) (by decide)))).other W36 (Or.inr (slot_ne (Or.inl (hw _ (List.mem_of_getElem? (i := 77) rfl))) (Or.inr (hw _ (List.mem_of_getElem? (i := 75) rfl))) (by decide) (t := (.array .byte)) (t' := (.object "java/util/List")) (by decide) (by decide))))
  obtain ⟨T42, h42, X42, e42, W42, st42⟩ := putF X36 hx hZ hown (host := "") (Or.inl (hw _ (List.mem_of_getElem? (i := 76) rfl))) Via.refl e36 f41 f40 (Or.inl (hw _ (List.mem_of_getElem? (i := 77) rfl))) (hw _ (List.mem_of_getElem? (i := 1) rfl)) (ty := (.array .byte)) (v := pd) (by decide) (narrow_ref (by assumption) rfl) (fits_refV (by assumption) rfl) (g := (mkF m 40 #[.val (.ref a0), .val (.long z1), .second, .val (.long z2), .second, .val (.long z3), .second, .val (.ref pl), .val pd] [pd, (.ref a0)])) rfl rfl (hb hby d5_40)
  refine Go.step st42 ?_
  have N42 := Fr.snoc X42 N36 g_11
  have z43 : n0 ≤ h42.size := Nat.le_trans z37 (Keep.of_wr W42).1
  have sqz43 : h0.size ≤ h42.size := Nat.le_trans sqz37 (Keep.of_wr W42).1
  have k44 : Keep h0 h42 [a0] := k38.wr W42 (Or.inl (List.mem_of_getElem? (i := 0) rfl))
  have f45 : Fld Z h42 a0 "com/example/punctual_lease/punctuallease/Node" "data" "[B" pd := f41.same W42
  show Go _ _ _ _ _ _ _ (T42.setTop (mkF m 43 #[.val (.ref a0), .val (.long z1), .second, .val (.long z2), .second, .val (.long z3), .second, .val (.ref pl), .val pd] []))
  refine Go.step (fun _ k => XS.aloadN X42.here hx rfl (hb hby d5_43) rfl rfl  k) ?_
  show Go _ _ _ _ _ _ _ (T42.setTop (mkF m 44 #[.val (.ref a0), .val (.long z1), .second, .val (.long z2), .second, .val (.long z3), .second, .val (.ref pl), .val pd] [(.ref a0)]))
  refine Go.step (fun _ k => XS.lloadN X42.here hx rfl (hb hby d5_44) rfl  k) ?_
  show Go _ _ _ _ _ _ _ (T42.setTop (mkF m 45 #[.val (.ref a0), .val (.long z1), .second, .val (.long z2), .second, .val (.long z3), .second, .val (.ref pl), .val pd] [(.long z1), (.ref a0)]))
  have f46 : Exa Z h42 a0 "com/example/punctual_lease/punctuallease/Node" := (f40.wr W42)
  have f47 : Fld Z h42 a0 "com/example/punctual_lease/punctuallease/Node" "mzxid" "J" (.long (0 : Int64)) := ((((((((F_8.ext E2).keep K7 (ninS ne3 nin0)).other W12 (Or.inr (slot_ne (Or.inl (hw _ (List.mem_of_getElem? (i := 79) rfl))) (Or.inr (hw _ (List.mem_of_getElem? (i := 67) rfl))) (by decide) (t := .long) (t' := (.object "java/util/Set")) (by decide) (by decide)))).other W18 (Or.inr (slot_ne (Or.inl (hw _ (List.mem_of_getElem? (i := 79) rfl))) (Or.inr (hw _ (List.mem_of_getElem? (i := 69) rfl))) (by decide) (t := .long) (t' := .long) (by decide) (by decide)))).other W24 (Or.inr (slot_ne (Or.inl (hw _ (List.mem_of_getElem? (i := 79) rfl))) (Or.inr (hw _ (List.mem_of_getElem? (i := 71) rfl))) (by decide) (t := .long) (t' := .long) (by decide) (by decide)))).other W30 (Or.inr (slot_ne (Or.inl (hw _ (List.mem_of_getElem? (i := 79) rfl))) (Or.inr (hw _ (List.mem_of_getElem? (i := 73) rfl))) (by decide) (t := .long) (t' := .long) (by decide) (by decide)))).other W36 (Or.inr (slot_ne (Or.inl (hw _ (List.mem_of_getElem? (i := 79) rfl))) (Or.inr (hw _ (List.mem_of_getElem? (i := 75) rfl))) (by decide) (t := .long) (t' := (.object "java/util/List")) (by decide) (by decide)))).other W42 (Or.inr (slot_ne (Or.inl (hw _ (List.mem_of_getElem? (i := 79) rfl))) (Or.inl (hw _ (List.mem_of_getElem? (i := 77) rfl))) (by decide) (t := .long) (t' := (.array .byte)) (by decide) (by decide))))
  obtain ⟨T48, h48, X48, e48, W48, st48⟩ := putF X42 hx hZ hown (host := "") (Or.inl (hw _ (List.mem_of_getElem? (i := 78) rfl))) Via.refl e42 f47 f46 (Or.inl (hw _ (List.mem_of_getElem? (i := 79) rfl))) (hw _ (List.mem_of_getElem? (i := 1) rfl)) (ty := .long) (v := (.long z1)) (by decide) rfl rfl (g := (mkF m 45 #[.val (.ref a0), .val (.long z1), .second, .val (.long z2), .second, .val (.long z3), .second, .val (.ref pl), .val pd] [(.long z1), (.ref a0)])) rfl rfl (hb hby d5_45)
  refine Go.step st48 ?_
  have N48 := Fr.snoc X48 N42 g_11
  have z49 : n0 ≤ h48.size := Nat.le_trans z43 (Keep.of_wr W48).1
  have sqz49 : h0.size ≤ h48.size := Nat.le_trans sqz43 (Keep.of_wr W48).1
  have k50 : Keep h0 h48 [a0] := k44.wr W48 (Or.inl (List.mem_of_getElem? (i := 0) rfl))
  have f51 : Fld Z h48 a0 "com/example/punctual_lease/punctuallease/Node" "mzxid" "J" (.long z1) := f47.same W48
  show Go _ _ _ _ _ _ _ (T48.setTop (mkF m 48 #[.val (.ref a0), .val (.long z1), .second, .val (.long z2), .second, .val (.long z3), .second, .val (.ref pl), .val pd] []))
  refine Go.step (fun _ k => XS.aloadN X48.here hx rfl (hb hby d5_48) rfl rfl  k) ?_
  show Go _ _ _ _ _ _ _ (T48.setTop (mkF m 49 #[.val (.ref a0), .val (.long z1), .second, .val (.long z2), .second, .val (.long z3), .second, .val (.ref pl), .val pd] [(.ref a0)]))
  refine Go.step (fun _ k => XS.lloadN X48.here hx rfl (hb hby d5_49) rfl  k) ?_
  show Go _ _ _ _ _ _ _ (T48.setTop (mkF m 50 #[.val (.ref a0), .val (.long z1), .second, .val (.long z2), .second, .val (.long z3), .second, .val (.ref pl), .val pd] [(.long z2), (.ref a0)]))
  have f52 : Exa Z h48 a0 "com/example/punctual_lease/punctuallease/Node" := (f46.wr W48)
  have f53 : Fld Z h48 a0 "com/example/punctual_lease/punctuallease/Node" "mtime" "J" (.long (0 : Int64)) := (((((((((F_9.ext E2).keep K7 (ninS ne3 nin0)).other W12 (Or.inr (slot_ne (Or.inl (hw _ (List.mem_of_getElem? (i := 81) rfl))) (Or.inr (hw _ (List.mem_of_getElem? (i := 67) rfl))) (by decide) (t := .long) (t' := (.object "java/util/Set")) (by decide) (by decide)))).other W18 (Or.inr (slot_ne (Or.inl (hw _ (List.mem_of_getElem? (i := 81) rfl))) (Or.inr (hw _ (List.mem_of_getElem? (i := 69) rfl))) (by decide) (t := .long) (t' := .long) (by decide) (by decide)))).other W24 (Or.inr (slot_ne (Or.inl (hw _ (List.mem_of_getElem? (i := 81) rfl))) (Or.inr (hw _ (List.mem_of_getElem? (i := 71) rfl))) (by decide) (t := .long) (t' := .long) (by decide) (by decide)))).other W30 (Or.inr (slot_ne (Or.inl (hw _ (List.mem_of_getElem? (i := 81) rfl))) (Or.inr (hw _ (List.mem_of_getElem? (i := 73) rfl))) (by decide) (t := .long) (t' := .long) (by decide) (by decide)))).other W36 (Or.inr (slot_ne (Or.inl (hw _ (List.mem_of_getElem? (i := 81) rfl))) (Or.inr (hw _ (List.mem_of_getElem? (i := 75) rfl))) (by decide) (t := .long) (t' := (.object "java/util/List")) (by decide) (by decide)))).other W42 (Or.inr (slot_ne (Or.inl (hw _ (List.mem_of_getElem? (i := 81) rfl))) (Or.inl (hw _ (List.mem_of_getElem? (i := 77) rfl))) (by decide) (t := .long) (t' := (.array .byte)) (by decide) (by decide)))).other W48 (Or.inr (slot_ne (Or.inl (hw _ (List.mem_of_getElem? (i := 81) rfl))) (Or.inl (hw _ (List.mem_of_getElem? (i := 79) rfl))) (by decide) (t := .long) (t' := .long) (by decide) (by decide))))
  obtain ⟨T54, h54, X54, e54, W54, st54⟩ := putF X48 hx hZ hown (host := "") (Or.inl (hw _ (List.mem_of_getElem? (i := 80) rfl))) Via.refl e48 f53 f52 (Or.inl (hw _ (List.mem_of_getElem? (i := 81) rfl))) (hw _ (List.mem_of_getElem? (i := 1) rfl)) (ty := .long) (v := (.long z2)) (by decide) rfl rfl (g := (mkF m 50 #[.val (.ref a0), .val (.long z1), .second, .val (.long z2), .second, .val (.long z3), .second, .val (.ref pl), .val pd] [(.long z2), (.ref a0)])) rfl rfl (hb hby d5_50)
  refine Go.step st54 ?_
  have N54 := Fr.snoc X54 N48 g_11
  have z55 : n0 ≤ h54.size := Nat.le_trans z49 (Keep.of_wr W54).1
  have sqz55 : h0.size ≤ h54.size := Nat.le_trans sqz49 (Keep.of_wr W54).1
  have k56 : Keep h0 h54 [a0] := k50.wr W54 (Or.inl (List.mem_of_getElem? (i := 0) rfl))
  have f57 : Fld Z h54 a0 "com/example/punctual_lease/punctuallease/Node" "mtime" "J" (.long z2) := f53.same W54
  show Go _ _ _ _ _ _ _ (T54.setTop (mkF m 53 #[.val (.ref a0), .val (.long z1), .second, .val (.long z2), .second, .val (.long z3), .second, .val (.ref pl), .val pd] []))
  refine Go.step (fun _ k => XS.aloadN X54.here hx rfl (hb hby d5_53) rfl rfl  k) ?_
  show Go _ _ _ _ _ _ _ (T54.setTop (mkF m 54 #[.val (.ref a0), .val (.long z1), .second, .val (.long z2), .second, .val (.long z3), .second, .val (.ref pl), .val pd] [(.ref a0)]))
  refine Go.step (fun _ k => XS.lloadN X54.here hx rfl (hb hby d5_54) rfl  k) ?_
  show Go _ _ _ _ _ _ _ (T54.setTop (mkF m 55 #[.val (.ref a0), .val (.long z1), .second, .val (.long z2), .second, .val (.long z3), .second, .val (.ref pl), .val pd] [(.long z1), (.ref a0)]))
  have f58 : Exa Z h54 a0 "com/example/punctual_lease/punctuallease/Node" := (f52.wr W54)
  have f59 : Fld Z h54 a0 "com/example/punctual_lease/punctuallease/Node" "pzxid" "J" (.long (0 : Int64)) := ((((((((((F_10.ext E2).keep K7 (ninS ne3 nin0)).other W12 (Or.inr (slot_ne (Or.inl (hw _ (List.mem_of_getElem? (i := 83) rfl))) (Or.inr (hw _ (List.mem_of_getElem? (i := 67) rfl))) (by decide) (t := .long) (t' := (.object "java/util/Set")) (by decide) (by decide)))).other W18 (Or.inr (slot_ne (Or.inl (hw _ (List.mem_of_getElem? (i := 83) rfl))) (Or.inr (hw _ (List.mem_of_getElem? (i := 69) rfl))) (by decide) (t := .long) (t' := .long) (by decide) (by decide)))).other W24 (Or.inr (slot_ne (Or.inl (hw _ (List.mem_of_getElem? (i := 83) rfl))) (Or.inr (hw _ (List.mem_of_getElem? (i := 71) rfl))) (by decide) (t := .long) (t' := .long) (by decide) (by decide)))).other W30 (Or.inr (slot_ne (Or.inl (hw _ (List.mem_of_getElem? (i := 83) rfl))) (Or.inr (hw _ (List.mem_of_getElem? (i := 73) rfl))) (by decide) (t := .long) (t' := .long) (by decide) (by decide)))).other W36 (Or.inr (slot_ne (Or.inl (hw _ (List.mem_of_getElem? (i := 83) rfl))) (Or.inr (hw _ (List.mem_of_getElem? (i := 75) rfl))) (by decide) (t := .long) (t' := (.object "java/util/List")) (by decide) (by decide)))).other W42 (Or.inr (slot_ne (Or.inl (hw _ (List.mem_of_getElem? (i := 83) rfl))) (Or.inl (hw _ (List.mem_of_getElem? (i := 77) rfl))) (by decide) (t := .long) (t' := (.array .byte)) (by decide) (by decide)))).other W48 (Or.inr (slot_ne (Or.inl (hw _ (List.mem_of_getElem? (i := 83) rfl))) (Or.inl (hw _ (List.mem_of_getElem? (i := 79) rfl))) (by decide) (t := .long) (t' := .long) (by decide) (by decide)))).other W54 (Or.inr (slot_ne (Or.inl (hw _ (List.mem_of_getElem? (i := 83) rfl))) (Or.inl (hw _ (List.mem_of_getElem? (i := 81) rfl))) (by decide) (t := .long) (t' := .long) (by decide) (by decide))))
  obtain ⟨T60, h60, X60, e60, W60, st60⟩ := putF X54 hx hZ hown (host := "") (Or.inl (hw _ (List.mem_of_getElem? (i := 82) rfl))) Via.refl e54 f59 f58 (Or.inl (hw _ (List.mem_of_getElem? (i := 83) rfl))) (hw _ (List.mem_of_getElem? (i := 1) rfl)) (ty := .long) (v := (.long z1)) (by decide) rfl rfl (g := (mkF m 55 #[.val (.ref a0), .val (.long z1), .second, .val (.long z2), .second, .val (.long z3), .second, .val (.ref pl), .val pd] [(.long z1), (.ref a0)])) rfl rfl (hb hby d5_55)
  refine Go.step st60 ?_
  have N60 := Fr.snoc X60 N54 g_11
  have z61 : n0 ≤ h60.size := Nat.le_trans z55 (Keep.of_wr W60).1
  have sqz61 : h0.size ≤ h60.size := Nat.le_trans sqz55 (Keep.of_wr W60).1
  have k62 : Keep h0 h60 [a0] := k56.wr W60 (Or.inl (List.mem_of_getElem? (i := 0) rfl))
  have f63 : Fld Z h60 a0 "com/example/punctual_lease/punctuallease/Node" "pzxid" "J" (.long z1) := f59.same W60
  show Go _ _ _ _ _ _ _ (T60.setTop (mkF m 58 #[.val (.ref a0), .val (.long z1), .second, .val (.long z2), .second, .val (.long z3), .second, .val (.ref pl), .val pd] []))
  have f64 : Exa Z h60 a0 "com/example/punctual_lease/punctuallease/Node" := (f58.wr W60)
  have f65 : Fld Z h60 a0 "com/example/punctual_lease/punctuallease/Node" "ephemeralOwner" "J" (.long z3) := (((((f33.other W36 (Or.inr (slot_ne (Or.inr (hw _ (List.mem_of_getElem? (i := 73) rfl))) (Or.inr (hw _ (List.mem_of_getElem? (i := 75) rfl))) (by decide) (t := .long) (t' := (.object "java/util/List")) (by decide) (by decide)))).other W42 (Or.inr (slot_ne (Or.inr (hw _ (List.mem_of_getElem? (i := 73) rfl))) (Or.inl (hw _ (List.mem_of_getElem? (i := 77) rfl))) (by decide) (t := .long) (t' := (.array .byte)) (by decide) (by decide)))).other W48 (Or.inr (slot_ne (Or.inr (hw _ (List.mem_of_getElem? (i := 73) rfl))) (Or.inl (hw _ (List.mem_of_getElem? (i := 79) rfl))) (by decide) (t := .long) (t' := .long) (by decide) (by decide)))).other W54 (Or.inr (slot_ne (Or.inr (hw _ (List.mem_of_getElem? (i := 73) rfl))) (Or.inl (hw _ (List.mem_of_getElem? (i := 81) rfl))) (by decide) (t := .long) (t' := .long) (by decide) (by decide)))).other W60 (Or.inr (slot_ne (Or.inr (hw _ (List.mem_of_getElem? (i := 73) rfl))) (Or.inl (hw _ (List.mem_of_getElem? (i := 83) rfl))) (by decide) (t := .long) (t' := .long) (by decide) (by decide))))
  have f66 : Fld Z h60 a0 "com/example/punctual_lease/punctuallease/Node" "data" "[B" pd := (((f45.other W48 (Or.inr (slot_ne (Or.inl (hw _ (List.mem_of_getElem? (i := 77) rfl))) (Or.inl (hw _ (List.mem_of_getElem? (i := 79) rfl))) (by decide) (t := (.array .byte)) (t' := .long) (by decide) (by decide)))).other W54 (Or.inr (slot_ne (Or.inl (hw _ (List.mem_of_getElem? (i := 77) rfl))) (Or.inl (hw _ (List.mem_of_getElem? (i := 81) rfl))) (by decide) (t := (.array .byte)) (t' := .long) (by decide) (by decide)))).other W60 (Or.inr (slot_ne (Or.inl (hw _ (List.mem_of_getElem? (i := 77) rfl))) (Or.inl (hw _ (List.mem_of_getElem? (i := 83) rfl))) (by decide) (t := (.array .byte)) (t' := .long) (by decide) (by decide))))
  refine Go.retV X60 hx Bd.returns hlk (hb hby d5_58) ?_ (by decide) (by decide)
  rw [e60]
  exact ⟨(rfl), N60, k62, f64, f65, f66⟩
theorem d10_0 : decode prog_5_method_3_code 0 = .ok (.aload_n 0, 1) := by decide +kernel
theorem d10_1 : decode prog_5_method_3_code 1 = .ok (.getfield 30, 3) := by decide +kernel
theorem d10_4 : decode prog_5_method_3_code 4 = .ok (.ifnonnull 7, 3) := by decide +kernel
theorem d10_7 : decode prog_5_method_3_code 7 = .ok (.iconst 0, 1) := by decide +kernel
theorem d10_8 : decode prog_5_method_3_code 8 = .ok (.goto 8, 3) := by decide +kernel
theorem d10_16 : decode prog_5_method_3_code 16 = .ok (.ireturn, 1) := by decide +kernel
theorem ef_10n (m : MethodId) (a0 : Addr) : entryFrame m #[(.ref a0)] 1 = mkF m 0 #[.val (.ref a0)] [] := by first | (simp [entryFrame, mkF, argsToLocals, Value.category]; done) | rfl
def Q10n (Z : State) (a0 : Addr) (h0 : Heap) (n0 : Nat) (v : Option Value) (h : Heap) (L : List Loc) : Prop := (v = some (.int (0 : Int32))) ∧ (Fr n0 L) ∧ (h = h0)
set_option maxRecDepth 65536 in
set_option maxHeartbeats 40000000 in
theorem rm10n (l : Launch) (Z : State) (aZ : Array Value) (hw : ∀ d ∈ tables_1, d.before aZ Z = true) (ws : List Jvm.Cond) (a0 : Addr) (h0 : Heap) (n0 : Nat) (Z0 : n0 ≤ h0.size) (F_0 : Fld Z h0 a0 "com/example/punctual_lease/punctuallease/Node" "data" "[B" .null) :
    MetFree l (⟨"com/example/punctual_lease/punctuallease/Node", "dataLength", "()I"⟩ : MethodName) (head1 (Jvm.Cond.code (⟨"com/example/punctual_lease/punctuallease/Node", "dataLength", "()I"⟩ : MethodName) prog_5_method_3_code 1 (some .int) :: ws) ({ frames := 0, cells := 0, slots := 0, locals := 0 } : Room)) (fun a U => a = #[(.ref a0)] ∧ Z.Warmed39 U.vm ∧ U.heap = h0) (fun _ _ _ _ _ => True) (fun _ U o U' => ∃ v L, o = .returned v ∧ Q10n Z a0 h0 n0 v U'.heap L ∧ FrameEnd U o U' L ({ frames := 0, cells := 0, slots := 0, locals := 0 } : Room).cells ({ frames := 0, cells := 0, slots := 0, locals := 0 } : Room).slots) := by
  refine MetFree.of_bodySF (plainFor_of_name pn_7) hisR ?_
  intro p e s m args below meth c s₁ Bd hml0 hP hK
  obtain ⟨rfl, hZ, hh⟩ := hP
  have hx := Bd.exec
  have hby := Bd.bytes
  have hml : c.maxLocals = 1 := hml0
  have hown : s.vm.findClass "com/example/punctual_lease/punctuallease/Node" = some m.cls := findClass_of_methodNamed Bd.named
  have hnm := (name_of_methodNamed Bd.named Bd.method).1
  have hlk : meth.locks = false := BodyLoose.notSynchronized Bd
  have X0 : Stand p l e ({ frames := 0, cells := 0, slots := 0, locals := 0 } : Room) s m #[(.ref a0)] below meth c s₁ [] 0 0 := Stand.of_body Bd
  have e0 : s₁.heap = h0 := by rw [← hh, Bd.state]; rfl
  have N0 := Fr.nil n0
  have sq0 : h0.size ≤ h0.size := Nat.le_refl _
  change Go p e below s ({ frames := 0, cells := 0, slots := 0, locals := 0 } : Room).cells ({ frames := 0, cells := 0, slots := 0, locals := 0 } : Room).slots (Q10n Z a0 h0 n0) (s₁.setTop (entryFrame m #[(.ref a0)] 1))
  rw [ef_10n m a0]
  show Go _ _ _ _ _ _ _ (s₁.setTop (mkF m 0 #[.val (.ref a0)] []))
  refine Go.step (fun _ k => XS.aloadN X0.here hx rfl (hb hby d10_0) rfl rfl  k) ?_
  show Go _ _ _ _ _ _ _ (s₁.setTop (mkF m 1 #[.val (.ref a0)] [(.ref a0)]))
  obtain ⟨T1, X1, e1, st1⟩ := getF X0 hx hZ hown (host := "") (Or.inl (hw _ (List.mem_of_getElem? (i := 76) rfl))) Via.refl e0 F_0 (g := (mkF m 1 #[.val (.ref a0)] [(.ref a0)])) rfl rfl (hb hby d10_1)
  refine Go.step st1 ?_
  show Go _ _ _ _ _ _ _ (T1.setTop (mkF m 4 #[.val (.ref a0)] [.null]))
  refine Go.step (fun _ k => XS.ifnonnullNo X1.here hx rfl (hb hby d10_4) rfl k) ?_
  show Go _ _ _ _ _ _ _ (T1.setTop (mkF m 7 #[.val (.ref a0)] []))
  refine Go.step (fun _ k => XS.iconst X1.here hx rfl (hb hby d10_7) k) ?_
  show Go _ _ _ _ _ _ _ (T1.setTop (mkF m 8 #[.val (.ref a0)] [(.int (0 : Int32))]))
  refine Go.step (fun _ k => XS.goto X1.here hx rfl (pc0 := 8) (pc' := 16) rfl (hb hby d10_8) (by decide) (by decide) k) ?_
  show Go _ _ _ _ _ _ _ (T1.setTop (mkF m 16 #[.val (.ref a0)] [(.int (0 : Int32))]))
  refine Go.retI X1 hx Bd.returns hlk (hb hby d10_16) ?_ (by decide) (by decide)
  rw [e1]
  exact ⟨(rfl), N0, rfl⟩
theorem d10_11 : decode prog_5_method_3_code 11 = .ok (.aload_n 0, 1) := by decide +kernel
theorem d10_12 : decode prog_5_method_3_code 12 = .ok (.getfield 30, 3) := by decide +kernel
theorem d10_15 : decode prog_5_method_3_code 15 = .ok (.arraylength, 1) := by decide +kernel
theorem ef_10a (m : MethodId) (a0 : Addr) : entryFrame m #[(.ref a0)] 1 = mkF m 0 #[.val (.ref a0)] [] := by first | (simp [entryFrame, mkF, argsToLocals, Value.category]; done) | rfl
def Q10a (Z : State) (a0 : Addr) (b1 : Addr) (z1 : Int32) (f1 : Int32 → Int32) (h0 : Heap) (n0 : Nat) (v : Option Value) (h : Heap) (L : List Loc) : Prop := (v = some (.int z1)) ∧ (Fr n0 L) ∧ (h = h0)
set_option maxRecDepth 65536 in
set_option maxHeartbeats 40000000 in
theorem rm10a (l : Launch) (Z : State) (aZ : Array Value) (hw : ∀ d ∈ tables_1, d.before aZ Z = true) (ws : List Jvm.Cond) (a0 : Addr) (b1 : Addr) (z1 : Int32) (f1 : Int32 → Int32) (h0 : Heap) (n0 : Nat) (Z0 : n0 ≤ h0.size) (F_0 : Fld Z h0 a0 "com/example/punctual_lease/punctuallease/Node" "data" "[B" (.ref b1)) (A_1 : Ai Z h0 b1 .byte z1 f1) :
    MetFree l (⟨"com/example/punctual_lease/punctuallease/Node", "dataLength", "()I"⟩ : MethodName) (head1 (Jvm.Cond.code (⟨"com/example/punctual_lease/punctuallease/Node", "dataLength", "()I"⟩ : MethodName) prog_5_method_3_code 1 (some .int) :: ws) ({ frames := 0, cells := 0, slots := 0, locals := 0 } : Room)) (fun a U => a = #[(.ref a0)] ∧ Z.Warmed39 U.vm ∧ U.heap = h0) (fun _ _ _ _ _ => True) (fun _ U o U' => ∃ v L, o = .returned v ∧ Q10a Z a0 b1 z1 f1 h0 n0 v U'.heap L ∧ FrameEnd U o U' L ({ frames := 0, cells := 0, slots := 0, locals := 0 } : Room).cells ({ frames := 0, cells := 0, slots := 0, locals := 0 } : Room).slots) := by
  refine MetFree.of_bodySF (plainFor_of_name pn_7) hisR ?_
  intro p e s m args below meth c s₁ Bd hml0 hP hK
  obtain ⟨rfl, hZ, hh⟩ := hP
  have hx := Bd.exec
  have hby := Bd.bytes
  have hml : c.maxLocals = 1 := hml0
  have hown : s.vm.findClass "com/example/punctual_lease/punctuallease/Node" = some m.cls := findClass_of_methodNamed Bd.named
  have hnm := (name_of_methodNamed Bd.named Bd.method).1
  have hlk : meth.locks = false := BodyLoose.notSynchronized Bd
  have X0 : Stand p l e ({ frames := 0, cells := 0, slots := 0, locals := 0 } : Room) s m #[(.ref a0)] below meth c s₁ [] 0 0 := Stand.of_body Bd
  have e0 : s₁.heap = h0 := by rw [← hh, Bd.state]; rfl
  have N0 := Fr.nil n0
  have sq0 : h0.size ≤ h0.size := Nat.le_refl _
  change Go p e below s ({ frames := 0, cells := 0, slots := 0, locals := 0 } : Room).cells ({ frames := 0, cells := 0, slots := 0, locals := 0 } : Room).slots (Q10a Z a0 b1 z1 f1 h0 n0) (s₁.setTop (entryFrame m #[(.ref a0)] 1))
  rw [ef_10a m a0]
  show Go _ _ _ _ _ _ _ (s₁.setTop (mkF m 0 #[.val (.ref a0)] []))
  refine Go.step (fun _ k => XS.aloadN X0.here hx rfl (hb hby d10_0) rfl rfl  k) ?_
  show Go _ _ _ _ _ _ _ (s₁.setTop (mkF m 1 #[.val (.ref a0)] [(.ref a0)]))
  obtain ⟨T1, X1, e1, st1⟩ := getF X0 hx hZ hown (host := "") (Or.inl (hw _ (List.mem_of_getElem? (i := 76) rfl))) Via.refl e0 F_0 (g := (mkF m 1 #[.val (.ref a0)] [(.ref a0)])) rfl rfl (hb hby d10_1)
  refine Go.step st1 ?_
  show Go _ _ _ _ _ _ _ (T1.setTop (mkF m 4 #[.val (.ref a0)] [(.ref b1)]))
  refine Go.step (fun _ k => XS.ifnonnullYes X1.here hx rfl (pc0 := 4) (pc' := 11) rfl (hb hby d10_4) rfl (by decide) (by decide) k) ?_
  show Go _ _ _ _ _ _ _ (T1.setTop (mkF m 11 #[.val (.ref a0)] []))
  refine Go.step (fun _ k => XS.aloadN X1.here hx rfl (hb hby d10_11) rfl rfl  k) ?_
  show Go _ _ _ _ _ _ _ (T1.setTop (mkF m 12 #[.val (.ref a0)] [(.ref a0)]))
  obtain ⟨T2, X2, e2, st2⟩ := getF X1 hx hZ hown (host := "") (Or.inl (hw _ (List.mem_of_getElem? (i := 76) rfl))) Via.refl e1 F_0 (g := (mkF m 12 #[.val (.ref a0)] [(.ref a0)])) rfl rfl (hb hby d10_12)
  refine Go.step st2 ?_
  show Go _ _ _ _ _ _ _ (T2.setTop (mkF m 15 #[.val (.ref a0)] [(.ref b1)]))
  refine Go.step (Ai.len X2 hx hZ e2 A_1 (g := (mkF m 15 #[.val (.ref a0)] [(.ref b1)])) rfl rfl (hb hby d10_15)) ?_
  show Go _ _ _ _ _ _ _ (T2.setTop (mkF m 16 #[.val (.ref a0)] [(.int z1)]))
  refine Go.retI X2 hx Bd.returns hlk (hb hby d10_16) ?_ (by decide) (by decide)
  rw [e2]
  exact ⟨(rfl), N0, rfl⟩
theorem pn_8 : plainName "com/example/punctual_lease/punctuallease/NodeDataLengthPinLaw" = true := by first | (simp [plainName, overriddenIn]; done) | decide +kernel
theorem pd_1 : parseMethodDescriptor "(JJJLjava/util/List;[B)V" = some ⟨[.long, .long, .long, (.object "java/util/List"), (.array .byte)], none⟩ := by decide +kernel
theorem pd_2 : parseMethodDescriptor "()I" = some ⟨[], some .int⟩ := by decide +kernel
theorem ef_0 (m : MethodId) (zx : Int64) (zn : Int64) (zo : Int64) (qn : Int32) (qm : Int32) (qf : Int32) : entryFrame m #[(.long zx), (.long zn), (.long zo), (.int qn), (.int qm), (.int qf)] maxLocals = mkF m 0 #[.val (.long zx), .second, .val (.long zn), .second, .val (.long zo), .second, .val (.int qn), .val (.int qm), .val (.int qf), .unset, .unset, .unset, .unset, .unset, .unset, .unset, .unset, .unset, .unset, .unset] [] := by first | (simp [entryFrame, mkF, argsToLocals, Value.category, maxLocals]; done) | rfl
def Q0 (Z : State) (zx : Int64) (zn : Int64) (zo : Int64) (qn : Int32) (qm : Int32) (qf : Int32) (w0 : Addr) (h0 : Heap) (n0 : Nat) (v : Option Value) (h : Heap) (L : List Loc) : Prop := (v = some (.int 1)) ∧ (Fr n0 L)
set_option maxRecDepth 65536 in
set_option maxHeartbeats 40000000 in
theorem rm0 (l : Launch) (Z : State) (aZ : Array Value) (hw : ∀ d ∈ tables_1, d.before aZ Z = true) (ws : List Jvm.Cond) (zx : Int64) (zn : Int64) (zo : Int64) (qn : Int32) (qm : Int32) (qf : Int32) (w0 : Addr) (h0 : Heap) (n0 : Nat) (Z0 : n0 ≤ h0.size) (O_0 : Old Z n0 h0) (S_1 : Sta Z Z.heap "java/util/ArrayList" "DEFAULTCAPACITY_EMPTY_ELEMENTDATA" "[Ljava/lang/Object;" (.ref w0)) :
    MetFree l x (head1 (Jvm.Cond.code x code maxLocals ret :: ws) room_1) (fun a U => a = #[(.long zx), (.long zn), (.long zo), (.int qn), (.int qm), (.int qf)] ∧ Z.Warmed39 U.vm ∧ U.heap = h0) (fun _ _ _ _ _ => True) (fun _ U o U' => ∃ v L, o = .returned v ∧ Q0 Z zx zn zo qn qm qf w0 h0 n0 v U'.heap L ∧ FrameEnd U o U' L 6 86) := by
  refine MetFree.of_bodySF (plainFor_of_name pn_8) hisR ?_
  intro p e s m args below meth c s₁ Bd hml0 hP hK
  obtain ⟨rfl, hZ, hh⟩ := hP
  have hx := Bd.exec
  have hby := Bd.bytes
  have hml : c.maxLocals = 20 := hml0
  have hown : s.vm.findClass "com/example/punctual_lease/punctuallease/NodeDataLengthPinLaw" = some m.cls := findClass_of_methodNamed Bd.named
  have hnm := (name_of_methodNamed Bd.named Bd.method).1
  have hlk : meth.locks = false := BodyLoose.notSynchronized Bd
  have X0 : Stand p l e room_1 s m #[(.long zx), (.long zn), (.long zo), (.int qn), (.int qm), (.int qf)] below meth c s₁ [] 0 0 := Stand.of_body Bd
  have e0 : s₁.heap = h0 := by rw [← hh, Bd.state]; rfl
  have N0 := Fr.nil n0
  have sq0 : h0.size ≤ h0.size := Nat.le_refl _
  change Go p e below s 6 86 (Q0 Z zx zn zo qn qm qf w0 h0 n0) (s₁.setTop (entryFrame m #[(.long zx), (.long zn), (.long zo), (.int qn), (.int qm), (.int qf)] maxLocals))
  rw [ef_0 m zx zn zo qn qm qf]
  show Go _ _ _ _ _ _ _ (s₁.setTop (mkF m 0 #[.val (.long zx), .second, .val (.long zn), .second, .val (.long zo), .second, .val (.int qn), .val (.int qm), .val (.int qf), .unset, .unset, .unset, .unset, .unset, .unset, .unset, .unset, .unset, .unset, .unset] []))
  refine Go.step (fun _ k => XS.iload X0.here hx rfl (hb hby at_0) rfl  k) ?_
  show Go _ _ _ _ _ _ _ (s₁.setTop (mkF m 2 #[.val (.long zx), .second, .val (.long zn), .second, .val (.long zo), .second, .val (.int qn), .val (.int qm), .val (.int qf), .unset, .unset, .unset, .unset, .unset, .unset, .unset, .unset, .unset, .unset, .unset] [(.int qf)]))
  refine Go.step (fun _ k => XS.iconst X0.here hx rfl (hb hby at_2) k) ?_
  show Go _ _ _ _ _ _ _ (s₁.setTop (mkF m 3 #[.val (.long zx), .second, .val (.long zn), .second, .val (.long zo), .second, .val (.int qn), .val (.int qm), .val (.int qf), .unset, .unset, .unset, .unset, .unset, .unset, .unset, .unset, .unset, .unset, .unset] [(.int (1 : Int32)), (.int qf)]))
  refine Go.step (fun _ k => XS.iand X0.here hx rfl (hb hby at_3) rfl k) ?_
  show Go _ _ _ _ _ _ _ (s₁.setTop (mkF m 4 #[.val (.long zx), .second, .val (.long zn), .second, .val (.long zo), .second, .val (.int qn), .val (.int qm), .val (.int qf), .unset, .unset, .unset, .unset, .unset, .unset, .unset, .unset, .unset, .unset, .unset] [(.int (qf &&& (1 : Int32)))]))
  by_cases hc4 : (qf &&& (1 : Int32)) = (0 : Int32)
  · skip
    refine Go.step (fun _ k => XS.ifYes X0.here hx rfl (pc0 := 4) (pc' := 11) rfl (hb hby at_4) rfl ((if0 _ _).trans (teq hc4).1) (by decide) (by decide) k) ?_
    show Go _ _ _ _ _ _ _ (s₁.setTop (mkF m 11 #[.val (.long zx), .second, .val (.long zn), .second, .val (.long zo), .second, .val (.int qn), .val (.int qm), .val (.int qf), .unset, .unset, .unset, .unset, .unset, .unset, .unset, .unset, .unset, .unset, .unset] []))
    refine Go.step (fun _ k => XS.iconst X0.here hx rfl (hb hby at_11) k) ?_
    show Go _ _ _ _ _ _ _ (s₁.setTop (mkF m 12 #[.val (.long zx), .second, .val (.long zn), .second, .val (.long zo), .second, .val (.int qn), .val (.int qm), .val (.int qf), .unset, .unset, .unset, .unset, .unset, .unset, .unset, .unset, .unset, .unset, .unset] [(.int (0 : Int32))]))
    refine Go.step (fun _ k => XS.istore X0.here hx rfl (hb hby at_12) rfl (l' := #[.val (.long zx), .second, .val (.long zn), .second, .val (.long zo), .second, .val (.int qn), .val (.int qm), .val (.int qf), .val (.int (0 : Int32)), .unset, .unset, .unset, .unset, .unset, .unset, .unset, .unset, .unset, .unset]) rfl k) ?_
    show Go _ _ _ _ _ _ _ (s₁.setTop (mkF m 14 #[.val (.long zx), .second, .val (.long zn), .second, .val (.long zo), .second, .val (.int qn), .val (.int qm), .val (.int qf), .val (.int (0 : Int32)), .unset, .unset, .unset, .unset, .unset, .unset, .unset, .unset, .unset, .unset] []))
    refine Go.step (fun _ k => XS.iload X0.here hx rfl (hb hby at_14) rfl  k) ?_
    show Go _ _ _ _ _ _ _ (s₁.setTop (mkF m 16 #[.val (.long zx), .second, .val (.long zn), .second, .val (.long zo), .second, .val (.int qn), .val (.int qm), .val (.int qf), .val (.int (0 : Int32)), .unset, .unset, .unset, .unset, .unset, .unset, .unset, .unset, .unset, .unset] [(.int qf)]))
    refine Go.step (fun _ k => XS.iconst X0.here hx rfl (hb hby at_16) k) ?_
    show Go _ _ _ _ _ _ _ (s₁.setTop (mkF m 17 #[.val (.long zx), .second, .val (.long zn), .second, .val (.long zo), .second, .val (.int qn), .val (.int qm), .val (.int qf), .val (.int (0 : Int32)), .unset, .unset, .unset, .unset, .unset, .unset, .unset, .unset, .unset, .unset] [(.int (2 : Int32)), (.int qf)]))
    refine Go.step (fun _ k => XS.iand X0.here hx rfl (hb hby at_17) rfl k) ?_
    show Go _ _ _ _ _ _ _ (s₁.setTop (mkF m 18 #[.val (.long zx), .second, .val (.long zn), .second, .val (.long zo), .second, .val (.int qn), .val (.int qm), .val (.int qf), .val (.int (0 : Int32)), .unset, .unset, .unset, .unset, .unset, .unset, .unset, .unset, .unset, .unset] [(.int (qf &&& (2 : Int32)))]))
    by_cases hc18 : (qf &&& (2 : Int32)) = (0 : Int32)
    · skip
      refine Go.step (fun _ k => XS.ifYes X0.here hx rfl (pc0 := 18) (pc' := 25) rfl (hb hby at_18) rfl ((if0 _ _).trans (teq hc18).1) (by decide) (by decide) k) ?_
      show Go _ _ _ _ _ _ _ (s₁.setTop (mkF m 25 #[.val (.long zx), .second, .val (.long zn), .second, .val (.long zo), .second, .val (.int qn), .val (.int qm), .val (.int qf), .val (.int (0 : Int32)), .unset, .unset, .unset, .unset, .unset, .unset, .unset, .unset, .unset, .unset] []))
      refine Go.step (fun _ k => XS.iconst X0.here hx rfl (hb hby at_25) k) ?_
      show Go _ _ _ _ _ _ _ (s₁.setTop (mkF m 26 #[.val (.long zx), .second, .val (.long zn), .second, .val (.long zo), .second, .val (.int qn), .val (.int qm), .val (.int qf), .val (.int (0 : Int32)), .unset, .unset, .unset, .unset, .unset, .unset, .unset, .unset, .unset, .unset] [(.int (0 : Int32))]))
      refine Go.step (fun _ k => XS.istore X0.here hx rfl (hb hby at_26) rfl (l' := #[.val (.long zx), .second, .val (.long zn), .second, .val (.long zo), .second, .val (.int qn), .val (.int qm), .val (.int qf), .val (.int (0 : Int32)), .val (.int (0 : Int32)), .unset, .unset, .unset, .unset, .unset, .unset, .unset, .unset, .unset]) rfl k) ?_
      show Go _ _ _ _ _ _ _ (s₁.setTop (mkF m 28 #[.val (.long zx), .second, .val (.long zn), .second, .val (.long zo), .second, .val (.int qn), .val (.int qm), .val (.int qf), .val (.int (0 : Int32)), .val (.int (0 : Int32)), .unset, .unset, .unset, .unset, .unset, .unset, .unset, .unset, .unset] []))
      refine Go.step (fun _ k => XS.iload X0.here hx rfl (hb hby at_28) rfl  k) ?_
      show Go _ _ _ _ _ _ _ (s₁.setTop (mkF m 30 #[.val (.long zx), .second, .val (.long zn), .second, .val (.long zo), .second, .val (.int qn), .val (.int qm), .val (.int qf), .val (.int (0 : Int32)), .val (.int (0 : Int32)), .unset, .unset, .unset, .unset, .unset, .unset, .unset, .unset, .unset] [(.int qn)]))
      refine Go.step (fun _ k => XS.bipush X0.here hx rfl (hb hby at_30) k) ?_
      show Go _ _ _ _ _ _ _ (s₁.setTop (mkF m 32 #[.val (.long zx), .second, .val (.long zn), .second, .val (.long zo), .second, .val (.int qn), .val (.int qm), .val (.int qf), .val (.int (0 : Int32)), .val (.int (0 : Int32)), .unset, .unset, .unset, .unset, .unset, .unset, .unset, .unset, .unset] [(.int (31 : Int32)), (.int qn)]))
      refine Go.step (fun _ k => XS.iand X0.here hx rfl (hb hby at_32) rfl k) ?_
      show Go _ _ _ _ _ _ _ (s₁.setTop (mkF m 33 #[.val (.long zx), .second, .val (.long zn), .second, .val (.long zo), .second, .val (.int qn), .val (.int qm), .val (.int qf), .val (.int (0 : Int32)), .val (.int (0 : Int32)), .unset, .unset, .unset, .unset, .unset, .unset, .unset, .unset, .unset] [(.int (qn &&& (31 : Int32)))]))
      refine Go.step (fun _ k => XS.istore X0.here hx rfl (hb hby at_33) rfl (l' := #[.val (.long zx), .second, .val (.long zn), .second, .val (.long zo), .second, .val (.int qn), .val (.int qm), .val (.int qf), .val (.int (0 : Int32)), .val (.int (0 : Int32)), .val (.int (qn &&& (31 : Int32))), .unset, .unset, .unset, .unset, .unset, .unset, .unset, .unset]) rfl k) ?_
      show Go _ _ _ _ _ _ _ (s₁.setTop (mkF m 35 #[.val (.long zx), .second, .val (.long zn), .second, .val (.long zo), .second, .val (.int qn), .val (.int qm), .val (.int qf), .val (.int (0 : Int32)), .val (.int (0 : Int32)), .val (.int (qn &&& (31 : Int32))), .unset, .unset, .unset, .unset, .unset, .unset, .unset, .unset] []))
      refine Go.step (fun _ k => XS.iload X0.here hx rfl (hb hby at_35) rfl  k) ?_
      show Go _ _ _ _ _ _ _ (s₁.setTop (mkF m 37 #[.val (.long zx), .second, .val (.long zn), .second, .val (.long zo), .second, .val (.int qn), .val (.int qm), .val (.int qf), .val (.int (0 : Int32)), .val (.int (0 : Int32)), .val (.int (qn &&& (31 : Int32))), .unset, .unset, .unset, .unset, .unset, .unset, .unset, .unset] [(.int qm)]))
      refine Go.step (fun _ k => XS.bipush X0.here hx rfl (hb hby at_37) k) ?_
      show Go _ _ _ _ _ _ _ (s₁.setTop (mkF m 39 #[.val (.long zx), .second, .val (.long zn), .second, .val (.long zo), .second, .val (.int qn), .val (.int qm), .val (.int qf), .val (.int (0 : Int32)), .val (.int (0 : Int32)), .val (.int (qn &&& (31 : Int32))), .unset, .unset, .unset, .unset, .unset, .unset, .unset, .unset] [(.int (31 : Int32)), (.int qm)]))
      refine Go.step (fun _ k => XS.iand X0.here hx rfl (hb hby at_39) rfl k) ?_
      show Go _ _ _ _ _ _ _ (s₁.setTop (mkF m 40 #[.val (.long zx), .second, .val (.long zn), .second, .val (.long zo), .second, .val (.int qn), .val (.int qm), .val (.int qf), .val (.int (0 : Int32)), .val (.int (0 : Int32)), .val (.int (qn &&& (31 : Int32))), .unset, .unset, .unset, .unset, .unset, .unset, .unset, .unset] [(.int (qm &&& (31 : Int32)))]))
      refine Go.step (fun _ k => XS.istore X0.here hx rfl (hb hby at_40) rfl (l' := #[.val (.long zx), .second, .val (.long zn), .second, .val (.long zo), .second, .val (.int qn), .val (.int qm), .val (.int qf), .val (.int (0 : Int32)), .val (.int (0 : Int32)), .val (.int (qn &&& (31 : Int32))), .val (.int (qm &&& (31 : Int32))), .unset, .unset, .unset, .unset, .unset, .unset, .unset]) rfl k) ?_
      show Go _ _ _ _ _ _ _ (s₁.setTop (mkF m 42 #[.val (.long zx), .second, .val (.long zn), .second, .val (.long zo), .second, .val (.int qn), .val (.int qm), .val (.int qf), .val (.int (0 : Int32)), .val (.int (0 : Int32)), .val (.int (qn &&& (31 : Int32))), .val (.int (qm &&& (31 : Int32))), .unset, .unset, .unset, .unset, .unset, .unset, .unset] []))
      refine Go.step (fun _ k => XS.iload X0.here hx rfl (hb hby at_42) rfl  k) ?_
      show Go _ _ _ _ _ _ _ (s₁.setTop (mkF m 44 #[.val (.long zx), .second, .val (.long zn), .second, .val (.long zo), .second, .val (.int qn), .val (.int qm), .val (.int qf), .val (.int (0 : Int32)), .val (.int (0 : Int32)), .val (.int (qn &&& (31 : Int32))), .val (.int (qm &&& (31 : Int32))), .unset, .unset, .unset, .unset, .unset, .unset, .unset] [(.int (0 : Int32))]))
      have hc44 : (0 : Int32) = (0 : Int32) := by decide
      refine Go.step (fun _ k => XS.ifYes X0.here hx rfl (pc0 := 44) (pc' := 51) rfl (hb hby at_44) rfl ((if0 _ _).trans (teq hc44).1) (by decide) (by decide) k) ?_
      show Go _ _ _ _ _ _ _ (s₁.setTop (mkF m 51 #[.val (.long zx), .second, .val (.long zn), .second, .val (.long zo), .second, .val (.int qn), .val (.int qm), .val (.int qf), .val (.int (0 : Int32)), .val (.int (0 : Int32)), .val (.int (qn &&& (31 : Int32))), .val (.int (qm &&& (31 : Int32))), .unset, .unset, .unset, .unset, .unset, .unset, .unset] []))
      refine Go.step (fun _ k => XS.iload X0.here hx rfl (hb hby at_51) rfl  k) ?_
      show Go _ _ _ _ _ _ _ (s₁.setTop (mkF m 53 #[.val (.long zx), .second, .val (.long zn), .second, .val (.long zo), .second, .val (.int qn), .val (.int qm), .val (.int qf), .val (.int (0 : Int32)), .val (.int (0 : Int32)), .val (.int (qn &&& (31 : Int32))), .val (.int (qm &&& (31 : Int32))), .unset, .unset, .unset, .unset, .unset, .unset, .unset] [(.int (qn &&& (31 : Int32)))]))
      have ng1 : ¬ (qn &&& (31 : Int32)) < 0 := (own_n31 _).1
      have lc1 : ((qn &&& (31 : Int32))).toNatClampNeg ≤ 31 := (own_n31 _).2
      obtain ⟨T1, h1, k1, X1, e1, E1, A1, st1⟩ := newP X0 hx hZ (hw _ (List.mem_of_getElem? (i := 90) rfl)) e0 (g := (mkF m 53 #[.val (.long zx), .second, .val (.long zn), .second, .val (.long zo), .second, .val (.int qn), .val (.int qm), .val (.int qf), .val (.int (0 : Int32)), .val (.int (0 : Int32)), .val (.int (qn &&& (31 : Int32))), .val (.int (qm &&& (31 : Int32))), .unset, .unset, .unset, .unset, .unset, .unset, .unset] [(.int (qn &&& (31 : Int32)))])) rfl (hb hby at_53) rfl ng1 (cap := 31) lc1 (by decide) (by decide) (by decide)
      obtain ⟨b1, g1⟩ : ∃ z, z = h0.size := ⟨_, rfl⟩
      rw [← g1] at A1 st1
      refine Go.step st1 ?_
      have gn1 : n0 ≤ b1 := Nat.le_trans Z0 (Nat.le_of_eq g1.symm)
      have sz1 : h0.size ≤ b1 := Nat.le_trans sq0 (Nat.le_of_eq g1.symm)
      have z2 : n0 ≤ h1.size := Nat.le_trans Z0 E1.1
      have sqz2 : h0.size ≤ h1.size := Nat.le_trans sq0 E1.1
      have f4 : Ai Z h1 b1 .byte (qn &&& (31 : Int32)) (fun _ => 0) := Ai.new A1 ng1 rfl
      show Go _ _ _ _ _ _ _ (T1.setTop (mkF m 55 #[.val (.long zx), .second, .val (.long zn), .second, .val (.long zo), .second, .val (.int qn), .val (.int qm), .val (.int qf), .val (.int (0 : Int32)), .val (.int (0 : Int32)), .val (.int (qn &&& (31 : Int32))), .val (.int (qm &&& (31 : Int32))), .unset, .unset, .unset, .unset, .unset, .unset, .unset] [(.ref b1)]))
      refine Go.step (fun _ k => XS.astore X1.here hx rfl (hb hby at_55) rfl rfl (l' := #[.val (.long zx), .second, .val (.long zn), .second, .val (.long zo), .second, .val (.int qn), .val (.int qm), .val (.int qf), .val (.int (0 : Int32)), .val (.int (0 : Int32)), .val (.int (qn &&& (31 : Int32))), .val (.int (qm &&& (31 : Int32))), .val (.ref b1), .unset, .unset, .unset, .unset, .unset, .unset]) rfl k) ?_
      show Go _ _ _ _ _ _ _ (T1.setTop (mkF m 57 #[.val (.long zx), .second, .val (.long zn), .second, .val (.long zo), .second, .val (.int qn), .val (.int qm), .val (.int qf), .val (.int (0 : Int32)), .val (.int (0 : Int32)), .val (.int (qn &&& (31 : Int32))), .val (.int (qm &&& (31 : Int32))), .val (.ref b1), .unset, .unset, .unset, .unset, .unset, .unset] []))
      refine Go.step (fun _ k => XS.iload X1.here hx rfl (hb hby at_57) rfl  k) ?_
      show Go _ _ _ _ _ _ _ (T1.setTop (mkF m 59 #[.val (.long zx), .second, .val (.long zn), .second, .val (.long zo), .second, .val (.int qn), .val (.int qm), .val (.int qf), .val (.int (0 : Int32)), .val (.int (0 : Int32)), .val (.int (qn &&& (31 : Int32))), .val (.int (qm &&& (31 : Int32))), .val (.ref b1), .unset, .unset, .unset, .unset, .unset, .unset] [(.int (0 : Int32))]))
      have hc59 : (0 : Int32) = (0 : Int32) := hc44
      refine Go.step (fun _ k => XS.ifYes X1.here hx rfl (pc0 := 59) (pc' := 66) rfl (hb hby at_59) rfl ((if0 _ _).trans (teq hc59).1) (by decide) (by decide) k) ?_
      show Go _ _ _ _ _ _ _ (T1.setTop (mkF m 66 #[.val (.long zx), .second, .val (.long zn), .second, .val (.long zo), .second, .val (.int qn), .val (.int qm), .val (.int qf), .val (.int (0 : Int32)), .val (.int (0 : Int32)), .val (.int (qn &&& (31 : Int32))), .val (.int (qm &&& (31 : Int32))), .val (.ref b1), .unset, .unset, .unset, .unset, .unset, .unset] []))
      refine Go.step (fun _ k => XS.iload X1.here hx rfl (hb hby at_66) rfl  k) ?_
      show Go _ _ _ _ _ _ _ (T1.setTop (mkF m 68 #[.val (.long zx), .second, .val (.long zn), .second, .val (.long zo), .second, .val (.int qn), .val (.int qm), .val (.int qf), .val (.int (0 : Int32)), .val (.int (0 : Int32)), .val (.int (qn &&& (31 : Int32))), .val (.int (qm &&& (31 : Int32))), .val (.ref b1), .unset, .unset, .unset, .unset, .unset, .unset] [(.int (qm &&& (31 : Int32)))]))
      have ng5 : ¬ (qm &&& (31 : Int32)) < 0 := (own_n31 _).1
      have lc5 : ((qm &&& (31 : Int32))).toNatClampNeg ≤ 31 := (own_n31 _).2
      obtain ⟨T5, h5, k5, X5, e5, E5, A5, st5⟩ := newP X1 hx hZ (hw _ (List.mem_of_getElem? (i := 90) rfl)) e1 (g := (mkF m 68 #[.val (.long zx), .second, .val (.long zn), .second, .val (.long zo), .second, .val (.int qn), .val (.int qm), .val (.int qf), .val (.int (0 : Int32)), .val (.int (0 : Int32)), .val (.int (qn &&& (31 : Int32))), .val (.int (qm &&& (31 : Int32))), .val (.ref b1), .unset, .unset, .unset, .unset, .unset, .unset] [(.int (qm &&& (31 : Int32)))])) rfl (hb hby at_68) rfl ng5 (cap := 31) lc5 (by decide) (by decide) (by decide)
      obtain ⟨b5, g5⟩ : ∃ z, z = h1.size := ⟨_, rfl⟩
      rw [← g5] at A5 st5
      refine Go.step st5 ?_
      have gn5 : n0 ≤ b5 := Nat.le_trans z2 (Nat.le_of_eq g5.symm)
      have sz5 : h0.size ≤ b5 := Nat.le_trans sqz2 (Nat.le_of_eq g5.symm)
      have ne6 : b1 ≠ b5 := Nat.ne_of_lt (Nat.lt_of_lt_of_le f4.lt (Nat.le_of_eq g5.symm))
      have z7 : n0 ≤ h5.size := Nat.le_trans z2 E5.1
      have sqz7 : h0.size ≤ h5.size := Nat.le_trans sqz2 E5.1
      have f9 : Ai Z h5 b5 .byte (qm &&& (31 : Int32)) (fun _ => 0) := Ai.new A5 ng5 rfl
      show Go _ _ _ _ _ _ _ (T5.setTop (mkF m 70 #[.val (.long zx), .second, .val (.long zn), .second, .val (.long zo), .second, .val (.int qn), .val (.int qm), .val (.int qf), .val (.int (0 : Int32)), .val (.int (0 : Int32)), .val (.int (qn &&& (31 : Int32))), .val (.int (qm &&& (31 : Int32))), .val (.ref b1), .unset, .unset, .unset, .unset, .unset, .unset] [(.ref b5)]))
      refine Go.step (fun _ k => XS.astore X5.here hx rfl (hb hby at_70) rfl rfl (l' := #[.val (.long zx), .second, .val (.long zn), .second, .val (.long zo), .second, .val (.int qn), .val (.int qm), .val (.int qf), .val (.int (0 : Int32)), .val (.int (0 : Int32)), .val (.int (qn &&& (31 : Int32))), .val (.int (qm &&& (31 : Int32))), .val (.ref b1), .val (.ref b5), .unset, .unset, .unset, .unset, .unset]) rfl k) ?_
      show Go _ _ _ _ _ _ _ (T5.setTop (mkF m 72 #[.val (.long zx), .second, .val (.long zn), .second, .val (.long zo), .second, .val (.int qn), .val (.int qm), .val (.int qf), .val (.int (0 : Int32)), .val (.int (0 : Int32)), .val (.int (qn &&& (31 : Int32))), .val (.int (qm &&& (31 : Int32))), .val (.ref b1), .val (.ref b5), .unset, .unset, .unset, .unset, .unset] []))
      obtain ⟨T10, h10, X10, e10, E10, A10, D10, -, st10⟩ := newO X5 hx hZ hown (hw _ (List.mem_of_getElem? (i := 0) rfl)) (hw _ (List.mem_of_getElem? (i := 1) rfl)) (hw _ (List.mem_of_getElem? (i := 2) rfl)) e5 (g := (mkF m 72 #[.val (.long zx), .second, .val (.long zn), .second, .val (.long zo), .second, .val (.int qn), .val (.int qm), .val (.int qf), .val (.int (0 : Int32)), .val (.int (0 : Int32)), .val (.int (qn &&& (31 : Int32))), .val (.int (qm &&& (31 : Int32))), .val (.ref b1), .val (.ref b5), .unset, .unset, .unset, .unset, .unset] [])) rfl (hb hby at_72) (by decide) (by decide)
      obtain ⟨b10, g10⟩ : ∃ z, z = h5.size := ⟨_, rfl⟩
      rw [← g10] at A10 D10 st10
      refine Go.step st10 ?_
      have gn10 : n0 ≤ b10 := Nat.le_trans z7 (Nat.le_of_eq g10.symm)
      have sz10 : h0.size ≤ b10 := Nat.le_trans sqz7 (Nat.le_of_eq g10.symm)
      have f11 : Ai Z h5 b1 .byte (qn &&& (31 : Int32)) (fun _ => 0) := (f4.ext E5)
      have ne12 : b1 ≠ b10 := Nat.ne_of_lt (Nat.lt_of_lt_of_le f11.lt (Nat.le_of_eq g10.symm))
      have ne13 : b5 ≠ b10 := Nat.ne_of_lt (Nat.lt_of_lt_of_le f9.lt (Nat.le_of_eq g10.symm))
      have z14 : n0 ≤ h10.size := Nat.le_trans z7 E10.1
      have sqz14 : h0.size ≤ h10.size := Nat.le_trans sqz7 E10.1
      have f16 : Fld Z h10 b10 "com/example/punctual_lease/punctuallease/Node" "children" "Ljava/util/Set;" .null := D10 (Or.inr (hw _ (List.mem_of_getElem? (i := 67) rfl))) (ty := (.object "java/util/Set")) (by decide)
      have f17 : Fld Z h10 b10 "com/example/punctual_lease/punctuallease/Node" "czxid" "J" (.long (0 : Int64)) := D10 (Or.inr (hw _ (List.mem_of_getElem? (i := 69) rfl))) (ty := .long) (by decide)
      have f18 : Fld Z h10 b10 "com/example/punctual_lease/punctuallease/Node" "ctime" "J" (.long (0 : Int64)) := D10 (Or.inr (hw _ (List.mem_of_getElem? (i := 71) rfl))) (ty := .long) (by decide)
      have f19 : Fld Z h10 b10 "com/example/punctual_lease/punctuallease/Node" "ephemeralOwner" "J" (.long (0 : Int64)) := D10 (Or.inr (hw _ (List.mem_of_getElem? (i := 73) rfl))) (ty := .long) (by decide)
      have f20 : Fld Z h10 b10 "com/example/punctual_lease/punctuallease/Node" "acl" "Ljava/util/List;" .null := D10 (Or.inr (hw _ (List.mem_of_getElem? (i := 75) rfl))) (ty := (.object "java/util/List")) (by decide)
      have f21 : Fld Z h10 b10 "com/example/punctual_lease/punctuallease/Node" "data" "[B" .null := D10 (Or.inl (hw _ (List.mem_of_getElem? (i := 77) rfl))) (ty := (.array .byte)) (by decide)
      have f22 : Fld Z h10 b10 "com/example/punctual_lease/punctuallease/Node" "mzxid" "J" (.long (0 : Int64)) := D10 (Or.inl (hw _ (List.mem_of_getElem? (i := 79) rfl))) (ty := .long) (by decide)
      have f23 : Fld Z h10 b10 "com/example/punctual_lease/punctuallease/Node" "mtime" "J" (.long (0 : Int64)) := D10 (Or.inl (hw _ (List.mem_of_getElem? (i := 81) rfl))) (ty := .long) (by decide)
      have f24 : Fld Z h10 b10 "com/example/punctual_lease/punctuallease/Node" "pzxid" "J" (.long (0 : Int64)) := D10 (Or.inl (hw _ (List.mem_of_getElem? (i := 83) rfl))) (ty := .long) (by decide)
      show Go _ _ _ _ _ _ _ (T10.setTop (mkF m 75 #[.val (.long zx), .second, .val (.long zn), .second, .val (.long zo), .second, .val (.int qn), .val (.int qm), .val (.int qf), .val (.int (0 : Int32)), .val (.int (0 : Int32)), .val (.int (qn &&& (31 : Int32))), .val (.int (qm &&& (31 : Int32))), .val (.ref b1), .val (.ref b5), .unset, .unset, .unset, .unset, .unset] [(.ref b10)]))
      refine Go.step (fun _ k => XS.dup X10.here hx rfl (hb hby at_75) rfl rfl k) ?_
      show Go _ _ _ _ _ _ _ (T10.setTop (mkF m 76 #[.val (.long zx), .second, .val (.long zn), .second, .val (.long zo), .second, .val (.int qn), .val (.int qm), .val (.int qf), .val (.int (0 : Int32)), .val (.int (0 : Int32)), .val (.int (qn &&& (31 : Int32))), .val (.int (qm &&& (31 : Int32))), .val (.ref b1), .val (.ref b5), .unset, .unset, .unset, .unset, .unset] [(.ref b10), (.ref b10)]))
      refine Go.step (fun _ k => XS.lloadN X10.here hx rfl (hb hby at_76) rfl  k) ?_
      show Go _ _ _ _ _ _ _ (T10.setTop (mkF m 77 #[.val (.long zx), .second, .val (.long zn), .second, .val (.long zo), .second, .val (.int qn), .val (.int qm), .val (.int qf), .val (.int (0 : Int32)), .val (.int (0 : Int32)), .val (.int (qn &&& (31 : Int32))), .val (.int (qm &&& (31 : Int32))), .val (.ref b1), .val (.ref b5), .unset, .unset, .unset, .unset, .unset] [(.long zx), (.ref b10), (.ref b10)]))
      refine Go.step (fun _ k => XS.lloadN X10.here hx rfl (hb hby at_77) rfl  k) ?_
      show Go _ _ _ _ _ _ _ (T10.setTop (mkF m 78 #[.val (.long zx), .second, .val (.long zn), .second, .val (.long zo), .second, .val (.int qn), .val (.int qm), .val (.int qf), .val (.int (0 : Int32)), .val (.int (0 : Int32)), .val (.int (qn &&& (31 : Int32))), .val (.int (qm &&& (31 : Int32))), .val (.ref b1), .val (.ref b5), .unset, .unset, .unset, .unset, .unset] [(.long zn), (.long zx), (.ref b10), (.ref b10)]))
      refine Go.step (fun _ k => XS.lload X10.here hx rfl (hb hby at_78) rfl  k) ?_
      show Go _ _ _ _ _ _ _ (T10.setTop (mkF m 80 #[.val (.long zx), .second, .val (.long zn), .second, .val (.long zo), .second, .val (.int qn), .val (.int qm), .val (.int qf), .val (.int (0 : Int32)), .val (.int (0 : Int32)), .val (.int (qn &&& (31 : Int32))), .val (.int (qm &&& (31 : Int32))), .val (.ref b1), .val (.ref b5), .unset, .unset, .unset, .unset, .unset] [(.long zo), (.long zn), (.long zx), (.ref b10), (.ref b10)]))
      obtain ⟨T25, h25, X25, e25, E25, A25, D25, -, st25⟩ := newO X10 hx hZ hown (hw _ (List.mem_of_getElem? (i := 3) rfl)) (hw _ (List.mem_of_getElem? (i := 4) rfl)) (hw _ (List.mem_of_getElem? (i := 5) rfl)) e10 (g := (mkF m 80 #[.val (.long zx), .second, .val (.long zn), .second, .val (.long zo), .second, .val (.int qn), .val (.int qm), .val (.int qf), .val (.int (0 : Int32)), .val (.int (0 : Int32)), .val (.int (qn &&& (31 : Int32))), .val (.int (qm &&& (31 : Int32))), .val (.ref b1), .val (.ref b5), .unset, .unset, .unset, .unset, .unset] [(.long zo), (.long zn), (.long zx), (.ref b10), (.ref b10)])) rfl (hb hby at_80) (by decide) (by decide)
      obtain ⟨b25, g25⟩ : ∃ z, z = h10.size := ⟨_, rfl⟩
      rw [← g25] at A25 D25 st25
      refine Go.step st25 ?_
      have gn25 : n0 ≤ b25 := Nat.le_trans z14 (Nat.le_of_eq g25.symm)
      have sz25 : h0.size ≤ b25 := Nat.le_trans sqz14 (Nat.le_of_eq g25.symm)
      have f26 : Ai Z h10 b1 .byte (qn &&& (31 : Int32)) (fun _ => 0) := (f11.ext E10)
      have ne27 : b1 ≠ b25 := Nat.ne_of_lt (Nat.lt_of_lt_of_le f26.lt (Nat.le_of_eq g25.symm))
      have f28 : Ai Z h10 b5 .byte (qm &&& (31 : Int32)) (fun _ => 0) := (f9.ext E10)
      have ne29 : b5 ≠ b25 := Nat.ne_of_lt (Nat.lt_of_lt_of_le f28.lt (Nat.le_of_eq g25.symm))
      have ne30 : b10 ≠ b25 := Nat.ne_of_lt (Nat.lt_of_lt_of_le A10.lt (Nat.le_of_eq g25.symm))
      have z31 : n0 ≤ h25.size := Nat.le_trans z14 E25.1
      have sqz31 : h0.size ≤ h25.size := Nat.le_trans sqz14 E25.1
      have f33 : Fld Z h25 b25 "java/util/AbstractList" "modCount" "I" (.int (0 : Int32)) := D25 (Or.inl (hw _ (List.mem_of_getElem? (i := 25) rfl))) (ty := .int) (by decide)
      have f34 : Fld Z h25 b25 "java/util/ArrayList" "elementData" "[Ljava/lang/Object;" .null := D25 (Or.inl (hw _ (List.mem_of_getElem? (i := 28) rfl))) (ty := (.array (.object "java/lang/Object"))) (by decide)
      show Go _ _ _ _ _ _ _ (T25.setTop (mkF m 83 #[.val (.long zx), .second, .val (.long zn), .second, .val (.long zo), .second, .val (.int qn), .val (.int qm), .val (.int qf), .val (.int (0 : Int32)), .val (.int (0 : Int32)), .val (.int (qn &&& (31 : Int32))), .val (.int (qm &&& (31 : Int32))), .val (.ref b1), .val (.ref b5), .unset, .unset, .unset, .unset, .unset] [(.ref b25), (.long zo), (.long zn), (.long zx), (.ref b10), (.ref b10)]))
      refine Go.step (fun _ k => XS.dup X25.here hx rfl (hb hby at_83) rfl rfl k) ?_
      show Go _ _ _ _ _ _ _ (T25.setTop (mkF m 84 #[.val (.long zx), .second, .val (.long zn), .second, .val (.long zo), .second, .val (.int qn), .val (.int qm), .val (.int qf), .val (.int (0 : Int32)), .val (.int (0 : Int32)), .val (.int (qn &&& (31 : Int32))), .val (.int (qm &&& (31 : Int32))), .val (.ref b1), .val (.ref b5), .unset, .unset, .unset, .unset, .unset] [(.ref b25), (.ref b25), (.long zo), (.long zn), (.long zx), (.ref b10), (.ref b10)]))
      have f35 : Old Z n0 h25 := ((((O_0.ext E1).ext E5).ext E10).ext E25)
      obtain ⟨_, _, ⟨T36, L36, k36, n36⟩, -, X36, ⟨Lc36, hQ36, l36, y36, z36⟩, st36⟩ := X25.specialBack hx (y := (⟨"java/util/ArrayList", "<init>", "()V"⟩ : MethodName)) rfl hown (mvT hZ (hw _ (List.mem_of_getElem? (i := 6) rfl))) (mvT hZ (hw _ (List.mem_of_getElem? (i := 7) rfl))) (mvT hZ (hw _ (List.mem_of_getElem? (i := 8) rfl))) (by decide) (backOf (W := 9) (rm1 l Z aZ hw [] b25 w0 h25 n0 z31 f35 S_1 A25 f33 f34 gn25) hZ (hw _ (List.mem_of_getElem? (i := 8) rfl)) (hw _ (List.mem_of_getElem? (i := 5) rfl)) (by decide) (by decide)) (g := (mkF m 84 #[.val (.long zx), .second, .val (.long zn), .second, .val (.long zo), .second, .val (.int qn), .val (.int qm), .val (.int qf), .val (.int (0 : Int32)), .val (.int (0 : Int32)), .val (.int (qn &&& (31 : Int32))), .val (.int (qm &&& (31 : Int32))), .val (.ref b1), .val (.ref b5), .unset, .unset, .unset, .unset, .unset] [(.ref b25), (.ref b25), (.long zo), (.long zn), (.long zx), (.ref b10), (.ref b10)])) rfl (by rw [hml]; rfl) (Steps.refl _) (a := b25) (argsL := []) (rest := [(.ref b25), (.long zo), (.long zn), (.long zx), (.ref b10), (.ref b10)]) (lenOf pd_0 rfl) rfl (by show 2 * 0 + _ ≤ _; exact Nat.le_of_eq rfl) (hb hby at_84) (fun _ _ => ⟨rfl, e25, (by decide : 4 + 0 ≤ _), (by decide : 77 + 0 ≤ _)⟩)
      dsimp only [Pt.U, Pt.locs, Pt.cells, Pt.slots] at X36 l36 y36 z36 st36 hQ36
      subst l36 y36 z36
      obtain ⟨rfl, Nq36, K36, c36_0, c36_1, c36_2⟩ := hQ36
      have N36 := Fr.app N0 Nq36
      refine Go.tr st36 ?_
      have z37 : n0 ≤ T36.heap.size := Nat.le_trans z31 K36.1
      have sqz37 : h0.size ≤ T36.heap.size := Nat.le_trans sqz31 K36.1
      show Go _ _ _ _ _ _ _ (T36.setTop (mkF m 87 #[.val (.long zx), .second, .val (.long zn), .second, .val (.long zo), .second, .val (.int qn), .val (.int qm), .val (.int qf), .val (.int (0 : Int32)), .val (.int (0 : Int32)), .val (.int (qn &&& (31 : Int32))), .val (.int (qm &&& (31 : Int32))), .val (.ref b1), .val (.ref b5), .unset, .unset, .unset, .unset, .unset] [(.ref b25), (.long zo), (.long zn), (.long zx), (.ref b10), (.ref b10)]))
      refine Go.step (fun _ k => XS.aload X36.here hx rfl (hb hby at_87) rfl rfl  k) ?_
      show Go _ _ _ _ _ _ _ (T36.setTop (mkF m 89 #[.val (.long zx), .second, .val (.long zn), .second, .val (.long zo), .second, .val (.int qn), .val (.int qm), .val (.int qf), .val (.int (0 : Int32)), .val (.int (0 : Int32)), .val (.int (qn &&& (31 : Int32))), .val (.int (qm &&& (31 : Int32))), .val (.ref b1), .val (.ref b5), .unset, .unset, .unset, .unset, .unset] [(.ref b1), (.ref b25), (.long zo), (.long zn), (.long zx), (.ref b10), (.ref b10)]))
      have pq39 : (Value.ref b1).isRef = true := (by first | assumption | rfl | decide)
      have f40 : Exa Z T36.heap b10 "com/example/punctual_lease/punctuallease/Node" := ((A10.ext E25).keep K36)
      have f41 : Fld Z T36.heap b10 "com/example/punctual_lease/punctuallease/Node" "children" "Ljava/util/Set;" .null := ((f16.ext E25).keep K36 (ninS ne30 nin0))
      have f42 : Fld Z T36.heap b10 "com/example/punctual_lease/punctuallease/Node" "czxid" "J" (.long (0 : Int64)) := ((f17.ext E25).keep K36 (ninS ne30 nin0))
      have f43 : Fld Z T36.heap b10 "com/example/punctual_lease/punctuallease/Node" "ctime" "J" (.long (0 : Int64)) := ((f18.ext E25).keep K36 (ninS ne30 nin0))
      have f44 : Fld Z T36.heap b10 "com/example/punctual_lease/punctuallease/Node" "ephemeralOwner" "J" (.long (0 : Int64)) := ((f19.ext E25).keep K36 (ninS ne30 nin0))
      have f45 : Fld Z T36.heap b10 "com/example/punctual_lease/punctuallease/Node" "acl" "Ljava/util/List;" .null := ((f20.ext E25).keep K36 (ninS ne30 nin0))
      have f46 : Fld Z T36.heap b10 "com/example/punctual_lease/punctuallease/Node" "data" "[B" .null := ((f21.ext E25).keep K36 (ninS ne30 nin0))
      have f47 : Fld Z T36.heap b10 "com/example/punctual_lease/punctuallease/Node" "mzxid" "J" (.long (0 : Int64)) := ((f22.ext E25).keep K36 (ninS ne30 nin0))
      have f48 : Fld Z T36.heap b10 "com/example/punctual_lease/punctuallease/Node" "mtime" "J" (.long (0 : Int64)) := ((f23.ext E25).keep K36 (ninS ne30 nin0))
      have f49 : Fld Z T36.heap b10 "com/example/punctual_lease/punctuallease/Node" "pzxid" "J" (.long (0 : Int64)) := ((f24.ext E25).keep K36 (ninS ne30 nin0))
      obtain ⟨_, _, ⟨T50, L50, k50, n50⟩, -, X50, ⟨Lc50, hQ50, l50, y50, z50⟩, st50⟩ := X36.specialBack hx (y := (⟨"com/example/punctual_lease/punctuallease/Node", "<init>", "(JJJLjava/util/List;[B)V"⟩ : MethodName)) rfl hown (mvT hZ (hw _ (List.mem_of_getElem? (i := 29) rfl))) (mvT hZ (hw _ (List.mem_of_getElem? (i := 30) rfl))) (mvT hZ (hw _ (List.mem_of_getElem? (i := 31) rfl))) (by decide) (backOf (W := 1) (rm5 l Z aZ hw [] b10 zx zn zo b25 (Value.ref b1) T36.heap n0 z37 pq39 f40 f41 f42 f43 f44 f45 f46 f47 f48 f49 gn10) hZ (hw _ (List.mem_of_getElem? (i := 31) rfl)) (hw _ (List.mem_of_getElem? (i := 2) rfl)) (by decide) (by decide)) (g := (mkF m 89 #[.val (.long zx), .second, .val (.long zn), .second, .val (.long zo), .second, .val (.int qn), .val (.int qm), .val (.int qf), .val (.int (0 : Int32)), .val (.int (0 : Int32)), .val (.int (qn &&& (31 : Int32))), .val (.int (qm &&& (31 : Int32))), .val (.ref b1), .val (.ref b5), .unset, .unset, .unset, .unset, .unset] [(.ref b1), (.ref b25), (.long zo), (.long zn), (.long zx), (.ref b10), (.ref b10)])) rfl (by rw [hml]; rfl) (Steps.refl _) (a := b10) (argsL := [(.long zx), (.long zn), (.long zo), (.ref b25), (.ref b1)]) (rest := [(.ref b10)]) (lenOf pd_1 rfl) rfl (by show 2 * 0 + _ ≤ _; exact Nat.le_of_eq rfl) (hb hby at_89) (fun _ _ => ⟨rfl, rfl, (by decide : 4 + 2 ≤ _), (by decide : 77 + 9 ≤ _)⟩)
      dsimp only [Pt.U, Pt.locs, Pt.cells, Pt.slots] at X50 l50 y50 z50 st50 hQ50
      subst l50 y50 z50
      obtain ⟨rfl, Nq50, K50, c50_0, c50_1, c50_2⟩ := hQ50
      have N50 := Fr.app N36 Nq50
      refine Go.tr st50 ?_
      have z51 : n0 ≤ T50.heap.size := Nat.le_trans z37 K50.1
      have sqz51 : h0.size ≤ T50.heap.size := Nat.le_trans sqz37 K50.1
      show Go _ _ _ _ _ _ _ (T50.setTop (mkF m 92 #[.val (.long zx), .second, .val (.long zn), .second, .val (.long zo), .second, .val (.int qn), .val (.int qm), .val (.int qf), .val (.int (0 : Int32)), .val (.int (0 : Int32)), .val (.int (qn &&& (31 : Int32))), .val (.int (qm &&& (31 : Int32))), .val (.ref b1), .val (.ref b5), .unset, .unset, .unset, .unset, .unset] [(.ref b10)]))
      refine Go.step (fun _ k => XS.astore X50.here hx rfl (hb hby at_92) rfl rfl (l' := #[.val (.long zx), .second, .val (.long zn), .second, .val (.long zo), .second, .val (.int qn), .val (.int qm), .val (.int qf), .val (.int (0 : Int32)), .val (.int (0 : Int32)), .val (.int (qn &&& (31 : Int32))), .val (.int (qm &&& (31 : Int32))), .val (.ref b1), .val (.ref b5), .val (.ref b10), .unset, .unset, .unset, .unset]) rfl k) ?_
      show Go _ _ _ _ _ _ _ (T50.setTop (mkF m 94 #[.val (.long zx), .second, .val (.long zn), .second, .val (.long zo), .second, .val (.int qn), .val (.int qm), .val (.int qf), .val (.int (0 : Int32)), .val (.int (0 : Int32)), .val (.int (qn &&& (31 : Int32))), .val (.int (qm &&& (31 : Int32))), .val (.ref b1), .val (.ref b5), .val (.ref b10), .unset, .unset, .unset, .unset] []))
      refine Go.step (fun _ k => XS.iload X50.here hx rfl (hb hby at_94) rfl  k) ?_
      show Go _ _ _ _ _ _ _ (T50.setTop (mkF m 96 #[.val (.long zx), .second, .val (.long zn), .second, .val (.long zo), .second, .val (.int qn), .val (.int qm), .val (.int qf), .val (.int (0 : Int32)), .val (.int (0 : Int32)), .val (.int (qn &&& (31 : Int32))), .val (.int (qm &&& (31 : Int32))), .val (.ref b1), .val (.ref b5), .val (.ref b10), .unset, .unset, .unset, .unset] [(.int (0 : Int32))]))
      have hc96 : (0 : Int32) = (0 : Int32) := hc59
      refine Go.step (fun _ k => XS.ifYes X50.here hx rfl (pc0 := 96) (pc' := 103) rfl (hb hby at_96) rfl ((if0 _ _).trans (teq hc96).1) (by decide) (by decide) k) ?_
      show Go _ _ _ _ _ _ _ (T50.setTop (mkF m 103 #[.val (.long zx), .second, .val (.long zn), .second, .val (.long zo), .second, .val (.int qn), .val (.int qm), .val (.int qf), .val (.int (0 : Int32)), .val (.int (0 : Int32)), .val (.int (qn &&& (31 : Int32))), .val (.int (qm &&& (31 : Int32))), .val (.ref b1), .val (.ref b5), .val (.ref b10), .unset, .unset, .unset, .unset] []))
      refine Go.step (fun _ k => XS.iload X50.here hx rfl (hb hby at_103) rfl  k) ?_
      show Go _ _ _ _ _ _ _ (T50.setTop (mkF m 105 #[.val (.long zx), .second, .val (.long zn), .second, .val (.long zo), .second, .val (.int qn), .val (.int qm), .val (.int qf), .val (.int (0 : Int32)), .val (.int (0 : Int32)), .val (.int (qn &&& (31 : Int32))), .val (.int (qm &&& (31 : Int32))), .val (.ref b1), .val (.ref b5), .val (.ref b10), .unset, .unset, .unset, .unset] [(.int (qn &&& (31 : Int32)))]))
      refine Go.step (fun _ k => XS.istore X50.here hx rfl (hb hby at_105) rfl (l' := #[.val (.long zx), .second, .val (.long zn), .second, .val (.long zo), .second, .val (.int qn), .val (.int qm), .val (.int qf), .val (.int (0 : Int32)), .val (.int (0 : Int32)), .val (.int (qn &&& (31 : Int32))), .val (.int (qm &&& (31 : Int32))), .val (.ref b1), .val (.ref b5), .val (.ref b10), .val (.int (qn &&& (31 : Int32))), .unset, .unset, .unset]) rfl k) ?_
      show Go _ _ _ _ _ _ _ (T50.setTop (mkF m 107 #[.val (.long zx), .second, .val (.long zn), .second, .val (.long zo), .second, .val (.int qn), .val (.int qm), .val (.int qf), .val (.int (0 : Int32)), .val (.int (0 : Int32)), .val (.int (qn &&& (31 : Int32))), .val (.int (qm &&& (31 : Int32))), .val (.ref b1), .val (.ref b5), .val (.ref b10), .val (.int (qn &&& (31 : Int32))), .unset, .unset, .unset] []))
      refine Go.step (fun _ k => XS.aload X50.here hx rfl (hb hby at_107) rfl rfl  k) ?_
      show Go _ _ _ _ _ _ _ (T50.setTop (mkF m 109 #[.val (.long zx), .second, .val (.long zn), .second, .val (.long zo), .second, .val (.int qn), .val (.int qm), .val (.int qf), .val (.int (0 : Int32)), .val (.int (0 : Int32)), .val (.int (qn &&& (31 : Int32))), .val (.int (qm &&& (31 : Int32))), .val (.ref b1), .val (.ref b5), .val (.ref b10), .val (.int (qn &&& (31 : Int32))), .unset, .unset, .unset] [(.ref b10)]))
      have f53 : Ai Z T50.heap b1 .byte (qn &&& (31 : Int32)) (fun _ => 0) := (((f26.ext E25).keep K36 (ninS ne27 nin0)).keep K50 (ninS ne12 nin0))
      obtain ⟨cq54, kq54, q54a, q54b, q54c⟩ := isOf hZ rfl c50_0
      obtain ⟨_, _, ⟨T54, L54, k54, n54⟩, -, X54, ⟨Lc54, hQ54, l54, y54, z54⟩, st54⟩ := X50.virtualBack hx (y := (⟨"com/example/punctual_lease/punctuallease/Node", "dataLength", "()I"⟩ : MethodName)) (z := (⟨"com/example/punctual_lease/punctuallease/Node", "dataLength", "()I"⟩ : MethodName)) hown (mvT hZ (hw _ (List.mem_of_getElem? (i := 84) rfl))) (mvT hZ (hw _ (List.mem_of_getElem? (i := 85) rfl))) (notFace_of_selects (args := #[]) (mvT hZ (hw _ (List.mem_of_getElem? (i := 87) rfl)))) (mvT hZ (hw _ (List.mem_of_getElem? (i := 87) rfl))) (mvT hZ (hw _ (List.mem_of_getElem? (i := 86) rfl))) (by decide) (backOf (W := 0) (rm10a l Z aZ hw [] b10 b1 (qn &&& (31 : Int32)) (fun _ => 0) T50.heap n0 z51 c50_2 f53) hZ (hw _ (List.mem_of_getElem? (i := 88) rfl)) (hw _ (List.mem_of_getElem? (i := 2) rfl)) (by decide) (by decide)) q54a q54c (g := (mkF m 109 #[.val (.long zx), .second, .val (.long zn), .second, .val (.long zo), .second, .val (.int qn), .val (.int qm), .val (.int qf), .val (.int (0 : Int32)), .val (.int (0 : Int32)), .val (.int (qn &&& (31 : Int32))), .val (.int (qm &&& (31 : Int32))), .val (.ref b1), .val (.ref b5), .val (.ref b10), .val (.int (qn &&& (31 : Int32))), .unset, .unset, .unset] [(.ref b10)])) rfl (by rw [hml]; rfl) (Steps.refl _) (argsL := []) (rest := []) (lenOf pd_2 rfl) rfl (by show 2 * 0 + _ ≤ _; exact Nat.le_of_eq rfl) (hb hby at_109) (fun _ _ => ⟨rfl, rfl, (by decide : 6 + 0 ≤ _), (by decide : 86 + 0 ≤ _)⟩)
      dsimp only [Pt.U, Pt.locs, Pt.cells, Pt.slots] at X54 l54 y54 z54 st54 hQ54
      subst l54 y54 z54
      obtain ⟨rfl, Nq54, e54⟩ := hQ54
      have N54 := Fr.app N50 Nq54
      refine Go.tr st54 ?_
      show Go _ _ _ _ _ _ _ (T54.setTop (mkF m 112 #[.val (.long zx), .second, .val (.long zn), .second, .val (.long zo), .second, .val (.int qn), .val (.int qm), .val (.int qf), .val (.int (0 : Int32)), .val (.int (0 : Int32)), .val (.int (qn &&& (31 : Int32))), .val (.int (qm &&& (31 : Int32))), .val (.ref b1), .val (.ref b5), .val (.ref b10), .val (.int (qn &&& (31 : Int32))), .unset, .unset, .unset] [(.int (qn &&& (31 : Int32)))]))
      refine Go.step (fun _ k => XS.iload X54.here hx rfl (hb hby at_112) rfl  k) ?_
      show Go _ _ _ _ _ _ _ (T54.setTop (mkF m 114 #[.val (.long zx), .second, .val (.long zn), .second, .val (.long zo), .second, .val (.int qn), .val (.int qm), .val (.int qf), .val (.int (0 : Int32)), .val (.int (0 : Int32)), .val (.int (qn &&& (31 : Int32))), .val (.int (qm &&& (31 : Int32))), .val (.ref b1), .val (.ref b5), .val (.ref b10), .val (.int (qn &&& (31 : Int32))), .unset, .unset, .unset] [(.int (qn &&& (31 : Int32))), (.int (qn &&& (31 : Int32)))]))
      have hc114 : (qn &&& (31 : Int32)) = (qn &&& (31 : Int32)) := rfl
      refine Go.step (fun _ k => XS.icmpNo X54.here hx rfl (hb hby at_114) rfl (teq hc114).2 k) ?_
      show Go _ _ _ _ _ _ _ (T54.setTop (mkF m 117 #[.val (.long zx), .second, .val (.long zn), .second, .val (.long zo), .second, .val (.int qn), .val (.int qm), .val (.int qf), .val (.int (0 : Int32)), .val (.int (0 : Int32)), .val (.int (qn &&& (31 : Int32))), .val (.int (qm &&& (31 : Int32))), .val (.ref b1), .val (.ref b5), .val (.ref b10), .val (.int (qn &&& (31 : Int32))), .unset, .unset, .unset] []))
      refine Go.step (fun _ k => XS.iconst X54.here hx rfl (hb hby at_117) k) ?_
      show Go _ _ _ _ _ _ _ (T54.setTop (mkF m 118 #[.val (.long zx), .second, .val (.long zn), .second, .val (.long zo), .second, .val (.int qn), .val (.int qm), .val (.int qf), .val (.int (0 : Int32)), .val (.int (0 : Int32)), .val (.int (qn &&& (31 : Int32))), .val (.int (qm &&& (31 : Int32))), .val (.ref b1), .val (.ref b5), .val (.ref b10), .val (.int (qn &&& (31 : Int32))), .unset, .unset, .unset] [(.int (1 : Int32))]))
      refine Go.step (fun _ k => XS.goto X54.here hx rfl (pc0 := 118) (pc' := 122) rfl (hb hby at_118) (by decide) (by decide) k) ?_
      show Go _ _ _ _ _ _ _ (T54.setTop (mkF m 122 #[.val (.long zx), .second, .val (.long zn), .second, .val (.long zo), .second, .val (.int qn), .val (.int qm), .val (.int qf), .val (.int (0 : Int32)), .val (.int (0 : Int32)), .val (.int (qn &&& (31 : Int32))), .val (.int (qm &&& (31 : Int32))), .val (.ref b1), .val (.ref b5), .val (.ref b10), .val (.int (qn &&& (31 : Int32))), .unset, .unset, .unset] [(.int (1 : Int32))]))
      refine Go.step (fun _ k => XS.istore X54.here hx rfl (hb hby at_122) rfl (l' := #[.val (.long zx), .second, .val (.long zn), .second, .val (.long zo), .second, .val (.int qn), .val (.int qm), .val (.int qf), .val (.int (0 : Int32)), .val (.int (0 : Int32)), .val (.int (qn &&& (31 : Int32))), .val (.int (qm &&& (31 : Int32))), .val (.ref b1), .val (.ref b5), .val (.ref b10), .val (.int (qn &&& (31 : Int32))), .val (.int (1 : Int32)), .unset, .unset]) rfl k) ?_
      show Go _ _ _ _ _ _ _ (T54.setTop (mkF m 124 #[.val (.long zx), .second, .val (.long zn), .second, .val (.long zo), .second, .val (.int qn), .val (.int qm), .val (.int qf), .val (.int (0 : Int32)), .val (.int (0 : Int32)), .val (.int (qn &&& (31 : Int32))), .val (.int (qm &&& (31 : Int32))), .val (.ref b1), .val (.ref b5), .val (.ref b10), .val (.int (qn &&& (31 : Int32))), .val (.int (1 : Int32)), .unset, .unset] []))
      refine Go.step (fun _ k => XS.aload X54.here hx rfl (hb hby at_124) rfl rfl  k) ?_
      show Go _ _ _ _ _ _ _ (T54.setTop (mkF m 126 #[.val (.long zx), .second, .val (.long zn), .second, .val (.long zo), .second, .val (.int qn), .val (.int qm), .val (.int qf), .val (.int (0 : Int32)), .val (.int (0 : Int32)), .val (.int (qn &&& (31 : Int32))), .val (.int (qm &&& (31 : Int32))), .val (.ref b1), .val (.ref b5), .val (.ref b10), .val (.int (qn &&& (31 : Int32))), .val (.int (1 : Int32)), .unset, .unset] [(.ref b10)]))
      refine Go.step (fun _ k => XS.aload X54.here hx rfl (hb hby at_126) rfl rfl  k) ?_
      show Go _ _ _ _ _ _ _ (T54.setTop (mkF m 128 #[.val (.long zx), .second, .val (.long zn), .second, .val (.long zo), .second, .val (.int qn), .val (.int qm), .val (.int qf), .val (.int (0 : Int32)), .val (.int (0 : Int32)), .val (.int (qn &&& (31 : Int32))), .val (.int (qm &&& (31 : Int32))), .val (.ref b1), .val (.ref b5), .val (.ref b10), .val (.int (qn &&& (31 : Int32))), .val (.int (1 : Int32)), .unset, .unset] [(.ref b5), (.ref b10)]))
      obtain ⟨T55, h55, X55, e55, W55, st55⟩ := putF X54 hx hZ hown (host := "") (Or.inl (hw _ (List.mem_of_getElem? (i := 89) rfl))) Via.refl e54 c50_2 c50_0 (Or.inl (hw _ (List.mem_of_getElem? (i := 77) rfl))) (hw _ (List.mem_of_getElem? (i := 1) rfl)) (ty := (.array .byte)) (v := (.ref b5)) (by decide) rfl rfl (g := (mkF m 128 #[.val (.long zx), .second, .val (.long zn), .second, .val (.long zo), .second, .val (.int qn), .val (.int qm), .val (.int qf), .val (.int (0 : Int32)), .val (.int (0 : Int32)), .val (.int (qn &&& (31 : Int32))), .val (.int (qm &&& (31 : Int32))), .val (.ref b1), .val (.ref b5), .val (.ref b10), .val (.int (qn &&& (31 : Int32))), .val (.int (1 : Int32)), .unset, .unset] [(.ref b5), (.ref b10)])) rfl rfl (hb hby at_128)
      refine Go.step st55 ?_
      have N55 := Fr.snoc X55 N54 gn10
      have z56 : n0 ≤ h55.size := Nat.le_trans z51 (Keep.of_wr W55).1
      have sqz56 : h0.size ≤ h55.size := Nat.le_trans sqz51 (Keep.of_wr W55).1
      have f58 : Fld Z h55 b10 "com/example/punctual_lease/punctuallease/Node" "data" "[B" (.ref b5) := c50_2.same W55
      show Go _ _ _ _ _ _ _ (T55.setTop (mkF m 131 #[.val (.long zx), .second, .val (.long zn), .second, .val (.long zo), .second, .val (.int qn), .val (.int qm), .val (.int qf), .val (.int (0 : Int32)), .val (.int (0 : Int32)), .val (.int (qn &&& (31 : Int32))), .val (.int (qm &&& (31 : Int32))), .val (.ref b1), .val (.ref b5), .val (.ref b10), .val (.int (qn &&& (31 : Int32))), .val (.int (1 : Int32)), .unset, .unset] []))
      refine Go.step (fun _ k => XS.iload X55.here hx rfl (hb hby at_131) rfl  k) ?_
      show Go _ _ _ _ _ _ _ (T55.setTop (mkF m 133 #[.val (.long zx), .second, .val (.long zn), .second, .val (.long zo), .second, .val (.int qn), .val (.int qm), .val (.int qf), .val (.int (0 : Int32)), .val (.int (0 : Int32)), .val (.int (qn &&& (31 : Int32))), .val (.int (qm &&& (31 : Int32))), .val (.ref b1), .val (.ref b5), .val (.ref b10), .val (.int (qn &&& (31 : Int32))), .val (.int (1 : Int32)), .unset, .unset] [(.int (0 : Int32))]))
      have hc133 : (0 : Int32) = (0 : Int32) := hc96
      refine Go.step (fun _ k => XS.ifYes X55.here hx rfl (pc0 := 133) (pc' := 140) rfl (hb hby at_133) rfl ((if0 _ _).trans (teq hc133).1) (by decide) (by decide) k) ?_
      show Go _ _ _ _ _ _ _ (T55.setTop (mkF m 140 #[.val (.long zx), .second, .val (.long zn), .second, .val (.long zo), .second, .val (.int qn), .val (.int qm), .val (.int qf), .val (.int (0 : Int32)), .val (.int (0 : Int32)), .val (.int (qn &&& (31 : Int32))), .val (.int (qm &&& (31 : Int32))), .val (.ref b1), .val (.ref b5), .val (.ref b10), .val (.int (qn &&& (31 : Int32))), .val (.int (1 : Int32)), .unset, .unset] []))
      refine Go.step (fun _ k => XS.iload X55.here hx rfl (hb hby at_140) rfl  k) ?_
      show Go _ _ _ _ _ _ _ (T55.setTop (mkF m 142 #[.val (.long zx), .second, .val (.long zn), .second, .val (.long zo), .second, .val (.int qn), .val (.int qm), .val (.int qf), .val (.int (0 : Int32)), .val (.int (0 : Int32)), .val (.int (qn &&& (31 : Int32))), .val (.int (qm &&& (31 : Int32))), .val (.ref b1), .val (.ref b5), .val (.ref b10), .val (.int (qn &&& (31 : Int32))), .val (.int (1 : Int32)), .unset, .unset] [(.int (qm &&& (31 : Int32)))]))
      refine Go.step (fun _ k => XS.istore X55.here hx rfl (hb hby at_142) rfl (l' := #[.val (.long zx), .second, .val (.long zn), .second, .val (.long zo), .second, .val (.int qn), .val (.int qm), .val (.int qf), .val (.int (0 : Int32)), .val (.int (0 : Int32)), .val (.int (qn &&& (31 : Int32))), .val (.int (qm &&& (31 : Int32))), .val (.ref b1), .val (.ref b5), .val (.ref b10), .val (.int (qn &&& (31 : Int32))), .val (.int (1 : Int32)), .val (.int (qm &&& (31 : Int32))), .unset]) rfl k) ?_
      show Go _ _ _ _ _ _ _ (T55.setTop (mkF m 144 #[.val (.long zx), .second, .val (.long zn), .second, .val (.long zo), .second, .val (.int qn), .val (.int qm), .val (.int qf), .val (.int (0 : Int32)), .val (.int (0 : Int32)), .val (.int (qn &&& (31 : Int32))), .val (.int (qm &&& (31 : Int32))), .val (.ref b1), .val (.ref b5), .val (.ref b10), .val (.int (qn &&& (31 : Int32))), .val (.int (1 : Int32)), .val (.int (qm &&& (31 : Int32))), .unset] []))
      refine Go.step (fun _ k => XS.aload X55.here hx rfl (hb hby at_144) rfl rfl  k) ?_
      show Go _ _ _ _ _ _ _ (T55.setTop (mkF m 146 #[.val (.long zx), .second, .val (.long zn), .second, .val (.long zo), .second, .val (.int qn), .val (.int qm), .val (.int qf), .val (.int (0 : Int32)), .val (.int (0 : Int32)), .val (.int (qn &&& (31 : Int32))), .val (.int (qm &&& (31 : Int32))), .val (.ref b1), .val (.ref b5), .val (.ref b10), .val (.int (qn &&& (31 : Int32))), .val (.int (1 : Int32)), .val (.int (qm &&& (31 : Int32))), .unset] [(.ref b10)]))
      have f59 : Ai Z h55 b5 .byte (qm &&& (31 : Int32)) (fun _ => 0) := ((((f28.ext E25).keep K36 (ninS ne29 nin0)).keep K50 (ninS ne13 nin0)).other W55 ne13)
      have f61 : Exa Z h55 b10 "com/example/punctual_lease/punctuallease/Node" := (c50_0.wr W55)
      obtain ⟨cq60, kq60, q60a, q60b, q60c⟩ := isOf hZ e55 f61
      obtain ⟨_, _, ⟨T60, L60, k60, n60⟩, -, X60, ⟨Lc60, hQ60, l60, y60, z60⟩, st60⟩ := X55.virtualBack hx (y := (⟨"com/example/punctual_lease/punctuallease/Node", "dataLength", "()I"⟩ : MethodName)) (z := (⟨"com/example/punctual_lease/punctuallease/Node", "dataLength", "()I"⟩ : MethodName)) hown (mvT hZ (hw _ (List.mem_of_getElem? (i := 84) rfl))) (mvT hZ (hw _ (List.mem_of_getElem? (i := 85) rfl))) (notFace_of_selects (args := #[]) (mvT hZ (hw _ (List.mem_of_getElem? (i := 87) rfl)))) (mvT hZ (hw _ (List.mem_of_getElem? (i := 87) rfl))) (mvT hZ (hw _ (List.mem_of_getElem? (i := 86) rfl))) (by decide) (backOf (W := 0) (rm10a l Z aZ hw [] b10 b5 (qm &&& (31 : Int32)) (fun _ => 0) h55 n0 z56 f58 f59) hZ (hw _ (List.mem_of_getElem? (i := 88) rfl)) (hw _ (List.mem_of_getElem? (i := 2) rfl)) (by decide) (by decide)) q60a q60c (g := (mkF m 146 #[.val (.long zx), .second, .val (.long zn), .second, .val (.long zo), .second, .val (.int qn), .val (.int qm), .val (.int qf), .val (.int (0 : Int32)), .val (.int (0 : Int32)), .val (.int (qn &&& (31 : Int32))), .val (.int (qm &&& (31 : Int32))), .val (.ref b1), .val (.ref b5), .val (.ref b10), .val (.int (qn &&& (31 : Int32))), .val (.int (1 : Int32)), .val (.int (qm &&& (31 : Int32))), .unset] [(.ref b10)])) rfl (by rw [hml]; rfl) (Steps.refl _) (argsL := []) (rest := []) (lenOf pd_2 rfl) rfl (by show 2 * 0 + _ ≤ _; exact Nat.le_of_eq rfl) (hb hby at_146) (fun _ _ => ⟨rfl, e55, (by decide : 6 + 0 ≤ _), (by decide : 86 + 0 ≤ _)⟩)
      dsimp only [Pt.U, Pt.locs, Pt.cells, Pt.slots] at X60 l60 y60 z60 st60 hQ60
      subst l60 y60 z60
      obtain ⟨rfl, Nq60, e60⟩ := hQ60
      have N60 := Fr.app N55 Nq60
      refine Go.tr st60 ?_
      show Go _ _ _ _ _ _ _ (T60.setTop (mkF m 149 #[.val (.long zx), .second, .val (.long zn), .second, .val (.long zo), .second, .val (.int qn), .val (.int qm), .val (.int qf), .val (.int (0 : Int32)), .val (.int (0 : Int32)), .val (.int (qn &&& (31 : Int32))), .val (.int (qm &&& (31 : Int32))), .val (.ref b1), .val (.ref b5), .val (.ref b10), .val (.int (qn &&& (31 : Int32))), .val (.int (1 : Int32)), .val (.int (qm &&& (31 : Int32))), .unset] [(.int (qm &&& (31 : Int32)))]))
      refine Go.step (fun _ k => XS.iload X60.here hx rfl (hb hby at_149) rfl  k) ?_
      show Go _ _ _ _ _ _ _ (T60.setTop (mkF m 151 #[.val (.long zx), .second, .val (.long zn), .second, .val (.long zo), .second, .val (.int qn), .val (.int qm), .val (.int qf), .val (.int (0 : Int32)), .val (.int (0 : Int32)), .val (.int (qn &&& (31 : Int32))), .val (.int (qm &&& (31 : Int32))), .val (.ref b1), .val (.ref b5), .val (.ref b10), .val (.int (qn &&& (31 : Int32))), .val (.int (1 : Int32)), .val (.int (qm &&& (31 : Int32))), .unset] [(.int (qm &&& (31 : Int32))), (.int (qm &&& (31 : Int32)))]))
      have hc151 : (qm &&& (31 : Int32)) = (qm &&& (31 : Int32)) := rfl
      refine Go.step (fun _ k => XS.icmpNo X60.here hx rfl (hb hby at_151) rfl (teq hc151).2 k) ?_
      show Go _ _ _ _ _ _ _ (T60.setTop (mkF m 154 #[.val (.long zx), .second, .val (.long zn), .second, .val (.long zo), .second, .val (.int qn), .val (.int qm), .val (.int qf), .val (.int (0 : Int32)), .val (.int (0 : Int32)), .val (.int (qn &&& (31 : Int32))), .val (.int (qm &&& (31 : Int32))), .val (.ref b1), .val (.ref b5), .val (.ref b10), .val (.int (qn &&& (31 : Int32))), .val (.int (1 : Int32)), .val (.int (qm &&& (31 : Int32))), .unset] []))
      refine Go.step (fun _ k => XS.iconst X60.here hx rfl (hb hby at_154) k) ?_
      show Go _ _ _ _ _ _ _ (T60.setTop (mkF m 155 #[.val (.long zx), .second, .val (.long zn), .second, .val (.long zo), .second, .val (.int qn), .val (.int qm), .val (.int qf), .val (.int (0 : Int32)), .val (.int (0 : Int32)), .val (.int (qn &&& (31 : Int32))), .val (.int (qm &&& (31 : Int32))), .val (.ref b1), .val (.ref b5), .val (.ref b10), .val (.int (qn &&& (31 : Int32))), .val (.int (1 : Int32)), .val (.int (qm &&& (31 : Int32))), .unset] [(.int (1 : Int32))]))
      refine Go.step (fun _ k => XS.goto X60.here hx rfl (pc0 := 155) (pc' := 159) rfl (hb hby at_155) (by decide) (by decide) k) ?_
      show Go _ _ _ _ _ _ _ (T60.setTop (mkF m 159 #[.val (.long zx), .second, .val (.long zn), .second, .val (.long zo), .second, .val (.int qn), .val (.int qm), .val (.int qf), .val (.int (0 : Int32)), .val (.int (0 : Int32)), .val (.int (qn &&& (31 : Int32))), .val (.int (qm &&& (31 : Int32))), .val (.ref b1), .val (.ref b5), .val (.ref b10), .val (.int (qn &&& (31 : Int32))), .val (.int (1 : Int32)), .val (.int (qm &&& (31 : Int32))), .unset] [(.int (1 : Int32))]))
      refine Go.step (fun _ k => XS.istore X60.here hx rfl (hb hby at_159) rfl (l' := #[.val (.long zx), .second, .val (.long zn), .second, .val (.long zo), .second, .val (.int qn), .val (.int qm), .val (.int qf), .val (.int (0 : Int32)), .val (.int (0 : Int32)), .val (.int (qn &&& (31 : Int32))), .val (.int (qm &&& (31 : Int32))), .val (.ref b1), .val (.ref b5), .val (.ref b10), .val (.int (qn &&& (31 : Int32))), .val (.int (1 : Int32)), .val (.int (qm &&& (31 : Int32))), .val (.int (1 : Int32))]) rfl k) ?_
      show Go _ _ _ _ _ _ _ (T60.setTop (mkF m 161 #[.val (.long zx), .second, .val (.long zn), .second, .val (.long zo), .second, .val (.int qn), .val (.int qm), .val (.int qf), .val (.int (0 : Int32)), .val (.int (0 : Int32)), .val (.int (qn &&& (31 : Int32))), .val (.int (qm &&& (31 : Int32))), .val (.ref b1), .val (.ref b5), .val (.ref b10), .val (.int (qn &&& (31 : Int32))), .val (.int (1 : Int32)), .val (.int (qm &&& (31 : Int32))), .val (.int (1 : Int32))] []))
      refine Go.step (fun _ k => XS.iload X60.here hx rfl (hb hby at_161) rfl  k) ?_
      show Go _ _ _ _ _ _ _ (T60.setTop (mkF m 163 #[.val (.long zx), .second, .val (.long zn), .second, .val (.long zo), .second, .val (.int qn), .val (.int qm), .val (.int qf), .val (.int (0 : Int32)), .val (.int (0 : Int32)), .val (.int (qn &&& (31 : Int32))), .val (.int (qm &&& (31 : Int32))), .val (.ref b1), .val (.ref b5), .val (.ref b10), .val (.int (qn &&& (31 : Int32))), .val (.int (1 : Int32)), .val (.int (qm &&& (31 : Int32))), .val (.int (1 : Int32))] [(.int (1 : Int32))]))
      have hc163 : ¬ ((1 : Int32) = (0 : Int32)) := by decide
      refine Go.step (fun _ k => XS.ifNo X60.here hx rfl (hb hby at_163) rfl ((if0 _ _).trans (feq hc163).1) k) ?_
      show Go _ _ _ _ _ _ _ (T60.setTop (mkF m 166 #[.val (.long zx), .second, .val (.long zn), .second, .val (.long zo), .second, .val (.int qn), .val (.int qm), .val (.int qf), .val (.int (0 : Int32)), .val (.int (0 : Int32)), .val (.int (qn &&& (31 : Int32))), .val (.int (qm &&& (31 : Int32))), .val (.ref b1), .val (.ref b5), .val (.ref b10), .val (.int (qn &&& (31 : Int32))), .val (.int (1 : Int32)), .val (.int (qm &&& (31 : Int32))), .val (.int (1 : Int32))] []))
      refine Go.step (fun _ k => XS.iload X60.here hx rfl (hb hby at_166) rfl  k) ?_
      show Go _ _ _ _ _ _ _ (T60.setTop (mkF m 168 #[.val (.long zx), .second, .val (.long zn), .second, .val (.long zo), .second, .val (.int qn), .val (.int qm), .val (.int qf), .val (.int (0 : Int32)), .val (.int (0 : Int32)), .val (.int (qn &&& (31 : Int32))), .val (.int (qm &&& (31 : Int32))), .val (.ref b1), .val (.ref b5), .val (.ref b10), .val (.int (qn &&& (31 : Int32))), .val (.int (1 : Int32)), .val (.int (qm &&& (31 : Int32))), .val (.int (1 : Int32))] [(.int (1 : Int32))]))
      have hc168 : ¬ ((1 : Int32) = (0 : Int32)) := hc163
      refine Go.step (fun _ k => XS.ifNo X60.here hx rfl (hb hby at_168) rfl ((if0 _ _).trans (feq hc168).1) k) ?_
      show Go _ _ _ _ _ _ _ (T60.setTop (mkF m 171 #[.val (.long zx), .second, .val (.long zn), .second, .val (.long zo), .second, .val (.int qn), .val (.int qm), .val (.int qf), .val (.int (0 : Int32)), .val (.int (0 : Int32)), .val (.int (qn &&& (31 : Int32))), .val (.int (qm &&& (31 : Int32))), .val (.ref b1), .val (.ref b5), .val (.ref b10), .val (.int (qn &&& (31 : Int32))), .val (.int (1 : Int32)), .val (.int (qm &&& (31 : Int32))), .val (.int (1 : Int32))] []))
      refine Go.step (fun _ k => XS.iconst X60.here hx rfl (hb hby at_171) k) ?_
      show Go _ _ _ _ _ _ _ (T60.setTop (mkF m 172 #[.val (.long zx), .second, .val (.long zn), .second, .val (.long zo), .second, .val (.int qn), .val (.int qm), .val (.int qf), .val (.int (0 : Int32)), .val (.int (0 : Int32)), .val (.int (qn &&& (31 : Int32))), .val (.int (qm &&& (31 : Int32))), .val (.ref b1), .val (.ref b5), .val (.ref b10), .val (.int (qn &&& (31 : Int32))), .val (.int (1 : Int32)), .val (.int (qm &&& (31 : Int32))), .val (.int (1 : Int32))] [(.int (1 : Int32))]))
      refine Go.step (fun _ k => XS.goto X60.here hx rfl (pc0 := 172) (pc' := 176) rfl (hb hby at_172) (by decide) (by decide) k) ?_
      show Go _ _ _ _ _ _ _ (T60.setTop (mkF m 176 #[.val (.long zx), .second, .val (.long zn), .second, .val (.long zo), .second, .val (.int qn), .val (.int qm), .val (.int qf), .val (.int (0 : Int32)), .val (.int (0 : Int32)), .val (.int (qn &&& (31 : Int32))), .val (.int (qm &&& (31 : Int32))), .val (.ref b1), .val (.ref b5), .val (.ref b10), .val (.int (qn &&& (31 : Int32))), .val (.int (1 : Int32)), .val (.int (qm &&& (31 : Int32))), .val (.int (1 : Int32))] [(.int (1 : Int32))]))
      refine Go.retN X60 hx (t := .boolean) Bd.returns (by simp) hlk (hb hby at_176) ?_ (by decide) (by decide)
      rw [e60]
      exact ⟨(by first | rfl | (simp_all [own_nb1, own_nb0]; done)), N60⟩
    · skip
      refine Go.step (fun _ k => XS.ifNo X0.here hx rfl (hb hby at_18) rfl ((if0 _ _).trans (feq hc18).1) k) ?_
      show Go _ _ _ _ _ _ _ (s₁.setTop (mkF m 21 #[.val (.long zx), .second, .val (.long zn), .second, .val (.long zo), .second, .val (.int qn), .val (.int qm), .val (.int qf), .val (.int (0 : Int32)), .unset, .unset, .unset, .unset, .unset, .unset, .unset, .unset, .unset, .unset] []))
      refine Go.step (fun _ k => XS.iconst X0.here hx rfl (hb hby at_21) k) ?_
      show Go _ _ _ _ _ _ _ (s₁.setTop (mkF m 22 #[.val (.long zx), .second, .val (.long zn), .second, .val (.long zo), .second, .val (.int qn), .val (.int qm), .val (.int qf), .val (.int (0 : Int32)), .unset, .unset, .unset, .unset, .unset, .unset, .unset, .unset, .unset, .unset] [(.int (1 : Int32))]))
      refine Go.step (fun _ k => XS.goto X0.here hx rfl (pc0 := 22) (pc' := 26) rfl (hb hby at_22) (by decide) (by decide) k) ?_
      show Go _ _ _ _ _ _ _ (s₁.setTop (mkF m 26 #[.val (.long zx), .second, .val (.long zn), .second, .val (.long zo), .second, .val (.int qn), .val (.int qm), .val (.int qf), .val (.int (0 : Int32)), .unset, .unset, .unset, .unset, .unset, .unset, .unset, .unset, .unset, .unset] [(.int (1 : Int32))]))
      refine Go.step (fun _ k => XS.istore X0.here hx rfl (hb hby at_26) rfl (l' := #[.val (.long zx), .second, .val (.long zn), .second, .val (.long zo), .second, .val (.int qn), .val (.int qm), .val (.int qf), .val (.int (0 : Int32)), .val (.int (1 : Int32)), .unset, .unset, .unset, .unset, .unset, .unset, .unset, .unset, .unset]) rfl k) ?_
      show Go _ _ _ _ _ _ _ (s₁.setTop (mkF m 28 #[.val (.long zx), .second, .val (.long zn), .second, .val (.long zo), .second, .val (.int qn), .val (.int qm), .val (.int qf), .val (.int (0 : Int32)), .val (.int (1 : Int32)), .unset, .unset, .unset, .unset, .unset, .unset, .unset, .unset, .unset] []))
      refine Go.step (fun _ k => XS.iload X0.here hx rfl (hb hby at_28) rfl  k) ?_
      show Go _ _ _ _ _ _ _ (s₁.setTop (mkF m 30 #[.val (.long zx), .second, .val (.long zn), .second, .val (.long zo), .second, .val (.int qn), .val (.int qm), .val (.int qf), .val (.int (0 : Int32)), .val (.int (1 : Int32)), .unset, .unset, .unset, .unset, .unset, .unset, .unset, .unset, .unset] [(.int qn)]))
      refine Go.step (fun _ k => XS.bipush X0.here hx rfl (hb hby at_30) k) ?_
      show Go _ _ _ _ _ _ _ (s₁.setTop (mkF m 32 #[.val (.long zx), .second, .val (.long zn), .second, .val (.long zo), .second, .val (.int qn), .val (.int qm), .val (.int qf), .val (.int (0 : Int32)), .val (.int (1 : Int32)), .unset, .unset, .unset, .unset, .unset, .unset, .unset, .unset, .unset] [(.int (31 : Int32)), (.int qn)]))
      refine Go.step (fun _ k => XS.iand X0.here hx rfl (hb hby at_32) rfl k) ?_
      show Go _ _ _ _ _ _ _ (s₁.setTop (mkF m 33 #[.val (.long zx), .second, .val (.long zn), .second, .val (.long zo), .second, .val (.int qn), .val (.int qm), .val (.int qf), .val (.int (0 : Int32)), .val (.int (1 : Int32)), .unset, .unset, .unset, .unset, .unset, .unset, .unset, .unset, .unset] [(.int (qn &&& (31 : Int32)))]))
      refine Go.step (fun _ k => XS.istore X0.here hx rfl (hb hby at_33) rfl (l' := #[.val (.long zx), .second, .val (.long zn), .second, .val (.long zo), .second, .val (.int qn), .val (.int qm), .val (.int qf), .val (.int (0 : Int32)), .val (.int (1 : Int32)), .val (.int (qn &&& (31 : Int32))), .unset, .unset, .unset, .unset, .unset, .unset, .unset, .unset]) rfl k) ?_
      show Go _ _ _ _ _ _ _ (s₁.setTop (mkF m 35 #[.val (.long zx), .second, .val (.long zn), .second, .val (.long zo), .second, .val (.int qn), .val (.int qm), .val (.int qf), .val (.int (0 : Int32)), .val (.int (1 : Int32)), .val (.int (qn &&& (31 : Int32))), .unset, .unset, .unset, .unset, .unset, .unset, .unset, .unset] []))
      refine Go.step (fun _ k => XS.iload X0.here hx rfl (hb hby at_35) rfl  k) ?_
      show Go _ _ _ _ _ _ _ (s₁.setTop (mkF m 37 #[.val (.long zx), .second, .val (.long zn), .second, .val (.long zo), .second, .val (.int qn), .val (.int qm), .val (.int qf), .val (.int (0 : Int32)), .val (.int (1 : Int32)), .val (.int (qn &&& (31 : Int32))), .unset, .unset, .unset, .unset, .unset, .unset, .unset, .unset] [(.int qm)]))
      refine Go.step (fun _ k => XS.bipush X0.here hx rfl (hb hby at_37) k) ?_
      show Go _ _ _ _ _ _ _ (s₁.setTop (mkF m 39 #[.val (.long zx), .second, .val (.long zn), .second, .val (.long zo), .second, .val (.int qn), .val (.int qm), .val (.int qf), .val (.int (0 : Int32)), .val (.int (1 : Int32)), .val (.int (qn &&& (31 : Int32))), .unset, .unset, .unset, .unset, .unset, .unset, .unset, .unset] [(.int (31 : Int32)), (.int qm)]))
      refine Go.step (fun _ k => XS.iand X0.here hx rfl (hb hby at_39) rfl k) ?_
      show Go _ _ _ _ _ _ _ (s₁.setTop (mkF m 40 #[.val (.long zx), .second, .val (.long zn), .second, .val (.long zo), .second, .val (.int qn), .val (.int qm), .val (.int qf), .val (.int (0 : Int32)), .val (.int (1 : Int32)), .val (.int (qn &&& (31 : Int32))), .unset, .unset, .unset, .unset, .unset, .unset, .unset, .unset] [(.int (qm &&& (31 : Int32)))]))
      refine Go.step (fun _ k => XS.istore X0.here hx rfl (hb hby at_40) rfl (l' := #[.val (.long zx), .second, .val (.long zn), .second, .val (.long zo), .second, .val (.int qn), .val (.int qm), .val (.int qf), .val (.int (0 : Int32)), .val (.int (1 : Int32)), .val (.int (qn &&& (31 : Int32))), .val (.int (qm &&& (31 : Int32))), .unset, .unset, .unset, .unset, .unset, .unset, .unset]) rfl k) ?_
      show Go _ _ _ _ _ _ _ (s₁.setTop (mkF m 42 #[.val (.long zx), .second, .val (.long zn), .second, .val (.long zo), .second, .val (.int qn), .val (.int qm), .val (.int qf), .val (.int (0 : Int32)), .val (.int (1 : Int32)), .val (.int (qn &&& (31 : Int32))), .val (.int (qm &&& (31 : Int32))), .unset, .unset, .unset, .unset, .unset, .unset, .unset] []))
      refine Go.step (fun _ k => XS.iload X0.here hx rfl (hb hby at_42) rfl  k) ?_
      show Go _ _ _ _ _ _ _ (s₁.setTop (mkF m 44 #[.val (.long zx), .second, .val (.long zn), .second, .val (.long zo), .second, .val (.int qn), .val (.int qm), .val (.int qf), .val (.int (0 : Int32)), .val (.int (1 : Int32)), .val (.int (qn &&& (31 : Int32))), .val (.int (qm &&& (31 : Int32))), .unset, .unset, .unset, .unset, .unset, .unset, .unset] [(.int (0 : Int32))]))
      have hc44 : (0 : Int32) = (0 : Int32) := by decide
      refine Go.step (fun _ k => XS.ifYes X0.here hx rfl (pc0 := 44) (pc' := 51) rfl (hb hby at_44) rfl ((if0 _ _).trans (teq hc44).1) (by decide) (by decide) k) ?_
      show Go _ _ _ _ _ _ _ (s₁.setTop (mkF m 51 #[.val (.long zx), .second, .val (.long zn), .second, .val (.long zo), .second, .val (.int qn), .val (.int qm), .val (.int qf), .val (.int (0 : Int32)), .val (.int (1 : Int32)), .val (.int (qn &&& (31 : Int32))), .val (.int (qm &&& (31 : Int32))), .unset, .unset, .unset, .unset, .unset, .unset, .unset] []))
      refine Go.step (fun _ k => XS.iload X0.here hx rfl (hb hby at_51) rfl  k) ?_
      show Go _ _ _ _ _ _ _ (s₁.setTop (mkF m 53 #[.val (.long zx), .second, .val (.long zn), .second, .val (.long zo), .second, .val (.int qn), .val (.int qm), .val (.int qf), .val (.int (0 : Int32)), .val (.int (1 : Int32)), .val (.int (qn &&& (31 : Int32))), .val (.int (qm &&& (31 : Int32))), .unset, .unset, .unset, .unset, .unset, .unset, .unset] [(.int (qn &&& (31 : Int32)))]))
      have ng62 : ¬ (qn &&& (31 : Int32)) < 0 := (own_n31 _).1
      have lc62 : ((qn &&& (31 : Int32))).toNatClampNeg ≤ 31 := (own_n31 _).2
      obtain ⟨T62, h62, k62, X62, e62, E62, A62, st62⟩ := newP X0 hx hZ (hw _ (List.mem_of_getElem? (i := 90) rfl)) e0 (g := (mkF m 53 #[.val (.long zx), .second, .val (.long zn), .second, .val (.long zo), .second, .val (.int qn), .val (.int qm), .val (.int qf), .val (.int (0 : Int32)), .val (.int (1 : Int32)), .val (.int (qn &&& (31 : Int32))), .val (.int (qm &&& (31 : Int32))), .unset, .unset, .unset, .unset, .unset, .unset, .unset] [(.int (qn &&& (31 : Int32)))])) rfl (hb hby at_53) rfl ng62 (cap := 31) lc62 (by decide) (by decide) (by decide)
      obtain ⟨b62, g62⟩ : ∃ z, z = h0.size := ⟨_, rfl⟩
      rw [← g62] at A62 st62
      refine Go.step st62 ?_
      have gn62 : n0 ≤ b62 := Nat.le_trans Z0 (Nat.le_of_eq g62.symm)
      have sz62 : h0.size ≤ b62 := Nat.le_trans sq0 (Nat.le_of_eq g62.symm)
      have z63 : n0 ≤ h62.size := Nat.le_trans Z0 E62.1
      have sqz63 : h0.size ≤ h62.size := Nat.le_trans sq0 E62.1
      have f65 : Ai Z h62 b62 .byte (qn &&& (31 : Int32)) (fun _ => 0) := Ai.new A62 ng62 rfl
      show Go _ _ _ _ _ _ _ (T62.setTop (mkF m 55 #[.val (.long zx), .second, .val (.long zn), .second, .val (.long zo), .second, .val (.int qn), .val (.int qm), .val (.int qf), .val (.int (0 : Int32)), .val (.int (1 : Int32)), .val (.int (qn &&& (31 : Int32))), .val (.int (qm &&& (31 : Int32))), .unset, .unset, .unset, .unset, .unset, .unset, .unset] [(.ref b62)]))
      refine Go.step (fun _ k => XS.astore X62.here hx rfl (hb hby at_55) rfl rfl (l' := #[.val (.long zx), .second, .val (.long zn), .second, .val (.long zo), .second, .val (.int qn), .val (.int qm), .val (.int qf), .val (.int (0 : Int32)), .val (.int (1 : Int32)), .val (.int (qn &&& (31 : Int32))), .val (.int (qm &&& (31 : Int32))), .val (.ref b62), .unset, .unset, .unset, .unset, .unset, .unset]) rfl k) ?_
      show Go _ _ _ _ _ _ _ (T62.setTop (mkF m 57 #[.val (.long zx), .second, .val (.long zn), .second, .val (.long zo), .second, .val (.int qn), .val (.int qm), .val (.int qf), .val (.int (0 : Int32)), .val (.int (1 : Int32)), .val (.int (qn &&& (31 : Int32))), .val (.int (qm &&& (31 : Int32))), .val (.ref b62), .unset, .unset, .unset, .unset, .unset, .unset] []))
      refine Go.step (fun _ k => XS.iload X62.here hx rfl (hb hby at_57) rfl  k) ?_
      show Go _ _ _ _ _ _ _ (T62.setTop (mkF m 59 #[.val (.long zx), .second, .val (.long zn), .second, .val (.long zo), .second, .val (.int qn), .val (.int qm), .val (.int qf), .val (.int (0 : Int32)), .val (.int (1 : Int32)), .val (.int (qn &&& (31 : Int32))), .val (.int (qm &&& (31 : Int32))), .val (.ref b62), .unset, .unset, .unset, .unset, .unset, .unset] [(.int (1 : Int32))]))
      have hc59 : ¬ ((1 : Int32) = (0 : Int32)) := by decide
      refine Go.step (fun _ k => XS.ifNo X62.here hx rfl (hb hby at_59) rfl ((if0 _ _).trans (feq hc59).1) k) ?_
      show Go _ _ _ _ _ _ _ (T62.setTop (mkF m 62 #[.val (.long zx), .second, .val (.long zn), .second, .val (.long zo), .second, .val (.int qn), .val (.int qm), .val (.int qf), .val (.int (0 : Int32)), .val (.int (1 : Int32)), .val (.int (qn &&& (31 : Int32))), .val (.int (qm &&& (31 : Int32))), .val (.ref b62), .unset, .unset, .unset, .unset, .unset, .unset] []))
      refine Go.step (fun _ k => XS.aconstNull X62.here hx rfl (hb hby at_62) k) ?_
      show Go _ _ _ _ _ _ _ (T62.setTop (mkF m 63 #[.val (.long zx), .second, .val (.long zn), .second, .val (.long zo), .second, .val (.int qn), .val (.int qm), .val (.int qf), .val (.int (0 : Int32)), .val (.int (1 : Int32)), .val (.int (qn &&& (31 : Int32))), .val (.int (qm &&& (31 : Int32))), .val (.ref b62), .unset, .unset, .unset, .unset, .unset, .unset] [.null]))
      refine Go.step (fun _ k => XS.goto X62.here hx rfl (pc0 := 63) (pc' := 70) rfl (hb hby at_63) (by decide) (by decide) k) ?_
      show Go _ _ _ _ _ _ _ (T62.setTop (mkF m 70 #[.val (.long zx), .second, .val (.long zn), .second, .val (.long zo), .second, .val (.int qn), .val (.int qm), .val (.int qf), .val (.int (0 : Int32)), .val (.int (1 : Int32)), .val (.int (qn &&& (31 : Int32))), .val (.int (qm &&& (31 : Int32))), .val (.ref b62), .unset, .unset, .unset, .unset, .unset, .unset] [.null]))
      refine Go.step (fun _ k => XS.astore X62.here hx rfl (hb hby at_70) rfl rfl (l' := #[.val (.long zx), .second, .val (.long zn), .second, .val (.long zo), .second, .val (.int qn), .val (.int qm), .val (.int qf), .val (.int (0 : Int32)), .val (.int (1 : Int32)), .val (.int (qn &&& (31 : Int32))), .val (.int (qm &&& (31 : Int32))), .val (.ref b62), .val .null, .unset, .unset, .unset, .unset, .unset]) rfl k) ?_
      show Go _ _ _ _ _ _ _ (T62.setTop (mkF m 72 #[.val (.long zx), .second, .val (.long zn), .second, .val (.long zo), .second, .val (.int qn), .val (.int qm), .val (.int qf), .val (.int (0 : Int32)), .val (.int (1 : Int32)), .val (.int (qn &&& (31 : Int32))), .val (.int (qm &&& (31 : Int32))), .val (.ref b62), .val .null, .unset, .unset, .unset, .unset, .unset] []))
      obtain ⟨T66, h66, X66, e66, E66, A66, D66, -, st66⟩ := newO X62 hx hZ hown (hw _ (List.mem_of_getElem? (i := 0) rfl)) (hw _ (List.mem_of_getElem? (i := 1) rfl)) (hw _ (List.mem_of_getElem? (i := 2) rfl)) e62 (g := (mkF m 72 #[.val (.long zx), .second, .val (.long zn), .second, .val (.long zo), .second, .val (.int qn), .val (.int qm), .val (.int qf), .val (.int (0 : Int32)), .val (.int (1 : Int32)), .val (.int (qn &&& (31 : Int32))), .val (.int (qm &&& (31 : Int32))), .val (.ref b62), .val .null, .unset, .unset, .unset, .unset, .unset] [])) rfl (hb hby at_72) (by decide) (by decide)
      obtain ⟨b66, g66⟩ : ∃ z, z = h62.size := ⟨_, rfl⟩
      rw [← g66] at A66 D66 st66
      refine Go.step st66 ?_
      have gn66 : n0 ≤ b66 := Nat.le_trans z63 (Nat.le_of_eq g66.symm)
      have sz66 : h0.size ≤ b66 := Nat.le_trans sqz63 (Nat.le_of_eq g66.symm)
      have ne67 : b62 ≠ b66 := Nat.ne_of_lt (Nat.lt_of_lt_of_le f65.lt (Nat.le_of_eq g66.symm))
      have z68 : n0 ≤ h66.size := Nat.le_trans z63 E66.1
      have sqz68 : h0.size ≤ h66.size := Nat.le_trans sqz63 E66.1
      have f70 : Fld Z h66 b66 "com/example/punctual_lease/punctuallease/Node" "children" "Ljava/util/Set;" .null := D66 (Or.inr (hw _ (List.mem_of_getElem? (i := 67) rfl))) (ty := (.object "java/util/Set")) (by decide)
      have f71 : Fld Z h66 b66 "com/example/punctual_lease/punctuallease/Node" "czxid" "J" (.long (0 : Int64)) := D66 (Or.inr (hw _ (List.mem_of_getElem? (i := 69) rfl))) (ty := .long) (by decide)
      have f72 : Fld Z h66 b66 "com/example/punctual_lease/punctuallease/Node" "ctime" "J" (.long (0 : Int64)) := D66 (Or.inr (hw _ (List.mem_of_getElem? (i := 71) rfl))) (ty := .long) (by decide)
      have f73 : Fld Z h66 b66 "com/example/punctual_lease/punctuallease/Node" "ephemeralOwner" "J" (.long (0 : Int64)) := D66 (Or.inr (hw _ (List.mem_of_getElem? (i := 73) rfl))) (ty := .long) (by decide)
      have f74 : Fld Z h66 b66 "com/example/punctual_lease/punctuallease/Node" "acl" "Ljava/util/List;" .null := D66 (Or.inr (hw _ (List.mem_of_getElem? (i := 75) rfl))) (ty := (.object "java/util/List")) (by decide)
      have f75 : Fld Z h66 b66 "com/example/punctual_lease/punctuallease/Node" "data" "[B" .null := D66 (Or.inl (hw _ (List.mem_of_getElem? (i := 77) rfl))) (ty := (.array .byte)) (by decide)
      have f76 : Fld Z h66 b66 "com/example/punctual_lease/punctuallease/Node" "mzxid" "J" (.long (0 : Int64)) := D66 (Or.inl (hw _ (List.mem_of_getElem? (i := 79) rfl))) (ty := .long) (by decide)
      have f77 : Fld Z h66 b66 "com/example/punctual_lease/punctuallease/Node" "mtime" "J" (.long (0 : Int64)) := D66 (Or.inl (hw _ (List.mem_of_getElem? (i := 81) rfl))) (ty := .long) (by decide)
      have f78 : Fld Z h66 b66 "com/example/punctual_lease/punctuallease/Node" "pzxid" "J" (.long (0 : Int64)) := D66 (Or.inl (hw _ (List.mem_of_getElem? (i := 83) rfl))) (ty := .long) (by decide)
      show Go _ _ _ _ _ _ _ (T66.setTop (mkF m 75 #[.val (.long zx), .second, .val (.long zn), .second, .val (.long zo), .second, .val (.int qn), .val (.int qm), .val (.int qf), .val (.int (0 : Int32)), .val (.int (1 : Int32)), .val (.int (qn &&& (31 : Int32))), .val (.int (qm &&& (31 : Int32))), .val (.ref b62), .val .null, .unset, .unset, .unset, .unset, .unset] [(.ref b66)]))
      refine Go.step (fun _ k => XS.dup X66.here hx rfl (hb hby at_75) rfl rfl k) ?_
      show Go _ _ _ _ _ _ _ (T66.setTop (mkF m 76 #[.val (.long zx), .second, .val (.long zn), .second, .val (.long zo), .second, .val (.int qn), .val (.int qm), .val (.int qf), .val (.int (0 : Int32)), .val (.int (1 : Int32)), .val (.int (qn &&& (31 : Int32))), .val (.int (qm &&& (31 : Int32))), .val (.ref b62), .val .null, .unset, .unset, .unset, .unset, .unset] [(.ref b66), (.ref b66)]))
      refine Go.step (fun _ k => XS.lloadN X66.here hx rfl (hb hby at_76) rfl  k) ?_
      show Go _ _ _ _ _ _ _ (T66.setTop (mkF m 77 #[.val (.long zx), .second, .val (.long zn), .second, .val (.long zo), .second, .val (.int qn), .val (.int qm), .val (.int qf), .val (.int (0 : Int32)), .val (.int (1 : Int32)), .val (.int (qn &&& (31 : Int32))), .val (.int (qm &&& (31 : Int32))), .val (.ref b62), .val .null, .unset, .unset, .unset, .unset, .unset] [(.long zx), (.ref b66), (.ref b66)]))
      refine Go.step (fun _ k => XS.lloadN X66.here hx rfl (hb hby at_77) rfl  k) ?_
      show Go _ _ _ _ _ _ _ (T66.setTop (mkF m 78 #[.val (.long zx), .second, .val (.long zn), .second, .val (.long zo), .second, .val (.int qn), .val (.int qm), .val (.int qf), .val (.int (0 : Int32)), .val (.int (1 : Int32)), .val (.int (qn &&& (31 : Int32))), .val (.int (qm &&& (31 : Int32))), .val (.ref b62), .val .null, .unset, .unset, .unset, .unset, .unset] [(.long zn), (.long zx), (.ref b66), (.ref b66)]))
      refine Go.step (fun _ k => XS.lload X66.here hx rfl (hb hby at_78) rfl  k) ?_
      show Go _ _ _ _ _ _ _ (T66.setTop (mkF m 80 #[.val (.long zx), .second, .val (.long zn), .second, .val (.long zo), .second, .val (.int qn), .val (.int qm), .val (.int qf), .val (.int (0 : Int32)), .val (.int (1 : Int32)), .val (.int (qn &&& (31 : Int32))), .val (.int (qm &&& (31 : Int32))), .val (.ref b62), .val .null, .unset, .unset, .unset, .unset, .unset] [(.long zo), (.long zn), (.long zx), (.ref b66), (.ref b66)]))
      obtain ⟨T79, h79, X79, e79, E79, A79, D79, -, st79⟩ := newO X66 hx hZ hown (hw _ (List.mem_of_getElem? (i := 3) rfl)) (hw _ (List.mem_of_getElem? (i := 4) rfl)) (hw _ (List.mem_of_getElem? (i := 5) rfl)) e66 (g := (mkF m 80 #[.val (.long zx), .second, .val (.long zn), .second, .val (.long zo), .second, .val (.int qn), .val (.int qm), .val (.int qf), .val (.int (0 : Int32)), .val (.int (1 : Int32)), .val (.int (qn &&& (31 : Int32))), .val (.int (qm &&& (31 : Int32))), .val (.ref b62), .val .null, .unset, .unset, .unset, .unset, .unset] [(.long zo), (.long zn), (.long zx), (.ref b66), (.ref b66)])) rfl (hb hby at_80) (by decide) (by decide)
      obtain ⟨b79, g79⟩ : ∃ z, z = h66.size := ⟨_, rfl⟩
      rw [← g79] at A79 D79 st79
      refine Go.step st79 ?_
      have gn79 : n0 ≤ b79 := Nat.le_trans z68 (Nat.le_of_eq g79.symm)
      have sz79 : h0.size ≤ b79 := Nat.le_trans sqz68 (Nat.le_of_eq g79.symm)
      have f80 : Ai Z h66 b62 .byte (qn &&& (31 : Int32)) (fun _ => 0) := (f65.ext E66)
      have ne81 : b62 ≠ b79 := Nat.ne_of_lt (Nat.lt_of_lt_of_le f80.lt (Nat.le_of_eq g79.symm))
      have ne82 : b66 ≠ b79 := Nat.ne_of_lt (Nat.lt_of_lt_of_le A66.lt (Nat.le_of_eq g79.symm))
      have z83 : n0 ≤ h79.size := Nat.le_trans z68 E79.1
      have sqz83 : h0.size ≤ h79.size := Nat.le_trans sqz68 E79.1
      have f85 : Fld Z h79 b79 "java/util/AbstractList" "modCount" "I" (.int (0 : Int32)) := D79 (Or.inl (hw _ (List.mem_of_getElem? (i := 25) rfl))) (ty := .int) (by decide)
      have f86 : Fld Z h79 b79 "java/util/ArrayList" "elementData" "[Ljava/lang/Object;" .null := D79 (Or.inl (hw _ (List.mem_of_getElem? (i := 28) rfl))) (ty := (.array (.object "java/lang/Object"))) (by decide)
      show Go _ _ _ _ _ _ _ (T79.setTop (mkF m 83 #[.val (.long zx), .second, .val (.long zn), .second, .val (.long zo), .second, .val (.int qn), .val (.int qm), .val (.int qf), .val (.int (0 : Int32)), .val (.int (1 : Int32)), .val (.int (qn &&& (31 : Int32))), .val (.int (qm &&& (31 : Int32))), .val (.ref b62), .val .null, .unset, .unset, .unset, .unset, .unset] [(.ref b79), (.long zo), (.long zn), (.long zx), (.ref b66), (.ref b66)]))
      refine Go.step (fun _ k => XS.dup X79.here hx rfl (hb hby at_83) rfl rfl k) ?_
      show Go _ _ _ _ _ _ _ (T79.setTop (mkF m 84 #[.val (.long zx), .second, .val (.long zn), .second, .val (.long zo), .second, .val (.int qn), .val (.int qm), .val (.int qf), .val (.int (0 : Int32)), .val (.int (1 : Int32)), .val (.int (qn &&& (31 : Int32))), .val (.int (qm &&& (31 : Int32))), .val (.ref b62), .val .null, .unset, .unset, .unset, .unset, .unset] [(.ref b79), (.ref b79), (.long zo), (.long zn), (.long zx), (.ref b66), (.ref b66)]))
      have f87 : Old Z n0 h79 := (((O_0.ext E62).ext E66).ext E79)
      obtain ⟨_, _, ⟨T88, L88, k88, n88⟩, -, X88, ⟨Lc88, hQ88, l88, y88, z88⟩, st88⟩ := X79.specialBack hx (y := (⟨"java/util/ArrayList", "<init>", "()V"⟩ : MethodName)) rfl hown (mvT hZ (hw _ (List.mem_of_getElem? (i := 6) rfl))) (mvT hZ (hw _ (List.mem_of_getElem? (i := 7) rfl))) (mvT hZ (hw _ (List.mem_of_getElem? (i := 8) rfl))) (by decide) (backOf (W := 9) (rm1 l Z aZ hw [] b79 w0 h79 n0 z83 f87 S_1 A79 f85 f86 gn79) hZ (hw _ (List.mem_of_getElem? (i := 8) rfl)) (hw _ (List.mem_of_getElem? (i := 5) rfl)) (by decide) (by decide)) (g := (mkF m 84 #[.val (.long zx), .second, .val (.long zn), .second, .val (.long zo), .second, .val (.int qn), .val (.int qm), .val (.int qf), .val (.int (0 : Int32)), .val (.int (1 : Int32)), .val (.int (qn &&& (31 : Int32))), .val (.int (qm &&& (31 : Int32))), .val (.ref b62), .val .null, .unset, .unset, .unset, .unset, .unset] [(.ref b79), (.ref b79), (.long zo), (.long zn), (.long zx), (.ref b66), (.ref b66)])) rfl (by rw [hml]; rfl) (Steps.refl _) (a := b79) (argsL := []) (rest := [(.ref b79), (.long zo), (.long zn), (.long zx), (.ref b66), (.ref b66)]) (lenOf pd_0 rfl) rfl (by show 2 * 0 + _ ≤ _; exact Nat.le_of_eq rfl) (hb hby at_84) (fun _ _ => ⟨rfl, e79, (by decide : 3 + 0 ≤ _), (by decide : 46 + 0 ≤ _)⟩)
      dsimp only [Pt.U, Pt.locs, Pt.cells, Pt.slots] at X88 l88 y88 z88 st88 hQ88
      subst l88 y88 z88
      obtain ⟨rfl, Nq88, K88, c88_0, c88_1, c88_2⟩ := hQ88
      have N88 := Fr.app N0 Nq88
      refine Go.tr st88 ?_
      have z89 : n0 ≤ T88.heap.size := Nat.le_trans z83 K88.1
      have sqz89 : h0.size ≤ T88.heap.size := Nat.le_trans sqz83 K88.1
      show Go _ _ _ _ _ _ _ (T88.setTop (mkF m 87 #[.val (.long zx), .second, .val (.long zn), .second, .val (.long zo), .second, .val (.int qn), .val (.int qm), .val (.int qf), .val (.int (0 : Int32)), .val (.int (1 : Int32)), .val (.int (qn &&& (31 : Int32))), .val (.int (qm &&& (31 : Int32))), .val (.ref b62), .val .null, .unset, .unset, .unset, .unset, .unset] [(.ref b79), (.long zo), (.long zn), (.long zx), (.ref b66), (.ref b66)]))
      refine Go.step (fun _ k => XS.aload X88.here hx rfl (hb hby at_87) rfl rfl  k) ?_
      show Go _ _ _ _ _ _ _ (T88.setTop (mkF m 89 #[.val (.long zx), .second, .val (.long zn), .second, .val (.long zo), .second, .val (.int qn), .val (.int qm), .val (.int qf), .val (.int (0 : Int32)), .val (.int (1 : Int32)), .val (.int (qn &&& (31 : Int32))), .val (.int (qm &&& (31 : Int32))), .val (.ref b62), .val .null, .unset, .unset, .unset, .unset, .unset] [(.ref b62), (.ref b79), (.long zo), (.long zn), (.long zx), (.ref b66), (.ref b66)]))
      have pq91 : (Value.ref b62).isRef = true := (by first | assumption | rfl | decide)
      have f92 : Exa Z T88.heap b66 "com/example/punctual_lease/punctuallease/Node" := ((A66.ext E79).keep K88)
      have f93 : Fld Z T88.heap b66 "com/example/punctual_lease/punctuallease/Node" "children" "Ljava/util/Set;" .null := ((f70.ext E79).keep K88 (ninS ne82 nin0))
      have f94 : Fld Z T88.heap b66 "com/example/punctual_lease/punctuallease/Node" "czxid" "J" (.long (0 : Int64)) := ((f71.ext E79).keep K88 (ninS ne82 nin0))
      have f95 : Fld Z T88.heap b66 "com/example/punctual_lease/punctuallease/Node" "ctime" "J" (.long (0 : Int64)) := ((f72.ext E79).keep K88 (ninS ne82 nin0))
      have f96 : Fld Z T88.heap b66 "com/example/punctual_lease/punctuallease/Node" "ephemeralOwner" "J" (.long (0 : Int64)) := ((f73.ext E79).keep K88 (ninS ne82 nin0))
      have f97 : Fld Z T88.heap b66 "com/example/punctual_lease/punctuallease/Node" "acl" "Ljava/util/List;" .null := ((f74.ext E79).keep K88 (ninS ne82 nin0))
      have f98 : Fld Z T88.heap b66 "com/example/punctual_lease/punctuallease/Node" "data" "[B" .null := ((f75.ext E79).keep K88 (ninS ne82 nin0))
      have f99 : Fld Z T88.heap b66 "com/example/punctual_lease/punctuallease/Node" "mzxid" "J" (.long (0 : Int64)) := ((f76.ext E79).keep K88 (ninS ne82 nin0))
      have f100 : Fld Z T88.heap b66 "com/example/punctual_lease/punctuallease/Node" "mtime" "J" (.long (0 : Int64)) := ((f77.ext E79).keep K88 (ninS ne82 nin0))
      have f101 : Fld Z T88.heap b66 "com/example/punctual_lease/punctuallease/Node" "pzxid" "J" (.long (0 : Int64)) := ((f78.ext E79).keep K88 (ninS ne82 nin0))
      obtain ⟨_, _, ⟨T102, L102, k102, n102⟩, -, X102, ⟨Lc102, hQ102, l102, y102, z102⟩, st102⟩ := X88.specialBack hx (y := (⟨"com/example/punctual_lease/punctuallease/Node", "<init>", "(JJJLjava/util/List;[B)V"⟩ : MethodName)) rfl hown (mvT hZ (hw _ (List.mem_of_getElem? (i := 29) rfl))) (mvT hZ (hw _ (List.mem_of_getElem? (i := 30) rfl))) (mvT hZ (hw _ (List.mem_of_getElem? (i := 31) rfl))) (by decide) (backOf (W := 1) (rm5 l Z aZ hw [] b66 zx zn zo b79 (Value.ref b62) T88.heap n0 z89 pq91 f92 f93 f94 f95 f96 f97 f98 f99 f100 f101 gn66) hZ (hw _ (List.mem_of_getElem? (i := 31) rfl)) (hw _ (List.mem_of_getElem? (i := 2) rfl)) (by decide) (by decide)) (g := (mkF m 89 #[.val (.long zx), .second, .val (.long zn), .second, .val (.long zo), .second, .val (.int qn), .val (.int qm), .val (.int qf), .val (.int (0 : Int32)), .val (.int (1 : Int32)), .val (.int (qn &&& (31 : Int32))), .val (.int (qm &&& (31 : Int32))), .val (.ref b62), .val .null, .unset, .unset, .unset, .unset, .unset] [(.ref b62), (.ref b79), (.long zo), (.long zn), (.long zx), (.ref b66), (.ref b66)])) rfl (by rw [hml]; rfl) (Steps.refl _) (a := b66) (argsL := [(.long zx), (.long zn), (.long zo), (.ref b79), (.ref b62)]) (rest := [(.ref b66)]) (lenOf pd_1 rfl) rfl (by show 2 * 0 + _ ≤ _; exact Nat.le_of_eq rfl) (hb hby at_89) (fun _ _ => ⟨rfl, rfl, (by decide : 3 + 2 ≤ _), (by decide : 46 + 9 ≤ _)⟩)
      dsimp only [Pt.U, Pt.locs, Pt.cells, Pt.slots] at X102 l102 y102 z102 st102 hQ102
      subst l102 y102 z102
      obtain ⟨rfl, Nq102, K102, c102_0, c102_1, c102_2⟩ := hQ102
      have N102 := Fr.app N88 Nq102
      refine Go.tr st102 ?_
      have z103 : n0 ≤ T102.heap.size := Nat.le_trans z89 K102.1
      have sqz103 : h0.size ≤ T102.heap.size := Nat.le_trans sqz89 K102.1
      show Go _ _ _ _ _ _ _ (T102.setTop (mkF m 92 #[.val (.long zx), .second, .val (.long zn), .second, .val (.long zo), .second, .val (.int qn), .val (.int qm), .val (.int qf), .val (.int (0 : Int32)), .val (.int (1 : Int32)), .val (.int (qn &&& (31 : Int32))), .val (.int (qm &&& (31 : Int32))), .val (.ref b62), .val .null, .unset, .unset, .unset, .unset, .unset] [(.ref b66)]))
      refine Go.step (fun _ k => XS.astore X102.here hx rfl (hb hby at_92) rfl rfl (l' := #[.val (.long zx), .second, .val (.long zn), .second, .val (.long zo), .second, .val (.int qn), .val (.int qm), .val (.int qf), .val (.int (0 : Int32)), .val (.int (1 : Int32)), .val (.int (qn &&& (31 : Int32))), .val (.int (qm &&& (31 : Int32))), .val (.ref b62), .val .null, .val (.ref b66), .unset, .unset, .unset, .unset]) rfl k) ?_
      show Go _ _ _ _ _ _ _ (T102.setTop (mkF m 94 #[.val (.long zx), .second, .val (.long zn), .second, .val (.long zo), .second, .val (.int qn), .val (.int qm), .val (.int qf), .val (.int (0 : Int32)), .val (.int (1 : Int32)), .val (.int (qn &&& (31 : Int32))), .val (.int (qm &&& (31 : Int32))), .val (.ref b62), .val .null, .val (.ref b66), .unset, .unset, .unset, .unset] []))
      refine Go.step (fun _ k => XS.iload X102.here hx rfl (hb hby at_94) rfl  k) ?_
      show Go _ _ _ _ _ _ _ (T102.setTop (mkF m 96 #[.val (.long zx), .second, .val (.long zn), .second, .val (.long zo), .second, .val (.int qn), .val (.int qm), .val (.int qf), .val (.int (0 : Int32)), .val (.int (1 : Int32)), .val (.int (qn &&& (31 : Int32))), .val (.int (qm &&& (31 : Int32))), .val (.ref b62), .val .null, .val (.ref b66), .unset, .unset, .unset, .unset] [(.int (0 : Int32))]))
      have hc96 : (0 : Int32) = (0 : Int32) := hc44
      refine Go.step (fun _ k => XS.ifYes X102.here hx rfl (pc0 := 96) (pc' := 103) rfl (hb hby at_96) rfl ((if0 _ _).trans (teq hc96).1) (by decide) (by decide) k) ?_
      show Go _ _ _ _ _ _ _ (T102.setTop (mkF m 103 #[.val (.long zx), .second, .val (.long zn), .second, .val (.long zo), .second, .val (.int qn), .val (.int qm), .val (.int qf), .val (.int (0 : Int32)), .val (.int (1 : Int32)), .val (.int (qn &&& (31 : Int32))), .val (.int (qm &&& (31 : Int32))), .val (.ref b62), .val .null, .val (.ref b66), .unset, .unset, .unset, .unset] []))
      refine Go.step (fun _ k => XS.iload X102.here hx rfl (hb hby at_103) rfl  k) ?_
      show Go _ _ _ _ _ _ _ (T102.setTop (mkF m 105 #[.val (.long zx), .second, .val (.long zn), .second, .val (.long zo), .second, .val (.int qn), .val (.int qm), .val (.int qf), .val (.int (0 : Int32)), .val (.int (1 : Int32)), .val (.int (qn &&& (31 : Int32))), .val (.int (qm &&& (31 : Int32))), .val (.ref b62), .val .null, .val (.ref b66), .unset, .unset, .unset, .unset] [(.int (qn &&& (31 : Int32)))]))
      refine Go.step (fun _ k => XS.istore X102.here hx rfl (hb hby at_105) rfl (l' := #[.val (.long zx), .second, .val (.long zn), .second, .val (.long zo), .second, .val (.int qn), .val (.int qm), .val (.int qf), .val (.int (0 : Int32)), .val (.int (1 : Int32)), .val (.int (qn &&& (31 : Int32))), .val (.int (qm &&& (31 : Int32))), .val (.ref b62), .val .null, .val (.ref b66), .val (.int (qn &&& (31 : Int32))), .unset, .unset, .unset]) rfl k) ?_
      show Go _ _ _ _ _ _ _ (T102.setTop (mkF m 107 #[.val (.long zx), .second, .val (.long zn), .second, .val (.long zo), .second, .val (.int qn), .val (.int qm), .val (.int qf), .val (.int (0 : Int32)), .val (.int (1 : Int32)), .val (.int (qn &&& (31 : Int32))), .val (.int (qm &&& (31 : Int32))), .val (.ref b62), .val .null, .val (.ref b66), .val (.int (qn &&& (31 : Int32))), .unset, .unset, .unset] []))
      refine Go.step (fun _ k => XS.aload X102.here hx rfl (hb hby at_107) rfl rfl  k) ?_
      show Go _ _ _ _ _ _ _ (T102.setTop (mkF m 109 #[.val (.long zx), .second, .val (.long zn), .second, .val (.long zo), .second, .val (.int qn), .val (.int qm), .val (.int qf), .val (.int (0 : Int32)), .val (.int (1 : Int32)), .val (.int (qn &&& (31 : Int32))), .val (.int (qm &&& (31 : Int32))), .val (.ref b62), .val .null, .val (.ref b66), .val (.int (qn &&& (31 : Int32))), .unset, .unset, .unset] [(.ref b66)]))
      have f105 : Ai Z T102.heap b62 .byte (qn &&& (31 : Int32)) (fun _ => 0) := (((f80.ext E79).keep K88 (ninS ne81 nin0)).keep K102 (ninS ne67 nin0))
      obtain ⟨cq106, kq106, q106a, q106b, q106c⟩ := isOf hZ rfl c102_0
      obtain ⟨_, _, ⟨T106, L106, k106, n106⟩, -, X106, ⟨Lc106, hQ106, l106, y106, z106⟩, st106⟩ := X102.virtualBack hx (y := (⟨"com/example/punctual_lease/punctuallease/Node", "dataLength", "()I"⟩ : MethodName)) (z := (⟨"com/example/punctual_lease/punctuallease/Node", "dataLength", "()I"⟩ : MethodName)) hown (mvT hZ (hw _ (List.mem_of_getElem? (i := 84) rfl))) (mvT hZ (hw _ (List.mem_of_getElem? (i := 85) rfl))) (notFace_of_selects (args := #[]) (mvT hZ (hw _ (List.mem_of_getElem? (i := 87) rfl)))) (mvT hZ (hw _ (List.mem_of_getElem? (i := 87) rfl))) (mvT hZ (hw _ (List.mem_of_getElem? (i := 86) rfl))) (by decide) (backOf (W := 0) (rm10a l Z aZ hw [] b66 b62 (qn &&& (31 : Int32)) (fun _ => 0) T102.heap n0 z103 c102_2 f105) hZ (hw _ (List.mem_of_getElem? (i := 88) rfl)) (hw _ (List.mem_of_getElem? (i := 2) rfl)) (by decide) (by decide)) q106a q106c (g := (mkF m 109 #[.val (.long zx), .second, .val (.long zn), .second, .val (.long zo), .second, .val (.int qn), .val (.int qm), .val (.int qf), .val (.int (0 : Int32)), .val (.int (1 : Int32)), .val (.int (qn &&& (31 : Int32))), .val (.int (qm &&& (31 : Int32))), .val (.ref b62), .val .null, .val (.ref b66), .val (.int (qn &&& (31 : Int32))), .unset, .unset, .unset] [(.ref b66)])) rfl (by rw [hml]; rfl) (Steps.refl _) (argsL := []) (rest := []) (lenOf pd_2 rfl) rfl (by show 2 * 0 + _ ≤ _; exact Nat.le_of_eq rfl) (hb hby at_109) (fun _ _ => ⟨rfl, rfl, (by decide : 5 + 0 ≤ _), (by decide : 55 + 0 ≤ _)⟩)
      dsimp only [Pt.U, Pt.locs, Pt.cells, Pt.slots] at X106 l106 y106 z106 st106 hQ106
      subst l106 y106 z106
      obtain ⟨rfl, Nq106, e106⟩ := hQ106
      have N106 := Fr.app N102 Nq106
      refine Go.tr st106 ?_
      show Go _ _ _ _ _ _ _ (T106.setTop (mkF m 112 #[.val (.long zx), .second, .val (.long zn), .second, .val (.long zo), .second, .val (.int qn), .val (.int qm), .val (.int qf), .val (.int (0 : Int32)), .val (.int (1 : Int32)), .val (.int (qn &&& (31 : Int32))), .val (.int (qm &&& (31 : Int32))), .val (.ref b62), .val .null, .val (.ref b66), .val (.int (qn &&& (31 : Int32))), .unset, .unset, .unset] [(.int (qn &&& (31 : Int32)))]))
      refine Go.step (fun _ k => XS.iload X106.here hx rfl (hb hby at_112) rfl  k) ?_
      show Go _ _ _ _ _ _ _ (T106.setTop (mkF m 114 #[.val (.long zx), .second, .val (.long zn), .second, .val (.long zo), .second, .val (.int qn), .val (.int qm), .val (.int qf), .val (.int (0 : Int32)), .val (.int (1 : Int32)), .val (.int (qn &&& (31 : Int32))), .val (.int (qm &&& (31 : Int32))), .val (.ref b62), .val .null, .val (.ref b66), .val (.int (qn &&& (31 : Int32))), .unset, .unset, .unset] [(.int (qn &&& (31 : Int32))), (.int (qn &&& (31 : Int32)))]))
      have hc114 : (qn &&& (31 : Int32)) = (qn &&& (31 : Int32)) := rfl
      refine Go.step (fun _ k => XS.icmpNo X106.here hx rfl (hb hby at_114) rfl (teq hc114).2 k) ?_
      show Go _ _ _ _ _ _ _ (T106.setTop (mkF m 117 #[.val (.long zx), .second, .val (.long zn), .second, .val (.long zo), .second, .val (.int qn), .val (.int qm), .val (.int qf), .val (.int (0 : Int32)), .val (.int (1 : Int32)), .val (.int (qn &&& (31 : Int32))), .val (.int (qm &&& (31 : Int32))), .val (.ref b62), .val .null, .val (.ref b66), .val (.int (qn &&& (31 : Int32))), .unset, .unset, .unset] []))
      refine Go.step (fun _ k => XS.iconst X106.here hx rfl (hb hby at_117) k) ?_
      show Go _ _ _ _ _ _ _ (T106.setTop (mkF m 118 #[.val (.long zx), .second, .val (.long zn), .second, .val (.long zo), .second, .val (.int qn), .val (.int qm), .val (.int qf), .val (.int (0 : Int32)), .val (.int (1 : Int32)), .val (.int (qn &&& (31 : Int32))), .val (.int (qm &&& (31 : Int32))), .val (.ref b62), .val .null, .val (.ref b66), .val (.int (qn &&& (31 : Int32))), .unset, .unset, .unset] [(.int (1 : Int32))]))
      refine Go.step (fun _ k => XS.goto X106.here hx rfl (pc0 := 118) (pc' := 122) rfl (hb hby at_118) (by decide) (by decide) k) ?_
      show Go _ _ _ _ _ _ _ (T106.setTop (mkF m 122 #[.val (.long zx), .second, .val (.long zn), .second, .val (.long zo), .second, .val (.int qn), .val (.int qm), .val (.int qf), .val (.int (0 : Int32)), .val (.int (1 : Int32)), .val (.int (qn &&& (31 : Int32))), .val (.int (qm &&& (31 : Int32))), .val (.ref b62), .val .null, .val (.ref b66), .val (.int (qn &&& (31 : Int32))), .unset, .unset, .unset] [(.int (1 : Int32))]))
      refine Go.step (fun _ k => XS.istore X106.here hx rfl (hb hby at_122) rfl (l' := #[.val (.long zx), .second, .val (.long zn), .second, .val (.long zo), .second, .val (.int qn), .val (.int qm), .val (.int qf), .val (.int (0 : Int32)), .val (.int (1 : Int32)), .val (.int (qn &&& (31 : Int32))), .val (.int (qm &&& (31 : Int32))), .val (.ref b62), .val .null, .val (.ref b66), .val (.int (qn &&& (31 : Int32))), .val (.int (1 : Int32)), .unset, .unset]) rfl k) ?_
      show Go _ _ _ _ _ _ _ (T106.setTop (mkF m 124 #[.val (.long zx), .second, .val (.long zn), .second, .val (.long zo), .second, .val (.int qn), .val (.int qm), .val (.int qf), .val (.int (0 : Int32)), .val (.int (1 : Int32)), .val (.int (qn &&& (31 : Int32))), .val (.int (qm &&& (31 : Int32))), .val (.ref b62), .val .null, .val (.ref b66), .val (.int (qn &&& (31 : Int32))), .val (.int (1 : Int32)), .unset, .unset] []))
      refine Go.step (fun _ k => XS.aload X106.here hx rfl (hb hby at_124) rfl rfl  k) ?_
      show Go _ _ _ _ _ _ _ (T106.setTop (mkF m 126 #[.val (.long zx), .second, .val (.long zn), .second, .val (.long zo), .second, .val (.int qn), .val (.int qm), .val (.int qf), .val (.int (0 : Int32)), .val (.int (1 : Int32)), .val (.int (qn &&& (31 : Int32))), .val (.int (qm &&& (31 : Int32))), .val (.ref b62), .val .null, .val (.ref b66), .val (.int (qn &&& (31 : Int32))), .val (.int (1 : Int32)), .unset, .unset] [(.ref b66)]))
      refine Go.step (fun _ k => XS.aload X106.here hx rfl (hb hby at_126) rfl rfl  k) ?_
      show Go _ _ _ _ _ _ _ (T106.setTop (mkF m 128 #[.val (.long zx), .second, .val (.long zn), .second, .val (.long zo), .second, .val (.int qn), .val (.int qm), .val (.int qf), .val (.int (0 : Int32)), .val (.int (1 : Int32)), .val (.int (qn &&& (31 : Int32))), .val (.int (qm &&& (31 : Int32))), .val (.ref b62), .val .null, .val (.ref b66), .val (.int (qn &&& (31 : Int32))), .val (.int (1 : Int32)), .unset, .unset] [.null, (.ref b66)]))
      obtain ⟨T107, h107, X107, e107, W107, st107⟩ := putF X106 hx hZ hown (host := "") (Or.inl (hw _ (List.mem_of_getElem? (i := 89) rfl))) Via.refl e106 c102_2 c102_0 (Or.inl (hw _ (List.mem_of_getElem? (i := 77) rfl))) (hw _ (List.mem_of_getElem? (i := 1) rfl)) (ty := (.array .byte)) (v := .null) (by decide) rfl rfl (g := (mkF m 128 #[.val (.long zx), .second, .val (.long zn), .second, .val (.long zo), .second, .val (.int qn), .val (.int qm), .val (.int qf), .val (.int (0 : Int32)), .val (.int (1 : Int32)), .val (.int (qn &&& (31 : Int32))), .val (.int (qm &&& (31 : Int32))), .val (.ref b62), .val .null, .val (.ref b66), .val (.int (qn &&& (31 : Int32))), .val (.int (1 : Int32)), .unset, .unset] [.null, (.ref b66)])) rfl rfl (hb hby at_128)
      refine Go.step st107 ?_
      have N107 := Fr.snoc X107 N106 gn66
      have z108 : n0 ≤ h107.size := Nat.le_trans z103 (Keep.of_wr W107).1
      have sqz108 : h0.size ≤ h107.size := Nat.le_trans sqz103 (Keep.of_wr W107).1
      have f110 : Fld Z h107 b66 "com/example/punctual_lease/punctuallease/Node" "data" "[B" .null := c102_2.same W107
      show Go _ _ _ _ _ _ _ (T107.setTop (mkF m 131 #[.val (.long zx), .second, .val (.long zn), .second, .val (.long zo), .second, .val (.int qn), .val (.int qm), .val (.int qf), .val (.int (0 : Int32)), .val (.int (1 : Int32)), .val (.int (qn &&& (31 : Int32))), .val (.int (qm &&& (31 : Int32))), .val (.ref b62), .val .null, .val (.ref b66), .val (.int (qn &&& (31 : Int32))), .val (.int (1 : Int32)), .unset, .unset] []))
      refine Go.step (fun _ k => XS.iload X107.here hx rfl (hb hby at_131) rfl  k) ?_
      show Go _ _ _ _ _ _ _ (T107.setTop (mkF m 133 #[.val (.long zx), .second, .val (.long zn), .second, .val (.long zo), .second, .val (.int qn), .val (.int qm), .val (.int qf), .val (.int (0 : Int32)), .val (.int (1 : Int32)), .val (.int (qn &&& (31 : Int32))), .val (.int (qm &&& (31 : Int32))), .val (.ref b62), .val .null, .val (.ref b66), .val (.int (qn &&& (31 : Int32))), .val (.int (1 : Int32)), .unset, .unset] [(.int (1 : Int32))]))
      have hc133 : ¬ ((1 : Int32) = (0 : Int32)) := hc59
      refine Go.step (fun _ k => XS.ifNo X107.here hx rfl (hb hby at_133) rfl ((if0 _ _).trans (feq hc133).1) k) ?_
      show Go _ _ _ _ _ _ _ (T107.setTop (mkF m 136 #[.val (.long zx), .second, .val (.long zn), .second, .val (.long zo), .second, .val (.int qn), .val (.int qm), .val (.int qf), .val (.int (0 : Int32)), .val (.int (1 : Int32)), .val (.int (qn &&& (31 : Int32))), .val (.int (qm &&& (31 : Int32))), .val (.ref b62), .val .null, .val (.ref b66), .val (.int (qn &&& (31 : Int32))), .val (.int (1 : Int32)), .unset, .unset] []))
      refine Go.step (fun _ k => XS.iconst X107.here hx rfl (hb hby at_136) k) ?_
      show Go _ _ _ _ _ _ _ (T107.setTop (mkF m 137 #[.val (.long zx), .second, .val (.long zn), .second, .val (.long zo), .second, .val (.int qn), .val (.int qm), .val (.int qf), .val (.int (0 : Int32)), .val (.int (1 : Int32)), .val (.int (qn &&& (31 : Int32))), .val (.int (qm &&& (31 : Int32))), .val (.ref b62), .val .null, .val (.ref b66), .val (.int (qn &&& (31 : Int32))), .val (.int (1 : Int32)), .unset, .unset] [(.int (0 : Int32))]))
      refine Go.step (fun _ k => XS.goto X107.here hx rfl (pc0 := 137) (pc' := 142) rfl (hb hby at_137) (by decide) (by decide) k) ?_
      show Go _ _ _ _ _ _ _ (T107.setTop (mkF m 142 #[.val (.long zx), .second, .val (.long zn), .second, .val (.long zo), .second, .val (.int qn), .val (.int qm), .val (.int qf), .val (.int (0 : Int32)), .val (.int (1 : Int32)), .val (.int (qn &&& (31 : Int32))), .val (.int (qm &&& (31 : Int32))), .val (.ref b62), .val .null, .val (.ref b66), .val (.int (qn &&& (31 : Int32))), .val (.int (1 : Int32)), .unset, .unset] [(.int (0 : Int32))]))
      refine Go.step (fun _ k => XS.istore X107.here hx rfl (hb hby at_142) rfl (l' := #[.val (.long zx), .second, .val (.long zn), .second, .val (.long zo), .second, .val (.int qn), .val (.int qm), .val (.int qf), .val (.int (0 : Int32)), .val (.int (1 : Int32)), .val (.int (qn &&& (31 : Int32))), .val (.int (qm &&& (31 : Int32))), .val (.ref b62), .val .null, .val (.ref b66), .val (.int (qn &&& (31 : Int32))), .val (.int (1 : Int32)), .val (.int (0 : Int32)), .unset]) rfl k) ?_
      show Go _ _ _ _ _ _ _ (T107.setTop (mkF m 144 #[.val (.long zx), .second, .val (.long zn), .second, .val (.long zo), .second, .val (.int qn), .val (.int qm), .val (.int qf), .val (.int (0 : Int32)), .val (.int (1 : Int32)), .val (.int (qn &&& (31 : Int32))), .val (.int (qm &&& (31 : Int32))), .val (.ref b62), .val .null, .val (.ref b66), .val (.int (qn &&& (31 : Int32))), .val (.int (1 : Int32)), .val (.int (0 : Int32)), .unset] []))
      refine Go.step (fun _ k => XS.aload X107.here hx rfl (hb hby at_144) rfl rfl  k) ?_
      show Go _ _ _ _ _ _ _ (T107.setTop (mkF m 146 #[.val (.long zx), .second, .val (.long zn), .second, .val (.long zo), .second, .val (.int qn), .val (.int qm), .val (.int qf), .val (.int (0 : Int32)), .val (.int (1 : Int32)), .val (.int (qn &&& (31 : Int32))), .val (.int (qm &&& (31 : Int32))), .val (.ref b62), .val .null, .val (.ref b66), .val (.int (qn &&& (31 : Int32))), .val (.int (1 : Int32)), .val (.int (0 : Int32)), .unset] [(.ref b66)]))
      have f112 : Exa Z h107 b66 "com/example/punctual_lease/punctuallease/Node" := (c102_0.wr W107)
      obtain ⟨cq111, kq111, q111a, q111b, q111c⟩ := isOf hZ e107 f112
      obtain ⟨_, _, ⟨T111, L111, k111, n111⟩, -, X111, ⟨Lc111, hQ111, l111, y111, z111⟩, st111⟩ := X107.virtualBack hx (y := (⟨"com/example/punctual_lease/punctuallease/Node", "dataLength", "()I"⟩ : MethodName)) (z := (⟨"com/example/punctual_lease/punctuallease/Node", "dataLength", "()I"⟩ : MethodName)) hown (mvT hZ (hw _ (List.mem_of_getElem? (i := 84) rfl))) (mvT hZ (hw _ (List.mem_of_getElem? (i := 85) rfl))) (notFace_of_selects (args := #[]) (mvT hZ (hw _ (List.mem_of_getElem? (i := 87) rfl)))) (mvT hZ (hw _ (List.mem_of_getElem? (i := 87) rfl))) (mvT hZ (hw _ (List.mem_of_getElem? (i := 86) rfl))) (by decide) (backOf (W := 0) (rm10n l Z aZ hw [] b66 h107 n0 z108 f110) hZ (hw _ (List.mem_of_getElem? (i := 88) rfl)) (hw _ (List.mem_of_getElem? (i := 2) rfl)) (by decide) (by decide)) q111a q111c (g := (mkF m 146 #[.val (.long zx), .second, .val (.long zn), .second, .val (.long zo), .second, .val (.int qn), .val (.int qm), .val (.int qf), .val (.int (0 : Int32)), .val (.int (1 : Int32)), .val (.int (qn &&& (31 : Int32))), .val (.int (qm &&& (31 : Int32))), .val (.ref b62), .val .null, .val (.ref b66), .val (.int (qn &&& (31 : Int32))), .val (.int (1 : Int32)), .val (.int (0 : Int32)), .unset] [(.ref b66)])) rfl (by rw [hml]; rfl) (Steps.refl _) (argsL := []) (rest := []) (lenOf pd_2 rfl) rfl (by show 2 * 0 + _ ≤ _; exact Nat.le_of_eq rfl) (hb hby at_146) (fun _ _ => ⟨rfl, e107, (by decide : 5 + 0 ≤ _), (by decide : 55 + 0 ≤ _)⟩)
      dsimp only [Pt.U, Pt.locs, Pt.cells, Pt.slots] at X111 l111 y111 z111 st111 hQ111
      subst l111 y111 z111
      obtain ⟨rfl, Nq111, e111⟩ := hQ111
      have N111 := Fr.app N107 Nq111
      refine Go.tr st111 ?_
      show Go _ _ _ _ _ _ _ (T111.setTop (mkF m 149 #[.val (.long zx), .second, .val (.long zn), .second, .val (.long zo), .second, .val (.int qn), .val (.int qm), .val (.int qf), .val (.int (0 : Int32)), .val (.int (1 : Int32)), .val (.int (qn &&& (31 : Int32))), .val (.int (qm &&& (31 : Int32))), .val (.ref b62), .val .null, .val (.ref b66), .val (.int (qn &&& (31 : Int32))), .val (.int (1 : Int32)), .val (.int (0 : Int32)), .unset] [(.int (0 : Int32))]))
      refine Go.step (fun _ k => XS.iload X111.here hx rfl (hb hby at_149) rfl  k) ?_
      show Go _ _ _ _ _ _ _ (T111.setTop (mkF m 151 #[.val (.long zx), .second, .val (.long zn), .second, .val (.long zo), .second, .val (.int qn), .val (.int qm), .val (.int qf), .val (.int (0 : Int32)), .val (.int (1 : Int32)), .val (.int (qn &&& (31 : Int32))), .val (.int (qm &&& (31 : Int32))), .val (.ref b62), .val .null, .val (.ref b66), .val (.int (qn &&& (31 : Int32))), .val (.int (1 : Int32)), .val (.int (0 : Int32)), .unset] [(.int (0 : Int32)), (.int (0 : Int32))]))
      have hc151 : (0 : Int32) = (0 : Int32) := hc96
      refine Go.step (fun _ k => XS.icmpNo X111.here hx rfl (hb hby at_151) rfl (teq hc151).2 k) ?_
      show Go _ _ _ _ _ _ _ (T111.setTop (mkF m 154 #[.val (.long zx), .second, .val (.long zn), .second, .val (.long zo), .second, .val (.int qn), .val (.int qm), .val (.int qf), .val (.int (0 : Int32)), .val (.int (1 : Int32)), .val (.int (qn &&& (31 : Int32))), .val (.int (qm &&& (31 : Int32))), .val (.ref b62), .val .null, .val (.ref b66), .val (.int (qn &&& (31 : Int32))), .val (.int (1 : Int32)), .val (.int (0 : Int32)), .unset] []))
      refine Go.step (fun _ k => XS.iconst X111.here hx rfl (hb hby at_154) k) ?_
      show Go _ _ _ _ _ _ _ (T111.setTop (mkF m 155 #[.val (.long zx), .second, .val (.long zn), .second, .val (.long zo), .second, .val (.int qn), .val (.int qm), .val (.int qf), .val (.int (0 : Int32)), .val (.int (1 : Int32)), .val (.int (qn &&& (31 : Int32))), .val (.int (qm &&& (31 : Int32))), .val (.ref b62), .val .null, .val (.ref b66), .val (.int (qn &&& (31 : Int32))), .val (.int (1 : Int32)), .val (.int (0 : Int32)), .unset] [(.int (1 : Int32))]))
      refine Go.step (fun _ k => XS.goto X111.here hx rfl (pc0 := 155) (pc' := 159) rfl (hb hby at_155) (by decide) (by decide) k) ?_
      show Go _ _ _ _ _ _ _ (T111.setTop (mkF m 159 #[.val (.long zx), .second, .val (.long zn), .second, .val (.long zo), .second, .val (.int qn), .val (.int qm), .val (.int qf), .val (.int (0 : Int32)), .val (.int (1 : Int32)), .val (.int (qn &&& (31 : Int32))), .val (.int (qm &&& (31 : Int32))), .val (.ref b62), .val .null, .val (.ref b66), .val (.int (qn &&& (31 : Int32))), .val (.int (1 : Int32)), .val (.int (0 : Int32)), .unset] [(.int (1 : Int32))]))
      refine Go.step (fun _ k => XS.istore X111.here hx rfl (hb hby at_159) rfl (l' := #[.val (.long zx), .second, .val (.long zn), .second, .val (.long zo), .second, .val (.int qn), .val (.int qm), .val (.int qf), .val (.int (0 : Int32)), .val (.int (1 : Int32)), .val (.int (qn &&& (31 : Int32))), .val (.int (qm &&& (31 : Int32))), .val (.ref b62), .val .null, .val (.ref b66), .val (.int (qn &&& (31 : Int32))), .val (.int (1 : Int32)), .val (.int (0 : Int32)), .val (.int (1 : Int32))]) rfl k) ?_
      show Go _ _ _ _ _ _ _ (T111.setTop (mkF m 161 #[.val (.long zx), .second, .val (.long zn), .second, .val (.long zo), .second, .val (.int qn), .val (.int qm), .val (.int qf), .val (.int (0 : Int32)), .val (.int (1 : Int32)), .val (.int (qn &&& (31 : Int32))), .val (.int (qm &&& (31 : Int32))), .val (.ref b62), .val .null, .val (.ref b66), .val (.int (qn &&& (31 : Int32))), .val (.int (1 : Int32)), .val (.int (0 : Int32)), .val (.int (1 : Int32))] []))
      refine Go.step (fun _ k => XS.iload X111.here hx rfl (hb hby at_161) rfl  k) ?_
      show Go _ _ _ _ _ _ _ (T111.setTop (mkF m 163 #[.val (.long zx), .second, .val (.long zn), .second, .val (.long zo), .second, .val (.int qn), .val (.int qm), .val (.int qf), .val (.int (0 : Int32)), .val (.int (1 : Int32)), .val (.int (qn &&& (31 : Int32))), .val (.int (qm &&& (31 : Int32))), .val (.ref b62), .val .null, .val (.ref b66), .val (.int (qn &&& (31 : Int32))), .val (.int (1 : Int32)), .val (.int (0 : Int32)), .val (.int (1 : Int32))] [(.int (1 : Int32))]))
      have hc163 : ¬ ((1 : Int32) = (0 : Int32)) := hc133
      refine Go.step (fun _ k => XS.ifNo X111.here hx rfl (hb hby at_163) rfl ((if0 _ _).trans (feq hc163).1) k) ?_
      show Go _ _ _ _ _ _ _ (T111.setTop (mkF m 166 #[.val (.long zx), .second, .val (.long zn), .second, .val (.long zo), .second, .val (.int qn), .val (.int qm), .val (.int qf), .val (.int (0 : Int32)), .val (.int (1 : Int32)), .val (.int (qn &&& (31 : Int32))), .val (.int (qm &&& (31 : Int32))), .val (.ref b62), .val .null, .val (.ref b66), .val (.int (qn &&& (31 : Int32))), .val (.int (1 : Int32)), .val (.int (0 : Int32)), .val (.int (1 : Int32))] []))
      refine Go.step (fun _ k => XS.iload X111.here hx rfl (hb hby at_166) rfl  k) ?_
      show Go _ _ _ _ _ _ _ (T111.setTop (mkF m 168 #[.val (.long zx), .second, .val (.long zn), .second, .val (.long zo), .second, .val (.int qn), .val (.int qm), .val (.int qf), .val (.int (0 : Int32)), .val (.int (1 : Int32)), .val (.int (qn &&& (31 : Int32))), .val (.int (qm &&& (31 : Int32))), .val (.ref b62), .val .null, .val (.ref b66), .val (.int (qn &&& (31 : Int32))), .val (.int (1 : Int32)), .val (.int (0 : Int32)), .val (.int (1 : Int32))] [(.int (1 : Int32))]))
      have hc168 : ¬ ((1 : Int32) = (0 : Int32)) := hc163
      refine Go.step (fun _ k => XS.ifNo X111.here hx rfl (hb hby at_168) rfl ((if0 _ _).trans (feq hc168).1) k) ?_
      show Go _ _ _ _ _ _ _ (T111.setTop (mkF m 171 #[.val (.long zx), .second, .val (.long zn), .second, .val (.long zo), .second, .val (.int qn), .val (.int qm), .val (.int qf), .val (.int (0 : Int32)), .val (.int (1 : Int32)), .val (.int (qn &&& (31 : Int32))), .val (.int (qm &&& (31 : Int32))), .val (.ref b62), .val .null, .val (.ref b66), .val (.int (qn &&& (31 : Int32))), .val (.int (1 : Int32)), .val (.int (0 : Int32)), .val (.int (1 : Int32))] []))
      refine Go.step (fun _ k => XS.iconst X111.here hx rfl (hb hby at_171) k) ?_
      show Go _ _ _ _ _ _ _ (T111.setTop (mkF m 172 #[.val (.long zx), .second, .val (.long zn), .second, .val (.long zo), .second, .val (.int qn), .val (.int qm), .val (.int qf), .val (.int (0 : Int32)), .val (.int (1 : Int32)), .val (.int (qn &&& (31 : Int32))), .val (.int (qm &&& (31 : Int32))), .val (.ref b62), .val .null, .val (.ref b66), .val (.int (qn &&& (31 : Int32))), .val (.int (1 : Int32)), .val (.int (0 : Int32)), .val (.int (1 : Int32))] [(.int (1 : Int32))]))
      refine Go.step (fun _ k => XS.goto X111.here hx rfl (pc0 := 172) (pc' := 176) rfl (hb hby at_172) (by decide) (by decide) k) ?_
      show Go _ _ _ _ _ _ _ (T111.setTop (mkF m 176 #[.val (.long zx), .second, .val (.long zn), .second, .val (.long zo), .second, .val (.int qn), .val (.int qm), .val (.int qf), .val (.int (0 : Int32)), .val (.int (1 : Int32)), .val (.int (qn &&& (31 : Int32))), .val (.int (qm &&& (31 : Int32))), .val (.ref b62), .val .null, .val (.ref b66), .val (.int (qn &&& (31 : Int32))), .val (.int (1 : Int32)), .val (.int (0 : Int32)), .val (.int (1 : Int32))] [(.int (1 : Int32))]))
      refine Go.retN X111 hx (t := .boolean) Bd.returns (by simp) hlk (hb hby at_176) ?_ (by decide) (by decide)
      rw [e111]
      exact ⟨(by first | rfl | (simp_all [own_nb1, own_nb0]; done)), N111⟩
  · skip
    refine Go.step (fun _ k => XS.ifNo X0.here hx rfl (hb hby at_4) rfl ((if0 _ _).trans (feq hc4).1) k) ?_
    show Go _ _ _ _ _ _ _ (s₁.setTop (mkF m 7 #[.val (.long zx), .second, .val (.long zn), .second, .val (.long zo), .second, .val (.int qn), .val (.int qm), .val (.int qf), .unset, .unset, .unset, .unset, .unset, .unset, .unset, .unset, .unset, .unset, .unset] []))
    refine Go.step (fun _ k => XS.iconst X0.here hx rfl (hb hby at_7) k) ?_
    show Go _ _ _ _ _ _ _ (s₁.setTop (mkF m 8 #[.val (.long zx), .second, .val (.long zn), .second, .val (.long zo), .second, .val (.int qn), .val (.int qm), .val (.int qf), .unset, .unset, .unset, .unset, .unset, .unset, .unset, .unset, .unset, .unset, .unset] [(.int (1 : Int32))]))
    refine Go.step (fun _ k => XS.goto X0.here hx rfl (pc0 := 8) (pc' := 12) rfl (hb hby at_8) (by decide) (by decide) k) ?_
    show Go _ _ _ _ _ _ _ (s₁.setTop (mkF m 12 #[.val (.long zx), .second, .val (.long zn), .second, .val (.long zo), .second, .val (.int qn), .val (.int qm), .val (.int qf), .unset, .unset, .unset, .unset, .unset, .unset, .unset, .unset, .unset, .unset, .unset] [(.int (1 : Int32))]))
    refine Go.step (fun _ k => XS.istore X0.here hx rfl (hb hby at_12) rfl (l' := #[.val (.long zx), .second, .val (.long zn), .second, .val (.long zo), .second, .val (.int qn), .val (.int qm), .val (.int qf), .val (.int (1 : Int32)), .unset, .unset, .unset, .unset, .unset, .unset, .unset, .unset, .unset, .unset]) rfl k) ?_
    show Go _ _ _ _ _ _ _ (s₁.setTop (mkF m 14 #[.val (.long zx), .second, .val (.long zn), .second, .val (.long zo), .second, .val (.int qn), .val (.int qm), .val (.int qf), .val (.int (1 : Int32)), .unset, .unset, .unset, .unset, .unset, .unset, .unset, .unset, .unset, .unset] []))
    refine Go.step (fun _ k => XS.iload X0.here hx rfl (hb hby at_14) rfl  k) ?_
    show Go _ _ _ _ _ _ _ (s₁.setTop (mkF m 16 #[.val (.long zx), .second, .val (.long zn), .second, .val (.long zo), .second, .val (.int qn), .val (.int qm), .val (.int qf), .val (.int (1 : Int32)), .unset, .unset, .unset, .unset, .unset, .unset, .unset, .unset, .unset, .unset] [(.int qf)]))
    refine Go.step (fun _ k => XS.iconst X0.here hx rfl (hb hby at_16) k) ?_
    show Go _ _ _ _ _ _ _ (s₁.setTop (mkF m 17 #[.val (.long zx), .second, .val (.long zn), .second, .val (.long zo), .second, .val (.int qn), .val (.int qm), .val (.int qf), .val (.int (1 : Int32)), .unset, .unset, .unset, .unset, .unset, .unset, .unset, .unset, .unset, .unset] [(.int (2 : Int32)), (.int qf)]))
    refine Go.step (fun _ k => XS.iand X0.here hx rfl (hb hby at_17) rfl k) ?_
    show Go _ _ _ _ _ _ _ (s₁.setTop (mkF m 18 #[.val (.long zx), .second, .val (.long zn), .second, .val (.long zo), .second, .val (.int qn), .val (.int qm), .val (.int qf), .val (.int (1 : Int32)), .unset, .unset, .unset, .unset, .unset, .unset, .unset, .unset, .unset, .unset] [(.int (qf &&& (2 : Int32)))]))
    by_cases hc18 : (qf &&& (2 : Int32)) = (0 : Int32)
    · skip
      refine Go.step (fun _ k => XS.ifYes X0.here hx rfl (pc0 := 18) (pc' := 25) rfl (hb hby at_18) rfl ((if0 _ _).trans (teq hc18).1) (by decide) (by decide) k) ?_
      show Go _ _ _ _ _ _ _ (s₁.setTop (mkF m 25 #[.val (.long zx), .second, .val (.long zn), .second, .val (.long zo), .second, .val (.int qn), .val (.int qm), .val (.int qf), .val (.int (1 : Int32)), .unset, .unset, .unset, .unset, .unset, .unset, .unset, .unset, .unset, .unset] []))
      refine Go.step (fun _ k => XS.iconst X0.here hx rfl (hb hby at_25) k) ?_
      show Go _ _ _ _ _ _ _ (s₁.setTop (mkF m 26 #[.val (.long zx), .second, .val (.long zn), .second, .val (.long zo), .second, .val (.int qn), .val (.int qm), .val (.int qf), .val (.int (1 : Int32)), .unset, .unset, .unset, .unset, .unset, .unset, .unset, .unset, .unset, .unset] [(.int (0 : Int32))]))
      refine Go.step (fun _ k => XS.istore X0.here hx rfl (hb hby at_26) rfl (l' := #[.val (.long zx), .second, .val (.long zn), .second, .val (.long zo), .second, .val (.int qn), .val (.int qm), .val (.int qf), .val (.int (1 : Int32)), .val (.int (0 : Int32)), .unset, .unset, .unset, .unset, .unset, .unset, .unset, .unset, .unset]) rfl k) ?_
      show Go _ _ _ _ _ _ _ (s₁.setTop (mkF m 28 #[.val (.long zx), .second, .val (.long zn), .second, .val (.long zo), .second, .val (.int qn), .val (.int qm), .val (.int qf), .val (.int (1 : Int32)), .val (.int (0 : Int32)), .unset, .unset, .unset, .unset, .unset, .unset, .unset, .unset, .unset] []))
      refine Go.step (fun _ k => XS.iload X0.here hx rfl (hb hby at_28) rfl  k) ?_
      show Go _ _ _ _ _ _ _ (s₁.setTop (mkF m 30 #[.val (.long zx), .second, .val (.long zn), .second, .val (.long zo), .second, .val (.int qn), .val (.int qm), .val (.int qf), .val (.int (1 : Int32)), .val (.int (0 : Int32)), .unset, .unset, .unset, .unset, .unset, .unset, .unset, .unset, .unset] [(.int qn)]))
      refine Go.step (fun _ k => XS.bipush X0.here hx rfl (hb hby at_30) k) ?_
      show Go _ _ _ _ _ _ _ (s₁.setTop (mkF m 32 #[.val (.long zx), .second, .val (.long zn), .second, .val (.long zo), .second, .val (.int qn), .val (.int qm), .val (.int qf), .val (.int (1 : Int32)), .val (.int (0 : Int32)), .unset, .unset, .unset, .unset, .unset, .unset, .unset, .unset, .unset] [(.int (31 : Int32)), (.int qn)]))
      refine Go.step (fun _ k => XS.iand X0.here hx rfl (hb hby at_32) rfl k) ?_
      show Go _ _ _ _ _ _ _ (s₁.setTop (mkF m 33 #[.val (.long zx), .second, .val (.long zn), .second, .val (.long zo), .second, .val (.int qn), .val (.int qm), .val (.int qf), .val (.int (1 : Int32)), .val (.int (0 : Int32)), .unset, .unset, .unset, .unset, .unset, .unset, .unset, .unset, .unset] [(.int (qn &&& (31 : Int32)))]))
      refine Go.step (fun _ k => XS.istore X0.here hx rfl (hb hby at_33) rfl (l' := #[.val (.long zx), .second, .val (.long zn), .second, .val (.long zo), .second, .val (.int qn), .val (.int qm), .val (.int qf), .val (.int (1 : Int32)), .val (.int (0 : Int32)), .val (.int (qn &&& (31 : Int32))), .unset, .unset, .unset, .unset, .unset, .unset, .unset, .unset]) rfl k) ?_
      show Go _ _ _ _ _ _ _ (s₁.setTop (mkF m 35 #[.val (.long zx), .second, .val (.long zn), .second, .val (.long zo), .second, .val (.int qn), .val (.int qm), .val (.int qf), .val (.int (1 : Int32)), .val (.int (0 : Int32)), .val (.int (qn &&& (31 : Int32))), .unset, .unset, .unset, .unset, .unset, .unset, .unset, .unset] []))
      refine Go.step (fun _ k => XS.iload X0.here hx rfl (hb hby at_35) rfl  k) ?_
      show Go _ _ _ _ _ _ _ (s₁.setTop (mkF m 37 #[.val (.long zx), .second, .val (.long zn), .second, .val (.long zo), .second, .val (.int qn), .val (.int qm), .val (.int qf), .val (.int (1 : Int32)), .val (.int (0 : Int32)), .val (.int (qn &&& (31 : Int32))), .unset, .unset, .unset, .unset, .unset, .unset, .unset, .unset] [(.int qm)]))
      refine Go.step (fun _ k => XS.bipush X0.here hx rfl (hb hby at_37) k) ?_
      show Go _ _ _ _ _ _ _ (s₁.setTop (mkF m 39 #[.val (.long zx), .second, .val (.long zn), .second, .val (.long zo), .second, .val (.int qn), .val (.int qm), .val (.int qf), .val (.int (1 : Int32)), .val (.int (0 : Int32)), .val (.int (qn &&& (31 : Int32))), .unset, .unset, .unset, .unset, .unset, .unset, .unset, .unset] [(.int (31 : Int32)), (.int qm)]))
      refine Go.step (fun _ k => XS.iand X0.here hx rfl (hb hby at_39) rfl k) ?_
      show Go _ _ _ _ _ _ _ (s₁.setTop (mkF m 40 #[.val (.long zx), .second, .val (.long zn), .second, .val (.long zo), .second, .val (.int qn), .val (.int qm), .val (.int qf), .val (.int (1 : Int32)), .val (.int (0 : Int32)), .val (.int (qn &&& (31 : Int32))), .unset, .unset, .unset, .unset, .unset, .unset, .unset, .unset] [(.int (qm &&& (31 : Int32)))]))
      refine Go.step (fun _ k => XS.istore X0.here hx rfl (hb hby at_40) rfl (l' := #[.val (.long zx), .second, .val (.long zn), .second, .val (.long zo), .second, .val (.int qn), .val (.int qm), .val (.int qf), .val (.int (1 : Int32)), .val (.int (0 : Int32)), .val (.int (qn &&& (31 : Int32))), .val (.int (qm &&& (31 : Int32))), .unset, .unset, .unset, .unset, .unset, .unset, .unset]) rfl k) ?_
      show Go _ _ _ _ _ _ _ (s₁.setTop (mkF m 42 #[.val (.long zx), .second, .val (.long zn), .second, .val (.long zo), .second, .val (.int qn), .val (.int qm), .val (.int qf), .val (.int (1 : Int32)), .val (.int (0 : Int32)), .val (.int (qn &&& (31 : Int32))), .val (.int (qm &&& (31 : Int32))), .unset, .unset, .unset, .unset, .unset, .unset, .unset] []))
      refine Go.step (fun _ k => XS.iload X0.here hx rfl (hb hby at_42) rfl  k) ?_
      show Go _ _ _ _ _ _ _ (s₁.setTop (mkF m 44 #[.val (.long zx), .second, .val (.long zn), .second, .val (.long zo), .second, .val (.int qn), .val (.int qm), .val (.int qf), .val (.int (1 : Int32)), .val (.int (0 : Int32)), .val (.int (qn &&& (31 : Int32))), .val (.int (qm &&& (31 : Int32))), .unset, .unset, .unset, .unset, .unset, .unset, .unset] [(.int (1 : Int32))]))
      have hc44 : ¬ ((1 : Int32) = (0 : Int32)) := by decide
      refine Go.step (fun _ k => XS.ifNo X0.here hx rfl (hb hby at_44) rfl ((if0 _ _).trans (feq hc44).1) k) ?_
      show Go _ _ _ _ _ _ _ (s₁.setTop (mkF m 47 #[.val (.long zx), .second, .val (.long zn), .second, .val (.long zo), .second, .val (.int qn), .val (.int qm), .val (.int qf), .val (.int (1 : Int32)), .val (.int (0 : Int32)), .val (.int (qn &&& (31 : Int32))), .val (.int (qm &&& (31 : Int32))), .unset, .unset, .unset, .unset, .unset, .unset, .unset] []))
      refine Go.step (fun _ k => XS.aconstNull X0.here hx rfl (hb hby at_47) k) ?_
      show Go _ _ _ _ _ _ _ (s₁.setTop (mkF m 48 #[.val (.long zx), .second, .val (.long zn), .second, .val (.long zo), .second, .val (.int qn), .val (.int qm), .val (.int qf), .val (.int (1 : Int32)), .val (.int (0 : Int32)), .val (.int (qn &&& (31 : Int32))), .val (.int (qm &&& (31 : Int32))), .unset, .unset, .unset, .unset, .unset, .unset, .unset] [.null]))
      refine Go.step (fun _ k => XS.goto X0.here hx rfl (pc0 := 48) (pc' := 55) rfl (hb hby at_48) (by decide) (by decide) k) ?_
      show Go _ _ _ _ _ _ _ (s₁.setTop (mkF m 55 #[.val (.long zx), .second, .val (.long zn), .second, .val (.long zo), .second, .val (.int qn), .val (.int qm), .val (.int qf), .val (.int (1 : Int32)), .val (.int (0 : Int32)), .val (.int (qn &&& (31 : Int32))), .val (.int (qm &&& (31 : Int32))), .unset, .unset, .unset, .unset, .unset, .unset, .unset] [.null]))
      refine Go.step (fun _ k => XS.astore X0.here hx rfl (hb hby at_55) rfl rfl (l' := #[.val (.long zx), .second, .val (.long zn), .second, .val (.long zo), .second, .val (.int qn), .val (.int qm), .val (.int qf), .val (.int (1 : Int32)), .val (.int (0 : Int32)), .val (.int (qn &&& (31 : Int32))), .val (.int (qm &&& (31 : Int32))), .val .null, .unset, .unset, .unset, .unset, .unset, .unset]) rfl k) ?_
      show Go _ _ _ _ _ _ _ (s₁.setTop (mkF m 57 #[.val (.long zx), .second, .val (.long zn), .second, .val (.long zo), .second, .val (.int qn), .val (.int qm), .val (.int qf), .val (.int (1 : Int32)), .val (.int (0 : Int32)), .val (.int (qn &&& (31 : Int32))), .val (.int (qm &&& (31 : Int32))), .val .null, .unset, .unset, .unset, .unset, .unset, .unset] []))
      refine Go.step (fun _ k => XS.iload X0.here hx rfl (hb hby at_57) rfl  k) ?_
      show Go _ _ _ _ _ _ _ (s₁.setTop (mkF m 59 #[.val (.long zx), .second, .val (.long zn), .second, .val (.long zo), .second, .val (.int qn), .val (.int qm), .val (.int qf), .val (.int (1 : Int32)), .val (.int (0 : Int32)), .val (.int (qn &&& (31 : Int32))), .val (.int (qm &&& (31 : Int32))), .val .null, .unset, .unset, .unset, .unset, .unset, .unset] [(.int (0 : Int32))]))
      have hc59 : (0 : Int32) = (0 : Int32) := by decide
      refine Go.step (fun _ k => XS.ifYes X0.here hx rfl (pc0 := 59) (pc' := 66) rfl (hb hby at_59) rfl ((if0 _ _).trans (teq hc59).1) (by decide) (by decide) k) ?_
      show Go _ _ _ _ _ _ _ (s₁.setTop (mkF m 66 #[.val (.long zx), .second, .val (.long zn), .second, .val (.long zo), .second, .val (.int qn), .val (.int qm), .val (.int qf), .val (.int (1 : Int32)), .val (.int (0 : Int32)), .val (.int (qn &&& (31 : Int32))), .val (.int (qm &&& (31 : Int32))), .val .null, .unset, .unset, .unset, .unset, .unset, .unset] []))
      refine Go.step (fun _ k => XS.iload X0.here hx rfl (hb hby at_66) rfl  k) ?_
      show Go _ _ _ _ _ _ _ (s₁.setTop (mkF m 68 #[.val (.long zx), .second, .val (.long zn), .second, .val (.long zo), .second, .val (.int qn), .val (.int qm), .val (.int qf), .val (.int (1 : Int32)), .val (.int (0 : Int32)), .val (.int (qn &&& (31 : Int32))), .val (.int (qm &&& (31 : Int32))), .val .null, .unset, .unset, .unset, .unset, .unset, .unset] [(.int (qm &&& (31 : Int32)))]))
      have ng113 : ¬ (qm &&& (31 : Int32)) < 0 := (own_n31 _).1
      have lc113 : ((qm &&& (31 : Int32))).toNatClampNeg ≤ 31 := (own_n31 _).2
      obtain ⟨T113, h113, k113, X113, e113, E113, A113, st113⟩ := newP X0 hx hZ (hw _ (List.mem_of_getElem? (i := 90) rfl)) e0 (g := (mkF m 68 #[.val (.long zx), .second, .val (.long zn), .second, .val (.long zo), .second, .val (.int qn), .val (.int qm), .val (.int qf), .val (.int (1 : Int32)), .val (.int (0 : Int32)), .val (.int (qn &&& (31 : Int32))), .val (.int (qm &&& (31 : Int32))), .val .null, .unset, .unset, .unset, .unset, .unset, .unset] [(.int (qm &&& (31 : Int32)))])) rfl (hb hby at_68) rfl ng113 (cap := 31) lc113 (by decide) (by decide) (by decide)
      obtain ⟨b113, g113⟩ : ∃ z, z = h0.size := ⟨_, rfl⟩
      rw [← g113] at A113 st113
      refine Go.step st113 ?_
      have gn113 : n0 ≤ b113 := Nat.le_trans Z0 (Nat.le_of_eq g113.symm)
      have sz113 : h0.size ≤ b113 := Nat.le_trans sq0 (Nat.le_of_eq g113.symm)
      have z114 : n0 ≤ h113.size := Nat.le_trans Z0 E113.1
      have sqz114 : h0.size ≤ h113.size := Nat.le_trans sq0 E113.1
      have f116 : Ai Z h113 b113 .byte (qm &&& (31 : Int32)) (fun _ => 0) := Ai.new A113 ng113 rfl
      show Go _ _ _ _ _ _ _ (T113.setTop (mkF m 70 #[.val (.long zx), .second, .val (.long zn), .second, .val (.long zo), .second, .val (.int qn), .val (.int qm), .val (.int qf), .val (.int (1 : Int32)), .val (.int (0 : Int32)), .val (.int (qn &&& (31 : Int32))), .val (.int (qm &&& (31 : Int32))), .val .null, .unset, .unset, .unset, .unset, .unset, .unset] [(.ref b113)]))
      refine Go.step (fun _ k => XS.astore X113.here hx rfl (hb hby at_70) rfl rfl (l' := #[.val (.long zx), .second, .val (.long zn), .second, .val (.long zo), .second, .val (.int qn), .val (.int qm), .val (.int qf), .val (.int (1 : Int32)), .val (.int (0 : Int32)), .val (.int (qn &&& (31 : Int32))), .val (.int (qm &&& (31 : Int32))), .val .null, .val (.ref b113), .unset, .unset, .unset, .unset, .unset]) rfl k) ?_
      show Go _ _ _ _ _ _ _ (T113.setTop (mkF m 72 #[.val (.long zx), .second, .val (.long zn), .second, .val (.long zo), .second, .val (.int qn), .val (.int qm), .val (.int qf), .val (.int (1 : Int32)), .val (.int (0 : Int32)), .val (.int (qn &&& (31 : Int32))), .val (.int (qm &&& (31 : Int32))), .val .null, .val (.ref b113), .unset, .unset, .unset, .unset, .unset] []))
      obtain ⟨T117, h117, X117, e117, E117, A117, D117, -, st117⟩ := newO X113 hx hZ hown (hw _ (List.mem_of_getElem? (i := 0) rfl)) (hw _ (List.mem_of_getElem? (i := 1) rfl)) (hw _ (List.mem_of_getElem? (i := 2) rfl)) e113 (g := (mkF m 72 #[.val (.long zx), .second, .val (.long zn), .second, .val (.long zo), .second, .val (.int qn), .val (.int qm), .val (.int qf), .val (.int (1 : Int32)), .val (.int (0 : Int32)), .val (.int (qn &&& (31 : Int32))), .val (.int (qm &&& (31 : Int32))), .val .null, .val (.ref b113), .unset, .unset, .unset, .unset, .unset] [])) rfl (hb hby at_72) (by decide) (by decide)
      obtain ⟨b117, g117⟩ : ∃ z, z = h113.size := ⟨_, rfl⟩
      rw [← g117] at A117 D117 st117
      refine Go.step st117 ?_
      have gn117 : n0 ≤ b117 := Nat.le_trans z114 (Nat.le_of_eq g117.symm)
      have sz117 : h0.size ≤ b117 := Nat.le_trans sqz114 (Nat.le_of_eq g117.symm)
      have ne118 : b113 ≠ b117 := Nat.ne_of_lt (Nat.lt_of_lt_of_le f116.lt (Nat.le_of_eq g117.symm))
      have z119 : n0 ≤ h117.size := Nat.le_trans z114 E117.1
      have sqz119 : h0.size ≤ h117.size := Nat.le_trans sqz114 E117.1
      have f121 : Fld Z h117 b117 "com/example/punctual_lease/punctuallease/Node" "children" "Ljava/util/Set;" .null := D117 (Or.inr (hw _ (List.mem_of_getElem? (i := 67) rfl))) (ty := (.object "java/util/Set")) (by decide)
      have f122 : Fld Z h117 b117 "com/example/punctual_lease/punctuallease/Node" "czxid" "J" (.long (0 : Int64)) := D117 (Or.inr (hw _ (List.mem_of_getElem? (i := 69) rfl))) (ty := .long) (by decide)
      have f123 : Fld Z h117 b117 "com/example/punctual_lease/punctuallease/Node" "ctime" "J" (.long (0 : Int64)) := D117 (Or.inr (hw _ (List.mem_of_getElem? (i := 71) rfl))) (ty := .long) (by decide)
      have f124 : Fld Z h117 b117 "com/example/punctual_lease/punctuallease/Node" "ephemeralOwner" "J" (.long (0 : Int64)) := D117 (Or.inr (hw _ (List.mem_of_getElem? (i := 73) rfl))) (ty := .long) (by decide)
      have f125 : Fld Z h117 b117 "com/example/punctual_lease/punctuallease/Node" "acl" "Ljava/util/List;" .null := D117 (Or.inr (hw _ (List.mem_of_getElem? (i := 75) rfl))) (ty := (.object "java/util/List")) (by decide)
      have f126 : Fld Z h117 b117 "com/example/punctual_lease/punctuallease/Node" "data" "[B" .null := D117 (Or.inl (hw _ (List.mem_of_getElem? (i := 77) rfl))) (ty := (.array .byte)) (by decide)
      have f127 : Fld Z h117 b117 "com/example/punctual_lease/punctuallease/Node" "mzxid" "J" (.long (0 : Int64)) := D117 (Or.inl (hw _ (List.mem_of_getElem? (i := 79) rfl))) (ty := .long) (by decide)
      have f128 : Fld Z h117 b117 "com/example/punctual_lease/punctuallease/Node" "mtime" "J" (.long (0 : Int64)) := D117 (Or.inl (hw _ (List.mem_of_getElem? (i := 81) rfl))) (ty := .long) (by decide)
      have f129 : Fld Z h117 b117 "com/example/punctual_lease/punctuallease/Node" "pzxid" "J" (.long (0 : Int64)) := D117 (Or.inl (hw _ (List.mem_of_getElem? (i := 83) rfl))) (ty := .long) (by decide)
      show Go _ _ _ _ _ _ _ (T117.setTop (mkF m 75 #[.val (.long zx), .second, .val (.long zn), .second, .val (.long zo), .second, .val (.int qn), .val (.int qm), .val (.int qf), .val (.int (1 : Int32)), .val (.int (0 : Int32)), .val (.int (qn &&& (31 : Int32))), .val (.int (qm &&& (31 : Int32))), .val .null, .val (.ref b113), .unset, .unset, .unset, .unset, .unset] [(.ref b117)]))
      refine Go.step (fun _ k => XS.dup X117.here hx rfl (hb hby at_75) rfl rfl k) ?_
      show Go _ _ _ _ _ _ _ (T117.setTop (mkF m 76 #[.val (.long zx), .second, .val (.long zn), .second, .val (.long zo), .second, .val (.int qn), .val (.int qm), .val (.int qf), .val (.int (1 : Int32)), .val (.int (0 : Int32)), .val (.int (qn &&& (31 : Int32))), .val (.int (qm &&& (31 : Int32))), .val .null, .val (.ref b113), .unset, .unset, .unset, .unset, .unset] [(.ref b117), (.ref b117)]))
      refine Go.step (fun _ k => XS.lloadN X117.here hx rfl (hb hby at_76) rfl  k) ?_
      show Go _ _ _ _ _ _ _ (T117.setTop (mkF m 77 #[.val (.long zx), .second, .val (.long zn), .second, .val (.long zo), .second, .val (.int qn), .val (.int qm), .val (.int qf), .val (.int (1 : Int32)), .val (.int (0 : Int32)), .val (.int (qn &&& (31 : Int32))), .val (.int (qm &&& (31 : Int32))), .val .null, .val (.ref b113), .unset, .unset, .unset, .unset, .unset] [(.long zx), (.ref b117), (.ref b117)]))
      refine Go.step (fun _ k => XS.lloadN X117.here hx rfl (hb hby at_77) rfl  k) ?_
      show Go _ _ _ _ _ _ _ (T117.setTop (mkF m 78 #[.val (.long zx), .second, .val (.long zn), .second, .val (.long zo), .second, .val (.int qn), .val (.int qm), .val (.int qf), .val (.int (1 : Int32)), .val (.int (0 : Int32)), .val (.int (qn &&& (31 : Int32))), .val (.int (qm &&& (31 : Int32))), .val .null, .val (.ref b113), .unset, .unset, .unset, .unset, .unset] [(.long zn), (.long zx), (.ref b117), (.ref b117)]))
      refine Go.step (fun _ k => XS.lload X117.here hx rfl (hb hby at_78) rfl  k) ?_
      show Go _ _ _ _ _ _ _ (T117.setTop (mkF m 80 #[.val (.long zx), .second, .val (.long zn), .second, .val (.long zo), .second, .val (.int qn), .val (.int qm), .val (.int qf), .val (.int (1 : Int32)), .val (.int (0 : Int32)), .val (.int (qn &&& (31 : Int32))), .val (.int (qm &&& (31 : Int32))), .val .null, .val (.ref b113), .unset, .unset, .unset, .unset, .unset] [(.long zo), (.long zn), (.long zx), (.ref b117), (.ref b117)]))
      obtain ⟨T130, h130, X130, e130, E130, A130, D130, -, st130⟩ := newO X117 hx hZ hown (hw _ (List.mem_of_getElem? (i := 3) rfl)) (hw _ (List.mem_of_getElem? (i := 4) rfl)) (hw _ (List.mem_of_getElem? (i := 5) rfl)) e117 (g := (mkF m 80 #[.val (.long zx), .second, .val (.long zn), .second, .val (.long zo), .second, .val (.int qn), .val (.int qm), .val (.int qf), .val (.int (1 : Int32)), .val (.int (0 : Int32)), .val (.int (qn &&& (31 : Int32))), .val (.int (qm &&& (31 : Int32))), .val .null, .val (.ref b113), .unset, .unset, .unset, .unset, .unset] [(.long zo), (.long zn), (.long zx), (.ref b117), (.ref b117)])) rfl (hb hby at_80) (by decide) (by decide)
      obtain ⟨b130, g130⟩ : ∃ z, z = h117.size := ⟨_, rfl⟩
      rw [← g130] at A130 D130 st130
      refine Go.step st130 ?_
      have gn130 : n0 ≤ b130 := Nat.le_trans z119 (Nat.le_of_eq g130.symm)
      have sz130 : h0.size ≤ b130 := Nat.le_trans sqz119 (Nat.le_of_eq g130.symm)
      have f131 : Ai Z h117 b113 .byte (qm &&& (31 : Int32)) (fun _ => 0) := (f116.ext E117)
      have ne132 : b113 ≠ b130 := Nat.ne_of_lt (Nat.lt_of_lt_of_le f131.lt (Nat.le_of_eq g130.symm))
      have ne133 : b117 ≠ b130 := Nat.ne_of_lt (Nat.lt_of_lt_of_le A117.lt (Nat.le_of_eq g130.symm))
      have z134 : n0 ≤ h130.size := Nat.le_trans z119 E130.1
      have sqz134 : h0.size ≤ h130.size := Nat.le_trans sqz119 E130.1
      have f136 : Fld Z h130 b130 "java/util/AbstractList" "modCount" "I" (.int (0 : Int32)) := D130 (Or.inl (hw _ (List.mem_of_getElem? (i := 25) rfl))) (ty := .int) (by decide)
      have f137 : Fld Z h130 b130 "java/util/ArrayList" "elementData" "[Ljava/lang/Object;" .null := D130 (Or.inl (hw _ (List.mem_of_getElem? (i := 28) rfl))) (ty := (.array (.object "java/lang/Object"))) (by decide)
      show Go _ _ _ _ _ _ _ (T130.setTop (mkF m 83 #[.val (.long zx), .second, .val (.long zn), .second, .val (.long zo), .second, .val (.int qn), .val (.int qm), .val (.int qf), .val (.int (1 : Int32)), .val (.int (0 : Int32)), .val (.int (qn &&& (31 : Int32))), .val (.int (qm &&& (31 : Int32))), .val .null, .val (.ref b113), .unset, .unset, .unset, .unset, .unset] [(.ref b130), (.long zo), (.long zn), (.long zx), (.ref b117), (.ref b117)]))
      refine Go.step (fun _ k => XS.dup X130.here hx rfl (hb hby at_83) rfl rfl k) ?_
      show Go _ _ _ _ _ _ _ (T130.setTop (mkF m 84 #[.val (.long zx), .second, .val (.long zn), .second, .val (.long zo), .second, .val (.int qn), .val (.int qm), .val (.int qf), .val (.int (1 : Int32)), .val (.int (0 : Int32)), .val (.int (qn &&& (31 : Int32))), .val (.int (qm &&& (31 : Int32))), .val .null, .val (.ref b113), .unset, .unset, .unset, .unset, .unset] [(.ref b130), (.ref b130), (.long zo), (.long zn), (.long zx), (.ref b117), (.ref b117)]))
      have f138 : Old Z n0 h130 := (((O_0.ext E113).ext E117).ext E130)
      obtain ⟨_, _, ⟨T139, L139, k139, n139⟩, -, X139, ⟨Lc139, hQ139, l139, y139, z139⟩, st139⟩ := X130.specialBack hx (y := (⟨"java/util/ArrayList", "<init>", "()V"⟩ : MethodName)) rfl hown (mvT hZ (hw _ (List.mem_of_getElem? (i := 6) rfl))) (mvT hZ (hw _ (List.mem_of_getElem? (i := 7) rfl))) (mvT hZ (hw _ (List.mem_of_getElem? (i := 8) rfl))) (by decide) (backOf (W := 9) (rm1 l Z aZ hw [] b130 w0 h130 n0 z134 f138 S_1 A130 f136 f137 gn130) hZ (hw _ (List.mem_of_getElem? (i := 8) rfl)) (hw _ (List.mem_of_getElem? (i := 5) rfl)) (by decide) (by decide)) (g := (mkF m 84 #[.val (.long zx), .second, .val (.long zn), .second, .val (.long zo), .second, .val (.int qn), .val (.int qm), .val (.int qf), .val (.int (1 : Int32)), .val (.int (0 : Int32)), .val (.int (qn &&& (31 : Int32))), .val (.int (qm &&& (31 : Int32))), .val .null, .val (.ref b113), .unset, .unset, .unset, .unset, .unset] [(.ref b130), (.ref b130), (.long zo), (.long zn), (.long zx), (.ref b117), (.ref b117)])) rfl (by rw [hml]; rfl) (Steps.refl _) (a := b130) (argsL := []) (rest := [(.ref b130), (.long zo), (.long zn), (.long zx), (.ref b117), (.ref b117)]) (lenOf pd_0 rfl) rfl (by show 2 * 0 + _ ≤ _; exact Nat.le_of_eq rfl) (hb hby at_84) (fun _ _ => ⟨rfl, e130, (by decide : 3 + 0 ≤ _), (by decide : 46 + 0 ≤ _)⟩)
      dsimp only [Pt.U, Pt.locs, Pt.cells, Pt.slots] at X139 l139 y139 z139 st139 hQ139
      subst l139 y139 z139
      obtain ⟨rfl, Nq139, K139, c139_0, c139_1, c139_2⟩ := hQ139
      have N139 := Fr.app N0 Nq139
      refine Go.tr st139 ?_
      have z140 : n0 ≤ T139.heap.size := Nat.le_trans z134 K139.1
      have sqz140 : h0.size ≤ T139.heap.size := Nat.le_trans sqz134 K139.1
      show Go _ _ _ _ _ _ _ (T139.setTop (mkF m 87 #[.val (.long zx), .second, .val (.long zn), .second, .val (.long zo), .second, .val (.int qn), .val (.int qm), .val (.int qf), .val (.int (1 : Int32)), .val (.int (0 : Int32)), .val (.int (qn &&& (31 : Int32))), .val (.int (qm &&& (31 : Int32))), .val .null, .val (.ref b113), .unset, .unset, .unset, .unset, .unset] [(.ref b130), (.long zo), (.long zn), (.long zx), (.ref b117), (.ref b117)]))
      refine Go.step (fun _ k => XS.aload X139.here hx rfl (hb hby at_87) rfl rfl  k) ?_
      show Go _ _ _ _ _ _ _ (T139.setTop (mkF m 89 #[.val (.long zx), .second, .val (.long zn), .second, .val (.long zo), .second, .val (.int qn), .val (.int qm), .val (.int qf), .val (.int (1 : Int32)), .val (.int (0 : Int32)), .val (.int (qn &&& (31 : Int32))), .val (.int (qm &&& (31 : Int32))), .val .null, .val (.ref b113), .unset, .unset, .unset, .unset, .unset] [.null, (.ref b130), (.long zo), (.long zn), (.long zx), (.ref b117), (.ref b117)]))
      have pq142 : Value.null.isRef = true := (by first | assumption | rfl | decide)
      have f143 : Exa Z T139.heap b117 "com/example/punctual_lease/punctuallease/Node" := ((A117.ext E130).keep K139)
      have f144 : Fld Z T139.heap b117 "com/example/punctual_lease/punctuallease/Node" "children" "Ljava/util/Set;" .null := ((f121.ext E130).keep K139 (ninS ne133 nin0))
      have f145 : Fld Z T139.heap b117 "com/example/punctual_lease/punctuallease/Node" "czxid" "J" (.long (0 : Int64)) := ((f122.ext E130).keep K139 (ninS ne133 nin0))
      have f146 : Fld Z T139.heap b117 "com/example/punctual_lease/punctuallease/Node" "ctime" "J" (.long (0 : Int64)) := ((f123.ext E130).keep K139 (ninS ne133 nin0))
      have f147 : Fld Z T139.heap b117 "com/example/punctual_lease/punctuallease/Node" "ephemeralOwner" "J" (.long (0 : Int64)) := ((f124.ext E130).keep K139 (ninS ne133 nin0))
      have f148 : Fld Z T139.heap b117 "com/example/punctual_lease/punctuallease/Node" "acl" "Ljava/util/List;" .null := ((f125.ext E130).keep K139 (ninS ne133 nin0))
      have f149 : Fld Z T139.heap b117 "com/example/punctual_lease/punctuallease/Node" "data" "[B" .null := ((f126.ext E130).keep K139 (ninS ne133 nin0))
      have f150 : Fld Z T139.heap b117 "com/example/punctual_lease/punctuallease/Node" "mzxid" "J" (.long (0 : Int64)) := ((f127.ext E130).keep K139 (ninS ne133 nin0))
      have f151 : Fld Z T139.heap b117 "com/example/punctual_lease/punctuallease/Node" "mtime" "J" (.long (0 : Int64)) := ((f128.ext E130).keep K139 (ninS ne133 nin0))
      have f152 : Fld Z T139.heap b117 "com/example/punctual_lease/punctuallease/Node" "pzxid" "J" (.long (0 : Int64)) := ((f129.ext E130).keep K139 (ninS ne133 nin0))
      obtain ⟨_, _, ⟨T153, L153, k153, n153⟩, -, X153, ⟨Lc153, hQ153, l153, y153, z153⟩, st153⟩ := X139.specialBack hx (y := (⟨"com/example/punctual_lease/punctuallease/Node", "<init>", "(JJJLjava/util/List;[B)V"⟩ : MethodName)) rfl hown (mvT hZ (hw _ (List.mem_of_getElem? (i := 29) rfl))) (mvT hZ (hw _ (List.mem_of_getElem? (i := 30) rfl))) (mvT hZ (hw _ (List.mem_of_getElem? (i := 31) rfl))) (by decide) (backOf (W := 1) (rm5 l Z aZ hw [] b117 zx zn zo b130 Value.null T139.heap n0 z140 pq142 f143 f144 f145 f146 f147 f148 f149 f150 f151 f152 gn117) hZ (hw _ (List.mem_of_getElem? (i := 31) rfl)) (hw _ (List.mem_of_getElem? (i := 2) rfl)) (by decide) (by decide)) (g := (mkF m 89 #[.val (.long zx), .second, .val (.long zn), .second, .val (.long zo), .second, .val (.int qn), .val (.int qm), .val (.int qf), .val (.int (1 : Int32)), .val (.int (0 : Int32)), .val (.int (qn &&& (31 : Int32))), .val (.int (qm &&& (31 : Int32))), .val .null, .val (.ref b113), .unset, .unset, .unset, .unset, .unset] [.null, (.ref b130), (.long zo), (.long zn), (.long zx), (.ref b117), (.ref b117)])) rfl (by rw [hml]; rfl) (Steps.refl _) (a := b117) (argsL := [(.long zx), (.long zn), (.long zo), (.ref b130), .null]) (rest := [(.ref b117)]) (lenOf pd_1 rfl) rfl (by show 2 * 0 + _ ≤ _; exact Nat.le_of_eq rfl) (hb hby at_89) (fun _ _ => ⟨rfl, rfl, (by decide : 3 + 2 ≤ _), (by decide : 46 + 9 ≤ _)⟩)
      dsimp only [Pt.U, Pt.locs, Pt.cells, Pt.slots] at X153 l153 y153 z153 st153 hQ153
      subst l153 y153 z153
      obtain ⟨rfl, Nq153, K153, c153_0, c153_1, c153_2⟩ := hQ153
      have N153 := Fr.app N139 Nq153
      refine Go.tr st153 ?_
      have z154 : n0 ≤ T153.heap.size := Nat.le_trans z140 K153.1
      have sqz154 : h0.size ≤ T153.heap.size := Nat.le_trans sqz140 K153.1
      show Go _ _ _ _ _ _ _ (T153.setTop (mkF m 92 #[.val (.long zx), .second, .val (.long zn), .second, .val (.long zo), .second, .val (.int qn), .val (.int qm), .val (.int qf), .val (.int (1 : Int32)), .val (.int (0 : Int32)), .val (.int (qn &&& (31 : Int32))), .val (.int (qm &&& (31 : Int32))), .val .null, .val (.ref b113), .unset, .unset, .unset, .unset, .unset] [(.ref b117)]))
      refine Go.step (fun _ k => XS.astore X153.here hx rfl (hb hby at_92) rfl rfl (l' := #[.val (.long zx), .second, .val (.long zn), .second, .val (.long zo), .second, .val (.int qn), .val (.int qm), .val (.int qf), .val (.int (1 : Int32)), .val (.int (0 : Int32)), .val (.int (qn &&& (31 : Int32))), .val (.int (qm &&& (31 : Int32))), .val .null, .val (.ref b113), .val (.ref b117), .unset, .unset, .unset, .unset]) rfl k) ?_
      show Go _ _ _ _ _ _ _ (T153.setTop (mkF m 94 #[.val (.long zx), .second, .val (.long zn), .second, .val (.long zo), .second, .val (.int qn), .val (.int qm), .val (.int qf), .val (.int (1 : Int32)), .val (.int (0 : Int32)), .val (.int (qn &&& (31 : Int32))), .val (.int (qm &&& (31 : Int32))), .val .null, .val (.ref b113), .val (.ref b117), .unset, .unset, .unset, .unset] []))
      refine Go.step (fun _ k => XS.iload X153.here hx rfl (hb hby at_94) rfl  k) ?_
      show Go _ _ _ _ _ _ _ (T153.setTop (mkF m 96 #[.val (.long zx), .second, .val (.long zn), .second, .val (.long zo), .second, .val (.int qn), .val (.int qm), .val (.int qf), .val (.int (1 : Int32)), .val (.int (0 : Int32)), .val (.int (qn &&& (31 : Int32))), .val (.int (qm &&& (31 : Int32))), .val .null, .val (.ref b113), .val (.ref b117), .unset, .unset, .unset, .unset] [(.int (1 : Int32))]))
      have hc96 : ¬ ((1 : Int32) = (0 : Int32)) := hc44
      refine Go.step (fun _ k => XS.ifNo X153.here hx rfl (hb hby at_96) rfl ((if0 _ _).trans (feq hc96).1) k) ?_
      show Go _ _ _ _ _ _ _ (T153.setTop (mkF m 99 #[.val (.long zx), .second, .val (.long zn), .second, .val (.long zo), .second, .val (.int qn), .val (.int qm), .val (.int qf), .val (.int (1 : Int32)), .val (.int (0 : Int32)), .val (.int (qn &&& (31 : Int32))), .val (.int (qm &&& (31 : Int32))), .val .null, .val (.ref b113), .val (.ref b117), .unset, .unset, .unset, .unset] []))
      refine Go.step (fun _ k => XS.iconst X153.here hx rfl (hb hby at_99) k) ?_
      show Go _ _ _ _ _ _ _ (T153.setTop (mkF m 100 #[.val (.long zx), .second, .val (.long zn), .second, .val (.long zo), .second, .val (.int qn), .val (.int qm), .val (.int qf), .val (.int (1 : Int32)), .val (.int (0 : Int32)), .val (.int (qn &&& (31 : Int32))), .val (.int (qm &&& (31 : Int32))), .val .null, .val (.ref b113), .val (.ref b117), .unset, .unset, .unset, .unset] [(.int (0 : Int32))]))
      refine Go.step (fun _ k => XS.goto X153.here hx rfl (pc0 := 100) (pc' := 105) rfl (hb hby at_100) (by decide) (by decide) k) ?_
      show Go _ _ _ _ _ _ _ (T153.setTop (mkF m 105 #[.val (.long zx), .second, .val (.long zn), .second, .val (.long zo), .second, .val (.int qn), .val (.int qm), .val (.int qf), .val (.int (1 : Int32)), .val (.int (0 : Int32)), .val (.int (qn &&& (31 : Int32))), .val (.int (qm &&& (31 : Int32))), .val .null, .val (.ref b113), .val (.ref b117), .unset, .unset, .unset, .unset] [(.int (0 : Int32))]))
      refine Go.step (fun _ k => XS.istore X153.here hx rfl (hb hby at_105) rfl (l' := #[.val (.long zx), .second, .val (.long zn), .second, .val (.long zo), .second, .val (.int qn), .val (.int qm), .val (.int qf), .val (.int (1 : Int32)), .val (.int (0 : Int32)), .val (.int (qn &&& (31 : Int32))), .val (.int (qm &&& (31 : Int32))), .val .null, .val (.ref b113), .val (.ref b117), .val (.int (0 : Int32)), .unset, .unset, .unset]) rfl k) ?_
      show Go _ _ _ _ _ _ _ (T153.setTop (mkF m 107 #[.val (.long zx), .second, .val (.long zn), .second, .val (.long zo), .second, .val (.int qn), .val (.int qm), .val (.int qf), .val (.int (1 : Int32)), .val (.int (0 : Int32)), .val (.int (qn &&& (31 : Int32))), .val (.int (qm &&& (31 : Int32))), .val .null, .val (.ref b113), .val (.ref b117), .val (.int (0 : Int32)), .unset, .unset, .unset] []))
      refine Go.step (fun _ k => XS.aload X153.here hx rfl (hb hby at_107) rfl rfl  k) ?_
      show Go _ _ _ _ _ _ _ (T153.setTop (mkF m 109 #[.val (.long zx), .second, .val (.long zn), .second, .val (.long zo), .second, .val (.int qn), .val (.int qm), .val (.int qf), .val (.int (1 : Int32)), .val (.int (0 : Int32)), .val (.int (qn &&& (31 : Int32))), .val (.int (qm &&& (31 : Int32))), .val .null, .val (.ref b113), .val (.ref b117), .val (.int (0 : Int32)), .unset, .unset, .unset] [(.ref b117)]))
      obtain ⟨cq156, kq156, q156a, q156b, q156c⟩ := isOf hZ rfl c153_0
      obtain ⟨_, _, ⟨T156, L156, k156, n156⟩, -, X156, ⟨Lc156, hQ156, l156, y156, z156⟩, st156⟩ := X153.virtualBack hx (y := (⟨"com/example/punctual_lease/punctuallease/Node", "dataLength", "()I"⟩ : MethodName)) (z := (⟨"com/example/punctual_lease/punctuallease/Node", "dataLength", "()I"⟩ : MethodName)) hown (mvT hZ (hw _ (List.mem_of_getElem? (i := 84) rfl))) (mvT hZ (hw _ (List.mem_of_getElem? (i := 85) rfl))) (notFace_of_selects (args := #[]) (mvT hZ (hw _ (List.mem_of_getElem? (i := 87) rfl)))) (mvT hZ (hw _ (List.mem_of_getElem? (i := 87) rfl))) (mvT hZ (hw _ (List.mem_of_getElem? (i := 86) rfl))) (by decide) (backOf (W := 0) (rm10n l Z aZ hw [] b117 T153.heap n0 z154 c153_2) hZ (hw _ (List.mem_of_getElem? (i := 88) rfl)) (hw _ (List.mem_of_getElem? (i := 2) rfl)) (by decide) (by decide)) q156a q156c (g := (mkF m 109 #[.val (.long zx), .second, .val (.long zn), .second, .val (.long zo), .second, .val (.int qn), .val (.int qm), .val (.int qf), .val (.int (1 : Int32)), .val (.int (0 : Int32)), .val (.int (qn &&& (31 : Int32))), .val (.int (qm &&& (31 : Int32))), .val .null, .val (.ref b113), .val (.ref b117), .val (.int (0 : Int32)), .unset, .unset, .unset] [(.ref b117)])) rfl (by rw [hml]; rfl) (Steps.refl _) (argsL := []) (rest := []) (lenOf pd_2 rfl) rfl (by show 2 * 0 + _ ≤ _; exact Nat.le_of_eq rfl) (hb hby at_109) (fun _ _ => ⟨rfl, rfl, (by decide : 5 + 0 ≤ _), (by decide : 55 + 0 ≤ _)⟩)
      dsimp only [Pt.U, Pt.locs, Pt.cells, Pt.slots] at X156 l156 y156 z156 st156 hQ156
      subst l156 y156 z156
      obtain ⟨rfl, Nq156, e156⟩ := hQ156
      have N156 := Fr.app N153 Nq156
      refine Go.tr st156 ?_
      show Go _ _ _ _ _ _ _ (T156.setTop (mkF m 112 #[.val (.long zx), .second, .val (.long zn), .second, .val (.long zo), .second, .val (.int qn), .val (.int qm), .val (.int qf), .val (.int (1 : Int32)), .val (.int (0 : Int32)), .val (.int (qn &&& (31 : Int32))), .val (.int (qm &&& (31 : Int32))), .val .null, .val (.ref b113), .val (.ref b117), .val (.int (0 : Int32)), .unset, .unset, .unset] [(.int (0 : Int32))]))
      refine Go.step (fun _ k => XS.iload X156.here hx rfl (hb hby at_112) rfl  k) ?_
      show Go _ _ _ _ _ _ _ (T156.setTop (mkF m 114 #[.val (.long zx), .second, .val (.long zn), .second, .val (.long zo), .second, .val (.int qn), .val (.int qm), .val (.int qf), .val (.int (1 : Int32)), .val (.int (0 : Int32)), .val (.int (qn &&& (31 : Int32))), .val (.int (qm &&& (31 : Int32))), .val .null, .val (.ref b113), .val (.ref b117), .val (.int (0 : Int32)), .unset, .unset, .unset] [(.int (0 : Int32)), (.int (0 : Int32))]))
      have hc114 : (0 : Int32) = (0 : Int32) := hc59
      refine Go.step (fun _ k => XS.icmpNo X156.here hx rfl (hb hby at_114) rfl (teq hc114).2 k) ?_
      show Go _ _ _ _ _ _ _ (T156.setTop (mkF m 117 #[.val (.long zx), .second, .val (.long zn), .second, .val (.long zo), .second, .val (.int qn), .val (.int qm), .val (.int qf), .val (.int (1 : Int32)), .val (.int (0 : Int32)), .val (.int (qn &&& (31 : Int32))), .val (.int (qm &&& (31 : Int32))), .val .null, .val (.ref b113), .val (.ref b117), .val (.int (0 : Int32)), .unset, .unset, .unset] []))
      refine Go.step (fun _ k => XS.iconst X156.here hx rfl (hb hby at_117) k) ?_
      show Go _ _ _ _ _ _ _ (T156.setTop (mkF m 118 #[.val (.long zx), .second, .val (.long zn), .second, .val (.long zo), .second, .val (.int qn), .val (.int qm), .val (.int qf), .val (.int (1 : Int32)), .val (.int (0 : Int32)), .val (.int (qn &&& (31 : Int32))), .val (.int (qm &&& (31 : Int32))), .val .null, .val (.ref b113), .val (.ref b117), .val (.int (0 : Int32)), .unset, .unset, .unset] [(.int (1 : Int32))]))
      refine Go.step (fun _ k => XS.goto X156.here hx rfl (pc0 := 118) (pc' := 122) rfl (hb hby at_118) (by decide) (by decide) k) ?_
      show Go _ _ _ _ _ _ _ (T156.setTop (mkF m 122 #[.val (.long zx), .second, .val (.long zn), .second, .val (.long zo), .second, .val (.int qn), .val (.int qm), .val (.int qf), .val (.int (1 : Int32)), .val (.int (0 : Int32)), .val (.int (qn &&& (31 : Int32))), .val (.int (qm &&& (31 : Int32))), .val .null, .val (.ref b113), .val (.ref b117), .val (.int (0 : Int32)), .unset, .unset, .unset] [(.int (1 : Int32))]))
      refine Go.step (fun _ k => XS.istore X156.here hx rfl (hb hby at_122) rfl (l' := #[.val (.long zx), .second, .val (.long zn), .second, .val (.long zo), .second, .val (.int qn), .val (.int qm), .val (.int qf), .val (.int (1 : Int32)), .val (.int (0 : Int32)), .val (.int (qn &&& (31 : Int32))), .val (.int (qm &&& (31 : Int32))), .val .null, .val (.ref b113), .val (.ref b117), .val (.int (0 : Int32)), .val (.int (1 : Int32)), .unset, .unset]) rfl k) ?_
      show Go _ _ _ _ _ _ _ (T156.setTop (mkF m 124 #[.val (.long zx), .second, .val (.long zn), .second, .val (.long zo), .second, .val (.int qn), .val (.int qm), .val (.int qf), .val (.int (1 : Int32)), .val (.int (0 : Int32)), .val (.int (qn &&& (31 : Int32))), .val (.int (qm &&& (31 : Int32))), .val .null, .val (.ref b113), .val (.ref b117), .val (.int (0 : Int32)), .val (.int (1 : Int32)), .unset, .unset] []))
      refine Go.step (fun _ k => XS.aload X156.here hx rfl (hb hby at_124) rfl rfl  k) ?_
      show Go _ _ _ _ _ _ _ (T156.setTop (mkF m 126 #[.val (.long zx), .second, .val (.long zn), .second, .val (.long zo), .second, .val (.int qn), .val (.int qm), .val (.int qf), .val (.int (1 : Int32)), .val (.int (0 : Int32)), .val (.int (qn &&& (31 : Int32))), .val (.int (qm &&& (31 : Int32))), .val .null, .val (.ref b113), .val (.ref b117), .val (.int (0 : Int32)), .val (.int (1 : Int32)), .unset, .unset] [(.ref b117)]))
      refine Go.step (fun _ k => XS.aload X156.here hx rfl (hb hby at_126) rfl rfl  k) ?_
      show Go _ _ _ _ _ _ _ (T156.setTop (mkF m 128 #[.val (.long zx), .second, .val (.long zn), .second, .val (.long zo), .second, .val (.int qn), .val (.int qm), .val (.int qf), .val (.int (1 : Int32)), .val (.int (0 : Int32)), .val (.int (qn &&& (31 : Int32))), .val (.int (qm &&& (31 : Int32))), .val .null, .val (.ref b113), .val (.ref b117), .val (.int (0 : Int32)), .val (.int (1 : Int32)), .unset, .unset] [(.ref b113), (.ref b117)]))
      obtain ⟨T157, h157, X157, e157, W157, st157⟩ := putF X156 hx hZ hown (host := "") (Or.inl (hw _ (List.mem_of_getElem? (i := 89) rfl))) Via.refl e156 c153_2 c153_0 (Or.inl (hw _ (List.mem_of_getElem? (i := 77) rfl))) (hw _ (List.mem_of_getElem? (i := 1) rfl)) (ty := (.array .byte)) (v := (.ref b113)) (by decide) rfl rfl (g := (mkF m 128 #[.val (.long zx), .second, .val (.long zn), .second, .val (.long zo), .second, .val (.int qn), .val (.int qm), .val (.int qf), .val (.int (1 : Int32)), .val (.int (0 : Int32)), .val (.int (qn &&& (31 : Int32))), .val (.int (qm &&& (31 : Int32))), .val .null, .val (.ref b113), .val (.ref b117), .val (.int (0 : Int32)), .val (.int (1 : Int32)), .unset, .unset] [(.ref b113), (.ref b117)])) rfl rfl (hb hby at_128)
      refine Go.step st157 ?_
      have N157 := Fr.snoc X157 N156 gn117
      have z158 : n0 ≤ h157.size := Nat.le_trans z154 (Keep.of_wr W157).1
      have sqz158 : h0.size ≤ h157.size := Nat.le_trans sqz154 (Keep.of_wr W157).1
      have f160 : Fld Z h157 b117 "com/example/punctual_lease/punctuallease/Node" "data" "[B" (.ref b113) := c153_2.same W157
      show Go _ _ _ _ _ _ _ (T157.setTop (mkF m 131 #[.val (.long zx), .second, .val (.long zn), .second, .val (.long zo), .second, .val (.int qn), .val (.int qm), .val (.int qf), .val (.int (1 : Int32)), .val (.int (0 : Int32)), .val (.int (qn &&& (31 : Int32))), .val (.int (qm &&& (31 : Int32))), .val .null, .val (.ref b113), .val (.ref b117), .val (.int (0 : Int32)), .val (.int (1 : Int32)), .unset, .unset] []))
      refine Go.step (fun _ k => XS.iload X157.here hx rfl (hb hby at_131) rfl  k) ?_
      show Go _ _ _ _ _ _ _ (T157.setTop (mkF m 133 #[.val (.long zx), .second, .val (.long zn), .second, .val (.long zo), .second, .val (.int qn), .val (.int qm), .val (.int qf), .val (.int (1 : Int32)), .val (.int (0 : Int32)), .val (.int (qn &&& (31 : Int32))), .val (.int (qm &&& (31 : Int32))), .val .null, .val (.ref b113), .val (.ref b117), .val (.int (0 : Int32)), .val (.int (1 : Int32)), .unset, .unset] [(.int (0 : Int32))]))
      have hc133 : (0 : Int32) = (0 : Int32) := hc114
      refine Go.step (fun _ k => XS.ifYes X157.here hx rfl (pc0 := 133) (pc' := 140) rfl (hb hby at_133) rfl ((if0 _ _).trans (teq hc133).1) (by decide) (by decide) k) ?_
      show Go _ _ _ _ _ _ _ (T157.setTop (mkF m 140 #[.val (.long zx), .second, .val (.long zn), .second, .val (.long zo), .second, .val (.int qn), .val (.int qm), .val (.int qf), .val (.int (1 : Int32)), .val (.int (0 : Int32)), .val (.int (qn &&& (31 : Int32))), .val (.int (qm &&& (31 : Int32))), .val .null, .val (.ref b113), .val (.ref b117), .val (.int (0 : Int32)), .val (.int (1 : Int32)), .unset, .unset] []))
      refine Go.step (fun _ k => XS.iload X157.here hx rfl (hb hby at_140) rfl  k) ?_
      show Go _ _ _ _ _ _ _ (T157.setTop (mkF m 142 #[.val (.long zx), .second, .val (.long zn), .second, .val (.long zo), .second, .val (.int qn), .val (.int qm), .val (.int qf), .val (.int (1 : Int32)), .val (.int (0 : Int32)), .val (.int (qn &&& (31 : Int32))), .val (.int (qm &&& (31 : Int32))), .val .null, .val (.ref b113), .val (.ref b117), .val (.int (0 : Int32)), .val (.int (1 : Int32)), .unset, .unset] [(.int (qm &&& (31 : Int32)))]))
      refine Go.step (fun _ k => XS.istore X157.here hx rfl (hb hby at_142) rfl (l' := #[.val (.long zx), .second, .val (.long zn), .second, .val (.long zo), .second, .val (.int qn), .val (.int qm), .val (.int qf), .val (.int (1 : Int32)), .val (.int (0 : Int32)), .val (.int (qn &&& (31 : Int32))), .val (.int (qm &&& (31 : Int32))), .val .null, .val (.ref b113), .val (.ref b117), .val (.int (0 : Int32)), .val (.int (1 : Int32)), .val (.int (qm &&& (31 : Int32))), .unset]) rfl k) ?_
      show Go _ _ _ _ _ _ _ (T157.setTop (mkF m 144 #[.val (.long zx), .second, .val (.long zn), .second, .val (.long zo), .second, .val (.int qn), .val (.int qm), .val (.int qf), .val (.int (1 : Int32)), .val (.int (0 : Int32)), .val (.int (qn &&& (31 : Int32))), .val (.int (qm &&& (31 : Int32))), .val .null, .val (.ref b113), .val (.ref b117), .val (.int (0 : Int32)), .val (.int (1 : Int32)), .val (.int (qm &&& (31 : Int32))), .unset] []))
      refine Go.step (fun _ k => XS.aload X157.here hx rfl (hb hby at_144) rfl rfl  k) ?_
      show Go _ _ _ _ _ _ _ (T157.setTop (mkF m 146 #[.val (.long zx), .second, .val (.long zn), .second, .val (.long zo), .second, .val (.int qn), .val (.int qm), .val (.int qf), .val (.int (1 : Int32)), .val (.int (0 : Int32)), .val (.int (qn &&& (31 : Int32))), .val (.int (qm &&& (31 : Int32))), .val .null, .val (.ref b113), .val (.ref b117), .val (.int (0 : Int32)), .val (.int (1 : Int32)), .val (.int (qm &&& (31 : Int32))), .unset] [(.ref b117)]))
      have f161 : Ai Z h157 b113 .byte (qm &&& (31 : Int32)) (fun _ => 0) := ((((f131.ext E130).keep K139 (ninS ne132 nin0)).keep K153 (ninS ne118 nin0)).other W157 ne118)
      have f163 : Exa Z h157 b117 "com/example/punctual_lease/punctuallease/Node" := (c153_0.wr W157)
      obtain ⟨cq162, kq162, q162a, q162b, q162c⟩ := isOf hZ e157 f163
      obtain ⟨_, _, ⟨T162, L162, k162, n162⟩, -, X162, ⟨Lc162, hQ162, l162, y162, z162⟩, st162⟩ := X157.virtualBack hx (y := (⟨"com/example/punctual_lease/punctuallease/Node", "dataLength", "()I"⟩ : MethodName)) (z := (⟨"com/example/punctual_lease/punctuallease/Node", "dataLength", "()I"⟩ : MethodName)) hown (mvT hZ (hw _ (List.mem_of_getElem? (i := 84) rfl))) (mvT hZ (hw _ (List.mem_of_getElem? (i := 85) rfl))) (notFace_of_selects (args := #[]) (mvT hZ (hw _ (List.mem_of_getElem? (i := 87) rfl)))) (mvT hZ (hw _ (List.mem_of_getElem? (i := 87) rfl))) (mvT hZ (hw _ (List.mem_of_getElem? (i := 86) rfl))) (by decide) (backOf (W := 0) (rm10a l Z aZ hw [] b117 b113 (qm &&& (31 : Int32)) (fun _ => 0) h157 n0 z158 f160 f161) hZ (hw _ (List.mem_of_getElem? (i := 88) rfl)) (hw _ (List.mem_of_getElem? (i := 2) rfl)) (by decide) (by decide)) q162a q162c (g := (mkF m 146 #[.val (.long zx), .second, .val (.long zn), .second, .val (.long zo), .second, .val (.int qn), .val (.int qm), .val (.int qf), .val (.int (1 : Int32)), .val (.int (0 : Int32)), .val (.int (qn &&& (31 : Int32))), .val (.int (qm &&& (31 : Int32))), .val .null, .val (.ref b113), .val (.ref b117), .val (.int (0 : Int32)), .val (.int (1 : Int32)), .val (.int (qm &&& (31 : Int32))), .unset] [(.ref b117)])) rfl (by rw [hml]; rfl) (Steps.refl _) (argsL := []) (rest := []) (lenOf pd_2 rfl) rfl (by show 2 * 0 + _ ≤ _; exact Nat.le_of_eq rfl) (hb hby at_146) (fun _ _ => ⟨rfl, e157, (by decide : 5 + 0 ≤ _), (by decide : 55 + 0 ≤ _)⟩)
      dsimp only [Pt.U, Pt.locs, Pt.cells, Pt.slots] at X162 l162 y162 z162 st162 hQ162
      subst l162 y162 z162
      obtain ⟨rfl, Nq162, e162⟩ := hQ162
      have N162 := Fr.app N157 Nq162
      refine Go.tr st162 ?_
      show Go _ _ _ _ _ _ _ (T162.setTop (mkF m 149 #[.val (.long zx), .second, .val (.long zn), .second, .val (.long zo), .second, .val (.int qn), .val (.int qm), .val (.int qf), .val (.int (1 : Int32)), .val (.int (0 : Int32)), .val (.int (qn &&& (31 : Int32))), .val (.int (qm &&& (31 : Int32))), .val .null, .val (.ref b113), .val (.ref b117), .val (.int (0 : Int32)), .val (.int (1 : Int32)), .val (.int (qm &&& (31 : Int32))), .unset] [(.int (qm &&& (31 : Int32)))]))
      refine Go.step (fun _ k => XS.iload X162.here hx rfl (hb hby at_149) rfl  k) ?_
      show Go _ _ _ _ _ _ _ (T162.setTop (mkF m 151 #[.val (.long zx), .second, .val (.long zn), .second, .val (.long zo), .second, .val (.int qn), .val (.int qm), .val (.int qf), .val (.int (1 : Int32)), .val (.int (0 : Int32)), .val (.int (qn &&& (31 : Int32))), .val (.int (qm &&& (31 : Int32))), .val .null, .val (.ref b113), .val (.ref b117), .val (.int (0 : Int32)), .val (.int (1 : Int32)), .val (.int (qm &&& (31 : Int32))), .unset] [(.int (qm &&& (31 : Int32))), (.int (qm &&& (31 : Int32)))]))
      have hc151 : (qm &&& (31 : Int32)) = (qm &&& (31 : Int32)) := rfl
      refine Go.step (fun _ k => XS.icmpNo X162.here hx rfl (hb hby at_151) rfl (teq hc151).2 k) ?_
      show Go _ _ _ _ _ _ _ (T162.setTop (mkF m 154 #[.val (.long zx), .second, .val (.long zn), .second, .val (.long zo), .second, .val (.int qn), .val (.int qm), .val (.int qf), .val (.int (1 : Int32)), .val (.int (0 : Int32)), .val (.int (qn &&& (31 : Int32))), .val (.int (qm &&& (31 : Int32))), .val .null, .val (.ref b113), .val (.ref b117), .val (.int (0 : Int32)), .val (.int (1 : Int32)), .val (.int (qm &&& (31 : Int32))), .unset] []))
      refine Go.step (fun _ k => XS.iconst X162.here hx rfl (hb hby at_154) k) ?_
      show Go _ _ _ _ _ _ _ (T162.setTop (mkF m 155 #[.val (.long zx), .second, .val (.long zn), .second, .val (.long zo), .second, .val (.int qn), .val (.int qm), .val (.int qf), .val (.int (1 : Int32)), .val (.int (0 : Int32)), .val (.int (qn &&& (31 : Int32))), .val (.int (qm &&& (31 : Int32))), .val .null, .val (.ref b113), .val (.ref b117), .val (.int (0 : Int32)), .val (.int (1 : Int32)), .val (.int (qm &&& (31 : Int32))), .unset] [(.int (1 : Int32))]))
      refine Go.step (fun _ k => XS.goto X162.here hx rfl (pc0 := 155) (pc' := 159) rfl (hb hby at_155) (by decide) (by decide) k) ?_
      show Go _ _ _ _ _ _ _ (T162.setTop (mkF m 159 #[.val (.long zx), .second, .val (.long zn), .second, .val (.long zo), .second, .val (.int qn), .val (.int qm), .val (.int qf), .val (.int (1 : Int32)), .val (.int (0 : Int32)), .val (.int (qn &&& (31 : Int32))), .val (.int (qm &&& (31 : Int32))), .val .null, .val (.ref b113), .val (.ref b117), .val (.int (0 : Int32)), .val (.int (1 : Int32)), .val (.int (qm &&& (31 : Int32))), .unset] [(.int (1 : Int32))]))
      refine Go.step (fun _ k => XS.istore X162.here hx rfl (hb hby at_159) rfl (l' := #[.val (.long zx), .second, .val (.long zn), .second, .val (.long zo), .second, .val (.int qn), .val (.int qm), .val (.int qf), .val (.int (1 : Int32)), .val (.int (0 : Int32)), .val (.int (qn &&& (31 : Int32))), .val (.int (qm &&& (31 : Int32))), .val .null, .val (.ref b113), .val (.ref b117), .val (.int (0 : Int32)), .val (.int (1 : Int32)), .val (.int (qm &&& (31 : Int32))), .val (.int (1 : Int32))]) rfl k) ?_
      show Go _ _ _ _ _ _ _ (T162.setTop (mkF m 161 #[.val (.long zx), .second, .val (.long zn), .second, .val (.long zo), .second, .val (.int qn), .val (.int qm), .val (.int qf), .val (.int (1 : Int32)), .val (.int (0 : Int32)), .val (.int (qn &&& (31 : Int32))), .val (.int (qm &&& (31 : Int32))), .val .null, .val (.ref b113), .val (.ref b117), .val (.int (0 : Int32)), .val (.int (1 : Int32)), .val (.int (qm &&& (31 : Int32))), .val (.int (1 : Int32))] []))
      refine Go.step (fun _ k => XS.iload X162.here hx rfl (hb hby at_161) rfl  k) ?_
      show Go _ _ _ _ _ _ _ (T162.setTop (mkF m 163 #[.val (.long zx), .second, .val (.long zn), .second, .val (.long zo), .second, .val (.int qn), .val (.int qm), .val (.int qf), .val (.int (1 : Int32)), .val (.int (0 : Int32)), .val (.int (qn &&& (31 : Int32))), .val (.int (qm &&& (31 : Int32))), .val .null, .val (.ref b113), .val (.ref b117), .val (.int (0 : Int32)), .val (.int (1 : Int32)), .val (.int (qm &&& (31 : Int32))), .val (.int (1 : Int32))] [(.int (1 : Int32))]))
      have hc163 : ¬ ((1 : Int32) = (0 : Int32)) := hc96
      refine Go.step (fun _ k => XS.ifNo X162.here hx rfl (hb hby at_163) rfl ((if0 _ _).trans (feq hc163).1) k) ?_
      show Go _ _ _ _ _ _ _ (T162.setTop (mkF m 166 #[.val (.long zx), .second, .val (.long zn), .second, .val (.long zo), .second, .val (.int qn), .val (.int qm), .val (.int qf), .val (.int (1 : Int32)), .val (.int (0 : Int32)), .val (.int (qn &&& (31 : Int32))), .val (.int (qm &&& (31 : Int32))), .val .null, .val (.ref b113), .val (.ref b117), .val (.int (0 : Int32)), .val (.int (1 : Int32)), .val (.int (qm &&& (31 : Int32))), .val (.int (1 : Int32))] []))
      refine Go.step (fun _ k => XS.iload X162.here hx rfl (hb hby at_166) rfl  k) ?_
      show Go _ _ _ _ _ _ _ (T162.setTop (mkF m 168 #[.val (.long zx), .second, .val (.long zn), .second, .val (.long zo), .second, .val (.int qn), .val (.int qm), .val (.int qf), .val (.int (1 : Int32)), .val (.int (0 : Int32)), .val (.int (qn &&& (31 : Int32))), .val (.int (qm &&& (31 : Int32))), .val .null, .val (.ref b113), .val (.ref b117), .val (.int (0 : Int32)), .val (.int (1 : Int32)), .val (.int (qm &&& (31 : Int32))), .val (.int (1 : Int32))] [(.int (1 : Int32))]))
      have hc168 : ¬ ((1 : Int32) = (0 : Int32)) := hc163
      refine Go.step (fun _ k => XS.ifNo X162.here hx rfl (hb hby at_168) rfl ((if0 _ _).trans (feq hc168).1) k) ?_
      show Go _ _ _ _ _ _ _ (T162.setTop (mkF m 171 #[.val (.long zx), .second, .val (.long zn), .second, .val (.long zo), .second, .val (.int qn), .val (.int qm), .val (.int qf), .val (.int (1 : Int32)), .val (.int (0 : Int32)), .val (.int (qn &&& (31 : Int32))), .val (.int (qm &&& (31 : Int32))), .val .null, .val (.ref b113), .val (.ref b117), .val (.int (0 : Int32)), .val (.int (1 : Int32)), .val (.int (qm &&& (31 : Int32))), .val (.int (1 : Int32))] []))
      refine Go.step (fun _ k => XS.iconst X162.here hx rfl (hb hby at_171) k) ?_
      show Go _ _ _ _ _ _ _ (T162.setTop (mkF m 172 #[.val (.long zx), .second, .val (.long zn), .second, .val (.long zo), .second, .val (.int qn), .val (.int qm), .val (.int qf), .val (.int (1 : Int32)), .val (.int (0 : Int32)), .val (.int (qn &&& (31 : Int32))), .val (.int (qm &&& (31 : Int32))), .val .null, .val (.ref b113), .val (.ref b117), .val (.int (0 : Int32)), .val (.int (1 : Int32)), .val (.int (qm &&& (31 : Int32))), .val (.int (1 : Int32))] [(.int (1 : Int32))]))
      refine Go.step (fun _ k => XS.goto X162.here hx rfl (pc0 := 172) (pc' := 176) rfl (hb hby at_172) (by decide) (by decide) k) ?_
      show Go _ _ _ _ _ _ _ (T162.setTop (mkF m 176 #[.val (.long zx), .second, .val (.long zn), .second, .val (.long zo), .second, .val (.int qn), .val (.int qm), .val (.int qf), .val (.int (1 : Int32)), .val (.int (0 : Int32)), .val (.int (qn &&& (31 : Int32))), .val (.int (qm &&& (31 : Int32))), .val .null, .val (.ref b113), .val (.ref b117), .val (.int (0 : Int32)), .val (.int (1 : Int32)), .val (.int (qm &&& (31 : Int32))), .val (.int (1 : Int32))] [(.int (1 : Int32))]))
      refine Go.retN X162 hx (t := .boolean) Bd.returns (by simp) hlk (hb hby at_176) ?_ (by decide) (by decide)
      rw [e162]
      exact ⟨(by first | rfl | (simp_all [own_nb1, own_nb0]; done)), N162⟩
    · skip
      refine Go.step (fun _ k => XS.ifNo X0.here hx rfl (hb hby at_18) rfl ((if0 _ _).trans (feq hc18).1) k) ?_
      show Go _ _ _ _ _ _ _ (s₁.setTop (mkF m 21 #[.val (.long zx), .second, .val (.long zn), .second, .val (.long zo), .second, .val (.int qn), .val (.int qm), .val (.int qf), .val (.int (1 : Int32)), .unset, .unset, .unset, .unset, .unset, .unset, .unset, .unset, .unset, .unset] []))
      refine Go.step (fun _ k => XS.iconst X0.here hx rfl (hb hby at_21) k) ?_
      show Go _ _ _ _ _ _ _ (s₁.setTop (mkF m 22 #[.val (.long zx), .second, .val (.long zn), .second, .val (.long zo), .second, .val (.int qn), .val (.int qm), .val (.int qf), .val (.int (1 : Int32)), .unset, .unset, .unset, .unset, .unset, .unset, .unset, .unset, .unset, .unset] [(.int (1 : Int32))]))
      refine Go.step (fun _ k => XS.goto X0.here hx rfl (pc0 := 22) (pc' := 26) rfl (hb hby at_22) (by decide) (by decide) k) ?_
      show Go _ _ _ _ _ _ _ (s₁.setTop (mkF m 26 #[.val (.long zx), .second, .val (.long zn), .second, .val (.long zo), .second, .val (.int qn), .val (.int qm), .val (.int qf), .val (.int (1 : Int32)), .unset, .unset, .unset, .unset, .unset, .unset, .unset, .unset, .unset, .unset] [(.int (1 : Int32))]))
      refine Go.step (fun _ k => XS.istore X0.here hx rfl (hb hby at_26) rfl (l' := #[.val (.long zx), .second, .val (.long zn), .second, .val (.long zo), .second, .val (.int qn), .val (.int qm), .val (.int qf), .val (.int (1 : Int32)), .val (.int (1 : Int32)), .unset, .unset, .unset, .unset, .unset, .unset, .unset, .unset, .unset]) rfl k) ?_
      show Go _ _ _ _ _ _ _ (s₁.setTop (mkF m 28 #[.val (.long zx), .second, .val (.long zn), .second, .val (.long zo), .second, .val (.int qn), .val (.int qm), .val (.int qf), .val (.int (1 : Int32)), .val (.int (1 : Int32)), .unset, .unset, .unset, .unset, .unset, .unset, .unset, .unset, .unset] []))
      refine Go.step (fun _ k => XS.iload X0.here hx rfl (hb hby at_28) rfl  k) ?_
      show Go _ _ _ _ _ _ _ (s₁.setTop (mkF m 30 #[.val (.long zx), .second, .val (.long zn), .second, .val (.long zo), .second, .val (.int qn), .val (.int qm), .val (.int qf), .val (.int (1 : Int32)), .val (.int (1 : Int32)), .unset, .unset, .unset, .unset, .unset, .unset, .unset, .unset, .unset] [(.int qn)]))
      refine Go.step (fun _ k => XS.bipush X0.here hx rfl (hb hby at_30) k) ?_
      show Go _ _ _ _ _ _ _ (s₁.setTop (mkF m 32 #[.val (.long zx), .second, .val (.long zn), .second, .val (.long zo), .second, .val (.int qn), .val (.int qm), .val (.int qf), .val (.int (1 : Int32)), .val (.int (1 : Int32)), .unset, .unset, .unset, .unset, .unset, .unset, .unset, .unset, .unset] [(.int (31 : Int32)), (.int qn)]))
      refine Go.step (fun _ k => XS.iand X0.here hx rfl (hb hby at_32) rfl k) ?_
      show Go _ _ _ _ _ _ _ (s₁.setTop (mkF m 33 #[.val (.long zx), .second, .val (.long zn), .second, .val (.long zo), .second, .val (.int qn), .val (.int qm), .val (.int qf), .val (.int (1 : Int32)), .val (.int (1 : Int32)), .unset, .unset, .unset, .unset, .unset, .unset, .unset, .unset, .unset] [(.int (qn &&& (31 : Int32)))]))
      refine Go.step (fun _ k => XS.istore X0.here hx rfl (hb hby at_33) rfl (l' := #[.val (.long zx), .second, .val (.long zn), .second, .val (.long zo), .second, .val (.int qn), .val (.int qm), .val (.int qf), .val (.int (1 : Int32)), .val (.int (1 : Int32)), .val (.int (qn &&& (31 : Int32))), .unset, .unset, .unset, .unset, .unset, .unset, .unset, .unset]) rfl k) ?_
      show Go _ _ _ _ _ _ _ (s₁.setTop (mkF m 35 #[.val (.long zx), .second, .val (.long zn), .second, .val (.long zo), .second, .val (.int qn), .val (.int qm), .val (.int qf), .val (.int (1 : Int32)), .val (.int (1 : Int32)), .val (.int (qn &&& (31 : Int32))), .unset, .unset, .unset, .unset, .unset, .unset, .unset, .unset] []))
      refine Go.step (fun _ k => XS.iload X0.here hx rfl (hb hby at_35) rfl  k) ?_
      show Go _ _ _ _ _ _ _ (s₁.setTop (mkF m 37 #[.val (.long zx), .second, .val (.long zn), .second, .val (.long zo), .second, .val (.int qn), .val (.int qm), .val (.int qf), .val (.int (1 : Int32)), .val (.int (1 : Int32)), .val (.int (qn &&& (31 : Int32))), .unset, .unset, .unset, .unset, .unset, .unset, .unset, .unset] [(.int qm)]))
      refine Go.step (fun _ k => XS.bipush X0.here hx rfl (hb hby at_37) k) ?_
      show Go _ _ _ _ _ _ _ (s₁.setTop (mkF m 39 #[.val (.long zx), .second, .val (.long zn), .second, .val (.long zo), .second, .val (.int qn), .val (.int qm), .val (.int qf), .val (.int (1 : Int32)), .val (.int (1 : Int32)), .val (.int (qn &&& (31 : Int32))), .unset, .unset, .unset, .unset, .unset, .unset, .unset, .unset] [(.int (31 : Int32)), (.int qm)]))
      refine Go.step (fun _ k => XS.iand X0.here hx rfl (hb hby at_39) rfl k) ?_
      show Go _ _ _ _ _ _ _ (s₁.setTop (mkF m 40 #[.val (.long zx), .second, .val (.long zn), .second, .val (.long zo), .second, .val (.int qn), .val (.int qm), .val (.int qf), .val (.int (1 : Int32)), .val (.int (1 : Int32)), .val (.int (qn &&& (31 : Int32))), .unset, .unset, .unset, .unset, .unset, .unset, .unset, .unset] [(.int (qm &&& (31 : Int32)))]))
      refine Go.step (fun _ k => XS.istore X0.here hx rfl (hb hby at_40) rfl (l' := #[.val (.long zx), .second, .val (.long zn), .second, .val (.long zo), .second, .val (.int qn), .val (.int qm), .val (.int qf), .val (.int (1 : Int32)), .val (.int (1 : Int32)), .val (.int (qn &&& (31 : Int32))), .val (.int (qm &&& (31 : Int32))), .unset, .unset, .unset, .unset, .unset, .unset, .unset]) rfl k) ?_
      show Go _ _ _ _ _ _ _ (s₁.setTop (mkF m 42 #[.val (.long zx), .second, .val (.long zn), .second, .val (.long zo), .second, .val (.int qn), .val (.int qm), .val (.int qf), .val (.int (1 : Int32)), .val (.int (1 : Int32)), .val (.int (qn &&& (31 : Int32))), .val (.int (qm &&& (31 : Int32))), .unset, .unset, .unset, .unset, .unset, .unset, .unset] []))
      refine Go.step (fun _ k => XS.iload X0.here hx rfl (hb hby at_42) rfl  k) ?_
      show Go _ _ _ _ _ _ _ (s₁.setTop (mkF m 44 #[.val (.long zx), .second, .val (.long zn), .second, .val (.long zo), .second, .val (.int qn), .val (.int qm), .val (.int qf), .val (.int (1 : Int32)), .val (.int (1 : Int32)), .val (.int (qn &&& (31 : Int32))), .val (.int (qm &&& (31 : Int32))), .unset, .unset, .unset, .unset, .unset, .unset, .unset] [(.int (1 : Int32))]))
      have hc44 : ¬ ((1 : Int32) = (0 : Int32)) := by decide
      refine Go.step (fun _ k => XS.ifNo X0.here hx rfl (hb hby at_44) rfl ((if0 _ _).trans (feq hc44).1) k) ?_
      show Go _ _ _ _ _ _ _ (s₁.setTop (mkF m 47 #[.val (.long zx), .second, .val (.long zn), .second, .val (.long zo), .second, .val (.int qn), .val (.int qm), .val (.int qf), .val (.int (1 : Int32)), .val (.int (1 : Int32)), .val (.int (qn &&& (31 : Int32))), .val (.int (qm &&& (31 : Int32))), .unset, .unset, .unset, .unset, .unset, .unset, .unset] []))
      refine Go.step (fun _ k => XS.aconstNull X0.here hx rfl (hb hby at_47) k) ?_
      show Go _ _ _ _ _ _ _ (s₁.setTop (mkF m 48 #[.val (.long zx), .second, .val (.long zn), .second, .val (.long zo), .second, .val (.int qn), .val (.int qm), .val (.int qf), .val (.int (1 : Int32)), .val (.int (1 : Int32)), .val (.int (qn &&& (31 : Int32))), .val (.int (qm &&& (31 : Int32))), .unset, .unset, .unset, .unset, .unset, .unset, .unset] [.null]))
      refine Go.step (fun _ k => XS.goto X0.here hx rfl (pc0 := 48) (pc' := 55) rfl (hb hby at_48) (by decide) (by decide) k) ?_
      show Go _ _ _ _ _ _ _ (s₁.setTop (mkF m 55 #[.val (.long zx), .second, .val (.long zn), .second, .val (.long zo), .second, .val (.int qn), .val (.int qm), .val (.int qf), .val (.int (1 : Int32)), .val (.int (1 : Int32)), .val (.int (qn &&& (31 : Int32))), .val (.int (qm &&& (31 : Int32))), .unset, .unset, .unset, .unset, .unset, .unset, .unset] [.null]))
      refine Go.step (fun _ k => XS.astore X0.here hx rfl (hb hby at_55) rfl rfl (l' := #[.val (.long zx), .second, .val (.long zn), .second, .val (.long zo), .second, .val (.int qn), .val (.int qm), .val (.int qf), .val (.int (1 : Int32)), .val (.int (1 : Int32)), .val (.int (qn &&& (31 : Int32))), .val (.int (qm &&& (31 : Int32))), .val .null, .unset, .unset, .unset, .unset, .unset, .unset]) rfl k) ?_
      show Go _ _ _ _ _ _ _ (s₁.setTop (mkF m 57 #[.val (.long zx), .second, .val (.long zn), .second, .val (.long zo), .second, .val (.int qn), .val (.int qm), .val (.int qf), .val (.int (1 : Int32)), .val (.int (1 : Int32)), .val (.int (qn &&& (31 : Int32))), .val (.int (qm &&& (31 : Int32))), .val .null, .unset, .unset, .unset, .unset, .unset, .unset] []))
      refine Go.step (fun _ k => XS.iload X0.here hx rfl (hb hby at_57) rfl  k) ?_
      show Go _ _ _ _ _ _ _ (s₁.setTop (mkF m 59 #[.val (.long zx), .second, .val (.long zn), .second, .val (.long zo), .second, .val (.int qn), .val (.int qm), .val (.int qf), .val (.int (1 : Int32)), .val (.int (1 : Int32)), .val (.int (qn &&& (31 : Int32))), .val (.int (qm &&& (31 : Int32))), .val .null, .unset, .unset, .unset, .unset, .unset, .unset] [(.int (1 : Int32))]))
      have hc59 : ¬ ((1 : Int32) = (0 : Int32)) := hc44
      refine Go.step (fun _ k => XS.ifNo X0.here hx rfl (hb hby at_59) rfl ((if0 _ _).trans (feq hc59).1) k) ?_
      show Go _ _ _ _ _ _ _ (s₁.setTop (mkF m 62 #[.val (.long zx), .second, .val (.long zn), .second, .val (.long zo), .second, .val (.int qn), .val (.int qm), .val (.int qf), .val (.int (1 : Int32)), .val (.int (1 : Int32)), .val (.int (qn &&& (31 : Int32))), .val (.int (qm &&& (31 : Int32))), .val .null, .unset, .unset, .unset, .unset, .unset, .unset] []))
      refine Go.step (fun _ k => XS.aconstNull X0.here hx rfl (hb hby at_62) k) ?_
      show Go _ _ _ _ _ _ _ (s₁.setTop (mkF m 63 #[.val (.long zx), .second, .val (.long zn), .second, .val (.long zo), .second, .val (.int qn), .val (.int qm), .val (.int qf), .val (.int (1 : Int32)), .val (.int (1 : Int32)), .val (.int (qn &&& (31 : Int32))), .val (.int (qm &&& (31 : Int32))), .val .null, .unset, .unset, .unset, .unset, .unset, .unset] [.null]))
      refine Go.step (fun _ k => XS.goto X0.here hx rfl (pc0 := 63) (pc' := 70) rfl (hb hby at_63) (by decide) (by decide) k) ?_
      show Go _ _ _ _ _ _ _ (s₁.setTop (mkF m 70 #[.val (.long zx), .second, .val (.long zn), .second, .val (.long zo), .second, .val (.int qn), .val (.int qm), .val (.int qf), .val (.int (1 : Int32)), .val (.int (1 : Int32)), .val (.int (qn &&& (31 : Int32))), .val (.int (qm &&& (31 : Int32))), .val .null, .unset, .unset, .unset, .unset, .unset, .unset] [.null]))
      refine Go.step (fun _ k => XS.astore X0.here hx rfl (hb hby at_70) rfl rfl (l' := #[.val (.long zx), .second, .val (.long zn), .second, .val (.long zo), .second, .val (.int qn), .val (.int qm), .val (.int qf), .val (.int (1 : Int32)), .val (.int (1 : Int32)), .val (.int (qn &&& (31 : Int32))), .val (.int (qm &&& (31 : Int32))), .val .null, .val .null, .unset, .unset, .unset, .unset, .unset]) rfl k) ?_
      show Go _ _ _ _ _ _ _ (s₁.setTop (mkF m 72 #[.val (.long zx), .second, .val (.long zn), .second, .val (.long zo), .second, .val (.int qn), .val (.int qm), .val (.int qf), .val (.int (1 : Int32)), .val (.int (1 : Int32)), .val (.int (qn &&& (31 : Int32))), .val (.int (qm &&& (31 : Int32))), .val .null, .val .null, .unset, .unset, .unset, .unset, .unset] []))
      obtain ⟨T164, h164, X164, e164, E164, A164, D164, -, st164⟩ := newO X0 hx hZ hown (hw _ (List.mem_of_getElem? (i := 0) rfl)) (hw _ (List.mem_of_getElem? (i := 1) rfl)) (hw _ (List.mem_of_getElem? (i := 2) rfl)) e0 (g := (mkF m 72 #[.val (.long zx), .second, .val (.long zn), .second, .val (.long zo), .second, .val (.int qn), .val (.int qm), .val (.int qf), .val (.int (1 : Int32)), .val (.int (1 : Int32)), .val (.int (qn &&& (31 : Int32))), .val (.int (qm &&& (31 : Int32))), .val .null, .val .null, .unset, .unset, .unset, .unset, .unset] [])) rfl (hb hby at_72) (by decide) (by decide)
      obtain ⟨b164, g164⟩ : ∃ z, z = h0.size := ⟨_, rfl⟩
      rw [← g164] at A164 D164 st164
      refine Go.step st164 ?_
      have gn164 : n0 ≤ b164 := Nat.le_trans Z0 (Nat.le_of_eq g164.symm)
      have sz164 : h0.size ≤ b164 := Nat.le_trans sq0 (Nat.le_of_eq g164.symm)
      have z165 : n0 ≤ h164.size := Nat.le_trans Z0 E164.1
      have sqz165 : h0.size ≤ h164.size := Nat.le_trans sq0 E164.1
      have f167 : Fld Z h164 b164 "com/example/punctual_lease/punctuallease/Node" "children" "Ljava/util/Set;" .null := D164 (Or.inr (hw _ (List.mem_of_getElem? (i := 67) rfl))) (ty := (.object "java/util/Set")) (by decide)
      have f168 : Fld Z h164 b164 "com/example/punctual_lease/punctuallease/Node" "czxid" "J" (.long (0 : Int64)) := D164 (Or.inr (hw _ (List.mem_of_getElem? (i := 69) rfl))) (ty := .long) (by decide)
      have f169 : Fld Z h164 b164 "com/example/punctual_lease/punctuallease/Node" "ctime" "J" (.long (0 : Int64)) := D164 (Or.inr (hw _ (List.mem_of_getElem? (i := 71) rfl))) (ty := .long) (by decide)
      have f170 : Fld Z h164 b164 "com/example/punctual_lease/punctuallease/Node" "ephemeralOwner" "J" (.long (0 : Int64)) := D164 (Or.inr (hw _ (List.mem_of_getElem? (i := 73) rfl))) (ty := .long) (by decide)
      have f171 : Fld Z h164 b164 "com/example/punctual_lease/punctuallease/Node" "acl" "Ljava/util/List;" .null := D164 (Or.inr (hw _ (List.mem_of_getElem? (i := 75) rfl))) (ty := (.object "java/util/List")) (by decide)
      have f172 : Fld Z h164 b164 "com/example/punctual_lease/punctuallease/Node" "data" "[B" .null := D164 (Or.inl (hw _ (List.mem_of_getElem? (i := 77) rfl))) (ty := (.array .byte)) (by decide)
      have f173 : Fld Z h164 b164 "com/example/punctual_lease/punctuallease/Node" "mzxid" "J" (.long (0 : Int64)) := D164 (Or.inl (hw _ (List.mem_of_getElem? (i := 79) rfl))) (ty := .long) (by decide)
      have f174 : Fld Z h164 b164 "com/example/punctual_lease/punctuallease/Node" "mtime" "J" (.long (0 : Int64)) := D164 (Or.inl (hw _ (List.mem_of_getElem? (i := 81) rfl))) (ty := .long) (by decide)
      have f175 : Fld Z h164 b164 "com/example/punctual_lease/punctuallease/Node" "pzxid" "J" (.long (0 : Int64)) := D164 (Or.inl (hw _ (List.mem_of_getElem? (i := 83) rfl))) (ty := .long) (by decide)
      show Go _ _ _ _ _ _ _ (T164.setTop (mkF m 75 #[.val (.long zx), .second, .val (.long zn), .second, .val (.long zo), .second, .val (.int qn), .val (.int qm), .val (.int qf), .val (.int (1 : Int32)), .val (.int (1 : Int32)), .val (.int (qn &&& (31 : Int32))), .val (.int (qm &&& (31 : Int32))), .val .null, .val .null, .unset, .unset, .unset, .unset, .unset] [(.ref b164)]))
      refine Go.step (fun _ k => XS.dup X164.here hx rfl (hb hby at_75) rfl rfl k) ?_
      show Go _ _ _ _ _ _ _ (T164.setTop (mkF m 76 #[.val (.long zx), .second, .val (.long zn), .second, .val (.long zo), .second, .val (.int qn), .val (.int qm), .val (.int qf), .val (.int (1 : Int32)), .val (.int (1 : Int32)), .val (.int (qn &&& (31 : Int32))), .val (.int (qm &&& (31 : Int32))), .val .null, .val .null, .unset, .unset, .unset, .unset, .unset] [(.ref b164), (.ref b164)]))
      refine Go.step (fun _ k => XS.lloadN X164.here hx rfl (hb hby at_76) rfl  k) ?_
      show Go _ _ _ _ _ _ _ (T164.setTop (mkF m 77 #[.val (.long zx), .second, .val (.long zn), .second, .val (.long zo), .second, .val (.int qn), .val (.int qm), .val (.int qf), .val (.int (1 : Int32)), .val (.int (1 : Int32)), .val (.int (qn &&& (31 : Int32))), .val (.int (qm &&& (31 : Int32))), .val .null, .val .null, .unset, .unset, .unset, .unset, .unset] [(.long zx), (.ref b164), (.ref b164)]))
      refine Go.step (fun _ k => XS.lloadN X164.here hx rfl (hb hby at_77) rfl  k) ?_
      show Go _ _ _ _ _ _ _ (T164.setTop (mkF m 78 #[.val (.long zx), .second, .val (.long zn), .second, .val (.long zo), .second, .val (.int qn), .val (.int qm), .val (.int qf), .val (.int (1 : Int32)), .val (.int (1 : Int32)), .val (.int (qn &&& (31 : Int32))), .val (.int (qm &&& (31 : Int32))), .val .null, .val .null, .unset, .unset, .unset, .unset, .unset] [(.long zn), (.long zx), (.ref b164), (.ref b164)]))
      refine Go.step (fun _ k => XS.lload X164.here hx rfl (hb hby at_78) rfl  k) ?_
      show Go _ _ _ _ _ _ _ (T164.setTop (mkF m 80 #[.val (.long zx), .second, .val (.long zn), .second, .val (.long zo), .second, .val (.int qn), .val (.int qm), .val (.int qf), .val (.int (1 : Int32)), .val (.int (1 : Int32)), .val (.int (qn &&& (31 : Int32))), .val (.int (qm &&& (31 : Int32))), .val .null, .val .null, .unset, .unset, .unset, .unset, .unset] [(.long zo), (.long zn), (.long zx), (.ref b164), (.ref b164)]))
      obtain ⟨T176, h176, X176, e176, E176, A176, D176, -, st176⟩ := newO X164 hx hZ hown (hw _ (List.mem_of_getElem? (i := 3) rfl)) (hw _ (List.mem_of_getElem? (i := 4) rfl)) (hw _ (List.mem_of_getElem? (i := 5) rfl)) e164 (g := (mkF m 80 #[.val (.long zx), .second, .val (.long zn), .second, .val (.long zo), .second, .val (.int qn), .val (.int qm), .val (.int qf), .val (.int (1 : Int32)), .val (.int (1 : Int32)), .val (.int (qn &&& (31 : Int32))), .val (.int (qm &&& (31 : Int32))), .val .null, .val .null, .unset, .unset, .unset, .unset, .unset] [(.long zo), (.long zn), (.long zx), (.ref b164), (.ref b164)])) rfl (hb hby at_80) (by decide) (by decide)
      obtain ⟨b176, g176⟩ : ∃ z, z = h164.size := ⟨_, rfl⟩
      rw [← g176] at A176 D176 st176
      refine Go.step st176 ?_
      have gn176 : n0 ≤ b176 := Nat.le_trans z165 (Nat.le_of_eq g176.symm)
      have sz176 : h0.size ≤ b176 := Nat.le_trans sqz165 (Nat.le_of_eq g176.symm)
      have ne177 : b164 ≠ b176 := Nat.ne_of_lt (Nat.lt_of_lt_of_le A164.lt (Nat.le_of_eq g176.symm))
      have z178 : n0 ≤ h176.size := Nat.le_trans z165 E176.1
      have sqz178 : h0.size ≤ h176.size := Nat.le_trans sqz165 E176.1
      have f180 : Fld Z h176 b176 "java/util/AbstractList" "modCount" "I" (.int (0 : Int32)) := D176 (Or.inl (hw _ (List.mem_of_getElem? (i := 25) rfl))) (ty := .int) (by decide)
      have f181 : Fld Z h176 b176 "java/util/ArrayList" "elementData" "[Ljava/lang/Object;" .null := D176 (Or.inl (hw _ (List.mem_of_getElem? (i := 28) rfl))) (ty := (.array (.object "java/lang/Object"))) (by decide)
      show Go _ _ _ _ _ _ _ (T176.setTop (mkF m 83 #[.val (.long zx), .second, .val (.long zn), .second, .val (.long zo), .second, .val (.int qn), .val (.int qm), .val (.int qf), .val (.int (1 : Int32)), .val (.int (1 : Int32)), .val (.int (qn &&& (31 : Int32))), .val (.int (qm &&& (31 : Int32))), .val .null, .val .null, .unset, .unset, .unset, .unset, .unset] [(.ref b176), (.long zo), (.long zn), (.long zx), (.ref b164), (.ref b164)]))
      refine Go.step (fun _ k => XS.dup X176.here hx rfl (hb hby at_83) rfl rfl k) ?_
      show Go _ _ _ _ _ _ _ (T176.setTop (mkF m 84 #[.val (.long zx), .second, .val (.long zn), .second, .val (.long zo), .second, .val (.int qn), .val (.int qm), .val (.int qf), .val (.int (1 : Int32)), .val (.int (1 : Int32)), .val (.int (qn &&& (31 : Int32))), .val (.int (qm &&& (31 : Int32))), .val .null, .val .null, .unset, .unset, .unset, .unset, .unset] [(.ref b176), (.ref b176), (.long zo), (.long zn), (.long zx), (.ref b164), (.ref b164)]))
      have f182 : Old Z n0 h176 := ((O_0.ext E164).ext E176)
      obtain ⟨_, _, ⟨T183, L183, k183, n183⟩, -, X183, ⟨Lc183, hQ183, l183, y183, z183⟩, st183⟩ := X176.specialBack hx (y := (⟨"java/util/ArrayList", "<init>", "()V"⟩ : MethodName)) rfl hown (mvT hZ (hw _ (List.mem_of_getElem? (i := 6) rfl))) (mvT hZ (hw _ (List.mem_of_getElem? (i := 7) rfl))) (mvT hZ (hw _ (List.mem_of_getElem? (i := 8) rfl))) (by decide) (backOf (W := 9) (rm1 l Z aZ hw [] b176 w0 h176 n0 z178 f182 S_1 A176 f180 f181 gn176) hZ (hw _ (List.mem_of_getElem? (i := 8) rfl)) (hw _ (List.mem_of_getElem? (i := 5) rfl)) (by decide) (by decide)) (g := (mkF m 84 #[.val (.long zx), .second, .val (.long zn), .second, .val (.long zo), .second, .val (.int qn), .val (.int qm), .val (.int qf), .val (.int (1 : Int32)), .val (.int (1 : Int32)), .val (.int (qn &&& (31 : Int32))), .val (.int (qm &&& (31 : Int32))), .val .null, .val .null, .unset, .unset, .unset, .unset, .unset] [(.ref b176), (.ref b176), (.long zo), (.long zn), (.long zx), (.ref b164), (.ref b164)])) rfl (by rw [hml]; rfl) (Steps.refl _) (a := b176) (argsL := []) (rest := [(.ref b176), (.long zo), (.long zn), (.long zx), (.ref b164), (.ref b164)]) (lenOf pd_0 rfl) rfl (by show 2 * 0 + _ ≤ _; exact Nat.le_of_eq rfl) (hb hby at_84) (fun _ _ => ⟨rfl, e176, (by decide : 2 + 0 ≤ _), (by decide : 15 + 0 ≤ _)⟩)
      dsimp only [Pt.U, Pt.locs, Pt.cells, Pt.slots] at X183 l183 y183 z183 st183 hQ183
      subst l183 y183 z183
      obtain ⟨rfl, Nq183, K183, c183_0, c183_1, c183_2⟩ := hQ183
      have N183 := Fr.app N0 Nq183
      refine Go.tr st183 ?_
      have z184 : n0 ≤ T183.heap.size := Nat.le_trans z178 K183.1
      have sqz184 : h0.size ≤ T183.heap.size := Nat.le_trans sqz178 K183.1
      show Go _ _ _ _ _ _ _ (T183.setTop (mkF m 87 #[.val (.long zx), .second, .val (.long zn), .second, .val (.long zo), .second, .val (.int qn), .val (.int qm), .val (.int qf), .val (.int (1 : Int32)), .val (.int (1 : Int32)), .val (.int (qn &&& (31 : Int32))), .val (.int (qm &&& (31 : Int32))), .val .null, .val .null, .unset, .unset, .unset, .unset, .unset] [(.ref b176), (.long zo), (.long zn), (.long zx), (.ref b164), (.ref b164)]))
      refine Go.step (fun _ k => XS.aload X183.here hx rfl (hb hby at_87) rfl rfl  k) ?_
      show Go _ _ _ _ _ _ _ (T183.setTop (mkF m 89 #[.val (.long zx), .second, .val (.long zn), .second, .val (.long zo), .second, .val (.int qn), .val (.int qm), .val (.int qf), .val (.int (1 : Int32)), .val (.int (1 : Int32)), .val (.int (qn &&& (31 : Int32))), .val (.int (qm &&& (31 : Int32))), .val .null, .val .null, .unset, .unset, .unset, .unset, .unset] [.null, (.ref b176), (.long zo), (.long zn), (.long zx), (.ref b164), (.ref b164)]))
      have pq186 : Value.null.isRef = true := (by first | assumption | rfl | decide)
      have f187 : Exa Z T183.heap b164 "com/example/punctual_lease/punctuallease/Node" := ((A164.ext E176).keep K183)
      have f188 : Fld Z T183.heap b164 "com/example/punctual_lease/punctuallease/Node" "children" "Ljava/util/Set;" .null := ((f167.ext E176).keep K183 (ninS ne177 nin0))
      have f189 : Fld Z T183.heap b164 "com/example/punctual_lease/punctuallease/Node" "czxid" "J" (.long (0 : Int64)) := ((f168.ext E176).keep K183 (ninS ne177 nin0))
      have f190 : Fld Z T183.heap b164 "com/example/punctual_lease/punctuallease/Node" "ctime" "J" (.long (0 : Int64)) := ((f169.ext E176).keep K183 (ninS ne177 nin0))
      have f191 : Fld Z T183.heap b164 "com/example/punctual_lease/punctuallease/Node" "ephemeralOwner" "J" (.long (0 : Int64)) := ((f170.ext E176).keep K183 (ninS ne177 nin0))
      have f192 : Fld Z T183.heap b164 "com/example/punctual_lease/punctuallease/Node" "acl" "Ljava/util/List;" .null := ((f171.ext E176).keep K183 (ninS ne177 nin0))
      have f193 : Fld Z T183.heap b164 "com/example/punctual_lease/punctuallease/Node" "data" "[B" .null := ((f172.ext E176).keep K183 (ninS ne177 nin0))
      have f194 : Fld Z T183.heap b164 "com/example/punctual_lease/punctuallease/Node" "mzxid" "J" (.long (0 : Int64)) := ((f173.ext E176).keep K183 (ninS ne177 nin0))
      have f195 : Fld Z T183.heap b164 "com/example/punctual_lease/punctuallease/Node" "mtime" "J" (.long (0 : Int64)) := ((f174.ext E176).keep K183 (ninS ne177 nin0))
      have f196 : Fld Z T183.heap b164 "com/example/punctual_lease/punctuallease/Node" "pzxid" "J" (.long (0 : Int64)) := ((f175.ext E176).keep K183 (ninS ne177 nin0))
      obtain ⟨_, _, ⟨T197, L197, k197, n197⟩, -, X197, ⟨Lc197, hQ197, l197, y197, z197⟩, st197⟩ := X183.specialBack hx (y := (⟨"com/example/punctual_lease/punctuallease/Node", "<init>", "(JJJLjava/util/List;[B)V"⟩ : MethodName)) rfl hown (mvT hZ (hw _ (List.mem_of_getElem? (i := 29) rfl))) (mvT hZ (hw _ (List.mem_of_getElem? (i := 30) rfl))) (mvT hZ (hw _ (List.mem_of_getElem? (i := 31) rfl))) (by decide) (backOf (W := 1) (rm5 l Z aZ hw [] b164 zx zn zo b176 Value.null T183.heap n0 z184 pq186 f187 f188 f189 f190 f191 f192 f193 f194 f195 f196 gn164) hZ (hw _ (List.mem_of_getElem? (i := 31) rfl)) (hw _ (List.mem_of_getElem? (i := 2) rfl)) (by decide) (by decide)) (g := (mkF m 89 #[.val (.long zx), .second, .val (.long zn), .second, .val (.long zo), .second, .val (.int qn), .val (.int qm), .val (.int qf), .val (.int (1 : Int32)), .val (.int (1 : Int32)), .val (.int (qn &&& (31 : Int32))), .val (.int (qm &&& (31 : Int32))), .val .null, .val .null, .unset, .unset, .unset, .unset, .unset] [.null, (.ref b176), (.long zo), (.long zn), (.long zx), (.ref b164), (.ref b164)])) rfl (by rw [hml]; rfl) (Steps.refl _) (a := b164) (argsL := [(.long zx), (.long zn), (.long zo), (.ref b176), .null]) (rest := [(.ref b164)]) (lenOf pd_1 rfl) rfl (by show 2 * 0 + _ ≤ _; exact Nat.le_of_eq rfl) (hb hby at_89) (fun _ _ => ⟨rfl, rfl, (by decide : 2 + 2 ≤ _), (by decide : 15 + 9 ≤ _)⟩)
      dsimp only [Pt.U, Pt.locs, Pt.cells, Pt.slots] at X197 l197 y197 z197 st197 hQ197
      subst l197 y197 z197
      obtain ⟨rfl, Nq197, K197, c197_0, c197_1, c197_2⟩ := hQ197
      have N197 := Fr.app N183 Nq197
      refine Go.tr st197 ?_
      have z198 : n0 ≤ T197.heap.size := Nat.le_trans z184 K197.1
      have sqz198 : h0.size ≤ T197.heap.size := Nat.le_trans sqz184 K197.1
      show Go _ _ _ _ _ _ _ (T197.setTop (mkF m 92 #[.val (.long zx), .second, .val (.long zn), .second, .val (.long zo), .second, .val (.int qn), .val (.int qm), .val (.int qf), .val (.int (1 : Int32)), .val (.int (1 : Int32)), .val (.int (qn &&& (31 : Int32))), .val (.int (qm &&& (31 : Int32))), .val .null, .val .null, .unset, .unset, .unset, .unset, .unset] [(.ref b164)]))
      refine Go.step (fun _ k => XS.astore X197.here hx rfl (hb hby at_92) rfl rfl (l' := #[.val (.long zx), .second, .val (.long zn), .second, .val (.long zo), .second, .val (.int qn), .val (.int qm), .val (.int qf), .val (.int (1 : Int32)), .val (.int (1 : Int32)), .val (.int (qn &&& (31 : Int32))), .val (.int (qm &&& (31 : Int32))), .val .null, .val .null, .val (.ref b164), .unset, .unset, .unset, .unset]) rfl k) ?_
      show Go _ _ _ _ _ _ _ (T197.setTop (mkF m 94 #[.val (.long zx), .second, .val (.long zn), .second, .val (.long zo), .second, .val (.int qn), .val (.int qm), .val (.int qf), .val (.int (1 : Int32)), .val (.int (1 : Int32)), .val (.int (qn &&& (31 : Int32))), .val (.int (qm &&& (31 : Int32))), .val .null, .val .null, .val (.ref b164), .unset, .unset, .unset, .unset] []))
      refine Go.step (fun _ k => XS.iload X197.here hx rfl (hb hby at_94) rfl  k) ?_
      show Go _ _ _ _ _ _ _ (T197.setTop (mkF m 96 #[.val (.long zx), .second, .val (.long zn), .second, .val (.long zo), .second, .val (.int qn), .val (.int qm), .val (.int qf), .val (.int (1 : Int32)), .val (.int (1 : Int32)), .val (.int (qn &&& (31 : Int32))), .val (.int (qm &&& (31 : Int32))), .val .null, .val .null, .val (.ref b164), .unset, .unset, .unset, .unset] [(.int (1 : Int32))]))
      have hc96 : ¬ ((1 : Int32) = (0 : Int32)) := hc59
      refine Go.step (fun _ k => XS.ifNo X197.here hx rfl (hb hby at_96) rfl ((if0 _ _).trans (feq hc96).1) k) ?_
      show Go _ _ _ _ _ _ _ (T197.setTop (mkF m 99 #[.val (.long zx), .second, .val (.long zn), .second, .val (.long zo), .second, .val (.int qn), .val (.int qm), .val (.int qf), .val (.int (1 : Int32)), .val (.int (1 : Int32)), .val (.int (qn &&& (31 : Int32))), .val (.int (qm &&& (31 : Int32))), .val .null, .val .null, .val (.ref b164), .unset, .unset, .unset, .unset] []))
      refine Go.step (fun _ k => XS.iconst X197.here hx rfl (hb hby at_99) k) ?_
      show Go _ _ _ _ _ _ _ (T197.setTop (mkF m 100 #[.val (.long zx), .second, .val (.long zn), .second, .val (.long zo), .second, .val (.int qn), .val (.int qm), .val (.int qf), .val (.int (1 : Int32)), .val (.int (1 : Int32)), .val (.int (qn &&& (31 : Int32))), .val (.int (qm &&& (31 : Int32))), .val .null, .val .null, .val (.ref b164), .unset, .unset, .unset, .unset] [(.int (0 : Int32))]))
      refine Go.step (fun _ k => XS.goto X197.here hx rfl (pc0 := 100) (pc' := 105) rfl (hb hby at_100) (by decide) (by decide) k) ?_
      show Go _ _ _ _ _ _ _ (T197.setTop (mkF m 105 #[.val (.long zx), .second, .val (.long zn), .second, .val (.long zo), .second, .val (.int qn), .val (.int qm), .val (.int qf), .val (.int (1 : Int32)), .val (.int (1 : Int32)), .val (.int (qn &&& (31 : Int32))), .val (.int (qm &&& (31 : Int32))), .val .null, .val .null, .val (.ref b164), .unset, .unset, .unset, .unset] [(.int (0 : Int32))]))
      refine Go.step (fun _ k => XS.istore X197.here hx rfl (hb hby at_105) rfl (l' := #[.val (.long zx), .second, .val (.long zn), .second, .val (.long zo), .second, .val (.int qn), .val (.int qm), .val (.int qf), .val (.int (1 : Int32)), .val (.int (1 : Int32)), .val (.int (qn &&& (31 : Int32))), .val (.int (qm &&& (31 : Int32))), .val .null, .val .null, .val (.ref b164), .val (.int (0 : Int32)), .unset, .unset, .unset]) rfl k) ?_
      show Go _ _ _ _ _ _ _ (T197.setTop (mkF m 107 #[.val (.long zx), .second, .val (.long zn), .second, .val (.long zo), .second, .val (.int qn), .val (.int qm), .val (.int qf), .val (.int (1 : Int32)), .val (.int (1 : Int32)), .val (.int (qn &&& (31 : Int32))), .val (.int (qm &&& (31 : Int32))), .val .null, .val .null, .val (.ref b164), .val (.int (0 : Int32)), .unset, .unset, .unset] []))
      refine Go.step (fun _ k => XS.aload X197.here hx rfl (hb hby at_107) rfl rfl  k) ?_
      show Go _ _ _ _ _ _ _ (T197.setTop (mkF m 109 #[.val (.long zx), .second, .val (.long zn), .second, .val (.long zo), .second, .val (.int qn), .val (.int qm), .val (.int qf), .val (.int (1 : Int32)), .val (.int (1 : Int32)), .val (.int (qn &&& (31 : Int32))), .val (.int (qm &&& (31 : Int32))), .val .null, .val .null, .val (.ref b164), .val (.int (0 : Int32)), .unset, .unset, .unset] [(.ref b164)]))
      obtain ⟨cq200, kq200, q200a, q200b, q200c⟩ := isOf hZ rfl c197_0
      obtain ⟨_, _, ⟨T200, L200, k200, n200⟩, -, X200, ⟨Lc200, hQ200, l200, y200, z200⟩, st200⟩ := X197.virtualBack hx (y := (⟨"com/example/punctual_lease/punctuallease/Node", "dataLength", "()I"⟩ : MethodName)) (z := (⟨"com/example/punctual_lease/punctuallease/Node", "dataLength", "()I"⟩ : MethodName)) hown (mvT hZ (hw _ (List.mem_of_getElem? (i := 84) rfl))) (mvT hZ (hw _ (List.mem_of_getElem? (i := 85) rfl))) (notFace_of_selects (args := #[]) (mvT hZ (hw _ (List.mem_of_getElem? (i := 87) rfl)))) (mvT hZ (hw _ (List.mem_of_getElem? (i := 87) rfl))) (mvT hZ (hw _ (List.mem_of_getElem? (i := 86) rfl))) (by decide) (backOf (W := 0) (rm10n l Z aZ hw [] b164 T197.heap n0 z198 c197_2) hZ (hw _ (List.mem_of_getElem? (i := 88) rfl)) (hw _ (List.mem_of_getElem? (i := 2) rfl)) (by decide) (by decide)) q200a q200c (g := (mkF m 109 #[.val (.long zx), .second, .val (.long zn), .second, .val (.long zo), .second, .val (.int qn), .val (.int qm), .val (.int qf), .val (.int (1 : Int32)), .val (.int (1 : Int32)), .val (.int (qn &&& (31 : Int32))), .val (.int (qm &&& (31 : Int32))), .val .null, .val .null, .val (.ref b164), .val (.int (0 : Int32)), .unset, .unset, .unset] [(.ref b164)])) rfl (by rw [hml]; rfl) (Steps.refl _) (argsL := []) (rest := []) (lenOf pd_2 rfl) rfl (by show 2 * 0 + _ ≤ _; exact Nat.le_of_eq rfl) (hb hby at_109) (fun _ _ => ⟨rfl, rfl, (by decide : 4 + 0 ≤ _), (by decide : 24 + 0 ≤ _)⟩)
      dsimp only [Pt.U, Pt.locs, Pt.cells, Pt.slots] at X200 l200 y200 z200 st200 hQ200
      subst l200 y200 z200
      obtain ⟨rfl, Nq200, e200⟩ := hQ200
      have N200 := Fr.app N197 Nq200
      refine Go.tr st200 ?_
      show Go _ _ _ _ _ _ _ (T200.setTop (mkF m 112 #[.val (.long zx), .second, .val (.long zn), .second, .val (.long zo), .second, .val (.int qn), .val (.int qm), .val (.int qf), .val (.int (1 : Int32)), .val (.int (1 : Int32)), .val (.int (qn &&& (31 : Int32))), .val (.int (qm &&& (31 : Int32))), .val .null, .val .null, .val (.ref b164), .val (.int (0 : Int32)), .unset, .unset, .unset] [(.int (0 : Int32))]))
      refine Go.step (fun _ k => XS.iload X200.here hx rfl (hb hby at_112) rfl  k) ?_
      show Go _ _ _ _ _ _ _ (T200.setTop (mkF m 114 #[.val (.long zx), .second, .val (.long zn), .second, .val (.long zo), .second, .val (.int qn), .val (.int qm), .val (.int qf), .val (.int (1 : Int32)), .val (.int (1 : Int32)), .val (.int (qn &&& (31 : Int32))), .val (.int (qm &&& (31 : Int32))), .val .null, .val .null, .val (.ref b164), .val (.int (0 : Int32)), .unset, .unset, .unset] [(.int (0 : Int32)), (.int (0 : Int32))]))
      have hc114 : (0 : Int32) = (0 : Int32) := by decide
      refine Go.step (fun _ k => XS.icmpNo X200.here hx rfl (hb hby at_114) rfl (teq hc114).2 k) ?_
      show Go _ _ _ _ _ _ _ (T200.setTop (mkF m 117 #[.val (.long zx), .second, .val (.long zn), .second, .val (.long zo), .second, .val (.int qn), .val (.int qm), .val (.int qf), .val (.int (1 : Int32)), .val (.int (1 : Int32)), .val (.int (qn &&& (31 : Int32))), .val (.int (qm &&& (31 : Int32))), .val .null, .val .null, .val (.ref b164), .val (.int (0 : Int32)), .unset, .unset, .unset] []))
      refine Go.step (fun _ k => XS.iconst X200.here hx rfl (hb hby at_117) k) ?_
      show Go _ _ _ _ _ _ _ (T200.setTop (mkF m 118 #[.val (.long zx), .second, .val (.long zn), .second, .val (.long zo), .second, .val (.int qn), .val (.int qm), .val (.int qf), .val (.int (1 : Int32)), .val (.int (1 : Int32)), .val (.int (qn &&& (31 : Int32))), .val (.int (qm &&& (31 : Int32))), .val .null, .val .null, .val (.ref b164), .val (.int (0 : Int32)), .unset, .unset, .unset] [(.int (1 : Int32))]))
      refine Go.step (fun _ k => XS.goto X200.here hx rfl (pc0 := 118) (pc' := 122) rfl (hb hby at_118) (by decide) (by decide) k) ?_
      show Go _ _ _ _ _ _ _ (T200.setTop (mkF m 122 #[.val (.long zx), .second, .val (.long zn), .second, .val (.long zo), .second, .val (.int qn), .val (.int qm), .val (.int qf), .val (.int (1 : Int32)), .val (.int (1 : Int32)), .val (.int (qn &&& (31 : Int32))), .val (.int (qm &&& (31 : Int32))), .val .null, .val .null, .val (.ref b164), .val (.int (0 : Int32)), .unset, .unset, .unset] [(.int (1 : Int32))]))
      refine Go.step (fun _ k => XS.istore X200.here hx rfl (hb hby at_122) rfl (l' := #[.val (.long zx), .second, .val (.long zn), .second, .val (.long zo), .second, .val (.int qn), .val (.int qm), .val (.int qf), .val (.int (1 : Int32)), .val (.int (1 : Int32)), .val (.int (qn &&& (31 : Int32))), .val (.int (qm &&& (31 : Int32))), .val .null, .val .null, .val (.ref b164), .val (.int (0 : Int32)), .val (.int (1 : Int32)), .unset, .unset]) rfl k) ?_
      show Go _ _ _ _ _ _ _ (T200.setTop (mkF m 124 #[.val (.long zx), .second, .val (.long zn), .second, .val (.long zo), .second, .val (.int qn), .val (.int qm), .val (.int qf), .val (.int (1 : Int32)), .val (.int (1 : Int32)), .val (.int (qn &&& (31 : Int32))), .val (.int (qm &&& (31 : Int32))), .val .null, .val .null, .val (.ref b164), .val (.int (0 : Int32)), .val (.int (1 : Int32)), .unset, .unset] []))
      refine Go.step (fun _ k => XS.aload X200.here hx rfl (hb hby at_124) rfl rfl  k) ?_
      show Go _ _ _ _ _ _ _ (T200.setTop (mkF m 126 #[.val (.long zx), .second, .val (.long zn), .second, .val (.long zo), .second, .val (.int qn), .val (.int qm), .val (.int qf), .val (.int (1 : Int32)), .val (.int (1 : Int32)), .val (.int (qn &&& (31 : Int32))), .val (.int (qm &&& (31 : Int32))), .val .null, .val .null, .val (.ref b164), .val (.int (0 : Int32)), .val (.int (1 : Int32)), .unset, .unset] [(.ref b164)]))
      refine Go.step (fun _ k => XS.aload X200.here hx rfl (hb hby at_126) rfl rfl  k) ?_
      show Go _ _ _ _ _ _ _ (T200.setTop (mkF m 128 #[.val (.long zx), .second, .val (.long zn), .second, .val (.long zo), .second, .val (.int qn), .val (.int qm), .val (.int qf), .val (.int (1 : Int32)), .val (.int (1 : Int32)), .val (.int (qn &&& (31 : Int32))), .val (.int (qm &&& (31 : Int32))), .val .null, .val .null, .val (.ref b164), .val (.int (0 : Int32)), .val (.int (1 : Int32)), .unset, .unset] [.null, (.ref b164)]))
      obtain ⟨T201, h201, X201, e201, W201, st201⟩ := putF X200 hx hZ hown (host := "") (Or.inl (hw _ (List.mem_of_getElem? (i := 89) rfl))) Via.refl e200 c197_2 c197_0 (Or.inl (hw _ (List.mem_of_getElem? (i := 77) rfl))) (hw _ (List.mem_of_getElem? (i := 1) rfl)) (ty := (.array .byte)) (v := .null) (by decide) rfl rfl (g := (mkF m 128 #[.val (.long zx), .second, .val (.long zn), .second, .val (.long zo), .second, .val (.int qn), .val (.int qm), .val (.int qf), .val (.int (1 : Int32)), .val (.int (1 : Int32)), .val (.int (qn &&& (31 : Int32))), .val (.int (qm &&& (31 : Int32))), .val .null, .val .null, .val (.ref b164), .val (.int (0 : Int32)), .val (.int (1 : Int32)), .unset, .unset] [.null, (.ref b164)])) rfl rfl (hb hby at_128)
      refine Go.step st201 ?_
      have N201 := Fr.snoc X201 N200 gn164
      have z202 : n0 ≤ h201.size := Nat.le_trans z198 (Keep.of_wr W201).1
      have sqz202 : h0.size ≤ h201.size := Nat.le_trans sqz198 (Keep.of_wr W201).1
      have f204 : Fld Z h201 b164 "com/example/punctual_lease/punctuallease/Node" "data" "[B" .null := c197_2.same W201
      show Go _ _ _ _ _ _ _ (T201.setTop (mkF m 131 #[.val (.long zx), .second, .val (.long zn), .second, .val (.long zo), .second, .val (.int qn), .val (.int qm), .val (.int qf), .val (.int (1 : Int32)), .val (.int (1 : Int32)), .val (.int (qn &&& (31 : Int32))), .val (.int (qm &&& (31 : Int32))), .val .null, .val .null, .val (.ref b164), .val (.int (0 : Int32)), .val (.int (1 : Int32)), .unset, .unset] []))
      refine Go.step (fun _ k => XS.iload X201.here hx rfl (hb hby at_131) rfl  k) ?_
      show Go _ _ _ _ _ _ _ (T201.setTop (mkF m 133 #[.val (.long zx), .second, .val (.long zn), .second, .val (.long zo), .second, .val (.int qn), .val (.int qm), .val (.int qf), .val (.int (1 : Int32)), .val (.int (1 : Int32)), .val (.int (qn &&& (31 : Int32))), .val (.int (qm &&& (31 : Int32))), .val .null, .val .null, .val (.ref b164), .val (.int (0 : Int32)), .val (.int (1 : Int32)), .unset, .unset] [(.int (1 : Int32))]))
      have hc133 : ¬ ((1 : Int32) = (0 : Int32)) := hc96
      refine Go.step (fun _ k => XS.ifNo X201.here hx rfl (hb hby at_133) rfl ((if0 _ _).trans (feq hc133).1) k) ?_
      show Go _ _ _ _ _ _ _ (T201.setTop (mkF m 136 #[.val (.long zx), .second, .val (.long zn), .second, .val (.long zo), .second, .val (.int qn), .val (.int qm), .val (.int qf), .val (.int (1 : Int32)), .val (.int (1 : Int32)), .val (.int (qn &&& (31 : Int32))), .val (.int (qm &&& (31 : Int32))), .val .null, .val .null, .val (.ref b164), .val (.int (0 : Int32)), .val (.int (1 : Int32)), .unset, .unset] []))
      refine Go.step (fun _ k => XS.iconst X201.here hx rfl (hb hby at_136) k) ?_
      show Go _ _ _ _ _ _ _ (T201.setTop (mkF m 137 #[.val (.long zx), .second, .val (.long zn), .second, .val (.long zo), .second, .val (.int qn), .val (.int qm), .val (.int qf), .val (.int (1 : Int32)), .val (.int (1 : Int32)), .val (.int (qn &&& (31 : Int32))), .val (.int (qm &&& (31 : Int32))), .val .null, .val .null, .val (.ref b164), .val (.int (0 : Int32)), .val (.int (1 : Int32)), .unset, .unset] [(.int (0 : Int32))]))
      refine Go.step (fun _ k => XS.goto X201.here hx rfl (pc0 := 137) (pc' := 142) rfl (hb hby at_137) (by decide) (by decide) k) ?_
      show Go _ _ _ _ _ _ _ (T201.setTop (mkF m 142 #[.val (.long zx), .second, .val (.long zn), .second, .val (.long zo), .second, .val (.int qn), .val (.int qm), .val (.int qf), .val (.int (1 : Int32)), .val (.int (1 : Int32)), .val (.int (qn &&& (31 : Int32))), .val (.int (qm &&& (31 : Int32))), .val .null, .val .null, .val (.ref b164), .val (.int (0 : Int32)), .val (.int (1 : Int32)), .unset, .unset] [(.int (0 : Int32))]))
      refine Go.step (fun _ k => XS.istore X201.here hx rfl (hb hby at_142) rfl (l' := #[.val (.long zx), .second, .val (.long zn), .second, .val (.long zo), .second, .val (.int qn), .val (.int qm), .val (.int qf), .val (.int (1 : Int32)), .val (.int (1 : Int32)), .val (.int (qn &&& (31 : Int32))), .val (.int (qm &&& (31 : Int32))), .val .null, .val .null, .val (.ref b164), .val (.int (0 : Int32)), .val (.int (1 : Int32)), .val (.int (0 : Int32)), .unset]) rfl k) ?_
      show Go _ _ _ _ _ _ _ (T201.setTop (mkF m 144 #[.val (.long zx), .second, .val (.long zn), .second, .val (.long zo), .second, .val (.int qn), .val (.int qm), .val (.int qf), .val (.int (1 : Int32)), .val (.int (1 : Int32)), .val (.int (qn &&& (31 : Int32))), .val (.int (qm &&& (31 : Int32))), .val .null, .val .null, .val (.ref b164), .val (.int (0 : Int32)), .val (.int (1 : Int32)), .val (.int (0 : Int32)), .unset] []))
      refine Go.step (fun _ k => XS.aload X201.here hx rfl (hb hby at_144) rfl rfl  k) ?_
      show Go _ _ _ _ _ _ _ (T201.setTop (mkF m 146 #[.val (.long zx), .second, .val (.long zn), .second, .val (.long zo), .second, .val (.int qn), .val (.int qm), .val (.int qf), .val (.int (1 : Int32)), .val (.int (1 : Int32)), .val (.int (qn &&& (31 : Int32))), .val (.int (qm &&& (31 : Int32))), .val .null, .val .null, .val (.ref b164), .val (.int (0 : Int32)), .val (.int (1 : Int32)), .val (.int (0 : Int32)), .unset] [(.ref b164)]))
      have f206 : Exa Z h201 b164 "com/example/punctual_lease/punctuallease/Node" := (c197_0.wr W201)
      obtain ⟨cq205, kq205, q205a, q205b, q205c⟩ := isOf hZ e201 f206
      obtain ⟨_, _, ⟨T205, L205, k205, n205⟩, -, X205, ⟨Lc205, hQ205, l205, y205, z205⟩, st205⟩ := X201.virtualBack hx (y := (⟨"com/example/punctual_lease/punctuallease/Node", "dataLength", "()I"⟩ : MethodName)) (z := (⟨"com/example/punctual_lease/punctuallease/Node", "dataLength", "()I"⟩ : MethodName)) hown (mvT hZ (hw _ (List.mem_of_getElem? (i := 84) rfl))) (mvT hZ (hw _ (List.mem_of_getElem? (i := 85) rfl))) (notFace_of_selects (args := #[]) (mvT hZ (hw _ (List.mem_of_getElem? (i := 87) rfl)))) (mvT hZ (hw _ (List.mem_of_getElem? (i := 87) rfl))) (mvT hZ (hw _ (List.mem_of_getElem? (i := 86) rfl))) (by decide) (backOf (W := 0) (rm10n l Z aZ hw [] b164 h201 n0 z202 f204) hZ (hw _ (List.mem_of_getElem? (i := 88) rfl)) (hw _ (List.mem_of_getElem? (i := 2) rfl)) (by decide) (by decide)) q205a q205c (g := (mkF m 146 #[.val (.long zx), .second, .val (.long zn), .second, .val (.long zo), .second, .val (.int qn), .val (.int qm), .val (.int qf), .val (.int (1 : Int32)), .val (.int (1 : Int32)), .val (.int (qn &&& (31 : Int32))), .val (.int (qm &&& (31 : Int32))), .val .null, .val .null, .val (.ref b164), .val (.int (0 : Int32)), .val (.int (1 : Int32)), .val (.int (0 : Int32)), .unset] [(.ref b164)])) rfl (by rw [hml]; rfl) (Steps.refl _) (argsL := []) (rest := []) (lenOf pd_2 rfl) rfl (by show 2 * 0 + _ ≤ _; exact Nat.le_of_eq rfl) (hb hby at_146) (fun _ _ => ⟨rfl, e201, (by decide : 4 + 0 ≤ _), (by decide : 24 + 0 ≤ _)⟩)
      dsimp only [Pt.U, Pt.locs, Pt.cells, Pt.slots] at X205 l205 y205 z205 st205 hQ205
      subst l205 y205 z205
      obtain ⟨rfl, Nq205, e205⟩ := hQ205
      have N205 := Fr.app N201 Nq205
      refine Go.tr st205 ?_
      show Go _ _ _ _ _ _ _ (T205.setTop (mkF m 149 #[.val (.long zx), .second, .val (.long zn), .second, .val (.long zo), .second, .val (.int qn), .val (.int qm), .val (.int qf), .val (.int (1 : Int32)), .val (.int (1 : Int32)), .val (.int (qn &&& (31 : Int32))), .val (.int (qm &&& (31 : Int32))), .val .null, .val .null, .val (.ref b164), .val (.int (0 : Int32)), .val (.int (1 : Int32)), .val (.int (0 : Int32)), .unset] [(.int (0 : Int32))]))
      refine Go.step (fun _ k => XS.iload X205.here hx rfl (hb hby at_149) rfl  k) ?_
      show Go _ _ _ _ _ _ _ (T205.setTop (mkF m 151 #[.val (.long zx), .second, .val (.long zn), .second, .val (.long zo), .second, .val (.int qn), .val (.int qm), .val (.int qf), .val (.int (1 : Int32)), .val (.int (1 : Int32)), .val (.int (qn &&& (31 : Int32))), .val (.int (qm &&& (31 : Int32))), .val .null, .val .null, .val (.ref b164), .val (.int (0 : Int32)), .val (.int (1 : Int32)), .val (.int (0 : Int32)), .unset] [(.int (0 : Int32)), (.int (0 : Int32))]))
      have hc151 : (0 : Int32) = (0 : Int32) := hc114
      refine Go.step (fun _ k => XS.icmpNo X205.here hx rfl (hb hby at_151) rfl (teq hc151).2 k) ?_
      show Go _ _ _ _ _ _ _ (T205.setTop (mkF m 154 #[.val (.long zx), .second, .val (.long zn), .second, .val (.long zo), .second, .val (.int qn), .val (.int qm), .val (.int qf), .val (.int (1 : Int32)), .val (.int (1 : Int32)), .val (.int (qn &&& (31 : Int32))), .val (.int (qm &&& (31 : Int32))), .val .null, .val .null, .val (.ref b164), .val (.int (0 : Int32)), .val (.int (1 : Int32)), .val (.int (0 : Int32)), .unset] []))
      refine Go.step (fun _ k => XS.iconst X205.here hx rfl (hb hby at_154) k) ?_
      show Go _ _ _ _ _ _ _ (T205.setTop (mkF m 155 #[.val (.long zx), .second, .val (.long zn), .second, .val (.long zo), .second, .val (.int qn), .val (.int qm), .val (.int qf), .val (.int (1 : Int32)), .val (.int (1 : Int32)), .val (.int (qn &&& (31 : Int32))), .val (.int (qm &&& (31 : Int32))), .val .null, .val .null, .val (.ref b164), .val (.int (0 : Int32)), .val (.int (1 : Int32)), .val (.int (0 : Int32)), .unset] [(.int (1 : Int32))]))
      refine Go.step (fun _ k => XS.goto X205.here hx rfl (pc0 := 155) (pc' := 159) rfl (hb hby at_155) (by decide) (by decide) k) ?_
      show Go _ _ _ _ _ _ _ (T205.setTop (mkF m 159 #[.val (.long zx), .second, .val (.long zn), .second, .val (.long zo), .second, .val (.int qn), .val (.int qm), .val (.int qf), .val (.int (1 : Int32)), .val (.int (1 : Int32)), .val (.int (qn &&& (31 : Int32))), .val (.int (qm &&& (31 : Int32))), .val .null, .val .null, .val (.ref b164), .val (.int (0 : Int32)), .val (.int (1 : Int32)), .val (.int (0 : Int32)), .unset] [(.int (1 : Int32))]))
      refine Go.step (fun _ k => XS.istore X205.here hx rfl (hb hby at_159) rfl (l' := #[.val (.long zx), .second, .val (.long zn), .second, .val (.long zo), .second, .val (.int qn), .val (.int qm), .val (.int qf), .val (.int (1 : Int32)), .val (.int (1 : Int32)), .val (.int (qn &&& (31 : Int32))), .val (.int (qm &&& (31 : Int32))), .val .null, .val .null, .val (.ref b164), .val (.int (0 : Int32)), .val (.int (1 : Int32)), .val (.int (0 : Int32)), .val (.int (1 : Int32))]) rfl k) ?_
      show Go _ _ _ _ _ _ _ (T205.setTop (mkF m 161 #[.val (.long zx), .second, .val (.long zn), .second, .val (.long zo), .second, .val (.int qn), .val (.int qm), .val (.int qf), .val (.int (1 : Int32)), .val (.int (1 : Int32)), .val (.int (qn &&& (31 : Int32))), .val (.int (qm &&& (31 : Int32))), .val .null, .val .null, .val (.ref b164), .val (.int (0 : Int32)), .val (.int (1 : Int32)), .val (.int (0 : Int32)), .val (.int (1 : Int32))] []))
      refine Go.step (fun _ k => XS.iload X205.here hx rfl (hb hby at_161) rfl  k) ?_
      show Go _ _ _ _ _ _ _ (T205.setTop (mkF m 163 #[.val (.long zx), .second, .val (.long zn), .second, .val (.long zo), .second, .val (.int qn), .val (.int qm), .val (.int qf), .val (.int (1 : Int32)), .val (.int (1 : Int32)), .val (.int (qn &&& (31 : Int32))), .val (.int (qm &&& (31 : Int32))), .val .null, .val .null, .val (.ref b164), .val (.int (0 : Int32)), .val (.int (1 : Int32)), .val (.int (0 : Int32)), .val (.int (1 : Int32))] [(.int (1 : Int32))]))
      have hc163 : ¬ ((1 : Int32) = (0 : Int32)) := hc133
      refine Go.step (fun _ k => XS.ifNo X205.here hx rfl (hb hby at_163) rfl ((if0 _ _).trans (feq hc163).1) k) ?_
      show Go _ _ _ _ _ _ _ (T205.setTop (mkF m 166 #[.val (.long zx), .second, .val (.long zn), .second, .val (.long zo), .second, .val (.int qn), .val (.int qm), .val (.int qf), .val (.int (1 : Int32)), .val (.int (1 : Int32)), .val (.int (qn &&& (31 : Int32))), .val (.int (qm &&& (31 : Int32))), .val .null, .val .null, .val (.ref b164), .val (.int (0 : Int32)), .val (.int (1 : Int32)), .val (.int (0 : Int32)), .val (.int (1 : Int32))] []))
      refine Go.step (fun _ k => XS.iload X205.here hx rfl (hb hby at_166) rfl  k) ?_
      show Go _ _ _ _ _ _ _ (T205.setTop (mkF m 168 #[.val (.long zx), .second, .val (.long zn), .second, .val (.long zo), .second, .val (.int qn), .val (.int qm), .val (.int qf), .val (.int (1 : Int32)), .val (.int (1 : Int32)), .val (.int (qn &&& (31 : Int32))), .val (.int (qm &&& (31 : Int32))), .val .null, .val .null, .val (.ref b164), .val (.int (0 : Int32)), .val (.int (1 : Int32)), .val (.int (0 : Int32)), .val (.int (1 : Int32))] [(.int (1 : Int32))]))
      have hc168 : ¬ ((1 : Int32) = (0 : Int32)) := hc163
      refine Go.step (fun _ k => XS.ifNo X205.here hx rfl (hb hby at_168) rfl ((if0 _ _).trans (feq hc168).1) k) ?_
      show Go _ _ _ _ _ _ _ (T205.setTop (mkF m 171 #[.val (.long zx), .second, .val (.long zn), .second, .val (.long zo), .second, .val (.int qn), .val (.int qm), .val (.int qf), .val (.int (1 : Int32)), .val (.int (1 : Int32)), .val (.int (qn &&& (31 : Int32))), .val (.int (qm &&& (31 : Int32))), .val .null, .val .null, .val (.ref b164), .val (.int (0 : Int32)), .val (.int (1 : Int32)), .val (.int (0 : Int32)), .val (.int (1 : Int32))] []))
      refine Go.step (fun _ k => XS.iconst X205.here hx rfl (hb hby at_171) k) ?_
      show Go _ _ _ _ _ _ _ (T205.setTop (mkF m 172 #[.val (.long zx), .second, .val (.long zn), .second, .val (.long zo), .second, .val (.int qn), .val (.int qm), .val (.int qf), .val (.int (1 : Int32)), .val (.int (1 : Int32)), .val (.int (qn &&& (31 : Int32))), .val (.int (qm &&& (31 : Int32))), .val .null, .val .null, .val (.ref b164), .val (.int (0 : Int32)), .val (.int (1 : Int32)), .val (.int (0 : Int32)), .val (.int (1 : Int32))] [(.int (1 : Int32))]))
      refine Go.step (fun _ k => XS.goto X205.here hx rfl (pc0 := 172) (pc' := 176) rfl (hb hby at_172) (by decide) (by decide) k) ?_
      show Go _ _ _ _ _ _ _ (T205.setTop (mkF m 176 #[.val (.long zx), .second, .val (.long zn), .second, .val (.long zo), .second, .val (.int qn), .val (.int qm), .val (.int qf), .val (.int (1 : Int32)), .val (.int (1 : Int32)), .val (.int (qn &&& (31 : Int32))), .val (.int (qm &&& (31 : Int32))), .val .null, .val .null, .val (.ref b164), .val (.int (0 : Int32)), .val (.int (1 : Int32)), .val (.int (0 : Int32)), .val (.int (1 : Int32))] [(.int (1 : Int32))]))
      refine Go.retN X205 hx (t := .boolean) Bd.returns (by simp) hlk (hb hby at_176) ?_ (by decide) (by decide)
      rw [e205]
      exact ⟨(by first | rfl | (simp_all [own_nb1, own_nb0]; done)), N205⟩
set_option maxRecDepth 65536 in
set_option maxHeartbeats 40000000 in
theorem comes_1 {Post : Tables → Env → Array Value → State → Outcome → State → Prop} (hpost : ∀ tb e args s v u, (limb_1_1.after args s (.returned v) u = true ∧ limb_1_2.after args s (.returned v) u = true ∧ True) → FrameEnd s (.returned v) u (Jvm.fieldLocs frame_1_writes args s ++ Jvm.arrayLocs frame_1_arrays args s ++ Jvm.staticLocs frame_1_statics s) 24 256 → Post tb e args s (.returned v) u) :
    ArmFor flags0 classFile x code maxLocals ret World_1 tables_1 room_1 Calls_1 rest_1 Pre_1 Post := by
  intro l hfl _ _ p e ha hc hk s m args below hf hA hF happ hP
  obtain ⟨hcalls, hrest, hpre⟩ := hP
  obtain ⟨-, -, -, hnamed, -, -, -, hat⟩ := (Spec.applies_iff hf).mp happ
  obtain ⟨hg, hn⟩ := and_e (Cond.before_iff.mp (show (Jvm.Cond.and given_1 narrow_1).before args s = true from hpre))
  obtain ⟨g0, r0⟩ := and_e hg
  obtain ⟨a0, r1⟩ := and_e r0
  obtain ⟨a1, r2⟩ := and_e r1
  obtain ⟨a2, r3⟩ := and_e r2
  obtain ⟨a3, r4⟩ := and_e r3
  obtain ⟨a4, r5⟩ := and_e r4
  have a5 := r5
  obtain ⟨w0, w1, w2, w3, w4, w5, rfl⟩ : ∃ w0 w1 w2 w3 w4 w5 : Value, args = #[w0, w1, w2, w3, w4, w5] := by
    have hs : args.size = 6 := by simpa [Cond.value, given_1] using g0
    obtain ⟨L⟩ := args
    match L, hs with
    | [w0, w1, w2, w3, w4, w5], _ => exact ⟨w0, w1, w2, w3, w4, w5, rfl⟩
  have hw := fun d (hd : d ∈ tables_1) => atoms_spec (ws := Jvm.Cond.code x code maxLocals ret :: tables_1) hat d (List.mem_cons_of_mem _ hd)
  have hfit : Fit s := fun {y c} hc i hi => by
    obtain ⟨ha, rfl⟩ := Array.getElem?_eq_some_iff.mp hc
    have q := List.all_eq_true.mp ((Array.all_eq_true_iff_forall_mem.mp hF) _ (Array.getElem_mem ha)) i (List.mem_range.mpr hi)
    simpa [Array.getElem?_eq_getElem hi] using q
  obtain ⟨hsets, hown0⟩ := atoms_of _ (rest_1_c_eq ▸ (show rest_1_c.before _ s = true from hrest))
  obtain ⟨i0, ei0⟩ := isL_v a0
  obtain rfl : w0 = (.long i0) := Option.some.inj ei0
  obtain ⟨i1, ei1⟩ := isL_v a1
  obtain rfl : w1 = (.long i1) := Option.some.inj ei1
  obtain ⟨i2, ei2⟩ := isL_v a2
  obtain rfl : w2 = (.long i2) := Option.some.inj ei2
  obtain ⟨i3, ei3⟩ := is_v a3
  obtain rfl : w3 = (.int i3) := Option.some.inj ei3
  obtain ⟨i4, ei4⟩ := is_v a4
  obtain rfl : w4 = (.int i4) := Option.some.inj ei4
  obtain ⟨i5, ei5⟩ := is_v a5
  obtain rfl : w5 = (.int i5) := Option.some.inj ei5
  obtain ⟨w0, ew0⟩ := exa_v (Cond.before_iff.mp (hsets _ (List.mem_of_getElem? (i := 7) rfl)))
  have hst : Sta s s.heap "java/util/ArrayList" "DEFAULTCAPACITY_EMPTY_ELEMENTDATA" "[Ljava/lang/Object;" (.ref w0) := Sta.start ew0 (Or.inr ⟨hw _ (List.mem_of_getElem? (i := 5) rfl), hsets _ (List.mem_of_getElem? (i := 2) rfl)⟩)
  obtain ⟨n, o, h1, h2, h3, _, L, rfl, ⟨rfl, N⟩, hq⟩ := rm0 l s _ hw tables_1 i0 i1 i2 i3 i4 i5 w0 s.heap s.heap.size (Nat.le_refl _) (Old.start s) hst p e ha hc hk s m _ below hf ((Spec.applies_iff_loose hf).mp happ).1 ⟨rfl, State.Warmed39.refl s, rfl⟩ trivial
  refine ⟨n, _, h1, h2, h3, hpost _ _ _ _ _ _ ⟨Cond.after_iff.mpr rfl, Cond.after_iff.mpr (eq_i res_at (Term.int_eval (1)) rfl), trivial⟩ ⟨hq.1, hq.2.1, (hq.2.2.sift fun y hy => Or.inr (N y hy)).mono (by decide) (by decide)⟩⟩
theorem main_1_1 : Claimed_1_1 := comes_1 fun _ _ _ _ _ _ h hF => ⟨h.1, hF⟩
theorem main_1_2 : Claimed_1_2 := comes_1 fun _ _ _ _ _ _ h hF => ⟨h.2.1, hF⟩
end Jvm.Pilot.@@N@@
namespace Jvm.Pilot.@@N@@
open Jvm Jvm.ClassFile Sem Op Lib Jvm.Free Jvm.Stand Jvm.Pilot.@@N@@.Jvm.D
/-! MADE BY PROGRAM (witnessworld.py) out of the Statement's table words and the real class files: 24 classes; the members and pool entries that the words name. The judged class is class 1, her method 1. -/
namespace start1
open Jvm.ClassFile
def u (s : String) : CpInfo := .utf8 (stringToUtf16 s)
/-- a pool by its gaps: so many unusable entries, then the entry; so many at the end -/
def gap : Nat → List CpInfo → List CpInfo
  | 0, r => r
  | n + 1, r => .unusable :: gap n r
def poolList (es : List (Nat × CpInfo)) (last : Nat) : List CpInfo := es.foldr (fun e r => gap e.1 (e.2 :: r)) (gap last [])
def pool (es : List (Nat × CpInfo)) (last : Nat) : Array CpInfo := ⟨poolList es last⟩
def fileOf (pool : Array CpInfo) (this : Nat) (attrs : Array Attribute := #[]) (ms : Array MethodInfo := #[]) (fl : Nat := 33) (sup : Nat := 0) (ifs : Array Nat := #[]) (fds : Array FieldInfo := #[]) : ClassFile where
  minorVersion := 0
  majorVersion := 65
  constantPool := pool
  accessFlags := fl
  thisClass := this
  superClass := sup
  interfaces := ifs
  fields := fds
  methods := ms
  attributes := attrs
def plain (name : String) (sup : Option ClassId) : Class where
  name := name
  kind := .ordinary
  loader := none
  accessFlags := 33
  super := sup
  interfaces := #[]
  cf := none
  fields := #[]
  methods := #[]
  instanceTypes := #[]
  staticTypes := #[]
  resolved := #[]
  callSites := []
  init := .initialized
  statics := none
  mirror := none

def pool0 : Array CpInfo := pool [(5, u "<init>"), (0, u "()V"), (1, .class_ 10), (1, u "java/lang/Object")] 113

def k0c0 : Code := { maxStack := 0, maxLocals := 1, code := object_method_1_code, exceptionTable := #[], attributes := #[] }
def k0m0 : Method := { name := "<init>", desc := "()V", sig := { parameters := [], returnType := none }, accessFlags := 1, code := some k0c0 }
/-- java/lang/Object -/
def k0 : Class := { plain "java/lang/Object" none with
  accessFlags := 33
  interfaces := #[]
  cf := some (fileOf pool0 8 #[] #[{ accessFlags := 1, nameIndex := 5, descriptorIndex := 6, attributes := #[] }] 33 0 #[] #[])
  fields := #[]
  methods := #[k0m0]
  instanceTypes := #[]
  staticTypes := #[]
  resolved := Array.replicate 124 none
  statics := none }

def pool1 : Array CpInfo := pool [(2, .class_ 4), (0, .nameAndType 5 6), (0, u "java/lang/Object"), (0, u "<init>"), (0, u "()V"), (0, .class_ 8), (0, u "com/example/punctual_lease/punctuallease/Node"), (0, .class_ 10), (0, u "java/util/ArrayList"), (0, .methodref 9 3), (0, .methodref 7 13), (0, .nameAndType 5 14), (0, u "(JJJLjava/util/List;[B)V"), (0, .methodref 7 16), (0, .nameAndType 17 18), (0, u "dataLength"), (0, u "()I"), (0, .fieldref 7 20), (0, .nameAndType 21 22), (0, u "data"), (0, u "[B"), (0, .class_ 24), (0, u "com/example/punctual_lease/punctuallease/NodeDataLengthPinLaw"), (2, u "law"), (0, u "(JJJIII)Z")] 4

def k1m0 : Method := { name := "<init>", desc := "()V", sig := { parameters := [], returnType := none }, accessFlags := 1, code := none }
def k1c1 : Code := { maxStack := 10, maxLocals := 20, code := code, exceptionTable := #[], attributes := #[] }
def k1m1 : Method := { name := "law", desc := "(JJJIII)Z", sig := { parameters := [.long, .long, .long, .int, .int, .int], returnType := some .boolean }, accessFlags := 9, code := some k1c1 }
/-- com/example/punctual_lease/punctuallease/NodeDataLengthPinLaw -/
def k1 : Class := { plain "com/example/punctual_lease/punctuallease/NodeDataLengthPinLaw" (some 0) with
  accessFlags := 49
  interfaces := #[]
  cf := some (fileOf pool1 23 #[] #[{ accessFlags := 1, nameIndex := 5, descriptorIndex := 6, attributes := #[] }, { accessFlags := 9, nameIndex := 27, descriptorIndex := 28, attributes := #[] }] 49 2 #[] #[])
  fields := #[]
  methods := #[k1m0, k1m1]
  instanceTypes := #[]
  staticTypes := #[]
  resolved := Array.replicate 33 none
  statics := none }

def pool2 : Array CpInfo := pool [(1, .methodref 2 3), (0, .class_ 4), (0, .nameAndType 5 6), (0, u "java/lang/Object"), (0, u "<init>"), (0, u "()V"), (0, .class_ 8), (0, u "java/util/HashSet"), (0, .methodref 7 3), (0, .fieldref 11 12), (0, .class_ 13), (0, .nameAndType 14 15), (0, u "com/example/punctual_lease/punctuallease/Node"), (0, u "children"), (0, u "Ljava/util/Set;"), (0, .fieldref 11 17), (0, .nameAndType 18 19), (0, u "czxid"), (0, u "J"), (0, .fieldref 11 21), (0, .nameAndType 22 19), (0, u "ctime"), (0, .fieldref 11 24), (0, .nameAndType 25 19), (0, u "ephemeralOwner"), (0, .fieldref 11 27), (0, .nameAndType 28 29), (0, u "acl"), (0, u "Ljava/util/List;"), (0, .fieldref 11 31), (0, .nameAndType 32 33), (0, u "data"), (0, u "[B"), (0, .fieldref 11 35), (0, .nameAndType 36 19), (0, u "mzxid"), (0, .fieldref 11 38), (0, .nameAndType 39 19), (0, u "mtime"), (0, .fieldref 11 41), (0, .nameAndType 42 19), (0, u "pzxid"), (3, u "version"), (0, u "I"), (0, u "cversion"), (0, u "childrenCreated"), (0, u "(JJJLjava/util/List;[B)V"), (6, u "dataLength"), (0, u "()I")] 2

def k2c0 : Code := { maxStack := 3, maxLocals := 9, code := prog_5_method_1_code, exceptionTable := #[], attributes := #[] }
def k2m0 : Method := { name := "<init>", desc := "(JJJLjava/util/List;[B)V", sig := { parameters := [.long, .long, .long, (.object "java/util/List"), (.array .byte)], returnType := none }, accessFlags := 0, code := some k2c0 }
def k2c1 : Code := { maxStack := 1, maxLocals := 1, code := prog_5_method_3_code, exceptionTable := #[], attributes := #[] }
def k2m1 : Method := { name := "dataLength", desc := "()I", sig := { parameters := [], returnType := some .int }, accessFlags := 0, code := some k2c1 }
/-- com/example/punctual_lease/punctuallease/Node -/
def k2 : Class := { plain "com/example/punctual_lease/punctuallease/Node" (some 0) with
  accessFlags := 48
  interfaces := #[]
  cf := some (fileOf pool2 11 #[] #[{ accessFlags := 0, nameIndex := 5, descriptorIndex := 50, attributes := #[] }, { accessFlags := 0, nameIndex := 57, descriptorIndex := 58, attributes := #[] }] 48 2 #[] #[{ accessFlags := 16, nameIndex := 18, descriptorIndex := 19, attributes := #[] }, { accessFlags := 16, nameIndex := 22, descriptorIndex := 19, attributes := #[] }, { accessFlags := 16, nameIndex := 25, descriptorIndex := 19, attributes := #[] }, { accessFlags := 16, nameIndex := 28, descriptorIndex := 29, attributes := #[] }, { accessFlags := 16, nameIndex := 14, descriptorIndex := 15, attributes := #[] }, { accessFlags := 0, nameIndex := 32, descriptorIndex := 33, attributes := #[] }, { accessFlags := 0, nameIndex := 36, descriptorIndex := 19, attributes := #[] }, { accessFlags := 0, nameIndex := 39, descriptorIndex := 19, attributes := #[] }, { accessFlags := 0, nameIndex := 46, descriptorIndex := 47, attributes := #[] }, { accessFlags := 0, nameIndex := 48, descriptorIndex := 47, attributes := #[] }, { accessFlags := 0, nameIndex := 42, descriptorIndex := 19, attributes := #[] }, { accessFlags := 0, nameIndex := 49, descriptorIndex := 19, attributes := #[] }])
  fields := #[{ name := "czxid", type := .long, accessFlags := 16, slot := 0, constantValue := 0 }, { name := "ctime", type := .long, accessFlags := 16, slot := 1, constantValue := 0 }, { name := "ephemeralOwner", type := .long, accessFlags := 16, slot := 2, constantValue := 0 }, { name := "acl", type := (.object "java/util/List"), accessFlags := 16, slot := 3, constantValue := 0 }, { name := "children", type := (.object "java/util/Set"), accessFlags := 16, slot := 4, constantValue := 0 }, { name := "data", type := (.array .byte), accessFlags := 0, slot := 5, constantValue := 0 }, { name := "mzxid", type := .long, accessFlags := 0, slot := 6, constantValue := 0 }, { name := "mtime", type := .long, accessFlags := 0, slot := 7, constantValue := 0 }, { name := "version", type := .int, accessFlags := 0, slot := 8, constantValue := 0 }, { name := "cversion", type := .int, accessFlags := 0, slot := 9, constantValue := 0 }, { name := "pzxid", type := .long, accessFlags := 0, slot := 10, constantValue := 0 }, { name := "childrenCreated", type := .long, accessFlags := 0, slot := 11, constantValue := 0 }]
  methods := #[k2m0, k2m1]
  instanceTypes := #[.long, .long, .long, (.object "java/util/List"), (.object "java/util/Set"), (.array .byte), .long, .long, .int, .int, .long, .long]
  staticTypes := #[]
  resolved := Array.replicate 61 none
  statics := none }

def pool3 : Array CpInfo := pool [(8, .class_ 10), (1, u "java/lang/Iterable"), (24, .class_ 36), (0, u "java/lang/Object")] 25

/-- java/lang/Iterable -/
def k3 : Class := { plain "java/lang/Iterable" (some 0) with
  accessFlags := 1537
  interfaces := #[]
  cf := some (fileOf pool3 8 #[] #[] 1537 35 #[] #[])
  fields := #[]
  methods := #[]
  instanceTypes := #[]
  staticTypes := #[]
  resolved := Array.replicate 62 none
  statics := none }

def pool4 : Array CpInfo := pool [(10, .class_ 12), (1, u "java/util/Collection"), (47, .class_ 61), (0, u "java/lang/Object"), (0, .class_ 63), (0, u "java/lang/Iterable")] 51

/-- java/util/Collection -/
def k4 : Class := { plain "java/util/Collection" (some 0) with
  accessFlags := 1537
  interfaces := #[3]
  cf := some (fileOf pool4 10 #[] #[] 1537 60 #[62] #[])
  fields := #[]
  methods := #[]
  instanceTypes := #[]
  staticTypes := #[]
  resolved := Array.replicate 115 none
  statics := none }

def pool5 : Array CpInfo := pool [(1, .methodref 2 3), (0, .class_ 4), (0, .nameAndType 5 6), (0, u "java/lang/Object"), (0, u "<init>"), (0, u "()V"), (1, .class_ 10), (1, u "java/util/AbstractCollection"), (66, .class_ 78), (0, u "java/util/Collection")] 81

def k5c0 : Code := { maxStack := 1, maxLocals := 1, code := jdk_22_method_1_code, exceptionTable := #[], attributes := #[] }
def k5m0 : Method := { name := "<init>", desc := "()V", sig := { parameters := [], returnType := none }, accessFlags := 4, code := some k5c0 }
/-- java/util/AbstractCollection -/
def k5 : Class := { plain "java/util/AbstractCollection" (some 0) with
  accessFlags := 1057
  interfaces := #[4]
  cf := some (fileOf pool5 8 #[] #[{ accessFlags := 4, nameIndex := 5, descriptorIndex := 6, attributes := #[] }] 1057 2 #[77] #[])
  fields := #[]
  methods := #[k5m0]
  instanceTypes := #[]
  staticTypes := #[]
  resolved := Array.replicate 160 none
  statics := none }

def pool6 : Array CpInfo := pool [(8, .class_ 10), (1, u "java/util/SequencedCollection"), (15, .class_ 27), (0, u "java/lang/Object"), (0, .class_ 29), (0, u "java/util/Collection")] 27

/-- java/util/SequencedCollection -/
def k6 : Class := { plain "java/util/SequencedCollection" (some 0) with
  accessFlags := 1537
  interfaces := #[4]
  cf := some (fileOf pool6 8 #[] #[] 1537 26 #[28] #[])
  fields := #[]
  methods := #[]
  instanceTypes := #[]
  staticTypes := #[]
  resolved := Array.replicate 57 none
  statics := none }

def pool7 : Array CpInfo := pool [(8, .class_ 10), (1, u "java/util/List"), (92, .class_ 104), (0, u "java/lang/Object"), (15, .class_ 121), (0, u "java/util/SequencedCollection")] 129

/-- java/util/List -/
def k7 : Class := { plain "java/util/List" (some 0) with
  accessFlags := 1537
  interfaces := #[6]
  cf := some (fileOf pool7 8 #[] #[] 1537 103 #[120] #[])
  fields := #[]
  methods := #[]
  instanceTypes := #[]
  staticTypes := #[]
  resolved := Array.replicate 251 none
  statics := none }

def pool8 : Array CpInfo := pool [(1, .methodref 2 3), (0, .class_ 4), (0, .nameAndType 5 6), (0, u "java/util/AbstractCollection"), (0, u "<init>"), (0, u "()V"), (0, .fieldref 8 9), (0, .class_ 10), (0, .nameAndType 11 12), (0, u "java/util/AbstractList"), (0, u "modCount"), (0, u "I"), (64, .class_ 78), (0, u "java/util/AbstractList$Itr"), (3, .class_ 83), (0, u "java/util/AbstractList$ListItr"), (9, .class_ 94), (0, u "java/util/AbstractList$RandomAccessSubList"), (3, .class_ 99), (0, u "java/util/AbstractList$SubList"), (33, .class_ 134), (0, u "java/util/List"), (73, .class_ 209), (0, u "java/util/AbstractList$SubList$1"), (0, .class_ 211), (0, u "java/util/AbstractList$RandomAccessSpliterator")] 6

def k8c0 : Code := { maxStack := 2, maxLocals := 1, code := jdk_39_method_1_code, exceptionTable := #[], attributes := #[] }
def k8m0 : Method := { name := "<init>", desc := "()V", sig := { parameters := [], returnType := none }, accessFlags := 4, code := some k8c0 }
/-- java/util/AbstractList -/
def k8 : Class := { plain "java/util/AbstractList" (some 5) with
  accessFlags := 1057
  interfaces := #[7]
  cf := some (fileOf pool8 8 #[.nestMembers #[93, 98, 208, 210, 82, 77]] #[{ accessFlags := 4, nameIndex := 5, descriptorIndex := 6, attributes := #[] }] 1057 2 #[133] #[{ accessFlags := 132, nameIndex := 11, descriptorIndex := 12, attributes := #[] }])
  fields := #[{ name := "modCount", type := .int, accessFlags := 132, slot := 0, constantValue := 0 }]
  methods := #[k8m0]
  instanceTypes := #[.int]
  staticTypes := #[]
  resolved := Array.replicate 218 none
  statics := none }

def pool9 : Array CpInfo := pool [(1, .class_ 2), (0, u "java/util/RandomAccess"), (0, .class_ 4), (0, u "java/lang/Object")] 2

/-- java/util/RandomAccess -/
def k9 : Class := { plain "java/util/RandomAccess" (some 0) with
  accessFlags := 1537
  interfaces := #[]
  cf := some (fileOf pool9 1 #[] #[] 1537 3 #[] #[])
  fields := #[]
  methods := #[]
  instanceTypes := #[]
  staticTypes := #[]
  resolved := Array.replicate 7 none
  statics := none }

def pool10 : Array CpInfo := pool [(1, .class_ 2), (0, u "java/lang/Cloneable"), (0, .class_ 4), (0, u "java/lang/Object")] 2

/-- java/lang/Cloneable -/
def k10 : Class := { plain "java/lang/Cloneable" (some 0) with
  accessFlags := 1537
  interfaces := #[]
  cf := some (fileOf pool10 1 #[] #[] 1537 3 #[] #[])
  fields := #[]
  methods := #[]
  instanceTypes := #[]
  staticTypes := #[]
  resolved := Array.replicate 7 none
  statics := none }

def pool11 : Array CpInfo := pool [(1, .class_ 2), (0, u "java/io/Serializable"), (0, .class_ 4), (0, u "java/lang/Object")] 2

/-- java/io/Serializable -/
def k11 : Class := { plain "java/io/Serializable" (some 0) with
  accessFlags := 1537
  interfaces := #[]
  cf := some (fileOf pool11 1 #[] #[] 1537 3 #[] #[])
  fields := #[]
  methods := #[]
  instanceTypes := #[]
  staticTypes := #[]
  resolved := Array.replicate 7 none
  statics := none }

def pool12 : Array CpInfo := pool [(1, .methodref 2 3), (0, .class_ 4), (0, .nameAndType 5 6), (0, u "java/util/AbstractList"), (0, u "<init>"), (0, u "()V"), (2, .fieldref 10 11), (0, .class_ 12), (0, .nameAndType 13 14), (0, u "java/util/ArrayList"), (0, u "elementData"), (0, u "[Ljava/lang/Object;"), (2, u "EMPTY_ELEMENTDATA"), (21, .fieldref 10 40), (0, .nameAndType 41 14), (0, u "DEFAULTCAPACITY_EMPTY_ELEMENTDATA"), (8, u "size"), (0, u "I"), (96, .class_ 149), (0, u "java/util/List"), (112, .class_ 263), (0, u "java/util/ArrayList$ListItr"), (3, .class_ 268), (0, u "java/util/ArrayList$Itr"), (7, .class_ 277), (0, u "java/util/ArrayList$SubList"), (12, .class_ 291), (0, u "java/util/ArrayList$ArrayListSpliterator"), (37, .class_ 330), (0, u "java/util/RandomAccess"), (0, .class_ 332), (0, u "java/lang/Cloneable"), (0, .class_ 334), (0, u "java/io/Serializable"), (0, u "serialVersionUID"), (0, u "J"), (3, u "DEFAULT_CAPACITY"), (159, .class_ 501), (0, u "java/util/ArrayList$SubList$2"), (0, .class_ 503), (0, u "java/util/ArrayList$SubList$1")] 5

def k12c0 : Code := { maxStack := 2, maxLocals := 1, code := jdk_38_method_2_code, exceptionTable := #[], attributes := #[] }
def k12m0 : Method := { name := "<init>", desc := "()V", sig := { parameters := [], returnType := none }, accessFlags := 1, code := some k12c0 }
/-- java/util/ArrayList -/
def k12 : Class := { plain "java/util/ArrayList" (some 8) with
  accessFlags := 33
  interfaces := #[7, 9, 10, 11]
  cf := some (fileOf pool12 10 #[.nestMembers #[290, 276, 500, 502, 262, 267]] #[{ accessFlags := 1, nameIndex := 5, descriptorIndex := 6, attributes := #[] }] 33 2 #[148, 329, 331, 333] #[{ accessFlags := 26, nameIndex := 335, descriptorIndex := 336, attributes := #[] }, { accessFlags := 26, nameIndex := 340, descriptorIndex := 51, attributes := #[] }, { accessFlags := 26, nameIndex := 17, descriptorIndex := 14, attributes := #[] }, { accessFlags := 26, nameIndex := 41, descriptorIndex := 14, attributes := #[] }, { accessFlags := 128, nameIndex := 13, descriptorIndex := 14, attributes := #[] }, { accessFlags := 2, nameIndex := 50, descriptorIndex := 51, attributes := #[] }])
  fields := #[{ name := "serialVersionUID", type := .long, accessFlags := 26, slot := 0, constantValue := 0 }, { name := "DEFAULT_CAPACITY", type := .int, accessFlags := 26, slot := 1, constantValue := 0 }, { name := "EMPTY_ELEMENTDATA", type := (.array (.object "java/lang/Object")), accessFlags := 26, slot := 2, constantValue := 0 }, { name := "DEFAULTCAPACITY_EMPTY_ELEMENTDATA", type := (.array (.object "java/lang/Object")), accessFlags := 26, slot := 3, constantValue := 0 }, { name := "elementData", type := (.array (.object "java/lang/Object")), accessFlags := 128, slot := 1, constantValue := 0 }, { name := "size", type := .int, accessFlags := 2, slot := 2, constantValue := 0 }]
  methods := #[k12m0]
  instanceTypes := #[.int, (.array (.object "java/lang/Object")), .int]
  staticTypes := #[.long, .int, (.array (.object "java/lang/Object")), (.array (.object "java/lang/Object"))]
  resolved := Array.replicate 509 none
  statics := some 0 }

def pool13 : Array CpInfo := pool [(26, .class_ 27), (0, u "java/lang/Object"), (5, .class_ 34), (0, u "java/util/Set"), (1, .class_ 38), (1, u "java/util/Collection")] 105

/-- java/util/Set -/
def k13 : Class := { plain "java/util/Set" (some 0) with
  accessFlags := 1537
  interfaces := #[4]
  cf := some (fileOf pool13 33 #[] #[] 1537 26 #[36] #[])
  fields := #[]
  methods := #[]
  instanceTypes := #[]
  staticTypes := #[]
  resolved := Array.replicate 144 none
  statics := none }

def pool14 : Array CpInfo := pool [(1, .methodref 2 3), (0, .class_ 4), (0, .nameAndType 5 6), (0, u "java/util/AbstractCollection"), (0, u "<init>"), (0, u "()V"), (0, .class_ 8), (0, u "java/util/Set"), (7, .class_ 17), (0, u "java/util/AbstractSet")] 78

def k14c0 : Code := { maxStack := 1, maxLocals := 1, code := jdk_91_method_1_code, exceptionTable := #[], attributes := #[] }
def k14m0 : Method := { name := "<init>", desc := "()V", sig := { parameters := [], returnType := none }, accessFlags := 4, code := some k14c0 }
/-- java/util/AbstractSet -/
def k14 : Class := { plain "java/util/AbstractSet" (some 5) with
  accessFlags := 1057
  interfaces := #[13]
  cf := some (fileOf pool14 16 #[] #[{ accessFlags := 4, nameIndex := 5, descriptorIndex := 6, attributes := #[] }] 1057 2 #[7] #[])
  fields := #[]
  methods := #[k14m0]
  instanceTypes := #[]
  staticTypes := #[]
  resolved := Array.replicate 96 none
  statics := none }

def pool15 : Array CpInfo := pool [(1, .methodref 2 3), (0, .class_ 4), (0, .nameAndType 5 6), (0, u "java/util/AbstractSet"), (0, u "<init>"), (0, u "()V"), (0, .class_ 8), (0, u "java/util/HashMap"), (0, .methodref 7 3), (0, .fieldref 11 12), (0, .class_ 13), (0, .nameAndType 14 15), (0, u "java/util/HashSet"), (0, u "map"), (0, u "Ljava/util/HashMap;"), (34, .class_ 52), (1, u "java/util/Set"), (13, u "PRESENT"), (0, u "Ljava/lang/Object;"), (158, .class_ 227), (0, u "java/lang/Cloneable"), (0, .class_ 229), (0, u "java/io/Serializable"), (0, u "serialVersionUID"), (0, u "J")] 71

def k15c0 : Code := { maxStack := 3, maxLocals := 1, code := jdk_93_method_1_code, exceptionTable := #[], attributes := #[] }
def k15m0 : Method := { name := "<init>", desc := "()V", sig := { parameters := [], returnType := none }, accessFlags := 1, code := some k15c0 }
/-- java/util/HashSet -/
def k15 : Class := { plain "java/util/HashSet" (some 14) with
  accessFlags := 33
  interfaces := #[13, 10, 11]
  cf := some (fileOf pool15 11 #[] #[{ accessFlags := 1, nameIndex := 5, descriptorIndex := 6, attributes := #[] }] 33 2 #[50, 226, 228] #[{ accessFlags := 24, nameIndex := 230, descriptorIndex := 231, attributes := #[] }, { accessFlags := 128, nameIndex := 14, descriptorIndex := 15, attributes := #[] }, { accessFlags := 24, nameIndex := 66, descriptorIndex := 67, attributes := #[] }])
  fields := #[{ name := "serialVersionUID", type := .long, accessFlags := 24, slot := 0, constantValue := 0 }, { name := "map", type := (.object "java/util/HashMap"), accessFlags := 128, slot := 0, constantValue := 0 }, { name := "PRESENT", type := (.object "java/lang/Object"), accessFlags := 24, slot := 1, constantValue := 0 }]
  methods := #[k15m0]
  instanceTypes := #[(.object "java/util/HashMap")]
  staticTypes := #[.long, (.object "java/lang/Object")]
  resolved := Array.replicate 303 none
  statics := none }

def pool16 : Array CpInfo := pool [(2, .class_ 4), (1, u "java/util/Map"), (31, .class_ 37), (0, u "java/util/Map$Entry"), (55, .class_ 94), (0, u "java/lang/Object")] 168

/-- java/util/Map -/
def k16 : Class := { plain "java/util/Map" (some 0) with
  accessFlags := 1537
  interfaces := #[]
  cf := some (fileOf pool16 2 #[.nestMembers #[36]] #[] 1537 93 #[] #[])
  fields := #[]
  methods := #[]
  instanceTypes := #[]
  staticTypes := #[]
  resolved := Array.replicate 263 none
  statics := none }

def pool17 : Array CpInfo := pool [(1, .methodref 2 3), (0, .class_ 4), (0, .nameAndType 5 6), (0, u "java/lang/Object"), (0, u "<init>"), (0, u "()V"), (1, .class_ 10), (1, u "java/util/AbstractMap"), (42, .class_ 54), (0, u "java/util/Map"), (9, u "keySet"), (0, u "Ljava/util/Set;"), (0, .class_ 67), (0, u "java/util/AbstractMap$1"), (5, u "values"), (0, u "Ljava/util/Collection;"), (0, .class_ 76), (0, u "java/util/AbstractMap$2"), (104, .class_ 182), (0, u "java/util/AbstractMap$ViewCollection"), (0, .class_ 184), (0, u "java/util/AbstractMap$SimpleImmutableEntry"), (0, .class_ 186), (0, u "java/util/AbstractMap$SimpleEntry"), (0, .class_ 188), (0, u "java/util/AbstractMap$2$1"), (0, .class_ 190), (0, u "java/util/AbstractMap$1$1")] 5

def k17c0 : Code := { maxStack := 1, maxLocals := 1, code := jdk_71_method_1_code, exceptionTable := #[], attributes := #[] }
def k17m0 : Method := { name := "<init>", desc := "()V", sig := { parameters := [], returnType := none }, accessFlags := 4, code := some k17c0 }
/-- java/util/AbstractMap -/
def k17 : Class := { plain "java/util/AbstractMap" (some 0) with
  accessFlags := 1057
  interfaces := #[16]
  cf := some (fileOf pool17 8 #[.nestMembers #[181, 183, 185, 75, 187, 66, 189]] #[{ accessFlags := 4, nameIndex := 5, descriptorIndex := 6, attributes := #[] }] 1057 2 #[53] #[{ accessFlags := 128, nameIndex := 64, descriptorIndex := 65, attributes := #[] }, { accessFlags := 128, nameIndex := 73, descriptorIndex := 74, attributes := #[] }])
  fields := #[{ name := "keySet", type := (.object "java/util/Set"), accessFlags := 128, slot := 0, constantValue := 0 }, { name := "values", type := (.object "java/util/Collection"), accessFlags := 128, slot := 1, constantValue := 0 }]
  methods := #[k17m0]
  instanceTypes := #[(.object "java/util/Set"), (.object "java/util/Collection")]
  staticTypes := #[]
  resolved := Array.replicate 196 none
  statics := none }

def pool18 : Array CpInfo := pool [(40, .class_ 41), (0, u "java/util/HashMap"), (1, .methodref 44 45), (0, .class_ 46), (0, .nameAndType 47 48), (0, u "java/util/AbstractMap"), (0, u "<init>"), (0, u "()V"), (32, .fieldref 40 82), (0, .nameAndType 83 84), (0, u "loadFactor"), (0, u "F"), (5, u "threshold"), (0, u "I"), (0, .float 1061158912), (8, .class_ 103), (1, u "java/util/Map"), (0, u "size"), (2, u "table"), (0, u "[Ljava/util/HashMap$Node;"), (14, u "entrySet"), (39, .class_ 165), (1, u "java/util/HashMap$Node"), (14, .class_ 181), (0, u "java/util/HashMap$TreeNode"), (22, u "modCount"), (37, u "Ljava/util/Set;"), (0, .class_ 244), (0, u "java/util/HashMap$KeySet"), (18, .class_ 264), (0, u "java/util/HashMap$Values"), (3, .class_ 269), (0, u "java/util/HashMap$EntrySet"), (76, .class_ 348), (1, u "java/util/HashMap$UnsafeHolder"), (43, .class_ 393), (0, u "java/lang/Cloneable"), (0, .class_ 395), (0, u "java/io/Serializable"), (0, u "serialVersionUID"), (0, u "J"), (3, u "DEFAULT_INITIAL_CAPACITY"), (1, u "MAXIMUM_CAPACITY"), (0, u "DEFAULT_LOAD_FACTOR"), (0, u "TREEIFY_THRESHOLD"), (1, u "UNTREEIFY_THRESHOLD"), (1, u "MIN_TREEIFY_CAPACITY"), (186, .class_ 597), (0, u "java/util/HashMap$EntrySpliterator"), (0, .class_ 599), (0, u "java/util/HashMap$ValueSpliterator"), (0, .class_ 601), (0, u "java/util/HashMap$KeySpliterator"), (0, .class_ 603), (0, u "java/util/HashMap$HashMapSpliterator"), (0, .class_ 605), (0, u "java/util/HashMap$EntryIterator"), (0, .class_ 607), (0, u "java/util/HashMap$ValueIterator"), (0, .class_ 609), (0, u "java/util/HashMap$KeyIterator"), (0, .class_ 611), (0, u "java/util/HashMap$HashIterator")] 17

def k18c0 : Code := { maxStack := 2, maxLocals := 1, code := jdk_69_method_7_code, exceptionTable := #[], attributes := #[] }
def k18m0 : Method := { name := "<init>", desc := "()V", sig := { parameters := [], returnType := none }, accessFlags := 1, code := some k18c0 }
/-- java/util/HashMap -/
def k18 : Class := { plain "java/util/HashMap" (some 17) with
  accessFlags := 33
  interfaces := #[16, 10, 11]
  cf := some (fileOf pool18 40 #[.nestMembers #[180, 596, 598, 600, 602, 604, 606, 608, 610, 346, 268, 263, 243, 163]] #[{ accessFlags := 1, nameIndex := 47, descriptorIndex := 48, attributes := #[] }] 33 44 #[101, 392, 394] #[{ accessFlags := 26, nameIndex := 396, descriptorIndex := 397, attributes := #[] }, { accessFlags := 24, nameIndex := 401, descriptorIndex := 91, attributes := #[] }, { accessFlags := 24, nameIndex := 403, descriptorIndex := 91, attributes := #[] }, { accessFlags := 24, nameIndex := 404, descriptorIndex := 84, attributes := #[] }, { accessFlags := 24, nameIndex := 405, descriptorIndex := 91, attributes := #[] }, { accessFlags := 24, nameIndex := 407, descriptorIndex := 91, attributes := #[] }, { accessFlags := 24, nameIndex := 409, descriptorIndex := 91, attributes := #[] }, { accessFlags := 128, nameIndex := 107, descriptorIndex := 108, attributes := #[] }, { accessFlags := 128, nameIndex := 123, descriptorIndex := 242, attributes := #[] }, { accessFlags := 128, nameIndex := 104, descriptorIndex := 91, attributes := #[] }, { accessFlags := 128, nameIndex := 204, descriptorIndex := 91, attributes := #[] }, { accessFlags := 0, nameIndex := 90, descriptorIndex := 91, attributes := #[] }, { accessFlags := 16, nameIndex := 83, descriptorIndex := 84, attributes := #[] }])
  fields := #[{ name := "serialVersionUID", type := .long, accessFlags := 26, slot := 0, constantValue := 0 }, { name := "DEFAULT_INITIAL_CAPACITY", type := .int, accessFlags := 24, slot := 1, constantValue := 0 }, { name := "MAXIMUM_CAPACITY", type := .int, accessFlags := 24, slot := 2, constantValue := 0 }, { name := "DEFAULT_LOAD_FACTOR", type := .float, accessFlags := 24, slot := 3, constantValue := 0 }, { name := "TREEIFY_THRESHOLD", type := .int, accessFlags := 24, slot := 4, constantValue := 0 }, { name := "UNTREEIFY_THRESHOLD", type := .int, accessFlags := 24, slot := 5, constantValue := 0 }, { name := "MIN_TREEIFY_CAPACITY", type := .int, accessFlags := 24, slot := 6, constantValue := 0 }, { name := "table", type := (.array (.object "java/util/HashMap$Node")), accessFlags := 128, slot := 2, constantValue := 0 }, { name := "entrySet", type := (.object "java/util/Set"), accessFlags := 128, slot := 3, constantValue := 0 }, { name := "size", type := .int, accessFlags := 128, slot := 4, constantValue := 0 }, { name := "modCount", type := .int, accessFlags := 128, slot := 5, constantValue := 0 }, { name := "threshold", type := .int, accessFlags := 0, slot := 6, constantValue := 0 }, { name := "loadFactor", type := .float, accessFlags := 16, slot := 7, constantValue := 0 }]
  methods := #[k18m0]
  instanceTypes := #[(.object "java/util/Set"), (.object "java/util/Collection"), (.array (.object "java/util/HashMap$Node")), (.object "java/util/Set"), .int, .int, .int, .float]
  staticTypes := #[.long, .int, .int, .float, .int, .int, .int]
  resolved := Array.replicate 629 none
  statics := none }

/-- the primitive byte -/
def k19 : Class := { plain "byte" none with kind := .primitive 'B', accessFlags := 0x411 }
/-- [B -/
def k20 : Class := { plain "[B" (some 0) with kind := .array 19 .byte, interfaces := #[10, 11], accessFlags := 1041 }

/-- the primitive int -/
def k21 : Class := { plain "int" none with kind := .primitive 'I', accessFlags := 0x411 }
/-- [I -/
def k22 : Class := { plain "[I" (some 0) with kind := .array 21 .int, interfaces := #[10, 11], accessFlags := 1041 }

/-- [Ljava/lang/Object; -/
def k23 : Class := { plain "[Ljava/lang/Object;" (some 0) with kind := .array 0 (.object "java/lang/Object"), interfaces := #[10, 11], accessFlags := 1041 }

def heap : Heap := #[{ cls := 12, slots := #[.long 0, .int 0, .ref 1, .ref 2], vm := .statics 12 },
  { cls := 23, slots := #[], vm := .none },
  { cls := 23, slots := #[], vm := .none }]
def classes : Array Class := #[k0, k1, k2, k3, k4, k5, k6, k7, k8, k9, k10, k11, k12, k13, k14, k15, k16, k17, k18, k19, k20, k21, k22, k23]
def interned : List (Array UInt16 × Addr) := []
def slotsUsed : Nat := 4
def theMethod : MethodId := ⟨1, 1⟩
def args0 : Array Value := #[.long 5, .long 3, .long 1, .int 2, .int 3, .int 0]
def aboutOver (below : List Frame) : State where
  vm := { classes := classes, interned := interned.toArray }
  heap := heap
  slotsUsed := slotsUsed
  threads := #[{ frames := .invoking theMethod args0 :: below }]
def below0 : List Frame := [.native { method := ⟨0, 0⟩, args := #[] }]
def about1 : State := aboutOver below0
def p0 : Program := .bare "" "" ""
def e0 : Env := launch0.env 0 0 0
theorem w_frames : about1.frames = Frame.invoking theMethod args0 :: below0 := rfl
set_option maxRecDepth 65536 in
theorem w_args : argsFit about1.vm theMethod args0 = true := by decide +kernel
set_option maxRecDepth 65536 in
theorem w_heap : heapFits about1 = true := by decide +kernel
set_option maxRecDepth 65536 in
theorem w_runnable : about1.curStatus? = some .runnable := by decide +kernel
set_option maxRecDepth 65536 in
theorem w_alone : about1.alone = true := by decide +kernel
set_option maxRecDepth 65536 in
theorem w_named : about1.methodNamed? x = some theMethod := by decide +kernel
set_option maxRecDepth 65536 in
theorem w_hears : about1.hears theMethod below0 = true := by decide +kernel
set_option maxRecDepth 65536 in
theorem w_ripe : about1.ripe theMethod args0 below0 = true := by decide +kernel
theorem w_running : about1.status = .running := rfl
set_option maxRecDepth 65536 in
theorem w_room : about1.hasRoom e0.platform room_1 = true :=
  launch0.hasRoom_least _ room_1 (by decide +kernel) (by decide +kernel) (by decide +kernel) (by decide +kernel) (by decide +kernel) (by decide +kernel)
theorem allAtoms_all (ts : List Jvm.Cond) (a : Array Jvm.Value) (st : Jvm.State) : (allAtoms ts).before a st = ts.all (fun c => c.before a st) := by
  induction ts with
  | nil => rfl
  | cons c t ih =>
    show (Jvm.Cond.and c (allAtoms t)).before a st = _
    rw [Jvm.Cond.before_and, ih, List.all_cons]
def words1 : List Jvm.Cond := Jvm.Cond.code x code maxLocals ret :: tables_1
/-- a 'code' word, met by the world's own term for the bytes: nothing is compared byte by byte -/
theorem code_word {y : MethodName} {bytes : ByteArray} {mx : Nat} {rt : Option FieldType} {a : Array Value} {s : State} {m : MethodId} {meth : Method} {c : Code} (h1 : s.methodNamed? y = some m) (h2 : s.vm.method? m = some meth) (h3 : meth.code = some c) (h4 : c.code = bytes)
    (h5 : (c.maxLocals == mx && c.exceptionTable.isEmpty && decide (c.maxStack ≤ mostOperands) && decide (meth.sig.returnType = rt) && !meth.locks && decide (parseMethodDescriptor y.desc = some meth.sig)) = true) : (Jvm.Cond.code y bytes mx rt).before a s = true := by
  simp only [Bool.and_eq_true, beq_iff_eq, Bool.not_eq_true', decide_eq_true_eq] at h5
  obtain ⟨⟨⟨⟨⟨g1, g2⟩, g3⟩, g4⟩, g5⟩, g6⟩ := h5
  simp [Cond.before, Cond.holds, Cond.value, h1, h2, h3, h4, g1, g2, g3, g4, g5, g6]
def isCode : Jvm.Cond → Bool
  | .code _ _ _ _ => true
  | _ => false
theorem all_split {L : List Jvm.Cond} {P : Jvm.Cond → Bool} (h1 : L.all (fun c => isCode c || P c) = true) (h2 : ∀ c ∈ L.filter isCode, P c = true) : L.all P = true := by
  refine List.all_eq_true.mpr fun c hc => ?_
  have h := List.all_eq_true.mp h1 c hc
  rcases Bool.eq_false_or_eq_true (isCode c) with hi | hi
  · exact h2 c (List.mem_filter.mpr ⟨hc, hi⟩)
  · simpa [hi] using h
set_option maxRecDepth 65536 in
theorem w_c0 : (Jvm.Cond.code x code maxLocals ret).before args0 about1 = true := code_word (m := ⟨1, 1⟩) (meth := k1m1) (c := k1c1) (by decide +kernel) rfl rfl rfl (by decide +kernel)
set_option maxRecDepth 65536 in
theorem w_c1 : (Jvm.Cond.code ({ cls := "java/util/ArrayList", name := "<init>", desc := "()V" } : Jvm.MethodName) jdk_38_method_2_code (1 : Nat) (Option.none : Option Jvm.ClassFile.FieldType)).before args0 about1 = true := code_word (m := ⟨12, 0⟩) (meth := k12m0) (c := k12c0) (by decide +kernel) rfl rfl rfl (by decide +kernel)
set_option maxRecDepth 65536 in
theorem w_c2 : (Jvm.Cond.code ({ cls := "java/util/AbstractList", name := "<init>", desc := "()V" } : Jvm.MethodName) jdk_39_method_1_code (1 : Nat) (Option.none : Option Jvm.ClassFile.FieldType)).before args0 about1 = true := code_word (m := ⟨8, 0⟩) (meth := k8m0) (c := k8c0) (by decide +kernel) rfl rfl rfl (by decide +kernel)
set_option maxRecDepth 65536 in
theorem w_c3 : (Jvm.Cond.code ({ cls := "java/util/AbstractCollection", name := "<init>", desc := "()V" } : Jvm.MethodName) jdk_22_method_1_code (1 : Nat) (Option.none : Option Jvm.ClassFile.FieldType)).before args0 about1 = true := code_word (m := ⟨5, 0⟩) (meth := k5m0) (c := k5c0) (by decide +kernel) rfl rfl rfl (by decide +kernel)
set_option maxRecDepth 65536 in
theorem w_c4 : (Jvm.Cond.code ({ cls := "java/lang/Object", name := "<init>", desc := "()V" } : Jvm.MethodName) object_method_1_code (1 : Nat) (Option.none : Option Jvm.ClassFile.FieldType)).before args0 about1 = true := code_word (m := ⟨0, 0⟩) (meth := k0m0) (c := k0c0) (by decide +kernel) rfl rfl rfl (by decide +kernel)
set_option maxRecDepth 65536 in
theorem w_c5 : (Jvm.Cond.code ({ cls := "com/example/punctual_lease/punctuallease/Node", name := "<init>", desc := "(JJJLjava/util/List;[B)V" } : Jvm.MethodName) prog_5_method_1_code (9 : Nat) (Option.none : Option Jvm.ClassFile.FieldType)).before args0 about1 = true := code_word (m := ⟨2, 0⟩) (meth := k2m0) (c := k2c0) (by decide +kernel) rfl rfl rfl (by decide +kernel)
set_option maxRecDepth 65536 in
theorem w_c6 : (Jvm.Cond.code ({ cls := "java/util/HashSet", name := "<init>", desc := "()V" } : Jvm.MethodName) jdk_93_method_1_code (1 : Nat) (Option.none : Option Jvm.ClassFile.FieldType)).before args0 about1 = true := code_word (m := ⟨15, 0⟩) (meth := k15m0) (c := k15c0) (by decide +kernel) rfl rfl rfl (by decide +kernel)
set_option maxRecDepth 65536 in
theorem w_c7 : (Jvm.Cond.code ({ cls := "java/util/AbstractSet", name := "<init>", desc := "()V" } : Jvm.MethodName) jdk_91_method_1_code (1 : Nat) (Option.none : Option Jvm.ClassFile.FieldType)).before args0 about1 = true := code_word (m := ⟨14, 0⟩) (meth := k14m0) (c := k14c0) (by decide +kernel) rfl rfl rfl (by decide +kernel)
set_option maxRecDepth 65536 in
theorem w_c8 : (Jvm.Cond.code ({ cls := "java/util/HashMap", name := "<init>", desc := "()V" } : Jvm.MethodName) jdk_69_method_7_code (1 : Nat) (Option.none : Option Jvm.ClassFile.FieldType)).before args0 about1 = true := code_word (m := ⟨18, 0⟩) (meth := k18m0) (c := k18c0) (by decide +kernel) rfl rfl rfl (by decide +kernel)
set_option maxRecDepth 65536 in
theorem w_c9 : (Jvm.Cond.code ({ cls := "java/util/AbstractMap", name := "<init>", desc := "()V" } : Jvm.MethodName) jdk_71_method_1_code (1 : Nat) (Option.none : Option Jvm.ClassFile.FieldType)).before args0 about1 = true := code_word (m := ⟨17, 0⟩) (meth := k17m0) (c := k17c0) (by decide +kernel) rfl rfl rfl (by decide +kernel)
set_option maxRecDepth 65536 in
theorem w_c10 : (Jvm.Cond.code ({ cls := "com/example/punctual_lease/punctuallease/Node", name := "dataLength", desc := "()I" } : Jvm.MethodName) prog_5_method_3_code (1 : Nat) (Option.some Jvm.ClassFile.FieldType.int)).before args0 about1 = true := code_word (m := ⟨2, 1⟩) (meth := k2m1) (c := k2c1) (by decide +kernel) rfl rfl rfl (by decide +kernel)
def codes1 : List Jvm.Cond := [Jvm.Cond.code x code maxLocals ret, Jvm.Cond.code ({ cls := "java/util/ArrayList", name := "<init>", desc := "()V" } : Jvm.MethodName) jdk_38_method_2_code (1 : Nat) (Option.none : Option Jvm.ClassFile.FieldType), Jvm.Cond.code ({ cls := "java/util/AbstractList", name := "<init>", desc := "()V" } : Jvm.MethodName) jdk_39_method_1_code (1 : Nat) (Option.none : Option Jvm.ClassFile.FieldType), Jvm.Cond.code ({ cls := "java/util/AbstractCollection", name := "<init>", desc := "()V" } : Jvm.MethodName) jdk_22_method_1_code (1 : Nat) (Option.none : Option Jvm.ClassFile.FieldType), Jvm.Cond.code ({ cls := "java/lang/Object", name := "<init>", desc := "()V" } : Jvm.MethodName) object_method_1_code (1 : Nat) (Option.none : Option Jvm.ClassFile.FieldType), Jvm.Cond.code ({ cls := "com/example/punctual_lease/punctuallease/Node", name := "<init>", desc := "(JJJLjava/util/List;[B)V" } : Jvm.MethodName) prog_5_method_1_code (9 : Nat) (Option.none : Option Jvm.ClassFile.FieldType), Jvm.Cond.code ({ cls := "java/util/HashSet", name := "<init>", desc := "()V" } : Jvm.MethodName) jdk_93_method_1_code (1 : Nat) (Option.none : Option Jvm.ClassFile.FieldType), Jvm.Cond.code ({ cls := "java/util/AbstractSet", name := "<init>", desc := "()V" } : Jvm.MethodName) jdk_91_method_1_code (1 : Nat) (Option.none : Option Jvm.ClassFile.FieldType), Jvm.Cond.code ({ cls := "java/util/HashMap", name := "<init>", desc := "()V" } : Jvm.MethodName) jdk_69_method_7_code (1 : Nat) (Option.none : Option Jvm.ClassFile.FieldType), Jvm.Cond.code ({ cls := "java/util/AbstractMap", name := "<init>", desc := "()V" } : Jvm.MethodName) jdk_71_method_1_code (1 : Nat) (Option.none : Option Jvm.ClassFile.FieldType), Jvm.Cond.code ({ cls := "com/example/punctual_lease/punctuallease/Node", name := "dataLength", desc := "()I" } : Jvm.MethodName) prog_5_method_3_code (1 : Nat) (Option.some Jvm.ClassFile.FieldType.int)]
set_option maxRecDepth 65536 in
theorem codes_eq : words1.filter isCode = codes1 := rfl
theorem w_codes : ∀ c ∈ words1.filter isCode, c.before args0 about1 = true := by
  rw [codes_eq]
  intro c hc
  simp only [codes1, List.mem_cons, List.not_mem_nil, or_false] at hc
  rcases hc with rfl | rfl | rfl | rfl | rfl | rfl | rfl | rfl | rfl | rfl | rfl
  · exact w_c0
  · exact w_c1
  · exact w_c2
  · exact w_c3
  · exact w_c4
  · exact w_c5
  · exact w_c6
  · exact w_c7
  · exact w_c8
  · exact w_c9
  · exact w_c10
set_option maxRecDepth 65536 in
theorem w_t1 : (words1.take 24).all (fun c => isCode c || c.before args0 about1) = true := by decide +kernel
set_option maxRecDepth 65536 in
theorem w_t2 : ((words1.drop 24).take 24).all (fun c => isCode c || c.before args0 about1) = true := by decide +kernel
set_option maxRecDepth 65536 in
theorem w_t3 : (((words1.drop 24).drop 24).take 24).all (fun c => isCode c || c.before args0 about1) = true := by decide +kernel
set_option maxRecDepth 65536 in
theorem w_t4 : (((words1.drop 24).drop 24).drop 24).all (fun c => isCode c || c.before args0 about1) = true := by decide +kernel
theorem w_tables : (allAtoms (Jvm.Cond.code x code maxLocals ret :: tables_1)).before args0 about1 = true := by
  rw [allAtoms_all]
  show words1.all (fun c => c.before args0 about1) = true
  refine all_split ?_ w_codes
  rw [← List.take_append_drop 24 words1, List.all_append, w_t1, ← List.take_append_drop 24 (words1.drop 24), List.all_append, w_t2, ← List.take_append_drop 24 ((words1.drop 24).drop 24), List.all_append, w_t3, w_t4]
  rfl
set_option maxRecDepth 65536 in
theorem w_rest : rest_1_c.before args0 about1 = true := by decide +kernel
set_option maxRecDepth 65536 in
theorem w_case : (Jvm.Cond.and given_1 narrow_1).before args0 about1 = true := by decide +kernel
theorem w_applies : (headSpec (Jvm.Cond.code x code maxLocals ret :: tables_1) room_1).applies x e0.platform about1 = true :=
  (Spec.applies_iff w_frames).mpr ⟨w_running, w_runnable, w_alone, w_named, w_hears, w_ripe, w_room, w_tables⟩
theorem atStart : AtStart classFile x code maxLocals ret World_1 tables_1 room_1 Calls_1 rest_1 Pre_1 launch0 p0 e0 about1 theMethod args0 below0 :=
  ⟨lists_1, trivial, launch0.admits_env _ _ _, launch0.least_env, fairChoices_fair.cas, fairChoices_fair.clock, w_frames, w_args, w_heap, w_applies, trivial, w_rest, w_case⟩
end start1
theorem witness_1 : WitnessClaimed_1 := ⟨start1.p0, start1.e0, start1.about1, start1.theMethod, start1.args0, start1.below0, start1.atStart⟩
end Jvm.Pilot.@@N@@
