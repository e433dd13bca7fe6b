import JvmDerived
import JvmDerived.Pilot.@@N@@Statement
import JvmDerived.Pilot.@@N@@Code
set_option linter.unusedVariables false
set_option linter.unusedSimpArgs false
namespace Jvm.Pilot.@@N@@
open Jvm Jvm.ClassFile Sem Op Lib Jvm.Free Jvm.Stand Jvm.LawKit Jvm.RoadKit Bundle Jvm.Pilot.@@N@@.Jvm.D
section Own
variable {p : Program} {l : Launch} {e : Env} {R : Room} {s : State} {m : MethodId} {args : Array Value} {below : List Frame} {meth : Method} {c : Code} {T : State} {locs : List Loc} {cells slots : Nat} {C N : Nat} {Q : Option Value → Heap → List Loc → Prop} {S S' : State} {Z : State} {h h' : Heap}
/-- from the state S the invocation ends in a return, and Q holds there -/
def Go (p : Program) (e : Env) (below : List Frame) (s : State) (C N : Nat) (Q : Option Value → Heap → List Loc → Prop) (S : State) : Prop :=
  ∃ s₂ o, Steps p.tables e below S s₂ ∧ s₂.status = .running ∧ Ended s₂ below o ∧ ∃ v L, o = .returned v ∧ Q v s₂.heap L ∧ FrameEnd s o s₂ L C N
theorem Go.step (st : ∀ t, Steps p.tables e below S' t → Steps p.tables e below S t) (G : Go p e below s C N Q S') : Go p e below s C N Q S := by
  obtain ⟨s₂, o, h, r⟩ := G
  exact ⟨s₂, o, st _ h, r⟩
theorem Go.tr (st : Steps p.tables e below S S') (G : Go p e below s C N Q S') : Go p e below s C N Q S := by
  obtain ⟨s₂, o, h, r⟩ := G
  exact ⟨s₂, o, st.trans h, r⟩
theorem Go.out (X : Stand p l e R s m args below meth c T locs cells slots) {v : Option Value} {g : JFrame} (hv : meth.sig.returnType = none → v = none) (hlk : meth.locks = false)
    (hst : ∀ fs, (∀ (f : JFrame) (acts : List Action), f.method = m → f.locked = none → f.entered = [] → (doReturn e (T.setTop f) acts v).1 = T.setFrames fs) → Steps p.tables e below (T.setTop g) (T.setFrames fs))
    (hQ : Q v T.heap locs) (hc : cells ≤ C) (hn : slots ≤ N) : Go p e below s C N Q (T.setTop g) := by
  obtain ⟨fs, hr, hrun, hended, hW, hsame⟩ := X.leave (v := v) hv hlk
  exact ⟨_, _, hst fs hr, hrun, hended, _, _, rfl, hQ, ⟨_, rfl⟩, hW, hsame.mono hc hn⟩
theorem Go.retV (X : Stand p l e R s m args below meth c T locs cells slots) (hx : p.tables.exec = Jvm.exec) {pc : Nat} {Ls : Array Slot} (hret : meth.sig.returnType = none) (hlk : meth.locks = false) (hd : decode c.code pc = .ok (.return_, 1))
    (hQ : Q none T.heap locs) (hc : cells ≤ C) (hn : slots ≤ N) : Go p e below s C N Q (T.setTop (mkF m pc Ls [])) :=
  Go.out X (fun _ => rfl) hlk (fun fs hr => X.returnOut hx hret hd hr) hQ hc hn
theorem Go.retI (X : Stand p l e R s m args below meth c T locs cells slots) (hx : p.tables.exec = Jvm.exec) {pc : Nat} {Ls : Array Slot} {z : Int32} {rest : List Value} (hret : meth.sig.returnType = some .int) (hlk : meth.locks = false) (hd : decode c.code pc = .ok (.ireturn, 1))
    (hQ : Q (some (.int z)) T.heap locs) (hc : cells ≤ C) (hn : slots ≤ N) : Go p e below s C N Q (T.setTop (mkF m pc Ls (.int z :: rest))) :=
  Go.out X (fun h => by rw [hret] at h; cases h) hlk (fun fs hr => retOut X hx hret rfl (Or.inl ⟨rfl, Or.inl rfl, z, rfl⟩) hd hr) hQ hc hn
theorem Go.retN (X : Stand p l e R s m args below meth c T locs cells slots) (hx : p.tables.exec = Jvm.exec) {pc : Nat} {Ls : Array Slot} {z : Int32} {t : FieldType} {rest : List Value} (hret : meth.sig.returnType = some t) (ht : t = .boolean ∨ t = .byte ∨ t = .char ∨ t = .short) (hlk : meth.locks = false) (hd : decode c.code pc = .ok (.ireturn, 1))
    (hQ : Q (some (.int (nar t z))) T.heap locs) (hc : cells ≤ C) (hn : slots ≤ N) : Go p e below s C N Q (T.setTop (mkF m pc Ls (.int z :: rest))) :=
  Go.out X (fun h => by rw [hret] at h; cases h) hlk (fun fs hr => Jvm.RoadKit.retN X hx hret ht hd hr) hQ hc hn
theorem Go.retJ (X : Stand p l e R s m args below meth c T locs cells slots) (hx : p.tables.exec = Jvm.exec) {pc : Nat} {Ls : Array Slot} {z : Int64} {rest : List Value} (hret : meth.sig.returnType = some .long) (hlk : meth.locks = false) (hd : decode c.code pc = .ok (.lreturn, 1))
    (hQ : Q (some (.long z)) T.heap locs) (hc : cells ≤ C) (hn : slots ≤ N) : Go p e below s C N Q (T.setTop (mkF m pc Ls (.long z :: rest))) :=
  Go.out X (fun h => by rw [hret] at h; cases h) hlk (fun fs hr => retOut X hx hret rfl (Or.inr (Or.inl ⟨rfl, rfl, z, rfl⟩)) hd hr) hQ hc hn
theorem Go.retA (X : Stand p l e R s m args below meth c T locs cells slots) (hx : p.tables.exec = Jvm.exec) {pc : Nat} {Ls : Array Slot} {w : Value} {t : FieldType} {rest : List Value} (hret : meth.sig.returnType = some t) (ht : t.isReference = true) (hw : w.isRef = true) (hlk : meth.locks = false) (hd : decode c.code pc = .ok (.areturn, 1))
    (hQ : Q (some w) T.heap locs) (hc : cells ≤ C) (hn : slots ≤ N) : Go p e below s C N Q (T.setTop (mkF m pc Ls (w :: rest))) :=
  Go.out X (fun h => by rw [hret] at h; cases h) hlk (fun fs hr => retOut X hx hret (by rcases ref_cases hw with rfl | ⟨a, rfl⟩ <;> cases t <;> first | rfl | cases ht) (Or.inr (Or.inr (Or.inr (Or.inr ⟨rfl, ht, hw⟩)))) hd hr) hQ hc hn
/-- an array of ints, bytes ..: z places, the j-th holds f j -/
def Ai (Z : State) (h : Heap) (a : Addr) (ty : FieldType) (z : Int32) (f : Int32 → Int32) : Prop :=
  ∃ c : Cell, Arr Z h a c ty ∧ c.slots.size = z.toNatClampNeg ∧ ¬ z < 0 ∧ ∀ j : Int32, ¬ j < 0 → j < z → c.slots[j.toNatClampNeg]? = some (.int (f j))
theorem own_inb {cl : Cell} {z j : Int32} (S : cl.slots.size = z.toNatClampNeg) (h0 : ¬ j < 0) (h1 : j < z) : ¬ (j < 0 ∨ cl.slots.size ≤ j.toNatClampNeg) := inb_of S ⟨h0, h1⟩
theorem Ai.lt {a : Addr} {ty : FieldType} {z : Int32} {f : Int32 → Int32} (F : Ai Z h a ty z f) : a < h.size := by obtain ⟨c, A, -⟩ := F; exact A.lt
theorem Ai.nn {a : Addr} {ty : FieldType} {z : Int32} {f : Int32 → Int32} (F : Ai Z h a ty z f) : ¬ z < 0 := by obtain ⟨c, -, -, q, -⟩ := F; exact q
theorem Ai.ext {a : Addr} {ty : FieldType} {z : Int32} {f : Int32 → Int32} (F : Ai Z h a ty z f) (E : Ext h h') : Ai Z h' a ty z f := by obtain ⟨c, A, r⟩ := F; exact ⟨c, A.ext E, r⟩
theorem Ai.other {a b : Addr} {sl : Nat} {v : Value} {ty : FieldType} {z : Int32} {f : Int32 → Int32} (F : Ai Z h b ty z f) (W : Wr h h' a sl v) (q : b ≠ a) : Ai Z h' b ty z f := by obtain ⟨c, A, r⟩ := F; exact ⟨c, A.other W q, r⟩
theorem Ai.keep {a : Addr} {ws : List Addr} {ty : FieldType} {z : Int32} {f : Int32 → Int32} (F : Ai Z h a ty z f) (K : Keep h h' ws) (q : a ∉ ws) : Ai Z h' a ty z f := by obtain ⟨c, A, r⟩ := F; exact ⟨c, ⟨K.2.1 a c A.1 q, A.2⟩, r⟩
theorem Ai.new {a : Addr} {k : ClassId} {ty : FieldType} {z : Int32} (A : Arr Z h a (newA k ty z) ty) (q : ¬ z < 0) (hd : defaultValue ty = .int 0) : Ai Z h a ty z (fun _ => 0) :=
  ⟨_, A, sz_new _ _ _, q, fun j h0 h1 => by rw [get_new (sz_new k ty z ▸ own_inb (sz_new k ty z) h0 h1), hd]⟩
theorem Ai.eqf {a : Addr} {ty : FieldType} {z : Int32} {f g : Int32 → Int32} (F : Ai Z h a ty z f) (q : ∀ j : Int32, ¬ j < 0 → j < z → f j = g j) : Ai Z h a ty z g := by
  obtain ⟨c, A, S, n, H⟩ := F; exact ⟨c, A, S, n, fun j h0 h1 => by rw [← q j h0 h1]; exact H j h0 h1⟩
theorem Ai.set {a : Addr} {ty : FieldType} {z j x : Int32} {f : Int32 → Int32} (F : Ai Z h a ty z f) (h0 : ¬ j < 0) (h1 : j < z) (W : Wr h h' a j.toNatClampNeg (.int x)) : Ai Z h' a ty z (fun i => if i = j then x else f i) := by
  obtain ⟨c, A, S, n, H⟩ := F
  refine ⟨_, A.same W, by rw [sz_set]; exact S, n, fun i g0 g1 => ?_⟩
  by_cases e : i = j
  · rw [get_hit (own_inb S h0 h1) e]; simp [e]
  · rw [get_miss h0 g0 e, H i g0 g1]; simp [e]
theorem Ai.len (X : Stand p l e R s m args below meth c T locs cells slots) (hx : p.tables.exec = Jvm.exec) (hZ : Z.Warmed39 s.vm) (eT : T.heap = h) {a : Addr} {ty : FieldType} {z : Int32} {f : Int32 → Int32} (F : Ai Z h a ty z f)
    {g : JFrame} (hg : g.method = m) {rest : List Value} (hs : g.stack = .ref a :: rest) (hd : decode c.code g.pc = .ok (.arraylength, 1)) : ∀ target, Steps p.tables e below (T.setTop { g with pc := g.pc + 1, stack := .int z :: rest }) target → Steps p.tables e below (T.setTop g) target := by
  obtain ⟨cl, A, S, n, H⟩ := F
  intro t k
  refine X.arraylength hx (by rw [eT]; exact A.1) (State.isArrayOf_alike hZ.alike A.2.1) hg hs hd _ ?_
  rw [len_of S n]; exact k
theorem Ai.iaload (X : Stand p l e R s m args below meth c T locs cells slots) (hx : p.tables.exec = Jvm.exec) (hZ : Z.Warmed39 s.vm) (eT : T.heap = h) {a : Addr} {z j : Int32} {f : Int32 → Int32} (F : Ai Z h a .int z f) (h0 : ¬ j < 0) (h1 : j < z)
    {g : JFrame} (hg : g.method = m) {rest : List Value} (hs : g.stack = .int j :: .ref a :: rest) (hd : decode c.code g.pc = .ok (.iaload, 1)) : ∀ target, Steps p.tables e below (T.setTop { g with pc := g.pc + 1, stack := .int (f j) :: rest }) target → Steps p.tables e below (T.setTop g) target := by
  obtain ⟨cl, A, S, n, H⟩ := F
  exact X.iaload hx (by rw [eT]; exact A.1) (State.isArrayOf_alike hZ.alike A.2.1) A.2.2 (own_inb S h0 h1) (H j h0 h1) hg hs hd
theorem Ai.baload (X : Stand p l e R s m args below meth c T locs cells slots) (hx : p.tables.exec = Jvm.exec) (hZ : Z.Warmed39 s.vm) (eT : T.heap = h) {a : Addr} {z j : Int32} {f : Int32 → Int32} (F : Ai Z h a .byte z f) (h0 : ¬ j < 0) (h1 : j < z)
    {g : JFrame} (hg : g.method = m) {rest : List Value} (hs : g.stack = .int j :: .ref a :: rest) (hd : decode c.code g.pc = .ok (.baload, 1)) : ∀ target, Steps p.tables e below (T.setTop { g with pc := g.pc + 1, stack := .int (f j) :: rest }) target → Steps p.tables e below (T.setTop g) target := by
  obtain ⟨cl, A, S, n, H⟩ := F
  exact X.baloadBytes hx (by rw [eT]; exact A.1) (State.isArrayOf_alike hZ.alike A.2.1) A.2.2 (own_inb S h0 h1) (H j h0 h1) hg hs hd
theorem Ai.stI (X : Stand p l e R s m args below meth c T locs cells slots) (hx : p.tables.exec = Jvm.exec) (hZ : Z.Warmed39 s.vm) (eT : T.heap = h) {a : Addr} {z j x : Int32} {f : Int32 → Int32} (F : Ai Z h a .int z f) (h0 : ¬ j < 0) (h1 : j < z)
    {g : JFrame} (hg : g.method = m) {rest : List Value} (hs : g.stack = .int x :: .int j :: .ref a :: rest) (hd : decode c.code g.pc = .ok (.iastore, 1)) :
    ∃ T' h', Stand p l e R s m args below meth c T' (locs ++ [⟨a, j.toNatClampNeg⟩]) cells slots ∧ T'.heap = h' ∧ Wr h h' a j.toNatClampNeg (.int x) ∧ Ai Z h' a .int z (fun i => if i = j then x else f i) ∧ ∀ target, Steps p.tables e below (T'.setTop { g with pc := g.pc + 1, stack := rest }) target → Steps p.tables e below (T.setTop g) target := by
  obtain ⟨cl, A, S, n, H⟩ := F
  obtain ⟨T', h', X', e', W, st⟩ := Jvm.RoadKit.stI X hx hZ eT A (own_inb S h0 h1) hg hs hd
  exact ⟨T', h', X', e', W, Ai.set ⟨cl, A, S, n, H⟩ h0 h1 W, st⟩
theorem Ai.stB (X : Stand p l e R s m args below meth c T locs cells slots) (hx : p.tables.exec = Jvm.exec) (hZ : Z.Warmed39 s.vm) (eT : T.heap = h) {a : Addr} {z j x : Int32} {f : Int32 → Int32} (F : Ai Z h a .byte z f) (h0 : ¬ j < 0) (h1 : j < z)
    {g : JFrame} (hg : g.method = m) {rest : List Value} (hs : g.stack = .int x :: .int j :: .ref a :: rest) (hd : decode c.code g.pc = .ok (.bastore, 1)) :
    ∃ T' h', Stand p l e R s m args below meth c T' (locs ++ [⟨a, j.toNatClampNeg⟩]) cells slots ∧ T'.heap = h' ∧ Wr h h' a j.toNatClampNeg (.int (nar .byte x)) ∧ Ai Z h' a .byte z (fun i => if i = j then nar .byte x else f i) ∧ ∀ target, Steps p.tables e below (T'.setTop { g with pc := g.pc + 1, stack := rest }) target → Steps p.tables e below (T.setTop g) target := by
  obtain ⟨cl, A, S, n, H⟩ := F
  obtain ⟨T', h', X', e', W, st⟩ := Jvm.RoadKit.stB X hx hZ eT A (own_inb S h0 h1) hg hs hd
  exact ⟨T', h', X', e', W, Ai.set ⟨cl, A, S, n, H⟩ h0 h1 W, st⟩
end Own
theorem narrow_ref {t : FieldType} {v : Value} (hv : v.isRef = true) (ht : t.isReference = true) : narrow t v = v := by rcases ref_cases hv with rfl | ⟨a, rfl⟩ <;> cases t <;> first | rfl | cases ht
theorem fits_refV {t : FieldType} {v : Value} (hv : v.isRef = true) (ht : t.isReference = true) : fits t v = true := by rcases ref_cases hv with rfl | ⟨a, rfl⟩ <;> cases t <;> first | rfl | cases ht
theorem own_iincW {tb : Tables} [Ours tb] {e : Env} {below : List Frame} {T target : State} {m : MethodId} {c : Code} {g : JFrame} (h : At T m c below) (hx : tb.exec = Jvm.exec) (hg : g.method = m) {k : Nat} {cst : Int} {x : Int32} {l' : Array Slot} (hd : decode c.code g.pc = .ok (.iinc k cst, 6)) (hl : g.locals[k]? = some (.val (.int x))) (hl' : storeLocals g.locals k (.int (x + Int32.ofInt cst)) = some l')
    (hr : Steps tb e below (T.setTop { g with pc := g.pc + 6, locals := l' }) target) : Steps tb e below (T.setTop g) target := by
  subst hg
  jvm_step h [h.top, hx, hd, hl, hl']
  exact hr

theorem own_nb1 : nar .boolean 1 = 1 := by decide
theorem own_nb0 : nar .boolean 0 = 0 := by decide
theorem own_clamp {z : Int32} {n : Nat} (h : z.toInt ≤ n) : z.toNatClampNeg ≤ n := by
  show z.toInt.toNat ≤ n
  omega
theorem own_e0 {o : Int64} (h : lcmpW o 0 = 0) : (if o = 0 then (0 : Int32) else 1) = 0 := if_pos ((lw_eq o 0).mp h)
theorem own_e1 {o : Int64} (h : ¬ lcmpW o 0 = 0) : (if o = 0 then (0 : Int32) else 1) = 1 := if_neg fun q => h ((lw_eq o 0).mpr q)
theorem own_n3 (x : Int32) : ¬ (x &&& 3) < 0 ∧ (x &&& 3).toNatClampNeg ≤ 3 := by
  have h := c_mask x 3 2 (by decide) (by decide)
  refine ⟨?_, own_clamp (by omega)⟩
  rw [Int32.lt_iff_toInt_lt]
  have e0 : (0 : Int32).toInt = 0 := by decide
  omega
theorem pn_0 : plainName "java/util/AbstractCollection" = true := by first | (simp [plainName, overriddenIn]; done) | decide +kernel
theorem d3_0 : decode jdk_22_method_1_code 0 = .ok (.aload_n 0, 1) := by decide +kernel
theorem d3_1 : decode jdk_22_method_1_code 1 = .ok (.invokespecial 1, 3) := by decide +kernel
theorem d3_4 : decode jdk_22_method_1_code 4 = .ok (.return_, 1) := by decide +kernel
theorem ef_3 (m : MethodId) (a0 : Addr) : entryFrame m #[(.ref a0)] 1 = mkF m 0 #[.val (.ref a0)] [] := by first | (simp [entryFrame, mkF, argsToLocals, Value.category]; done) | rfl
def Q3 (Z : State) (a0 : Addr) (h0 : Heap) (n0 : Nat) (v : Option Value) (h : Heap) (L : List Loc) : Prop := (v = none) ∧ (Fr n0 L) ∧ (h = h0)
set_option maxRecDepth 65536 in
set_option maxHeartbeats 40000000 in
theorem rm3 (l : Launch) (Z : State) (aZ : Array Value) (hw : ∀ d ∈ tables_1, d.before aZ Z = true) (ws : List Jvm.Cond) (a0 : Addr) (h0 : Heap) (n0 : Nat) (Z0 : n0 ≤ h0.size)  :
    MetFree l (⟨"java/util/AbstractCollection", "<init>", "()V"⟩ : MethodName) (head1 (Jvm.Cond.code (⟨"java/util/AbstractCollection", "<init>", "()V"⟩ : MethodName) jdk_22_method_1_code 1 none :: ws) ({ frames := 1, cells := 0, slots := 0, locals := 12 } : Room)) (fun a U => a = #[(.ref a0)] ∧ Z.Warmed39 U.vm ∧ U.heap = h0) (fun _ _ _ _ _ => True) (fun _ U o U' => ∃ v L, o = .returned v ∧ Q3 Z a0 h0 n0 v U'.heap L ∧ FrameEnd U o U' L ({ frames := 1, cells := 0, slots := 0, locals := 12 } : Room).cells ({ frames := 1, cells := 0, slots := 0, locals := 12 } : Room).slots) := by
  refine MetFree.of_bodySF (plainFor_of_name pn_0) hisR ?_
  intro p e s m args below meth c s₁ Bd hml0 hP hK
  obtain ⟨rfl, hZ, hh⟩ := hP
  have hx := Bd.exec
  have hby := Bd.bytes
  have hml : c.maxLocals = 1 := hml0
  have hown : s.vm.findClass "java/util/AbstractCollection" = some m.cls := findClass_of_methodNamed Bd.named
  have hnm := (name_of_methodNamed Bd.named Bd.method).1
  have hlk : meth.locks = false := BodyLoose.notSynchronized Bd
  have X0 : Stand p l e ({ frames := 1, cells := 0, slots := 0, locals := 12 } : Room) s m #[(.ref a0)] below meth c s₁ [] 0 0 := Stand.of_body Bd
  have e0 : s₁.heap = h0 := by rw [← hh, Bd.state]; rfl
  have N0 := Fr.nil n0
  have sq0 : h0.size ≤ h0.size := Nat.le_refl _
  change Go p e below s ({ frames := 1, cells := 0, slots := 0, locals := 12 } : Room).cells ({ frames := 1, cells := 0, slots := 0, locals := 12 } : Room).slots (Q3 Z a0 h0 n0) (s₁.setTop (entryFrame m #[(.ref a0)] 1))
  rw [ef_3 m a0]
  show Go _ _ _ _ _ _ _ (s₁.setTop (mkF m 0 #[.val (.ref a0)] []))
  refine Go.step (fun _ k => XS.aloadN X0.here hx rfl (hb hby d3_0) rfl rfl  k) ?_
  show Go _ _ _ _ _ _ _ (s₁.setTop (mkF m 1 #[.val (.ref a0)] [(.ref a0)]))
  obtain ⟨T1, X1, e1, st1⟩ := initO X0 hx hZ hown (hw _ (List.mem_of_getElem? (i := 19) rfl)) (hw _ (List.mem_of_getElem? (i := 20) rfl)) (hw _ (List.mem_of_getElem? (i := 21) rfl)) e0 (g := (mkF m 1 #[.val (.ref a0)] [(.ref a0)])) rfl (by rw [hml]; rfl) rfl (hb hby d3_1) (by decide) (W := 0) (by show 2 * 0 + _ ≤ _; exact Nat.le_of_eq rfl) (by decide)
  refine Go.step st1 ?_
  show Go _ _ _ _ _ _ _ (T1.setTop (mkF m 4 #[.val (.ref a0)] []))
  refine Go.retV X1 hx Bd.returns hlk (hb hby d3_4) ?_ (by decide) (by decide)
  rw [e1]
  exact ⟨(rfl), N0, rfl⟩
theorem pn_1 : plainName "java/util/AbstractSet" = true := by first | (simp [plainName, overriddenIn]; done) | decide +kernel
theorem pd_0 : parseMethodDescriptor "()V" = some ⟨[], none⟩ := by decide +kernel
theorem d7_0 : decode jdk_91_method_1_code 0 = .ok (.aload_n 0, 1) := by decide +kernel
theorem d7_1 : decode jdk_91_method_1_code 1 = .ok (.invokespecial 1, 3) := by decide +kernel
theorem d7_4 : decode jdk_91_method_1_code 4 = .ok (.return_, 1) := by decide +kernel
theorem ef_7 (m : MethodId) (a0 : Addr) : entryFrame m #[(.ref a0)] 1 = mkF m 0 #[.val (.ref a0)] [] := by first | (simp [entryFrame, mkF, argsToLocals, Value.category]; done) | rfl
def Q7 (Z : State) (a0 : Addr) (h0 : Heap) (n0 : Nat) (v : Option Value) (h : Heap) (L : List Loc) : Prop := (v = none) ∧ (Fr n0 L) ∧ (h = h0)
set_option maxRecDepth 65536 in
set_option maxHeartbeats 40000000 in
theorem rm7 (l : Launch) (Z : State) (aZ : Array Value) (hw : ∀ d ∈ tables_1, d.before aZ Z = true) (ws : List Jvm.Cond) (a0 : Addr) (h0 : Heap) (n0 : Nat) (Z0 : n0 ≤ h0.size)  :
    MetFree l (⟨"java/util/AbstractSet", "<init>", "()V"⟩ : MethodName) (head1 (Jvm.Cond.code (⟨"java/util/AbstractSet", "<init>", "()V"⟩ : MethodName) jdk_91_method_1_code 1 none :: ws) ({ frames := 2, cells := 0, slots := 0, locals := 24 } : Room)) (fun a U => a = #[(.ref a0)] ∧ Z.Warmed39 U.vm ∧ U.heap = h0) (fun _ _ _ _ _ => True) (fun _ U o U' => ∃ v L, o = .returned v ∧ Q7 Z a0 h0 n0 v U'.heap L ∧ FrameEnd U o U' L ({ frames := 2, cells := 0, slots := 0, locals := 24 } : Room).cells ({ frames := 2, cells := 0, slots := 0, locals := 24 } : Room).slots) := by
  refine MetFree.of_bodySF (plainFor_of_name pn_1) hisR ?_
  intro p e s m args below meth c s₁ Bd hml0 hP hK
  obtain ⟨rfl, hZ, hh⟩ := hP
  have hx := Bd.exec
  have hby := Bd.bytes
  have hml : c.maxLocals = 1 := hml0
  have hown : s.vm.findClass "java/util/AbstractSet" = some m.cls := findClass_of_methodNamed Bd.named
  have hnm := (name_of_methodNamed Bd.named Bd.method).1
  have hlk : meth.locks = false := BodyLoose.notSynchronized Bd
  have X0 : Stand p l e ({ frames := 2, cells := 0, slots := 0, locals := 24 } : Room) s m #[(.ref a0)] below meth c s₁ [] 0 0 := Stand.of_body Bd
  have e0 : s₁.heap = h0 := by rw [← hh, Bd.state]; rfl
  have N0 := Fr.nil n0
  have sq0 : h0.size ≤ h0.size := Nat.le_refl _
  change Go p e below s ({ frames := 2, cells := 0, slots := 0, locals := 24 } : Room).cells ({ frames := 2, cells := 0, slots := 0, locals := 24 } : Room).slots (Q7 Z a0 h0 n0) (s₁.setTop (entryFrame m #[(.ref a0)] 1))
  rw [ef_7 m a0]
  show Go _ _ _ _ _ _ _ (s₁.setTop (mkF m 0 #[.val (.ref a0)] []))
  refine Go.step (fun _ k => XS.aloadN X0.here hx rfl (hb hby d7_0) rfl rfl  k) ?_
  show Go _ _ _ _ _ _ _ (s₁.setTop (mkF m 1 #[.val (.ref a0)] [(.ref a0)]))
  obtain ⟨_, _, ⟨T1, L1, k1, n1⟩, -, X1, ⟨Lc1, hQ1, l1, y1, z1⟩, st1⟩ := X0.specialBack hx (y := (⟨"java/util/AbstractCollection", "<init>", "()V"⟩ : MethodName)) rfl hown (mvT hZ (hw _ (List.mem_of_getElem? (i := 46) rfl))) (mvT hZ (hw _ (List.mem_of_getElem? (i := 14) rfl))) (mvT hZ (hw _ (List.mem_of_getElem? (i := 18) rfl))) (by decide) (backOf (W := 0) (rm3 l Z aZ hw [] a0 h0 n0 Z0 ) hZ (hw _ (List.mem_of_getElem? (i := 18) rfl)) (hw _ (List.mem_of_getElem? (i := 17) rfl)) (by decide) (by decide)) (g := (mkF m 1 #[.val (.ref a0)] [(.ref a0)])) rfl (by rw [hml]; rfl) (Steps.refl _) (a := a0) (argsL := []) (rest := []) (lenOf pd_0 rfl) rfl (by show 2 * 0 + _ ≤ _; exact Nat.le_of_eq rfl) (hb hby d7_1) (fun _ _ => ⟨rfl, e0, (by decide : 0 + 0 ≤ _), (by decide : 0 + 0 ≤ _)⟩)
  dsimp only [Pt.U, Pt.locs, Pt.cells, Pt.slots] at X1 l1 y1 z1 st1 hQ1
  subst l1 y1 z1
  obtain ⟨rfl, Nq1, e1⟩ := hQ1
  have N1 := Fr.app N0 Nq1
  refine Go.tr st1 ?_
  show Go _ _ _ _ _ _ _ (T1.setTop (mkF m 4 #[.val (.ref a0)] []))
  refine Go.retV X1 hx Bd.returns hlk (hb hby d7_4) ?_ (by decide) (by decide)
  rw [e1]
  exact ⟨(rfl), N1, rfl⟩
theorem pn_2 : plainName "java/util/AbstractMap" = true := by first | (simp [plainName, overriddenIn]; done) | decide +kernel
theorem d9_0 : decode jdk_71_method_1_code 0 = .ok (.aload_n 0, 1) := by decide +kernel
theorem d9_1 : decode jdk_71_method_1_code 1 = .ok (.invokespecial 1, 3) := by decide +kernel
theorem d9_4 : decode jdk_71_method_1_code 4 = .ok (.return_, 1) := by decide +kernel
theorem ef_9 (m : MethodId) (a0 : Addr) : entryFrame m #[(.ref a0)] 1 = mkF m 0 #[.val (.ref a0)] [] := by first | (simp [entryFrame, mkF, argsToLocals, Value.category]; done) | rfl
def Q9 (Z : State) (a0 : Addr) (h0 : Heap) (n0 : Nat) (v : Option Value) (h : Heap) (L : List Loc) : Prop := (v = none) ∧ (Fr n0 L) ∧ (h = h0)
set_option maxRecDepth 65536 in
set_option maxHeartbeats 40000000 in
theorem rm9 (l : Launch) (Z : State) (aZ : Array Value) (hw : ∀ d ∈ tables_1, d.before aZ Z = true) (ws : List Jvm.Cond) (a0 : Addr) (h0 : Heap) (n0 : Nat) (Z0 : n0 ≤ h0.size)  :
    MetFree l (⟨"java/util/AbstractMap", "<init>", "()V"⟩ : MethodName) (head1 (Jvm.Cond.code (⟨"java/util/AbstractMap", "<init>", "()V"⟩ : MethodName) jdk_71_method_1_code 1 none :: ws) ({ frames := 1, cells := 0, slots := 0, locals := 12 } : Room)) (fun a U => a = #[(.ref a0)] ∧ Z.Warmed39 U.vm ∧ U.heap = h0) (fun _ _ _ _ _ => True) (fun _ U o U' => ∃ v L, o = .returned v ∧ Q9 Z a0 h0 n0 v U'.heap L ∧ FrameEnd U o U' L ({ frames := 1, cells := 0, slots := 0, locals := 12 } : Room).cells ({ frames := 1, cells := 0, slots := 0, locals := 12 } : Room).slots) := by
  refine MetFree.of_bodySF (plainFor_of_name pn_2) hisR ?_
  intro p e s m args below meth c s₁ Bd hml0 hP hK
  obtain ⟨rfl, hZ, hh⟩ := hP
  have hx := Bd.exec
  have hby := Bd.bytes
  have hml : c.maxLocals = 1 := hml0
  have hown : s.vm.findClass "java/util/AbstractMap" = some m.cls := findClass_of_methodNamed Bd.named
  have hnm := (name_of_methodNamed Bd.named Bd.method).1
  have hlk : meth.locks = false := BodyLoose.notSynchronized Bd
  have X0 : Stand p l e ({ frames := 1, cells := 0, slots := 0, locals := 12 } : Room) s m #[(.ref a0)] below meth c s₁ [] 0 0 := Stand.of_body Bd
  have e0 : s₁.heap = h0 := by rw [← hh, Bd.state]; rfl
  have N0 := Fr.nil n0
  have sq0 : h0.size ≤ h0.size := Nat.le_refl _
  change Go p e below s ({ frames := 1, cells := 0, slots := 0, locals := 12 } : Room).cells ({ frames := 1, cells := 0, slots := 0, locals := 12 } : Room).slots (Q9 Z a0 h0 n0) (s₁.setTop (entryFrame m #[(.ref a0)] 1))
  rw [ef_9 m a0]
  show Go _ _ _ _ _ _ _ (s₁.setTop (mkF m 0 #[.val (.ref a0)] []))
  refine Go.step (fun _ k => XS.aloadN X0.here hx rfl (hb hby d9_0) rfl rfl  k) ?_
  show Go _ _ _ _ _ _ _ (s₁.setTop (mkF m 1 #[.val (.ref a0)] [(.ref a0)]))
  obtain ⟨T1, X1, e1, st1⟩ := initO X0 hx hZ hown (hw _ (List.mem_of_getElem? (i := 61) rfl)) (hw _ (List.mem_of_getElem? (i := 20) rfl)) (hw _ (List.mem_of_getElem? (i := 21) rfl)) e0 (g := (mkF m 1 #[.val (.ref a0)] [(.ref a0)])) rfl (by rw [hml]; rfl) rfl (hb hby d9_1) (by decide) (W := 0) (by show 2 * 0 + _ ≤ _; exact Nat.le_of_eq rfl) (by decide)
  refine Go.step st1 ?_
  show Go _ _ _ _ _ _ _ (T1.setTop (mkF m 4 #[.val (.ref a0)] []))
  refine Go.retV X1 hx Bd.returns hlk (hb hby d9_4) ?_ (by decide) (by decide)
  rw [e1]
  exact ⟨(rfl), N0, rfl⟩
theorem pn_3 : plainName "java/util/AbstractList" = true := by first | (simp [plainName, overriddenIn]; done) | decide +kernel
theorem d2_0 : decode jdk_39_method_1_code 0 = .ok (.aload_n 0, 1) := by decide +kernel
theorem d2_1 : decode jdk_39_method_1_code 1 = .ok (.invokespecial 1, 3) := by decide +kernel
theorem d2_4 : decode jdk_39_method_1_code 4 = .ok (.aload_n 0, 1) := by decide +kernel
theorem d2_5 : decode jdk_39_method_1_code 5 = .ok (.iconst 0, 1) := by decide +kernel
theorem d2_6 : decode jdk_39_method_1_code 6 = .ok (.putfield 7, 3) := by decide +kernel
theorem d2_9 : decode jdk_39_method_1_code 9 = .ok (.return_, 1) := by decide +kernel
theorem ef_2 (m : MethodId) (a0 : Addr) : entryFrame m #[(.ref a0)] 1 = mkF m 0 #[.val (.ref a0)] [] := by first | (simp [entryFrame, mkF, argsToLocals, Value.category]; done) | rfl
def Q2 (Z : State) (a0 : Addr) (h0 : Heap) (n0 : Nat) (v : Option Value) (h : Heap) (L : List Loc) : Prop := (v = none) ∧ (Fr n0 L) ∧ (Keep h0 h [a0]) ∧ (Exa Z h a0 "java/util/ArrayList") ∧ (Fld Z h a0 "java/util/ArrayList" "elementData" "[Ljava/lang/Object;" .null) ∧ (Fld Z h a0 "java/util/AbstractList" "modCount" "I" (.int (0 : Int32)))
set_option maxRecDepth 65536 in
set_option maxHeartbeats 40000000 in
theorem rm2 (l : Launch) (Z : State) (aZ : Array Value) (hw : ∀ d ∈ tables_1, d.before aZ Z = true) (ws : List Jvm.Cond) (a0 : Addr) (h0 : Heap) (n0 : Nat) (Z0 : n0 ≤ h0.size) (E_0 : Exa Z h0 a0 "java/util/ArrayList") (F_1 : Fld Z h0 a0 "java/util/AbstractList" "modCount" "I" (.int (0 : Int32))) (F_2 : Fld Z h0 a0 "java/util/ArrayList" "elementData" "[Ljava/lang/Object;" .null) (g_3 : n0 ≤ a0) :
    MetFree l (⟨"java/util/AbstractList", "<init>", "()V"⟩ : MethodName) (head1 (Jvm.Cond.code (⟨"java/util/AbstractList", "<init>", "()V"⟩ : MethodName) jdk_39_method_1_code 1 none :: ws) ({ frames := 2, cells := 0, slots := 0, locals := 24 } : Room)) (fun a U => a = #[(.ref a0)] ∧ Z.Warmed39 U.vm ∧ U.heap = h0) (fun _ _ _ _ _ => True) (fun _ U o U' => ∃ v L, o = .returned v ∧ Q2 Z a0 h0 n0 v U'.heap L ∧ FrameEnd U o U' L ({ frames := 2, cells := 0, slots := 0, locals := 24 } : Room).cells ({ frames := 2, cells := 0, slots := 0, locals := 24 } : Room).slots) := by
  refine MetFree.of_bodySF (plainFor_of_name pn_3) hisR ?_
  intro p e s m args below meth c s₁ Bd hml0 hP hK
  obtain ⟨rfl, hZ, hh⟩ := hP
  have hx := Bd.exec
  have hby := Bd.bytes
  have hml : c.maxLocals = 1 := hml0
  have hown : s.vm.findClass "java/util/AbstractList" = some m.cls := findClass_of_methodNamed Bd.named
  have hnm := (name_of_methodNamed Bd.named Bd.method).1
  have hlk : meth.locks = false := BodyLoose.notSynchronized Bd
  have X0 : Stand p l e ({ frames := 2, cells := 0, slots := 0, locals := 24 } : Room) s m #[(.ref a0)] below meth c s₁ [] 0 0 := Stand.of_body Bd
  have e0 : s₁.heap = h0 := by rw [← hh, Bd.state]; rfl
  have N0 := Fr.nil n0
  have sq0 : h0.size ≤ h0.size := Nat.le_refl _
  have k0 : Keep h0 h0 [a0] := Keep.refl _ _
  change Go p e below s ({ frames := 2, cells := 0, slots := 0, locals := 24 } : Room).cells ({ frames := 2, cells := 0, slots := 0, locals := 24 } : Room).slots (Q2 Z a0 h0 n0) (s₁.setTop (entryFrame m #[(.ref a0)] 1))
  rw [ef_2 m a0]
  show Go _ _ _ _ _ _ _ (s₁.setTop (mkF m 0 #[.val (.ref a0)] []))
  refine Go.step (fun _ k => XS.aloadN X0.here hx rfl (hb hby d2_0) rfl rfl  k) ?_
  show Go _ _ _ _ _ _ _ (s₁.setTop (mkF m 1 #[.val (.ref a0)] [(.ref a0)]))
  obtain ⟨_, _, ⟨T1, L1, k1, n1⟩, -, X1, ⟨Lc1, hQ1, l1, y1, z1⟩, st1⟩ := X0.specialBack hx (y := (⟨"java/util/AbstractCollection", "<init>", "()V"⟩ : MethodName)) rfl hown (mvT hZ (hw _ (List.mem_of_getElem? (i := 13) rfl))) (mvT hZ (hw _ (List.mem_of_getElem? (i := 14) rfl))) (mvT hZ (hw _ (List.mem_of_getElem? (i := 18) rfl))) (by decide) (backOf (W := 0) (rm3 l Z aZ hw [] a0 h0 n0 Z0 ) hZ (hw _ (List.mem_of_getElem? (i := 18) rfl)) (hw _ (List.mem_of_getElem? (i := 17) rfl)) (by decide) (by decide)) (g := (mkF m 1 #[.val (.ref a0)] [(.ref a0)])) rfl (by rw [hml]; rfl) (Steps.refl _) (a := a0) (argsL := []) (rest := []) (lenOf pd_0 rfl) rfl (by show 2 * 0 + _ ≤ _; exact Nat.le_of_eq rfl) (hb hby d2_1) (fun _ _ => ⟨rfl, e0, (by decide : 0 + 0 ≤ _), (by decide : 0 + 0 ≤ _)⟩)
  dsimp only [Pt.U, Pt.locs, Pt.cells, Pt.slots] at X1 l1 y1 z1 st1 hQ1
  subst l1 y1 z1
  obtain ⟨rfl, Nq1, e1⟩ := hQ1
  have N1 := Fr.app N0 Nq1
  refine Go.tr st1 ?_
  show Go _ _ _ _ _ _ _ (T1.setTop (mkF m 4 #[.val (.ref a0)] []))
  refine Go.step (fun _ k => XS.aloadN X1.here hx rfl (hb hby d2_4) rfl rfl  k) ?_
  show Go _ _ _ _ _ _ _ (T1.setTop (mkF m 5 #[.val (.ref a0)] [(.ref a0)]))
  refine Go.step (fun _ k => XS.iconst X1.here hx rfl (hb hby d2_5) k) ?_
  show Go _ _ _ _ _ _ _ (T1.setTop (mkF m 6 #[.val (.ref a0)] [(.int (0 : Int32)), (.ref a0)]))
  obtain ⟨T2, h2, X2, e2, W2, st2⟩ := putF X1 hx hZ hown (host := "") (Or.inl (hw _ (List.mem_of_getElem? (i := 22) rfl))) Via.refl e1 F_1 E_0 (Or.inl (hw _ (List.mem_of_getElem? (i := 23) rfl))) (hw _ (List.mem_of_getElem? (i := 2) rfl)) (ty := .int) (v := (.int (0 : Int32))) (by decide) rfl rfl (g := (mkF m 6 #[.val (.ref a0)] [(.int (0 : Int32)), (.ref a0)])) rfl rfl (hb hby d2_6)
  refine Go.step st2 ?_
  have N2 := Fr.snoc X2 N1 g_3
  have z3 : n0 ≤ h2.size := Nat.le_trans Z0 (Keep.of_wr W2).1
  have sqz3 : h0.size ≤ h2.size := Nat.le_trans sq0 (Keep.of_wr W2).1
  have k4 : Keep h0 h2 [a0] := k0.wr W2 (Or.inl (List.mem_of_getElem? (i := 0) rfl))
  have f5 : Fld Z h2 a0 "java/util/AbstractList" "modCount" "I" (.int (0 : Int32)) := F_1.same W2
  show Go _ _ _ _ _ _ _ (T2.setTop (mkF m 9 #[.val (.ref a0)] []))
  have f6 : Exa Z h2 a0 "java/util/ArrayList" := (E_0.wr W2)
  have f7 : Fld Z h2 a0 "java/util/ArrayList" "elementData" "[Ljava/lang/Object;" .null := (F_2.other W2 (Or.inr (slot_ne (Or.inl (hw _ (List.mem_of_getElem? (i := 26) rfl))) (Or.inl (hw _ (List.mem_of_getElem? (i := 23) rfl))) (by decide) (t := (.array (.object "java/lang/Object"))) (t' := .int) (by decide) (by decide))))
  refine Go.retV X2 hx Bd.returns hlk (hb hby d2_9) ?_ (by decide) (by decide)
  rw [e2]
  exact ⟨(rfl), N2, k4, f6, f7, f5⟩
theorem pn_4 : plainName "java/util/ArrayList" = true := by first | (simp [plainName, overriddenIn]; done) | decide +kernel
theorem d1_0 : decode jdk_38_method_2_code 0 = .ok (.aload_n 0, 1) := by decide +kernel
theorem d1_1 : decode jdk_38_method_2_code 1 = .ok (.invokespecial 1, 3) := by decide +kernel
theorem d1_4 : decode jdk_38_method_2_code 4 = .ok (.aload_n 0, 1) := by decide +kernel
theorem d1_5 : decode jdk_38_method_2_code 5 = .ok (.getstatic 39, 3) := by decide +kernel
theorem d1_8 : decode jdk_38_method_2_code 8 = .ok (.putfield 9, 3) := by decide +kernel
theorem d1_11 : decode jdk_38_method_2_code 11 = .ok (.return_, 1) := by decide +kernel
theorem ef_1 (m : MethodId) (a0 : Addr) : entryFrame m #[(.ref a0)] 1 = mkF m 0 #[.val (.ref a0)] [] := by first | (simp [entryFrame, mkF, argsToLocals, Value.category]; done) | rfl
def Q1 (Z : State) (a0 : Addr) (w0 : Addr) (h0 : Heap) (n0 : Nat) (v : Option Value) (h : Heap) (L : List Loc) : Prop := (v = none) ∧ (Fr n0 L) ∧ (Keep h0 h [a0]) ∧ (Exa Z h a0 "java/util/ArrayList") ∧ (Fld Z h a0 "java/util/ArrayList" "elementData" "[Ljava/lang/Object;" (.ref w0)) ∧ (Fld Z h a0 "java/util/AbstractList" "modCount" "I" (.int (0 : Int32)))
set_option maxRecDepth 65536 in
set_option maxHeartbeats 40000000 in
theorem rm1 (l : Launch) (Z : State) (aZ : Array Value) (hw : ∀ d ∈ tables_1, d.before aZ Z = true) (ws : List Jvm.Cond) (a0 : Addr) (w0 : Addr) (h0 : Heap) (n0 : Nat) (Z0 : n0 ≤ h0.size) (O_0 : Old Z n0 h0) (S_1 : Sta Z Z.heap "java/util/ArrayList" "DEFAULTCAPACITY_EMPTY_ELEMENTDATA" "[Ljava/lang/Object;" (.ref w0)) (E_2 : Exa Z h0 a0 "java/util/ArrayList") (F_3 : Fld Z h0 a0 "java/util/AbstractList" "modCount" "I" (.int (0 : Int32))) (F_4 : Fld Z h0 a0 "java/util/ArrayList" "elementData" "[Ljava/lang/Object;" .null) (g_5 : n0 ≤ a0) :
    MetFree l (⟨"java/util/ArrayList", "<init>", "()V"⟩ : MethodName) (head1 (Jvm.Cond.code (⟨"java/util/ArrayList", "<init>", "()V"⟩ : MethodName) jdk_38_method_2_code 1 none :: ws) ({ frames := 3, cells := 0, slots := 0, locals := 36 } : Room)) (fun a U => a = #[(.ref a0)] ∧ Z.Warmed39 U.vm ∧ U.heap = h0) (fun _ _ _ _ _ => True) (fun _ U o U' => ∃ v L, o = .returned v ∧ Q1 Z a0 w0 h0 n0 v U'.heap L ∧ FrameEnd U o U' L ({ frames := 3, cells := 0, slots := 0, locals := 36 } : Room).cells ({ frames := 3, cells := 0, slots := 0, locals := 36 } : Room).slots) := by
  refine MetFree.of_bodySF (plainFor_of_name pn_4) hisR ?_
  intro p e s m args below meth c s₁ Bd hml0 hP hK
  obtain ⟨rfl, hZ, hh⟩ := hP
  have hx := Bd.exec
  have hby := Bd.bytes
  have hml : c.maxLocals = 1 := hml0
  have hown : s.vm.findClass "java/util/ArrayList" = some m.cls := findClass_of_methodNamed Bd.named
  have hnm := (name_of_methodNamed Bd.named Bd.method).1
  have hlk : meth.locks = false := BodyLoose.notSynchronized Bd
  have X0 : Stand p l e ({ frames := 3, cells := 0, slots := 0, locals := 36 } : Room) s m #[(.ref a0)] below meth c s₁ [] 0 0 := Stand.of_body Bd
  have e0 : s₁.heap = h0 := by rw [← hh, Bd.state]; rfl
  have N0 := Fr.nil n0
  have sq0 : h0.size ≤ h0.size := Nat.le_refl _
  have k0 : Keep h0 h0 [a0] := Keep.refl _ _
  change Go p e below s ({ frames := 3, cells := 0, slots := 0, locals := 36 } : Room).cells ({ frames := 3, cells := 0, slots := 0, locals := 36 } : Room).slots (Q1 Z a0 w0 h0 n0) (s₁.setTop (entryFrame m #[(.ref a0)] 1))
  rw [ef_1 m a0]
  show Go _ _ _ _ _ _ _ (s₁.setTop (mkF m 0 #[.val (.ref a0)] []))
  refine Go.step (fun _ k => XS.aloadN X0.here hx rfl (hb hby d1_0) rfl rfl  k) ?_
  show Go _ _ _ _ _ _ _ (s₁.setTop (mkF m 1 #[.val (.ref a0)] [(.ref a0)]))
  obtain ⟨_, _, ⟨T1, L1, k1, n1⟩, -, X1, ⟨Lc1, hQ1, l1, y1, z1⟩, st1⟩ := X0.specialBack hx (y := (⟨"java/util/AbstractList", "<init>", "()V"⟩ : MethodName)) rfl hown (mvT hZ (hw _ (List.mem_of_getElem? (i := 7) rfl))) (mvT hZ (hw _ (List.mem_of_getElem? (i := 8) rfl))) (mvT hZ (hw _ (List.mem_of_getElem? (i := 12) rfl))) (by decide) (backOf (W := 0) (rm2 l Z aZ hw [] a0 h0 n0 Z0 E_2 F_3 F_4 g_5) hZ (hw _ (List.mem_of_getElem? (i := 12) rfl)) (hw _ (List.mem_of_getElem? (i := 11) rfl)) (by decide) (by decide)) (g := (mkF m 1 #[.val (.ref a0)] [(.ref a0)])) rfl (by rw [hml]; rfl) (Steps.refl _) (a := a0) (argsL := []) (rest := []) (lenOf pd_0 rfl) rfl (by show 2 * 0 + _ ≤ _; exact Nat.le_of_eq rfl) (hb hby d1_1) (fun _ _ => ⟨rfl, e0, (by decide : 0 + 0 ≤ _), (by decide : 0 + 0 ≤ _)⟩)
  dsimp only [Pt.U, Pt.locs, Pt.cells, Pt.slots] at X1 l1 y1 z1 st1 hQ1
  subst l1 y1 z1
  obtain ⟨rfl, Nq1, K1, c1_0, c1_1, c1_2⟩ := hQ1
  have N1 := Fr.app N0 Nq1
  refine Go.tr st1 ?_
  have z2 : n0 ≤ T1.heap.size := Nat.le_trans Z0 K1.1
  have sqz2 : h0.size ≤ T1.heap.size := Nat.le_trans sq0 K1.1
  have k3 : Keep h0 T1.heap [a0] := k0.trans K1 (allS (Or.inl (List.mem_of_getElem? (i := 0) rfl)) all0)
  show Go _ _ _ _ _ _ _ (T1.setTop (mkF m 4 #[.val (.ref a0)] []))
  refine Go.step (fun _ k => XS.aloadN X1.here hx rfl (hb hby d1_4) rfl rfl  k) ?_
  show Go _ _ _ _ _ _ _ (T1.setTop (mkF m 5 #[.val (.ref a0)] [(.ref a0)]))
  have f4 : Old Z n0 T1.heap := (O_0.keep K1 (allS g_5 all0))
  obtain ⟨T5, X5, e5, st5⟩ := getS2 X1 hx hZ hown (host := "") (Or.inl (hw _ (List.mem_of_getElem? (i := 24) rfl))) Via.refl rfl (S_1.ext f4.2) (g := (mkF m 5 #[.val (.ref a0)] [(.ref a0)])) rfl (hb hby d1_5)
  refine Go.step st5 ?_
  show Go _ _ _ _ _ _ _ (T5.setTop (mkF m 8 #[.val (.ref a0)] [(.ref w0), (.ref a0)]))
  obtain ⟨T6, h6, X6, e6, W6, st6⟩ := putF X5 hx hZ hown (host := "") (Or.inl (hw _ (List.mem_of_getElem? (i := 25) rfl))) Via.refl e5 c1_1 c1_0 (Or.inl (hw _ (List.mem_of_getElem? (i := 26) rfl))) (hw _ (List.mem_of_getElem? (i := 2) rfl)) (ty := (.array (.object "java/lang/Object"))) (v := (.ref w0)) (by decide) rfl rfl (g := (mkF m 8 #[.val (.ref a0)] [(.ref w0), (.ref a0)])) rfl rfl (hb hby d1_8)
  refine Go.step st6 ?_
  have N6 := Fr.snoc X6 N1 g_5
  have z7 : n0 ≤ h6.size := Nat.le_trans z2 (Keep.of_wr W6).1
  have sqz7 : h0.size ≤ h6.size := Nat.le_trans sqz2 (Keep.of_wr W6).1
  have k8 : Keep h0 h6 [a0] := k3.wr W6 (Or.inl (List.mem_of_getElem? (i := 0) rfl))
  have f9 : Fld Z h6 a0 "java/util/ArrayList" "elementData" "[Ljava/lang/Object;" (.ref w0) := c1_1.same W6
  show Go _ _ _ _ _ _ _ (T6.setTop (mkF m 11 #[.val (.ref a0)] []))
  have f10 : Exa Z h6 a0 "java/util/ArrayList" := (c1_0.wr W6)
  have f11 : Fld Z h6 a0 "java/util/AbstractList" "modCount" "I" (.int (0 : Int32)) := (c1_2.other W6 (Or.inr (slot_ne (Or.inl (hw _ (List.mem_of_getElem? (i := 23) rfl))) (Or.inl (hw _ (List.mem_of_getElem? (i := 26) rfl))) (by decide) (t := .int) (t' := (.array (.object "java/lang/Object"))) (by decide) (by decide))))
  refine Go.retV X6 hx Bd.returns hlk (hb hby d1_11) ?_ (by decide) (by decide)
  rw [e6]
  exact ⟨(rfl), N6, k8, f10, f9, f11⟩
theorem pn_5 : plainName "java/util/HashMap" = true := by first | (simp [plainName, overriddenIn]; done) | decide +kernel
theorem d8_0 : decode jdk_69_method_7_code 0 = .ok (.aload_n 0, 1) := by decide +kernel
theorem d8_1 : decode jdk_69_method_7_code 1 = .ok (.invokespecial 43, 3) := by decide +kernel
theorem d8_4 : decode jdk_69_method_7_code 4 = .ok (.aload_n 0, 1) := by decide +kernel
theorem d8_5 : decode jdk_69_method_7_code 5 = .ok (.ldc 92, 2) := by decide +kernel
theorem d8_7 : decode jdk_69_method_7_code 7 = .ok (.putfield 81, 3) := by decide +kernel
theorem d8_10 : decode jdk_69_method_7_code 10 = .ok (.return_, 1) := by decide +kernel
theorem ef_8 (m : MethodId) (a0 : Addr) : entryFrame m #[(.ref a0)] 1 = mkF m 0 #[.val (.ref a0)] [] := by first | (simp [entryFrame, mkF, argsToLocals, Value.category]; done) | rfl
def Q8 (Z : State) (a0 : Addr) (h0 : Heap) (n0 : Nat) (v : Option Value) (h : Heap) (L : List Loc) : Prop := (v = none) ∧ (Fr n0 L) ∧ (Keep h0 h [a0]) ∧ (Exa Z h a0 "java/util/HashMap")
set_option maxRecDepth 65536 in
set_option maxHeartbeats 40000000 in
theorem rm8 (l : Launch) (Z : State) (aZ : Array Value) (hw : ∀ d ∈ tables_1, d.before aZ Z = true) (ws : List Jvm.Cond) (a0 : Addr) (h0 : Heap) (n0 : Nat) (Z0 : n0 ≤ h0.size) (E_0 : Exa Z h0 a0 "java/util/HashMap") (F_1 : Fld Z h0 a0 "java/util/HashMap" "loadFactor" "F" (.float 0)) (g_2 : n0 ≤ a0) :
    MetFree l (⟨"java/util/HashMap", "<init>", "()V"⟩ : MethodName) (head1 (Jvm.Cond.code (⟨"java/util/HashMap", "<init>", "()V"⟩ : MethodName) jdk_69_method_7_code 1 none :: ws) ({ frames := 2, cells := 0, slots := 0, locals := 24 } : Room)) (fun a U => a = #[(.ref a0)] ∧ Z.Warmed39 U.vm ∧ U.heap = h0) (fun _ _ _ _ _ => True) (fun _ U o U' => ∃ v L, o = .returned v ∧ Q8 Z a0 h0 n0 v U'.heap L ∧ FrameEnd U o U' L ({ frames := 2, cells := 0, slots := 0, locals := 24 } : Room).cells ({ frames := 2, cells := 0, slots := 0, locals := 24 } : Room).slots) := by
  refine MetFree.of_bodySF (plainFor_of_name pn_5) hisR ?_
  intro p e s m args below meth c s₁ Bd hml0 hP hK
  obtain ⟨rfl, hZ, hh⟩ := hP
  have hx := Bd.exec
  have hby := Bd.bytes
  have hml : c.maxLocals = 1 := hml0
  have hown : s.vm.findClass "java/util/HashMap" = some m.cls := findClass_of_methodNamed Bd.named
  have hnm := (name_of_methodNamed Bd.named Bd.method).1
  have hlk : meth.locks = false := BodyLoose.notSynchronized Bd
  have X0 : Stand p l e ({ frames := 2, cells := 0, slots := 0, locals := 24 } : Room) s m #[(.ref a0)] below meth c s₁ [] 0 0 := Stand.of_body Bd
  have e0 : s₁.heap = h0 := by rw [← hh, Bd.state]; rfl
  have N0 := Fr.nil n0
  have sq0 : h0.size ≤ h0.size := Nat.le_refl _
  have k0 : Keep h0 h0 [a0] := Keep.refl _ _
  change Go p e below s ({ frames := 2, cells := 0, slots := 0, locals := 24 } : Room).cells ({ frames := 2, cells := 0, slots := 0, locals := 24 } : Room).slots (Q8 Z a0 h0 n0) (s₁.setTop (entryFrame m #[(.ref a0)] 1))
  rw [ef_8 m a0]
  show Go _ _ _ _ _ _ _ (s₁.setTop (mkF m 0 #[.val (.ref a0)] []))
  refine Go.step (fun _ k => XS.aloadN X0.here hx rfl (hb hby d8_0) rfl rfl  k) ?_
  show Go _ _ _ _ _ _ _ (s₁.setTop (mkF m 1 #[.val (.ref a0)] [(.ref a0)]))
  obtain ⟨_, _, ⟨T1, L1, k1, n1⟩, -, X1, ⟨Lc1, hQ1, l1, y1, z1⟩, st1⟩ := X0.specialBack hx (y := (⟨"java/util/AbstractMap", "<init>", "()V"⟩ : MethodName)) rfl hown (mvT hZ (hw _ (List.mem_of_getElem? (i := 55) rfl))) (mvT hZ (hw _ (List.mem_of_getElem? (i := 56) rfl))) (mvT hZ (hw _ (List.mem_of_getElem? (i := 60) rfl))) (by decide) (backOf (W := 0) (rm9 l Z aZ hw [] a0 h0 n0 Z0 ) hZ (hw _ (List.mem_of_getElem? (i := 60) rfl)) (hw _ (List.mem_of_getElem? (i := 59) rfl)) (by decide) (by decide)) (g := (mkF m 1 #[.val (.ref a0)] [(.ref a0)])) rfl (by rw [hml]; rfl) (Steps.refl _) (a := a0) (argsL := []) (rest := []) (lenOf pd_0 rfl) rfl (by show 2 * 0 + _ ≤ _; exact Nat.le_of_eq rfl) (hb hby d8_1) (fun _ _ => ⟨rfl, e0, (by decide : 0 + 0 ≤ _), (by decide : 0 + 0 ≤ _)⟩)
  dsimp only [Pt.U, Pt.locs, Pt.cells, Pt.slots] at X1 l1 y1 z1 st1 hQ1
  subst l1 y1 z1
  obtain ⟨rfl, Nq1, e1⟩ := hQ1
  have N1 := Fr.app N0 Nq1
  refine Go.tr st1 ?_
  show Go _ _ _ _ _ _ _ (T1.setTop (mkF m 4 #[.val (.ref a0)] []))
  refine Go.step (fun _ k => XS.aloadN X1.here hx rfl (hb hby d8_4) rfl rfl  k) ?_
  show Go _ _ _ _ _ _ _ (T1.setTop (mkF m 5 #[.val (.ref a0)] [(.ref a0)]))
  refine Go.step (X1.ldcFloatC hx hown (mvT hZ (hw _ (List.mem_of_getElem? (i := 62) rfl))) (g := (mkF m 5 #[.val (.ref a0)] [(.ref a0)])) rfl (hb hby d8_5)) ?_
  show Go _ _ _ _ _ _ _ (T1.setTop (mkF m 7 #[.val (.ref a0)] [(.float (1061158912 : UInt32)), (.ref a0)]))
  obtain ⟨T2, h2, X2, e2, W2, st2⟩ := putF X1 hx hZ hown (host := "") (Or.inl (hw _ (List.mem_of_getElem? (i := 63) rfl))) Via.refl e1 F_1 E_0 (Or.inr ⟨(hw _ (List.mem_of_getElem? (i := 64) rfl)), rfl, hnm⟩) (hw _ (List.mem_of_getElem? (i := 49) rfl)) (ty := .float) (v := (.float (1061158912 : UInt32))) (by decide) rfl rfl (g := (mkF m 7 #[.val (.ref a0)] [(.float (1061158912 : UInt32)), (.ref a0)])) rfl rfl (hb hby d8_7)
  refine Go.step st2 ?_
  have N2 := Fr.snoc X2 N1 g_2
  have z3 : n0 ≤ h2.size := Nat.le_trans Z0 (Keep.of_wr W2).1
  have sqz3 : h0.size ≤ h2.size := Nat.le_trans sq0 (Keep.of_wr W2).1
  have k4 : Keep h0 h2 [a0] := k0.wr W2 (Or.inl (List.mem_of_getElem? (i := 0) rfl))
  have f5 : Fld Z h2 a0 "java/util/HashMap" "loadFactor" "F" (.float (1061158912 : UInt32)) := F_1.same W2
  show Go _ _ _ _ _ _ _ (T2.setTop (mkF m 10 #[.val (.ref a0)] []))
  have f6 : Exa Z h2 a0 "java/util/HashMap" := (E_0.wr W2)
  refine Go.retV X2 hx Bd.returns hlk (hb hby d8_10) ?_ (by decide) (by decide)
  rw [e2]
  exact ⟨(rfl), N2, k4, f6⟩
theorem pn_6 : plainName "java/util/HashSet" = true := by first | (simp [plainName, overriddenIn]; done) | decide +kernel
theorem d6_0 : decode jdk_93_method_1_code 0 = .ok (.aload_n 0, 1) := by decide +kernel
theorem d6_1 : decode jdk_93_method_1_code 1 = .ok (.invokespecial 1, 3) := by decide +kernel
theorem d6_4 : decode jdk_93_method_1_code 4 = .ok (.aload_n 0, 1) := by decide +kernel
theorem d6_5 : decode jdk_93_method_1_code 5 = .ok (.new 7, 3) := by decide +kernel
theorem d6_8 : decode jdk_93_method_1_code 8 = .ok (.dup, 1) := by decide +kernel
theorem d6_9 : decode jdk_93_method_1_code 9 = .ok (.invokespecial 9, 3) := by decide +kernel
theorem d6_12 : decode jdk_93_method_1_code 12 = .ok (.putfield 10, 3) := by decide +kernel
theorem d6_15 : decode jdk_93_method_1_code 15 = .ok (.return_, 1) := by decide +kernel
theorem ef_6 (m : MethodId) (a0 : Addr) : entryFrame m #[(.ref a0)] 1 = mkF m 0 #[.val (.ref a0)] [] := by first | (simp [entryFrame, mkF, argsToLocals, Value.category]; done) | rfl
def Q6 (Z : State) (a0 : Addr) (h0 : Heap) (n0 : Nat) (v : Option Value) (h : Heap) (L : List Loc) : Prop := (v = none) ∧ (Fr n0 L) ∧ (Keep h0 h [a0]) ∧ (Exa Z h a0 "java/util/HashSet")
set_option maxRecDepth 65536 in
set_option maxHeartbeats 40000000 in
theorem rm6 (l : Launch) (Z : State) (aZ : Array Value) (hw : ∀ d ∈ tables_1, d.before aZ Z = true) (ws : List Jvm.Cond) (a0 : Addr) (h0 : Heap) (n0 : Nat) (Z0 : n0 ≤ h0.size) (E_0 : Exa Z h0 a0 "java/util/HashSet") (F_1 : Fld Z h0 a0 "java/util/HashSet" "map" "Ljava/util/HashMap;" .null) (g_2 : n0 ≤ a0) :
    MetFree l (⟨"java/util/HashSet", "<init>", "()V"⟩ : MethodName) (head1 (Jvm.Cond.code (⟨"java/util/HashSet", "<init>", "()V"⟩ : MethodName) jdk_93_method_1_code 1 none :: ws) ({ frames := 3, cells := 1, slots := 8, locals := 38 } : Room)) (fun a U => a = #[(.ref a0)] ∧ Z.Warmed39 U.vm ∧ U.heap = h0) (fun _ _ _ _ _ => True) (fun _ U o U' => ∃ v L, o = .returned v ∧ Q6 Z a0 h0 n0 v U'.heap L ∧ FrameEnd U o U' L ({ frames := 3, cells := 1, slots := 8, locals := 38 } : Room).cells ({ frames := 3, cells := 1, slots := 8, locals := 38 } : Room).slots) := by
  refine MetFree.of_bodySF (plainFor_of_name pn_6) hisR ?_
  intro p e s m args below meth c s₁ Bd hml0 hP hK
  obtain ⟨rfl, hZ, hh⟩ := hP
  have hx := Bd.exec
  have hby := Bd.bytes
  have hml : c.maxLocals = 1 := hml0
  have hown : s.vm.findClass "java/util/HashSet" = some m.cls := findClass_of_methodNamed Bd.named
  have hnm := (name_of_methodNamed Bd.named Bd.method).1
  have hlk : meth.locks = false := BodyLoose.notSynchronized Bd
  have X0 : Stand p l e ({ frames := 3, cells := 1, slots := 8, locals := 38 } : Room) s m #[(.ref a0)] below meth c s₁ [] 0 0 := Stand.of_body Bd
  have e0 : s₁.heap = h0 := by rw [← hh, Bd.state]; rfl
  have N0 := Fr.nil n0
  have sq0 : h0.size ≤ h0.size := Nat.le_refl _
  have k0 : Keep h0 h0 [a0] := Keep.refl _ _
  change Go p e below s ({ frames := 3, cells := 1, slots := 8, locals := 38 } : Room).cells ({ frames := 3, cells := 1, slots := 8, locals := 38 } : Room).slots (Q6 Z a0 h0 n0) (s₁.setTop (entryFrame m #[(.ref a0)] 1))
  rw [ef_6 m a0]
  show Go _ _ _ _ _ _ _ (s₁.setTop (mkF m 0 #[.val (.ref a0)] []))
  refine Go.step (fun _ k => XS.aloadN X0.here hx rfl (hb hby d6_0) rfl rfl  k) ?_
  show Go _ _ _ _ _ _ _ (s₁.setTop (mkF m 1 #[.val (.ref a0)] [(.ref a0)]))
  obtain ⟨_, _, ⟨T1, L1, k1, n1⟩, -, X1, ⟨Lc1, hQ1, l1, y1, z1⟩, st1⟩ := X0.specialBack hx (y := (⟨"java/util/AbstractSet", "<init>", "()V"⟩ : MethodName)) rfl hown (mvT hZ (hw _ (List.mem_of_getElem? (i := 40) rfl))) (mvT hZ (hw _ (List.mem_of_getElem? (i := 41) rfl))) (mvT hZ (hw _ (List.mem_of_getElem? (i := 45) rfl))) (by decide) (backOf (W := 0) (rm7 l Z aZ hw [] a0 h0 n0 Z0 ) hZ (hw _ (List.mem_of_getElem? (i := 45) rfl)) (hw _ (List.mem_of_getElem? (i := 44) rfl)) (by decide) (by decide)) (g := (mkF m 1 #[.val (.ref a0)] [(.ref a0)])) rfl (by rw [hml]; rfl) (Steps.refl _) (a := a0) (argsL := []) (rest := []) (lenOf pd_0 rfl) rfl (by show 2 * 0 + _ ≤ _; exact Nat.le_of_eq rfl) (hb hby d6_1) (fun _ _ => ⟨rfl, e0, (by decide : 0 + 0 ≤ _), (by decide : 0 + 0 ≤ _)⟩)
  dsimp only [Pt.U, Pt.locs, Pt.cells, Pt.slots] at X1 l1 y1 z1 st1 hQ1
  subst l1 y1 z1
  obtain ⟨rfl, Nq1, e1⟩ := hQ1
  have N1 := Fr.app N0 Nq1
  refine Go.tr st1 ?_
  show Go _ _ _ _ _ _ _ (T1.setTop (mkF m 4 #[.val (.ref a0)] []))
  refine Go.step (fun _ k => XS.aloadN X1.here hx rfl (hb hby d6_4) rfl rfl  k) ?_
  show Go _ _ _ _ _ _ _ (T1.setTop (mkF m 5 #[.val (.ref a0)] [(.ref a0)]))
  obtain ⟨T2, h2, X2, e2, E2, A2, D2, -, st2⟩ := newO X1 hx hZ hown (hw _ (List.mem_of_getElem? (i := 48) rfl)) (hw _ (List.mem_of_getElem? (i := 49) rfl)) (hw _ (List.mem_of_getElem? (i := 50) rfl)) e1 (g := (mkF m 5 #[.val (.ref a0)] [(.ref a0)])) rfl (hb hby d6_5) (by decide) (by decide)
  obtain ⟨b2, g2⟩ : ∃ z, z = h0.size := ⟨_, rfl⟩
  rw [← g2] at A2 D2 st2
  refine Go.step st2 ?_
  have gn2 : n0 ≤ b2 := Nat.le_trans Z0 (Nat.le_of_eq g2.symm)
  have sz2 : h0.size ≤ b2 := Nat.le_trans sq0 (Nat.le_of_eq g2.symm)
  have ne3 : a0 ≠ b2 := Nat.ne_of_lt (Nat.lt_of_lt_of_le E_0.lt (Nat.le_of_eq g2.symm))
  have z4 : n0 ≤ h2.size := Nat.le_trans Z0 E2.1
  have sqz4 : h0.size ≤ h2.size := Nat.le_trans sq0 E2.1
  have k5 : Keep h0 h2 [a0] := k0.ext E2
  have f6 : Fld Z h2 b2 "java/util/HashMap" "loadFactor" "F" (.float 0) := D2 (Or.inr (hw _ (List.mem_of_getElem? (i := 64) rfl))) (ty := .float) (by decide)
  show Go _ _ _ _ _ _ _ (T2.setTop (mkF m 8 #[.val (.ref a0)] [(.ref b2), (.ref a0)]))
  refine Go.step (fun _ k => XS.dup X2.here hx rfl (hb hby d6_8) rfl rfl k) ?_
  show Go _ _ _ _ _ _ _ (T2.setTop (mkF m 9 #[.val (.ref a0)] [(.ref b2), (.ref b2), (.ref a0)]))
  obtain ⟨_, _, ⟨T7, L7, k7, n7⟩, -, X7, ⟨Lc7, hQ7, l7, y7, z7⟩, st7⟩ := X2.specialBack hx (y := (⟨"java/util/HashMap", "<init>", "()V"⟩ : MethodName)) rfl hown (mvT hZ (hw _ (List.mem_of_getElem? (i := 51) rfl))) (mvT hZ (hw _ (List.mem_of_getElem? (i := 52) rfl))) (mvT hZ (hw _ (List.mem_of_getElem? (i := 54) rfl))) (by decide) (backOf (W := 2) (rm8 l Z aZ hw [] b2 h2 n0 z4 A2 f6 gn2) hZ (hw _ (List.mem_of_getElem? (i := 54) rfl)) (hw _ (List.mem_of_getElem? (i := 50) rfl)) (by decide) (by decide)) (g := (mkF m 9 #[.val (.ref a0)] [(.ref b2), (.ref b2), (.ref a0)])) rfl (by rw [hml]; rfl) (Steps.refl _) (a := b2) (argsL := []) (rest := [(.ref b2), (.ref a0)]) (lenOf pd_0 rfl) rfl (by show 2 * 0 + _ ≤ _; exact Nat.le_of_eq rfl) (hb hby d6_9) (fun _ _ => ⟨rfl, e2, (by decide : 1 + 0 ≤ _), (by decide : 8 + 0 ≤ _)⟩)
  dsimp only [Pt.U, Pt.locs, Pt.cells, Pt.slots] at X7 l7 y7 z7 st7 hQ7
  subst l7 y7 z7
  obtain ⟨rfl, Nq7, K7, c7_0⟩ := hQ7
  have N7 := Fr.app N1 Nq7
  refine Go.tr st7 ?_
  have z8 : n0 ≤ T7.heap.size := Nat.le_trans z4 K7.1
  have sqz8 : h0.size ≤ T7.heap.size := Nat.le_trans sqz4 K7.1
  have k9 : Keep h0 T7.heap [a0] := k5.trans K7 (allS (Or.inr sz2) all0)
  show Go _ _ _ _ _ _ _ (T7.setTop (mkF m 12 #[.val (.ref a0)] [(.ref b2), (.ref a0)]))
  have f10 : Exa Z T7.heap a0 "java/util/HashSet" := ((E_0.ext E2).keep K7)
  have f11 : Fld Z T7.heap a0 "java/util/HashSet" "map" "Ljava/util/HashMap;" .null := ((F_1.ext E2).keep K7 (ninS ne3 nin0))
  obtain ⟨T12, h12, X12, e12, W12, st12⟩ := putF X7 hx hZ hown (host := "") (Or.inl (hw _ (List.mem_of_getElem? (i := 65) rfl))) Via.refl rfl f11 f10 (Or.inl (hw _ (List.mem_of_getElem? (i := 66) rfl))) (hw _ (List.mem_of_getElem? (i := 35) rfl)) (ty := (.object "java/util/HashMap")) (v := (.ref b2)) (by decide) rfl rfl (g := (mkF m 12 #[.val (.ref a0)] [(.ref b2), (.ref a0)])) rfl rfl (hb hby d6_12)
  refine Go.step st12 ?_
  have N12 := Fr.snoc X12 N7 g_2
  have z13 : n0 ≤ h12.size := Nat.le_trans z8 (Keep.of_wr W12).1
  have sqz13 : h0.size ≤ h12.size := Nat.le_trans sqz8 (Keep.of_wr W12).1
  have k14 : Keep h0 h12 [a0] := k9.wr W12 (Or.inl (List.mem_of_getElem? (i := 0) rfl))
  have f15 : Fld Z h12 a0 "java/util/HashSet" "map" "Ljava/util/HashMap;" (.ref b2) := f11.same W12
  show Go _ _ _ _ _ _ _ (T12.setTop (mkF m 15 #[.val (.ref a0)] []))
  have f16 : Exa Z h12 a0 "java/util/HashSet" := (f10.wr W12)
  refine Go.retV X12 hx Bd.returns hlk (hb hby d6_15) ?_ (by decide) (by decide)
  rw [e12]
  exact ⟨(rfl), N12, k14, f16⟩
theorem pn_7 : plainName "com/example/punctual_lease/punctuallease/Node" = true := by first | (simp [plainName, overriddenIn]; done) | decide +kernel
theorem d5_0 : decode prog_5_method_1_code 0 = .ok (.aload_n 0, 1) := by decide +kernel
theorem d5_1 : decode prog_5_method_1_code 1 = .ok (.invokespecial 1, 3) := by decide +kernel
theorem d5_4 : decode prog_5_method_1_code 4 = .ok (.aload_n 0, 1) := by decide +kernel
theorem d5_5 : decode prog_5_method_1_code 5 = .ok (.new 7, 3) := by decide +kernel
theorem d5_8 : decode prog_5_method_1_code 8 = .ok (.dup, 1) := by decide +kernel
theorem d5_9 : decode prog_5_method_1_code 9 = .ok (.invokespecial 9, 3) := by decide +kernel
theorem d5_12 : decode prog_5_method_1_code 12 = .ok (.putfield 10, 3) := by decide +kernel
theorem d5_15 : decode prog_5_method_1_code 15 = .ok (.aload_n 0, 1) := by decide +kernel
theorem d5_16 : decode prog_5_method_1_code 16 = .ok (.lload_n 1, 1) := by decide +kernel
theorem d5_17 : decode prog_5_method_1_code 17 = .ok (.putfield 16, 3) := by decide +kernel
theorem d5_20 : decode prog_5_method_1_code 20 = .ok (.aload_n 0, 1) := by decide +kernel
theorem d5_21 : decode prog_5_method_1_code 21 = .ok (.lload_n 3, 1) := by decide +kernel
theorem d5_22 : decode prog_5_method_1_code 22 = .ok (.putfield 20, 3) := by decide +kernel
theorem d5_25 : decode prog_5_method_1_code 25 = .ok (.aload_n 0, 1) := by decide +kernel
theorem d5_26 : decode prog_5_method_1_code 26 = .ok (.lload 5, 2) := by decide +kernel
theorem d5_28 : decode prog_5_method_1_code 28 = .ok (.putfield 23, 3) := by decide +kernel
theorem d5_31 : decode prog_5_method_1_code 31 = .ok (.aload_n 0, 1) := by decide +kernel
theorem d5_32 : decode prog_5_method_1_code 32 = .ok (.aload 7, 2) := by decide +kernel
theorem d5_34 : decode prog_5_method_1_code 34 = .ok (.putfield 26, 3) := by decide +kernel
theorem d5_37 : decode prog_5_method_1_code 37 = .ok (.aload_n 0, 1) := by decide +kernel
theorem d5_38 : decode prog_5_method_1_code 38 = .ok (.aload 8, 2) := by decide +kernel
theorem d5_40 : decode prog_5_method_1_code 40 = .ok (.putfield 30, 3) := by decide +kernel
theorem d5_43 : decode prog_5_method_1_code 43 = .ok (.aload_n 0, 1) := by decide +kernel
theorem d5_44 : decode prog_5_method_1_code 44 = .ok (.lload_n 1, 1) := by decide +kernel
theorem d5_45 : decode prog_5_method_1_code 45 = .ok (.putfield 34, 3) := by decide +kernel
theorem d5_48 : decode prog_5_method_1_code 48 = .ok (.aload_n 0, 1) := by decide +kernel
theorem d5_49 : decode prog_5_method_1_code 49 = .ok (.lload_n 3, 1) := by decide +kernel
theorem d5_50 : decode prog_5_method_1_code 50 = .ok (.putfield 37, 3) := by decide +kernel
theorem d5_53 : decode prog_5_method_1_code 53 = .ok (.aload_n 0, 1) := by decide +kernel
theorem d5_54 : decode prog_5_method_1_code 54 = .ok (.lload_n 1, 1) := by decide +kernel
theorem d5_55 : decode prog_5_method_1_code 55 = .ok (.putfield 40, 3) := by decide +kernel
theorem d5_58 : decode prog_5_method_1_code 58 = .ok (.return_, 1) := by decide +kernel
theorem ef_5 (m : MethodId) (a0 : Addr) (z1 : Int64) (z2 : Int64) (z3 : Int64) (pl : Addr) (pd : Value) (hpd : pd.isRef = true) : entryFrame m #[(.ref a0), (.long z1), (.long z2), (.long z3), (.ref pl), pd] 9 = mkF m 0 #[.val (.ref a0), .val (.long z1), .second, .val (.long z2), .second, .val (.long z3), .second, .val (.ref pl), .val pd] [] := by rcases ref_cases hpd with rfl | ⟨zpd, rfl⟩ <;> first | (simp [entryFrame, mkF, argsToLocals, Value.category]; done) | rfl
def Q5 (Z : State) (a0 : Addr) (z1 : Int64) (z2 : Int64) (z3 : Int64) (pl : Addr) (pd : Value) (h0 : Heap) (n0 : Nat) (v : Option Value) (h : Heap) (L : List Loc) : Prop := (v = none) ∧ (Fr n0 L) ∧ (Keep h0 h [a0]) ∧ (Exa Z h a0 "com/example/punctual_lease/punctuallease/Node") ∧ (Fld Z h a0 "com/example/punctual_lease/punctuallease/Node" "ephemeralOwner" "J" (.long z3))
set_option maxRecDepth 65536 in
set_option maxHeartbeats 40000000 in
theorem rm5 (l : Launch) (Z : State) (aZ : Array Value) (hw : ∀ d ∈ tables_1, d.before aZ Z = true) (ws : List Jvm.Cond) (a0 : Addr) (z1 : Int64) (z2 : Int64) (z3 : Int64) (pl : Addr) (pd : Value) (h0 : Heap) (n0 : Nat) (Z0 : n0 ≤ h0.size) (hpd : pd.isRef = true) (E_1 : Exa Z h0 a0 "com/example/punctual_lease/punctuallease/Node") (F_2 : Fld Z h0 a0 "com/example/punctual_lease/punctuallease/Node" "children" "Ljava/util/Set;" .null) (F_3 : Fld Z h0 a0 "com/example/punctual_lease/punctuallease/Node" "czxid" "J" (.long (0 : Int64))) (F_4 : Fld Z h0 a0 "com/example/punctual_lease/punctuallease/Node" "ctime" "J" (.long (0 : Int64))) (F_5 : Fld Z h0 a0 "com/example/punctual_lease/punctuallease/Node" "ephemeralOwner" "J" (.long (0 : Int64))) (F_6 : Fld Z h0 a0 "com/example/punctual_lease/punctuallease/Node" "acl" "Ljava/util/List;" .null) (F_7 : Fld Z h0 a0 "com/example/punctual_lease/punctuallease/Node" "data" "[B" .null) (F_8 : Fld Z h0 a0 "com/example/punctual_lease/punctuallease/Node" "mzxid" "J" (.long (0 : Int64))) (F_9 : Fld Z h0 a0 "com/example/punctual_lease/punctuallease/Node" "mtime" "J" (.long (0 : Int64))) (F_10 : Fld Z h0 a0 "com/example/punctual_lease/punctuallease/Node" "pzxid" "J" (.long (0 : Int64))) (g_11 : n0 ≤ a0) :
    MetFree l (⟨"com/example/punctual_lease/punctuallease/Node", "<init>", "(JJJLjava/util/List;[B)V"⟩ : MethodName) (head1 (Jvm.Cond.code (⟨"com/example/punctual_lease/punctuallease/Node", "<init>", "(JJJLjava/util/List;[B)V"⟩ : MethodName) prog_5_method_1_code 9 none :: ws) ({ frames := 4, cells := 2, slots := 9, locals := 52 } : Room)) (fun a U => a = #[(.ref a0), (.long z1), (.long z2), (.long z3), (.ref pl), pd] ∧ Z.Warmed39 U.vm ∧ U.heap = h0) (fun _ _ _ _ _ => True) (fun _ U o U' => ∃ v L, o = .returned v ∧ Q5 Z a0 z1 z2 z3 pl pd h0 n0 v U'.heap L ∧ FrameEnd U o U' L ({ frames := 4, cells := 2, slots := 9, locals := 52 } : Room).cells ({ frames := 4, cells := 2, slots := 9, locals := 52 } : Room).slots) := by
  refine MetFree.of_bodySF (plainFor_of_name pn_7) hisR ?_
  intro p e s m args below meth c s₁ Bd hml0 hP hK
  obtain ⟨rfl, hZ, hh⟩ := hP
  have hx := Bd.exec
  have hby := Bd.bytes
  have hml : c.maxLocals = 9 := hml0
  have hown : s.vm.findClass "com/example/punctual_lease/punctuallease/Node" = some m.cls := findClass_of_methodNamed Bd.named
  have hnm := (name_of_methodNamed Bd.named Bd.method).1
  have hlk : meth.locks = false := BodyLoose.notSynchronized Bd
  have X0 : Stand p l e ({ frames := 4, cells := 2, slots := 9, locals := 52 } : Room) s m #[(.ref a0), (.long z1), (.long z2), (.long z3), (.ref pl), pd] below meth c s₁ [] 0 0 := Stand.of_body Bd
  have e0 : s₁.heap = h0 := by rw [← hh, Bd.state]; rfl
  have N0 := Fr.nil n0
  have sq0 : h0.size ≤ h0.size := Nat.le_refl _
  have k0 : Keep h0 h0 [a0] := Keep.refl _ _
  change Go p e below s ({ frames := 4, cells := 2, slots := 9, locals := 52 } : Room).cells ({ frames := 4, cells := 2, slots := 9, locals := 52 } : Room).slots (Q5 Z a0 z1 z2 z3 pl pd h0 n0) (s₁.setTop (entryFrame m #[(.ref a0), (.long z1), (.long z2), (.long z3), (.ref pl), pd] 9))
  rw [ef_5 m a0 z1 z2 z3 pl pd hpd]
  show Go _ _ _ _ _ _ _ (s₁.setTop (mkF m 0 #[.val (.ref a0), .val (.long z1), .second, .val (.long z2), .second, .val (.long z3), .second, .val (.ref pl), .val pd] []))
  refine Go.step (fun _ k => XS.aloadN X0.here hx rfl (hb hby d5_0) rfl rfl  k) ?_
  show Go _ _ _ _ _ _ _ (s₁.setTop (mkF m 1 #[.val (.ref a0), .val (.long z1), .second, .val (.long z2), .second, .val (.long z3), .second, .val (.ref pl), .val pd] [(.ref a0)]))
  obtain ⟨T1, X1, e1, st1⟩ := initO X0 hx hZ hown (hw _ (List.mem_of_getElem? (i := 33) rfl)) (hw _ (List.mem_of_getElem? (i := 20) rfl)) (hw _ (List.mem_of_getElem? (i := 21) rfl)) e0 (g := (mkF m 1 #[.val (.ref a0), .val (.long z1), .second, .val (.long z2), .second, .val (.long z3), .second, .val (.ref pl), .val pd] [(.ref a0)])) rfl (by rw [hml]; rfl) rfl (hb hby d5_1) (by decide) (W := 0) (by show 2 * 0 + _ ≤ _; exact Nat.le_of_eq rfl) (by decide)
  refine Go.step st1 ?_
  show Go _ _ _ _ _ _ _ (T1.setTop (mkF m 4 #[.val (.ref a0), .val (.long z1), .second, .val (.long z2), .second, .val (.long z3), .second, .val (.ref pl), .val pd] []))
  refine Go.step (fun _ k => XS.aloadN X1.here hx rfl (hb hby d5_4) rfl rfl  k) ?_
  show Go _ _ _ _ _ _ _ (T1.setTop (mkF m 5 #[.val (.ref a0), .val (.long z1), .second, .val (.long z2), .second, .val (.long z3), .second, .val (.ref pl), .val pd] [(.ref a0)]))
  obtain ⟨T2, h2, X2, e2, E2, A2, D2, -, st2⟩ := newO X1 hx hZ hown (hw _ (List.mem_of_getElem? (i := 34) rfl)) (hw _ (List.mem_of_getElem? (i := 35) rfl)) (hw _ (List.mem_of_getElem? (i := 36) rfl)) e1 (g := (mkF m 5 #[.val (.ref a0), .val (.long z1), .second, .val (.long z2), .second, .val (.long z3), .second, .val (.ref pl), .val pd] [(.ref a0)])) rfl (hb hby d5_5) (by decide) (by decide)
  obtain ⟨b2, g2⟩ : ∃ z, z = h0.size := ⟨_, rfl⟩
  rw [← g2] at A2 D2 st2
  refine Go.step st2 ?_
  have gn2 : n0 ≤ b2 := Nat.le_trans Z0 (Nat.le_of_eq g2.symm)
  have sz2 : h0.size ≤ b2 := Nat.le_trans sq0 (Nat.le_of_eq g2.symm)
  have ne3 : a0 ≠ b2 := Nat.ne_of_lt (Nat.lt_of_lt_of_le E_1.lt (Nat.le_of_eq g2.symm))
  have z4 : n0 ≤ h2.size := Nat.le_trans Z0 E2.1
  have sqz4 : h0.size ≤ h2.size := Nat.le_trans sq0 E2.1
  have k5 : Keep h0 h2 [a0] := k0.ext E2
  have f6 : Fld Z h2 b2 "java/util/HashSet" "map" "Ljava/util/HashMap;" .null := D2 (Or.inl (hw _ (List.mem_of_getElem? (i := 66) rfl))) (ty := (.object "java/util/HashMap")) (by decide)
  show Go _ _ _ _ _ _ _ (T2.setTop (mkF m 8 #[.val (.ref a0), .val (.long z1), .second, .val (.long z2), .second, .val (.long z3), .second, .val (.ref pl), .val pd] [(.ref b2), (.ref a0)]))
  refine Go.step (fun _ k => XS.dup X2.here hx rfl (hb hby d5_8) rfl rfl k) ?_
  show Go _ _ _ _ _ _ _ (T2.setTop (mkF m 9 #[.val (.ref a0), .val (.long z1), .second, .val (.long z2), .second, .val (.long z3), .second, .val (.ref pl), .val pd] [(.ref b2), (.ref b2), (.ref a0)]))
  obtain ⟨_, _, ⟨T7, L7, k7, n7⟩, -, X7, ⟨Lc7, hQ7, l7, y7, z7⟩, st7⟩ := X2.specialBack hx (y := (⟨"java/util/HashSet", "<init>", "()V"⟩ : MethodName)) rfl hown (mvT hZ (hw _ (List.mem_of_getElem? (i := 37) rfl))) (mvT hZ (hw _ (List.mem_of_getElem? (i := 38) rfl))) (mvT hZ (hw _ (List.mem_of_getElem? (i := 39) rfl))) (by decide) (backOf (W := 2) (rm6 l Z aZ hw [] b2 h2 n0 z4 A2 f6 gn2) hZ (hw _ (List.mem_of_getElem? (i := 39) rfl)) (hw _ (List.mem_of_getElem? (i := 36) rfl)) (by decide) (by decide)) (g := (mkF m 9 #[.val (.ref a0), .val (.long z1), .second, .val (.long z2), .second, .val (.long z3), .second, .val (.ref pl), .val pd] [(.ref b2), (.ref b2), (.ref a0)])) rfl (by rw [hml]; rfl) (Steps.refl _) (a := b2) (argsL := []) (rest := [(.ref b2), (.ref a0)]) (lenOf pd_0 rfl) rfl (by show 2 * 0 + _ ≤ _; exact Nat.le_of_eq rfl) (hb hby d5_9) (fun _ _ => ⟨rfl, e2, (by decide : 1 + 1 ≤ _), (by decide : 1 + 8 ≤ _)⟩)
  dsimp only [Pt.U, Pt.locs, Pt.cells, Pt.slots] at X7 l7 y7 z7 st7 hQ7
  subst l7 y7 z7
  obtain ⟨rfl, Nq7, K7, c7_0⟩ := hQ7
  have N7 := Fr.app N0 Nq7
  refine Go.tr st7 ?_
  have z8 : n0 ≤ T7.heap.size := Nat.le_trans z4 K7.1
  have sqz8 : h0.size ≤ T7.heap.size := Nat.le_trans sqz4 K7.1
  have k9 : Keep h0 T7.heap [a0] := k5.trans K7 (allS (Or.inr sz2) all0)
  show Go _ _ _ _ _ _ _ (T7.setTop (mkF m 12 #[.val (.ref a0), .val (.long z1), .second, .val (.long z2), .second, .val (.long z3), .second, .val (.ref pl), .val pd] [(.ref b2), (.ref a0)]))
  have f10 : Exa Z T7.heap a0 "com/example/punctual_lease/punctuallease/Node" := ((E_1.ext E2).keep K7)
  have f11 : Fld Z T7.heap a0 "com/example/punctual_lease/punctuallease/Node" "children" "Ljava/util/Set;" .null := ((F_2.ext E2).keep K7 (ninS ne3 nin0))
  obtain ⟨T12, h12, X12, e12, W12, st12⟩ := putF X7 hx hZ hown (host := "") (Or.inl (hw _ (List.mem_of_getElem? (i := 67) rfl))) Via.refl rfl f11 f10 (Or.inr ⟨(hw _ (List.mem_of_getElem? (i := 68) rfl)), rfl, hnm⟩) (hw _ (List.mem_of_getElem? (i := 28) rfl)) (ty := (.object "java/util/Set")) (v := (.ref b2)) (by decide) rfl rfl (g := (mkF m 12 #[.val (.ref a0), .val (.long z1), .second, .val (.long z2), .second, .val (.long z3), .second, .val (.ref pl), .val pd] [(.ref b2), (.ref a0)])) rfl rfl (hb hby d5_12)
  refine Go.step st12 ?_
  have N12 := Fr.snoc X12 N7 g_11
  have z13 : n0 ≤ h12.size := Nat.le_trans z8 (Keep.of_wr W12).1
  have sqz13 : h0.size ≤ h12.size := Nat.le_trans sqz8 (Keep.of_wr W12).1
  have k14 : Keep h0 h12 [a0] := k9.wr W12 (Or.inl (List.mem_of_getElem? (i := 0) rfl))
  have f15 : Fld Z h12 a0 "com/example/punctual_lease/punctuallease/Node" "children" "Ljava/util/Set;" (.ref b2) := f11.same W12
  show Go _ _ _ _ _ _ _ (T12.setTop (mkF m 15 #[.val (.ref a0), .val (.long z1), .second, .val (.long z2), .second, .val (.long z3), .second, .val (.ref pl), .val pd] []))
  refine Go.step (fun _ k => XS.aloadN X12.here hx rfl (hb hby d5_15) rfl rfl  k) ?_
  show Go _ _ _ _ _ _ _ (T12.setTop (mkF m 16 #[.val (.ref a0), .val (.long z1), .second, .val (.long z2), .second, .val (.long z3), .second, .val (.ref pl), .val pd] [(.ref a0)]))
  refine Go.step (fun _ k => XS.lloadN X12.here hx rfl (hb hby d5_16) rfl  k) ?_
  show Go _ _ _ _ _ _ _ (T12.setTop (mkF m 17 #[.val (.ref a0), .val (.long z1), .second, .val (.long z2), .second, .val (.long z3), .second, .val (.ref pl), .val pd] [(.long z1), (.ref a0)]))
  have f16 : Exa Z h12 a0 "com/example/punctual_lease/punctuallease/Node" := (f10.wr W12)
  have f17 : Fld Z h12 a0 "com/example/punctual_lease/punctuallease/Node" "czxid" "J" (.long (0 : Int64)) := (((F_3.ext E2).keep K7 (ninS ne3 nin0)).other W12 (Or.inr (slot_ne (Or.inr (hw _ (List.mem_of_getElem? (i := 70) rfl))) (Or.inr (hw _ (List.mem_of_getElem? (i := 68) rfl))) (by decide) (t := .long) (t' := (.object "java/util/Set")) (by decide) (by decide))))
  obtain ⟨T18, h18, X18, e18, W18, st18⟩ := putF X12 hx hZ hown (host := "") (Or.inl (hw _ (List.mem_of_getElem? (i := 69) rfl))) Via.refl e12 f17 f16 (Or.inr ⟨(hw _ (List.mem_of_getElem? (i := 70) rfl)), rfl, hnm⟩) (hw _ (List.mem_of_getElem? (i := 28) rfl)) (ty := .long) (v := (.long z1)) (by decide) rfl rfl (g := (mkF m 17 #[.val (.ref a0), .val (.long z1), .second, .val (.long z2), .second, .val (.long z3), .second, .val (.ref pl), .val pd] [(.long z1), (.ref a0)])) rfl rfl (hb hby d5_17)
  refine Go.step st18 ?_
  have N18 := Fr.snoc X18 N12 g_11
  have z19 : n0 ≤ h18.size := Nat.le_trans z13 (Keep.of_wr W18).1
  have sqz19 : h0.size ≤ h18.size := Nat.le_trans sqz13 (Keep.of_wr W18).1
  have k20 : Keep h0 h18 [a0] := k14.wr W18 (Or.inl (List.mem_of_getElem? (i := 0) rfl))
  have f21 : Fld Z h18 a0 "com/example/punctual_lease/punctuallease/Node" "czxid" "J" (.long z1) := f17.same W18
  show Go _ _ _ _ _ _ _ (T18.setTop (mkF m 20 #[.val (.ref a0), .val (.long z1), .second, .val (.long z2), .second, .val (.long z3), .second, .val (.ref pl), .val pd] []))
  refine Go.step (fun _ k => XS.aloadN X18.here hx rfl (hb hby d5_20) rfl rfl  k) ?_
  show Go _ _ _ _ _ _ _ (T18.setTop (mkF m 21 #[.val (.ref a0), .val (.long z1), .second, .val (.long z2), .second, .val (.long z3), .second, .val (.ref pl), .val pd] [(.ref a0)]))
  refine Go.step (fun _ k => XS.lloadN X18.here hx rfl (hb hby d5_21) rfl  k) ?_
  show Go _ _ _ _ _ _ _ (T18.setTop (mkF m 22 #[.val (.ref a0), .val (.long z1), .second, .val (.long z2), .second, .val (.long z3), .second, .val (.ref pl), .val pd] [(.long z2), (.ref a0)]))
  have f22 : Exa Z h18 a0 "com/example/punctual_lease/punctuallease/Node" := (f16.wr W18)
  have f23 : Fld Z h18 a0 "com/example/punctual_lease/punctuallease/Node" "ctime" "J" (.long (0 : Int64)) := ((((F_4.ext E2).keep K7 (ninS ne3 nin0)).other W12 (Or.inr (slot_ne (Or.inr (hw _ (List.mem_of_getElem? (i := 72) rfl))) (Or.inr (hw _ (List.mem_of_getElem? (i := 68) rfl))) (by decide) (t := .long) (t' := (.object "java/util/Set")) (by decide) (by decide)))).other W18 (Or.inr (slot_ne (Or.inr (hw _ (List.mem_of_getElem? (i := 72) rfl))) (Or.inr (hw _ (List.mem_of_getElem? (i := 70) rfl))) (by decide) (t := .long) (t' := .long) (by decide) (by decide))))
  obtain ⟨T24, h24, X24, e24, W24, st24⟩ := putF X18 hx hZ hown (host := "") (Or.inl (hw _ (List.mem_of_getElem? (i := 71) rfl))) Via.refl e18 f23 f22 (Or.inr ⟨(hw _ (List.mem_of_getElem? (i := 72) rfl)), rfl, hnm⟩) (hw _ (List.mem_of_getElem? (i := 28) rfl)) (ty := .long) (v := (.long z2)) (by decide) rfl rfl (g := (mkF m 22 #[.val (.ref a0), .val (.long z1), .second, .val (.long z2), .second, .val (.long z3), .second, .val (.ref pl), .val pd] [(.long z2), (.ref a0)])) rfl rfl (hb hby d5_22)
  refine Go.step st24 ?_
  have N24 := Fr.snoc X24 N18 g_11
  have z25 : n0 ≤ h24.size := Nat.le_trans z19 (Keep.of_wr W24).1
  have sqz25 : h0.size ≤ h24.size := Nat.le_trans sqz19 (Keep.of_wr W24).1
  have k26 : Keep h0 h24 [a0] := k20.wr W24 (Or.inl (List.mem_of_getElem? (i := 0) rfl))
  have f27 : Fld Z h24 a0 "com/example/punctual_lease/punctuallease/Node" "ctime" "J" (.long z2) := f23.same W24
  show Go _ _ _ _ _ _ _ (T24.setTop (mkF m 25 #[.val (.ref a0), .val (.long z1), .second, .val (.long z2), .second, .val (.long z3), .second, .val (.ref pl), .val pd] []))
  refine Go.step (fun _ k => XS.aloadN X24.here hx rfl (hb hby d5_25) rfl rfl  k) ?_
  show Go _ _ _ _ _ _ _ (T24.setTop (mkF m 26 #[.val (.ref a0), .val (.long z1), .second, .val (.long z2), .second, .val (.long z3), .second, .val (.ref pl), .val pd] [(.ref a0)]))
  refine Go.step (fun _ k => XS.lload X24.here hx rfl (hb hby d5_26) rfl  k) ?_
  show Go _ _ _ _ _ _ _ (T24.setTop (mkF m 28 #[.val (.ref a0), .val (.long z1), .second, .val (.long z2), .second, .val (.long z3), .second, .val (.ref pl), .val pd] [(.long z3), (.ref a0)]))
  have f28 : Exa Z h24 a0 "com/example/punctual_lease/punctuallease/Node" := (f22.wr W24)
  have f29 : Fld Z h24 a0 "com/example/punctual_lease/punctuallease/Node" "ephemeralOwner" "J" (.long (0 : Int64)) := (((((F_5.ext E2).keep K7 (ninS ne3 nin0)).other W12 (Or.inr (slot_ne (Or.inr (hw _ (List.mem_of_getElem? (i := 74) rfl))) (Or.inr (hw _ (List.mem_of_getElem? (i := 68) rfl))) (by decide) (t := .long) (t' := (.object "java/util/Set")) (by decide) (by decide)))).other W18 (Or.inr (slot_ne (Or.inr (hw _ (List.mem_of_getElem? (i := 74) rfl))) (Or.inr (hw _ (List.mem_of_getElem? (i := 70) rfl))) (by decide) (t := .long) (t' := .long) (by decide) (by decide)))).other W24 (Or.inr (slot_ne (Or.inr (hw _ (List.mem_of_getElem? (i := 74) rfl))) (Or.inr (hw _ (List.mem_of_getElem? (i := 72) rfl))) (by decide) (t := .long) (t' := .long) (by decide) (by decide))))
  obtain ⟨T30, h30, X30, e30, W30, st30⟩ := putF X24 hx hZ hown (host := "") (Or.inl (hw _ (List.mem_of_getElem? (i := 73) rfl))) Via.refl e24 f29 f28 (Or.inr ⟨(hw _ (List.mem_of_getElem? (i := 74) rfl)), rfl, hnm⟩) (hw _ (List.mem_of_getElem? (i := 28) rfl)) (ty := .long) (v := (.long z3)) (by decide) rfl rfl (g := (mkF m 28 #[.val (.ref a0), .val (.long z1), .second, .val (.long z2), .second, .val (.long z3), .second, .val (.ref pl), .val pd] [(.long z3), (.ref a0)])) rfl rfl (hb hby d5_28)
  refine Go.step st30 ?_
  have N30 := Fr.snoc X30 N24 g_11
  have z31 : n0 ≤ h30.size := Nat.le_trans z25 (Keep.of_wr W30).1
  have sqz31 : h0.size ≤ h30.size := Nat.le_trans sqz25 (Keep.of_wr W30).1
  have k32 : Keep h0 h30 [a0] := k26.wr W30 (Or.inl (List.mem_of_getElem? (i := 0) rfl))
  have f33 : Fld Z h30 a0 "com/example/punctual_lease/punctuallease/Node" "ephemeralOwner" "J" (.long z3) := f29.same W30
  show Go _ _ _ _ _ _ _ (T30.setTop (mkF m 31 #[.val (.ref a0), .val (.long z1), .second, .val (.long z2), .second, .val (.long z3), .second, .val (.ref pl), .val pd] []))
  refine Go.step (fun _ k => XS.aloadN X30.here hx rfl (hb hby d5_31) rfl rfl  k) ?_
  show Go _ _ _ _ _ _ _ (T30.setTop (mkF m 32 #[.val (.ref a0), .val (.long z1), .second, .val (.long z2), .second, .val (.long z3), .second, .val (.ref pl), .val pd] [(.ref a0)]))
  refine Go.step (fun _ k => XS.aload X30.here hx rfl (hb hby d5_32) rfl rfl  k) ?_
  show Go _ _ _ _ _ _ _ (T30.setTop (mkF m 34 #[.val (.ref a0), .val (.long z1), .second, .val (.long z2), .second, .val (.long z3), .second, .val (.ref pl), .val pd] [(.ref pl), (.ref a0)]))
  have f34 : Exa Z h30 a0 "com/example/punctual_lease/punctuallease/Node" := (f28.wr W30)
  have f35 : Fld Z h30 a0 "com/example/punctual_lease/punctuallease/Node" "acl" "Ljava/util/List;" .null := ((((((F_6.ext E2).keep K7 (ninS ne3 nin0)).other W12 (Or.inr (slot_ne (Or.inr (hw _ (List.mem_of_getElem? (i := 76) rfl))) (Or.inr (hw _ (List.mem_of_getElem? (i := 68) rfl))) (by decide) (t := (.object "java/util/List")) (t' := (.object "java/util/Set")) (by decide) (by decide)))).other W18 (Or.inr (slot_ne (Or.inr (hw _ (List.mem_of_getElem? (i := 76) rfl))) (Or.inr (hw _ (List.mem_of_getElem? (i := 70) rfl))) (by decide) (t := (.object "java/util/List")) (t' := .long) (by decide) (by decide)))).other W24 (Or.inr (slot_ne (Or.inr (hw _ (List.mem_of_getElem? (i := 76) rfl))) (Or.inr (hw _ (List.mem_of_getElem? (i := 72) rfl))) (by decide) (t := (.object "java/util/List")) (t' := .long) (by decide) (by decide)))).other W30 (Or.inr (slot_ne (Or.inr (hw _ (List.mem_of_getElem? (i := 76) rfl))) (Or.inr (hw _ (List.mem_of_getElem? (i := 74) rfl))) (by decide) (t := (.object "java/util/List")) (t' := .long) (by decide) (by decide))))
  obtain ⟨T36, h36, X36, e36, W36, st36⟩ := putF X30 hx hZ hown (host := "") (Or.inl (hw _ (List.mem_of_getElem? (i := 75) rfl))) Via.refl e30 f35 f34 (Or.inr ⟨(hw _ (List.mem_of_getElem? (i := 76) rfl)), rfl, hnm⟩) (hw _ (List.mem_of_getElem? (i := 28) rfl)) (ty := (.object "java/util/List")) (v := (.ref pl)) (by decide) rfl rfl (g := (mkF m 34 #[.val (.ref a0), .val (.long z1), .second, .val (.long z2), .second, .val (.long z3), .second, .val (.ref pl), .val pd] [(.ref pl), (.ref a0)])) rfl rfl (hb hby d5_34)
  refine Go.step st36 ?_
  have N36 := Fr.snoc X36 N30 g_11
  have z37 : n0 ≤ h36.size := Nat.le_trans z31 (Keep.of_wr W36).1
  have sqz37 : h0.size ≤ h36.size := Nat.le_trans sqz31 (Keep.of_wr W36).1
  have k38 : Keep h0 h36 [a0] := k32.wr W36 (Or.inl (List.mem_of_getElem? (i := 0) rfl))
  have f39 : Fld Z h36 a0 "com/example/punctual_lease/punctuallease/Node" "acl" "Ljava/util/List;" (.ref pl) := f35.same W36
  show Go _ _ _ _ _ _ _ (T36.setTop (mkF m 37 #[.val (.ref a0), .val (.long z1), .second, .val (.long z2), .second, .val (.long z3), .second, .val (.ref pl), .val pd] []))
  refine Go.step (fun _ k => XS.aloadN X36.here hx rfl (hb hby d5_37) rfl rfl  k) ?_
  show Go _ _ _ _ _ _ _ (T36.setTop (mkF m 38 #[.val (.ref a0), .val (.long z1), .second, .val (.long z2), .second, .val (.long z3), .second, .val (.ref pl), .val pd] [(.ref a0)]))
  refine Go.step (fun _ k => XS.aload X36.here hx rfl (hb hby d5_38) rfl (by assumption)  k) ?_
  show Go _ _ _ _ _ _ _ (T36.setTop (mkF m 40 #[.val (.ref a0), .val (.long z1), .second, .val (.long z2), .second, .val (.long z3), .second, .val (.ref pl), .val pd] [pd, (.ref a0)]))
  have f40 : Exa Z h36 a0 "com/example/punctual_lease/punctuallease/Node" := (f34.wr W36)
  have f41 : Fld Z h36 a0 "com/example/punctual_lease/punctuallease/Node" "data" "[B" .null := (((((((F_7.ext E2).keep K7 (ninS ne3 nin0)).other W12 (Or.inr (slot_ne (Or.inl (hw _ (List.mem_of_getElem? (i := 78) rfl))) (Or.inr (hw _ (List.mem_of_getElem? (i := 68) rfl))) (by decide) (t := (.array .byte)) (t' := (.object "java/util/Set")) (by decide) (by decide)))).other W18 (Or.inr (slot_ne (Or.inl (hw _ (List.mem_of_getElem? (i := 78) rfl))) (Or.inr (hw _ (List.mem_of_getElem? (i := 70) rfl))) (by decide) (t := (.array .byte)) (t' := .long) (by decide) (by decide)))).other W24 (Or.inr (slot_ne (Or.inl (hw _ (List.mem_of_getElem? (i := 78) rfl))) (Or.inr (hw _ (List.mem_of_getElem? (i := 72) rfl))) (by decide) (t := (.array .byte)) (t' := .long) (by decide) (by decide)))).other W30 (Or.inr (slot_ne (Or.inl (hw _ (List.mem_of_getElem? (i := 78) rfl))) (Or.inr (hw _ (List.mem_of_getElem? (i := 74) rfl))) (by decide) (t := (.array .byte)) (t' := .long) (by decide) (by decide)))).other W36 (Or.inr (slot_ne (Or.inl (hw _ (List.mem_of_getElem? (i := 78) rfl))) (Or.inr (hw _ (List.mem_of_getElem? (i := 76) rfl))) (by decide) (t := (.array .byte)) (t' := (.object "java/util/List")) (by decide) (by decide))))
  obtain ⟨T42, h42, X42, e42, W42, st42⟩ := putF X36 hx hZ hown (host := "") (Or.inl (hw _ (List.mem_of_getElem? (i := 77) rfl))) Via.refl e36 f41 f40 (Or.inl (hw _ (List.mem_of_getElem? (i := 78) rfl))) (hw _ (List.mem_of_getElem? (i := 28) rfl)) (ty := (.array .byte)) (v := pd) (by decide) (narrow_ref (by assumption) rfl) (fits_refV (by assumption) rfl) (g := (mkF m 40 #[.val (.ref a0), .val (.long z1), .second, .val (.long z2), .second, .val (.long z3), .second, .val (.ref pl), .val pd] [pd, (.ref a0)])) rfl rfl (hb hby d5_40)
  refine Go.step st42 ?_
  have N42 := Fr.snoc X42 N36 g_11
  have z43 : n0 ≤ h42.size := Nat.le_trans z37 (Keep.of_wr W42).1
  have sqz43 : h0.size ≤ h42.size := Nat.le_trans sqz37 (Keep.of_wr W42).1
  have k44 : Keep h0 h42 [a0] := k38.wr W42 (Or.inl (List.mem_of_getElem? (i := 0) rfl))
  have f45 : Fld Z h42 a0 "com/example/punctual_lease/punctuallease/Node" "data" "[B" pd := f41.same W42
  show Go _ _ _ _ _ _ _ (T42.setTop (mkF m 43 #[.val (.ref a0), .val (.long z1), .second, .val (.long z2), .second, .val (.long z3), .second, .val (.ref pl), .val pd] []))
  refine Go.step (fun _ k => XS.aloadN X42.here hx rfl (hb hby d5_43) rfl rfl  k) ?_
  show Go _ _ _ _ _ _ _ (T42.setTop (mkF m 44 #[.val (.ref a0), .val (.long z1), .second, .val (.long z2), .second, .val (.long z3), .second, .val (.ref pl), .val pd] [(.ref a0)]))
  refine Go.step (fun _ k => XS.lloadN X42.here hx rfl (hb hby d5_44) rfl  k) ?_
  show Go _ _ _ _ _ _ _ (T42.setTop (mkF m 45 #[.val (.ref a0), .val (.long z1), .second, .val (.long z2), .second, .val (.long z3), .second, .val (.ref pl), .val pd] [(.long z1), (.ref a0)]))
  have f46 : Exa Z h42 a0 "com/example/punctual_lease/punctuallease/Node" := (f40.wr W42)
  have f47 : Fld Z h42 a0 "com/example/punctual_lease/punctuallease/Node" "mzxid" "J" (.long (0 : Int64)) := ((((((((F_8.ext E2).keep K7 (ninS ne3 nin0)).other W12 (Or.inr (slot_ne (Or.inl (hw _ (List.mem_of_getElem? (i := 80) rfl))) (Or.inr (hw _ (List.mem_of_getElem? (i := 68) rfl))) (by decide) (t := .long) (t' := (.object "java/util/Set")) (by decide) (by decide)))).other W18 (Or.inr (slot_ne (Or.inl (hw _ (List.mem_of_getElem? (i := 80) rfl))) (Or.inr (hw _ (List.mem_of_getElem? (i := 70) rfl))) (by decide) (t := .long) (t' := .long) (by decide) (by decide)))).other W24 (Or.inr (slot_ne (Or.inl (hw _ (List.mem_of_getElem? (i := 80) rfl))) (Or.inr (hw _ (List.mem_of_getElem? (i := 72) rfl))) (by decide) (t := .long) (t' := .long) (by decide) (by decide)))).other W30 (Or.inr (slot_ne (Or.inl (hw _ (List.mem_of_getElem? (i := 80) rfl))) (Or.inr (hw _ (List.mem_of_getElem? (i := 74) rfl))) (by decide) (t := .long) (t' := .long) (by decide) (by decide)))).other W36 (Or.inr (slot_ne (Or.inl (hw _ (List.mem_of_getElem? (i := 80) rfl))) (Or.inr (hw _ (List.mem_of_getElem? (i := 76) rfl))) (by decide) (t := .long) (t' := (.object "java/util/List")) (by decide) (by decide)))).other W42 (Or.inr (slot_ne (Or.inl (hw _ (List.mem_of_getElem? (i := 80) rfl))) (Or.inl (hw _ (List.mem_of_getElem? (i := 78) rfl))) (by decide) (t := .long) (t' := (.array .byte)) (by decide) (by decide))))
  obtain ⟨T48, h48, X48, e48, W48, st48⟩ := putF X42 hx hZ hown (host := "") (Or.inl (hw _ (List.mem_of_getElem? (i := 79) rfl))) Via.refl e42 f47 f46 (Or.inl (hw _ (List.mem_of_getElem? (i := 80) rfl))) (hw _ (List.mem_of_getElem? (i := 28) rfl)) (ty := .long) (v := (.long z1)) (by decide) rfl rfl (g := (mkF m 45 #[.val (.ref a0), .val (.long z1), .second, .val (.long z2), .second, .val (.long z3), .second, .val (.ref pl), .val pd] [(.long z1), (.ref a0)])) rfl rfl (hb hby d5_45)
  refine Go.step st48 ?_
  have N48 := Fr.snoc X48 N42 g_11
  have z49 : n0 ≤ h48.size := Nat.le_trans z43 (Keep.of_wr W48).1
  have sqz49 : h0.size ≤ h48.size := Nat.le_trans sqz43 (Keep.of_wr W48).1
  have k50 : Keep h0 h48 [a0] := k44.wr W48 (Or.inl (List.mem_of_getElem? (i := 0) rfl))
  have f51 : Fld Z h48 a0 "com/example/punctual_lease/punctuallease/Node" "mzxid" "J" (.long z1) := f47.same W48
  show Go _ _ _ _ _ _ _ (T48.setTop (mkF m 48 #[.val (.ref a0), .val (.long z1), .second, .val (.long z2), .second, .val (.long z3), .second, .val (.ref pl), .val pd] []))
  refine Go.step (fun _ k => XS.aloadN X48.here hx rfl (hb hby d5_48) rfl rfl  k) ?_
  show Go _ _ _ _ _ _ _ (T48.setTop (mkF m 49 #[.val (.ref a0), .val (.long z1), .second, .val (.long z2), .second, .val (.long z3), .second, .val (.ref pl), .val pd] [(.ref a0)]))
  refine Go.step (fun _ k => XS.lloadN X48.here hx rfl (hb hby d5_49) rfl  k) ?_
  show Go _ _ _ _ _ _ _ (T48.setTop (mkF m 50 #[.val (.ref a0), .val (.long z1), .second, .val (.long z2), .second, .val (.long z3), .second, .val (.ref pl), .val pd] [(.long z2), (.ref a0)]))
  have f52 : Exa Z h48 a0 "com/example/punctual_lease/punctuallease/Node" := (f46.wr W48)
  have f53 : Fld Z h48 a0 "com/example/punctual_lease/punctuallease/Node" "mtime" "J" (.long (0 : Int64)) := (((((((((F_9.ext E2).keep K7 (ninS ne3 nin0)).other W12 (Or.inr (slot_ne (Or.inl (hw _ (List.mem_of_getElem? (i := 82) rfl))) (Or.inr (hw _ (List.mem_of_getElem? (i := 68) rfl))) (by decide) (t := .long) (t' := (.object "java/util/Set")) (by decide) (by decide)))).other W18 (Or.inr (slot_ne (Or.inl (hw _ (List.mem_of_getElem? (i := 82) rfl))) (Or.inr (hw _ (List.mem_of_getElem? (i := 70) rfl))) (by decide) (t := .long) (t' := .long) (by decide) (by decide)))).other W24 (Or.inr (slot_ne (Or.inl (hw _ (List.mem_of_getElem? (i := 82) rfl))) (Or.inr (hw _ (List.mem_of_getElem? (i := 72) rfl))) (by decide) (t := .long) (t' := .long) (by decide) (by decide)))).other W30 (Or.inr (slot_ne (Or.inl (hw _ (List.mem_of_getElem? (i := 82) rfl))) (Or.inr (hw _ (List.mem_of_getElem? (i := 74) rfl))) (by decide) (t := .long) (t' := .long) (by decide) (by decide)))).other W36 (Or.inr (slot_ne (Or.inl (hw _ (List.mem_of_getElem? (i := 82) rfl))) (Or.inr (hw _ (List.mem_of_getElem? (i := 76) rfl))) (by decide) (t := .long) (t' := (.object "java/util/List")) (by decide) (by decide)))).other W42 (Or.inr (slot_ne (Or.inl (hw _ (List.mem_of_getElem? (i := 82) rfl))) (Or.inl (hw _ (List.mem_of_getElem? (i := 78) rfl))) (by decide) (t := .long) (t' := (.array .byte)) (by decide) (by decide)))).other W48 (Or.inr (slot_ne (Or.inl (hw _ (List.mem_of_getElem? (i := 82) rfl))) (Or.inl (hw _ (List.mem_of_getElem? (i := 80) rfl))) (by decide) (t := .long) (t' := .long) (by decide) (by decide))))
  obtain ⟨T54, h54, X54, e54, W54, st54⟩ := putF X48 hx hZ hown (host := "") (Or.inl (hw _ (List.mem_of_getElem? (i := 81) rfl))) Via.refl e48 f53 f52 (Or.inl (hw _ (List.mem_of_getElem? (i := 82) rfl))) (hw _ (List.mem_of_getElem? (i := 28) rfl)) (ty := .long) (v := (.long z2)) (by decide) rfl rfl (g := (mkF m 50 #[.val (.ref a0), .val (.long z1), .second, .val (.long z2), .second, .val (.long z3), .second, .val (.ref pl), .val pd] [(.long z2), (.ref a0)])) rfl rfl (hb hby d5_50)
  refine Go.step st54 ?_
  have N54 := Fr.snoc X54 N48 g_11
  have z55 : n0 ≤ h54.size := Nat.le_trans z49 (Keep.of_wr W54).1
  have sqz55 : h0.size ≤ h54.size := Nat.le_trans sqz49 (Keep.of_wr W54).1
  have k56 : Keep h0 h54 [a0] := k50.wr W54 (Or.inl (List.mem_of_getElem? (i := 0) rfl))
  have f57 : Fld Z h54 a0 "com/example/punctual_lease/punctuallease/Node" "mtime" "J" (.long z2) := f53.same W54
  show Go _ _ _ _ _ _ _ (T54.setTop (mkF m 53 #[.val (.ref a0), .val (.long z1), .second, .val (.long z2), .second, .val (.long z3), .second, .val (.ref pl), .val pd] []))
  refine Go.step (fun _ k => XS.aloadN X54.here hx rfl (hb hby d5_53) rfl rfl  k) ?_
  show Go _ _ _ _ _ _ _ (T54.setTop (mkF m 54 #[.val (.ref a0), .val (.long z1), .second, .val (.long z2), .second, .val (.long z3), .second, .val (.ref pl), .val pd] [(.ref a0)]))
  refine Go.step (fun _ k => XS.lloadN X54.here hx rfl (hb hby d5_54) rfl  k) ?_
  show Go _ _ _ _ _ _ _ (T54.setTop (mkF m 55 #[.val (.ref a0), .val (.long z1), .second, .val (.long z2), .second, .val (.long z3), .second, .val (.ref pl), .val pd] [(.long z1), (.ref a0)]))
  have f58 : Exa Z h54 a0 "com/example/punctual_lease/punctuallease/Node" := (f52.wr W54)
  have f59 : Fld Z h54 a0 "com/example/punctual_lease/punctuallease/Node" "pzxid" "J" (.long (0 : Int64)) := ((((((((((F_10.ext E2).keep K7 (ninS ne3 nin0)).other W12 (Or.inr (slot_ne (Or.inl (hw _ (List.mem_of_getElem? (i := 84) rfl))) (Or.inr (hw _ (List.mem_of_getElem? (i := 68) rfl))) (by decide) (t := .long) (t' := (.object "java/util/Set")) (by decide) (by decide)))).other W18 (Or.inr (slot_ne (Or.inl (hw _ (List.mem_of_getElem? (i := 84) rfl))) (Or.inr (hw _ (List.mem_of_getElem? (i := 70) rfl))) (by decide) (t := .long) (t' := .long) (by decide) (by decide)))).other W24 (Or.inr (slot_ne (Or.inl (hw _ (List.mem_of_getElem? (i := 84) rfl))) (Or.inr (hw _ (List.mem_of_getElem? (i := 72) rfl))) (by decide) (t := .long) (t' := .long) (by decide) (by decide)))).other W30 (Or.inr (slot_ne (Or.inl (hw _ (List.mem_of_getElem? (i := 84) rfl))) (Or.inr (hw _ (List.mem_of_getElem? (i := 74) rfl))) (by decide) (t := .long) (t' := .long) (by decide) (by decide)))).other W36 (Or.inr (slot_ne (Or.inl (hw _ (List.mem_of_getElem? (i := 84) rfl))) (Or.inr (hw _ (List.mem_of_getElem? (i := 76) rfl))) (by decide) (t := .long) (t' := (.object "java/util/List")) (by decide) (by decide)))).other W42 (Or.inr (slot_ne (Or.inl (hw _ (List.mem_of_getElem? (i := 84) rfl))) (Or.inl (hw _ (List.mem_of_getElem? (i := 78) rfl))) (by decide) (t := .long) (t' := (.array .byte)) (by decide) (by decide)))).other W48 (Or.inr (slot_ne (Or.inl (hw _ (List.mem_of_getElem? (i := 84) rfl))) (Or.inl (hw _ (List.mem_of_getElem? (i := 80) rfl))) (by decide) (t := .long) (t' := .long) (by decide) (by decide)))).other W54 (Or.inr (slot_ne (Or.inl (hw _ (List.mem_of_getElem? (i := 84) rfl))) (Or.inl (hw _ (List.mem_of_getElem? (i := 82) rfl))) (by decide) (t := .long) (t' := .long) (by decide) (by decide))))
  obtain ⟨T60, h60, X60, e60, W60, st60⟩ := putF X54 hx hZ hown (host := "") (Or.inl (hw _ (List.mem_of_getElem? (i := 83) rfl))) Via.refl e54 f59 f58 (Or.inl (hw _ (List.mem_of_getElem? (i := 84) rfl))) (hw _ (List.mem_of_getElem? (i := 28) rfl)) (ty := .long) (v := (.long z1)) (by decide) rfl rfl (g := (mkF m 55 #[.val (.ref a0), .val (.long z1), .second, .val (.long z2), .second, .val (.long z3), .second, .val (.ref pl), .val pd] [(.long z1), (.ref a0)])) rfl rfl (hb hby d5_55)
  refine Go.step st60 ?_
  have N60 := Fr.snoc X60 N54 g_11
  have z61 : n0 ≤ h60.size := Nat.le_trans z55 (Keep.of_wr W60).1
  have sqz61 : h0.size ≤ h60.size := Nat.le_trans sqz55 (Keep.of_wr W60).1
  have k62 : Keep h0 h60 [a0] := k56.wr W60 (Or.inl (List.mem_of_getElem? (i := 0) rfl))
  have f63 : Fld Z h60 a0 "com/example/punctual_lease/punctuallease/Node" "pzxid" "J" (.long z1) := f59.same W60
  show Go _ _ _ _ _ _ _ (T60.setTop (mkF m 58 #[.val (.ref a0), .val (.long z1), .second, .val (.long z2), .second, .val (.long z3), .second, .val (.ref pl), .val pd] []))
  have f64 : Exa Z h60 a0 "com/example/punctual_lease/punctuallease/Node" := (f58.wr W60)
  have f65 : Fld Z h60 a0 "com/example/punctual_lease/punctuallease/Node" "ephemeralOwner" "J" (.long z3) := (((((f33.other W36 (Or.inr (slot_ne (Or.inr (hw _ (List.mem_of_getElem? (i := 74) rfl))) (Or.inr (hw _ (List.mem_of_getElem? (i := 76) rfl))) (by decide) (t := .long) (t' := (.object "java/util/List")) (by decide) (by decide)))).other W42 (Or.inr (slot_ne (Or.inr (hw _ (List.mem_of_getElem? (i := 74) rfl))) (Or.inl (hw _ (List.mem_of_getElem? (i := 78) rfl))) (by decide) (t := .long) (t' := (.array .byte)) (by decide) (by decide)))).other W48 (Or.inr (slot_ne (Or.inr (hw _ (List.mem_of_getElem? (i := 74) rfl))) (Or.inl (hw _ (List.mem_of_getElem? (i := 80) rfl))) (by decide) (t := .long) (t' := .long) (by decide) (by decide)))).other W54 (Or.inr (slot_ne (Or.inr (hw _ (List.mem_of_getElem? (i := 74) rfl))) (Or.inl (hw _ (List.mem_of_getElem? (i := 82) rfl))) (by decide) (t := .long) (t' := .long) (by decide) (by decide)))).other W60 (Or.inr (slot_ne (Or.inr (hw _ (List.mem_of_getElem? (i := 74) rfl))) (Or.inl (hw _ (List.mem_of_getElem? (i := 84) rfl))) (by decide) (t := .long) (t' := .long) (by decide) (by decide))))
  refine Go.retV X60 hx Bd.returns hlk (hb hby d5_58) ?_ (by decide) (by decide)
  rw [e60]
  exact ⟨(rfl), N60, k62, f64, f65⟩
theorem d10_0 : decode prog_5_method_2_code 0 = .ok (.aload_n 0, 1) := by decide +kernel
theorem d10_1 : decode prog_5_method_2_code 1 = .ok (.getfield 23, 3) := by decide +kernel
theorem d10_4 : decode prog_5_method_2_code 4 = .ok (.lconst 0, 1) := by decide +kernel
theorem d10_5 : decode prog_5_method_2_code 5 = .ok (.lcmp, 1) := by decide +kernel
theorem d10_6 : decode prog_5_method_2_code 6 = .ok (.ifCond .eq 7, 3) := by decide +kernel
theorem d10_9 : decode prog_5_method_2_code 9 = .ok (.iconst 1, 1) := by decide +kernel
theorem d10_10 : decode prog_5_method_2_code 10 = .ok (.goto 4, 3) := by decide +kernel
theorem d10_13 : decode prog_5_method_2_code 13 = .ok (.iconst 0, 1) := by decide +kernel
theorem d10_14 : decode prog_5_method_2_code 14 = .ok (.ireturn, 1) := by decide +kernel
theorem ef_10 (m : MethodId) (a0 : Addr) : entryFrame m #[(.ref a0)] 1 = mkF m 0 #[.val (.ref a0)] [] := by first | (simp [entryFrame, mkF, argsToLocals, Value.category]; done) | rfl
def Q10 (Z : State) (a0 : Addr) (w : Int64) (h0 : Heap) (n0 : Nat) (v : Option Value) (h : Heap) (L : List Loc) : Prop := (v = some (.int (if w = 0 then (0 : Int32) else 1))) ∧ (Fr n0 L) ∧ (h = h0)
set_option maxRecDepth 65536 in
set_option maxHeartbeats 40000000 in
theorem rm10 (l : Launch) (Z : State) (aZ : Array Value) (hw : ∀ d ∈ tables_1, d.before aZ Z = true) (ws : List Jvm.Cond) (a0 : Addr) (w : Int64) (h0 : Heap) (n0 : Nat) (Z0 : n0 ≤ h0.size) (F_0 : Fld Z h0 a0 "com/example/punctual_lease/punctuallease/Node" "ephemeralOwner" "J" (.long w)) :
    MetFree l (⟨"com/example/punctual_lease/punctuallease/Node", "isEphemeral", "()Z"⟩ : MethodName) (head1 (Jvm.Cond.code (⟨"com/example/punctual_lease/punctuallease/Node", "isEphemeral", "()Z"⟩ : MethodName) prog_5_method_2_code 1 (some .boolean) :: ws) ({ frames := 0, cells := 0, slots := 0, locals := 0 } : Room)) (fun a U => a = #[(.ref a0)] ∧ Z.Warmed39 U.vm ∧ U.heap = h0) (fun _ _ _ _ _ => True) (fun _ U o U' => ∃ v L, o = .returned v ∧ Q10 Z a0 w h0 n0 v U'.heap L ∧ FrameEnd U o U' L ({ frames := 0, cells := 0, slots := 0, locals := 0 } : Room).cells ({ frames := 0, cells := 0, slots := 0, locals := 0 } : Room).slots) := by
  refine MetFree.of_bodySF (plainFor_of_name pn_7) hisR ?_
  intro p e s m args below meth c s₁ Bd hml0 hP hK
  obtain ⟨rfl, hZ, hh⟩ := hP
  have hx := Bd.exec
  have hby := Bd.bytes
  have hml : c.maxLocals = 1 := hml0
  have hown : s.vm.findClass "com/example/punctual_lease/punctuallease/Node" = some m.cls := findClass_of_methodNamed Bd.named
  have hnm := (name_of_methodNamed Bd.named Bd.method).1
  have hlk : meth.locks = false := BodyLoose.notSynchronized Bd
  have X0 : Stand p l e ({ frames := 0, cells := 0, slots := 0, locals := 0 } : Room) s m #[(.ref a0)] below meth c s₁ [] 0 0 := Stand.of_body Bd
  have e0 : s₁.heap = h0 := by rw [← hh, Bd.state]; rfl
  have N0 := Fr.nil n0
  have sq0 : h0.size ≤ h0.size := Nat.le_refl _
  change Go p e below s ({ frames := 0, cells := 0, slots := 0, locals := 0 } : Room).cells ({ frames := 0, cells := 0, slots := 0, locals := 0 } : Room).slots (Q10 Z a0 w h0 n0) (s₁.setTop (entryFrame m #[(.ref a0)] 1))
  rw [ef_10 m a0]
  show Go _ _ _ _ _ _ _ (s₁.setTop (mkF m 0 #[.val (.ref a0)] []))
  refine Go.step (fun _ k => XS.aloadN X0.here hx rfl (hb hby d10_0) rfl rfl  k) ?_
  show Go _ _ _ _ _ _ _ (s₁.setTop (mkF m 1 #[.val (.ref a0)] [(.ref a0)]))
  obtain ⟨T1, X1, e1, st1⟩ := getF X0 hx hZ hown (host := "") (Or.inl (hw _ (List.mem_of_getElem? (i := 73) rfl))) Via.refl e0 F_0 (g := (mkF m 1 #[.val (.ref a0)] [(.ref a0)])) rfl rfl (hb hby d10_1)
  refine Go.step st1 ?_
  show Go _ _ _ _ _ _ _ (T1.setTop (mkF m 4 #[.val (.ref a0)] [(.long w)]))
  refine Go.step (fun _ k => XS.lconst X1.here hx rfl (hb hby d10_4) k) ?_
  show Go _ _ _ _ _ _ _ (T1.setTop (mkF m 5 #[.val (.ref a0)] [(.long (0 : Int64)), (.long w)]))
  refine Go.step (fun _ k => XS.lcmp X1.here hx rfl (hb hby d10_5) rfl k) ?_
  show Go _ _ _ _ _ _ _ (T1.setTop (mkF m 6 #[.val (.ref a0)] [(.int (lcmpW w (0 : Int64)))]))
  by_cases hc6 : (lcmpW w (0 : Int64)) = (0 : Int32)
  · skip
    refine Go.step (fun _ k => XS.ifYes X1.here hx rfl (pc0 := 6) (pc' := 13) rfl (hb hby d10_6) rfl ((if0 _ _).trans (teq hc6).1) (by decide) (by decide) k) ?_
    show Go _ _ _ _ _ _ _ (T1.setTop (mkF m 13 #[.val (.ref a0)] []))
    refine Go.step (fun _ k => XS.iconst X1.here hx rfl (hb hby d10_13) k) ?_
    show Go _ _ _ _ _ _ _ (T1.setTop (mkF m 14 #[.val (.ref a0)] [(.int (0 : Int32))]))
    refine Go.retN X1 hx (t := .boolean) Bd.returns (by simp) hlk (hb hby d10_14) ?_ (by decide) (by decide)
    rw [e1]
    exact ⟨(by rw [own_nb0, own_e0 hc6]), N0, rfl⟩
  · skip
    refine Go.step (fun _ k => XS.ifNo X1.here hx rfl (hb hby d10_6) rfl ((if0 _ _).trans (feq hc6).1) k) ?_
    show Go _ _ _ _ _ _ _ (T1.setTop (mkF m 9 #[.val (.ref a0)] []))
    refine Go.step (fun _ k => XS.iconst X1.here hx rfl (hb hby d10_9) k) ?_
    show Go _ _ _ _ _ _ _ (T1.setTop (mkF m 10 #[.val (.ref a0)] [(.int (1 : Int32))]))
    refine Go.step (fun _ k => XS.goto X1.here hx rfl (pc0 := 10) (pc' := 14) rfl (hb hby d10_10) (by decide) (by decide) k) ?_
    show Go _ _ _ _ _ _ _ (T1.setTop (mkF m 14 #[.val (.ref a0)] [(.int (1 : Int32))]))
    refine Go.retN X1 hx (t := .boolean) Bd.returns (by simp) hlk (hb hby d10_14) ?_ (by decide) (by decide)
    rw [e1]
    exact ⟨(by rw [own_nb1, own_e1 hc6]), N0, rfl⟩
theorem pn_8 : plainName "com/example/punctual_lease/punctuallease/NodeIsEphemeralPinLaw" = true := by first | (simp [plainName, overriddenIn]; done) | decide +kernel
theorem pd_1 : parseMethodDescriptor "(JJJLjava/util/List;[B)V" = some ⟨[.long, .long, .long, (.object "java/util/List"), (.array .byte)], none⟩ := by decide +kernel
theorem pd_2 : parseMethodDescriptor "()Z" = some ⟨[], some .boolean⟩ := by decide +kernel
theorem ef_0 (m : MethodId) (zx : Int64) (zn : Int64) (zo : Int64) (qf : Int32) : entryFrame m #[(.long zx), (.long zn), (.long zo), (.int qf)] maxLocals = mkF m 0 #[.val (.long zx), .second, .val (.long zn), .second, .val (.long zo), .second, .val (.int qf), .unset, .unset, .unset, .unset, .unset, .unset, .unset] [] := by first | (simp [entryFrame, mkF, argsToLocals, Value.category, maxLocals]; done) | rfl
def Q0 (Z : State) (zx : Int64) (zn : Int64) (zo : Int64) (qf : Int32) (w0 : Addr) (h0 : Heap) (n0 : Nat) (v : Option Value) (h : Heap) (L : List Loc) : Prop := (v = some (.int 1)) ∧ (Fr n0 L)
set_option maxRecDepth 65536 in
set_option maxHeartbeats 40000000 in
theorem rm0 (l : Launch) (Z : State) (aZ : Array Value) (hw : ∀ d ∈ tables_1, d.before aZ Z = true) (ws : List Jvm.Cond) (zx : Int64) (zn : Int64) (zo : Int64) (qf : Int32) (w0 : Addr) (h0 : Heap) (n0 : Nat) (Z0 : n0 ≤ h0.size) (O_0 : Old Z n0 h0) (S_1 : Sta Z Z.heap "java/util/ArrayList" "DEFAULTCAPACITY_EMPTY_ELEMENTDATA" "[Ljava/lang/Object;" (.ref w0)) :
    MetFree l x (head1 (Jvm.Cond.code x code maxLocals ret :: ws) room_1) (fun a U => a = #[(.long zx), (.long zn), (.long zo), (.int qf)] ∧ Z.Warmed39 U.vm ∧ U.heap = h0) (fun _ _ _ _ _ => True) (fun _ U o U' => ∃ v L, o = .returned v ∧ Q0 Z zx zn zo qf w0 h0 n0 v U'.heap L ∧ FrameEnd U o U' L 8 48) := by
  refine MetFree.of_bodySF (plainFor_of_name pn_8) hisR ?_
  intro p e s m args below meth c s₁ Bd hml0 hP hK
  obtain ⟨rfl, hZ, hh⟩ := hP
  have hx := Bd.exec
  have hby := Bd.bytes
  have hml : c.maxLocals = 14 := hml0
  have hown : s.vm.findClass "com/example/punctual_lease/punctuallease/NodeIsEphemeralPinLaw" = some m.cls := findClass_of_methodNamed Bd.named
  have hnm := (name_of_methodNamed Bd.named Bd.method).1
  have hlk : meth.locks = false := BodyLoose.notSynchronized Bd
  have X0 : Stand p l e room_1 s m #[(.long zx), (.long zn), (.long zo), (.int qf)] below meth c s₁ [] 0 0 := Stand.of_body Bd
  have e0 : s₁.heap = h0 := by rw [← hh, Bd.state]; rfl
  have N0 := Fr.nil n0
  have sq0 : h0.size ≤ h0.size := Nat.le_refl _
  change Go p e below s 8 48 (Q0 Z zx zn zo qf w0 h0 n0) (s₁.setTop (entryFrame m #[(.long zx), (.long zn), (.long zo), (.int qf)] maxLocals))
  rw [ef_0 m zx zn zo qf]
  have J13_1 : ∀ (oo : Int64) (TJ1 : State) (locs1 : List Loc) (X1 : Stand p l e room_1 s m #[(.long zx), (.long zn), (.long zo), (.int qf)] below meth c TJ1 locs1 0 0) (e1 : TJ1.heap = h0) (N1 : Fr n0 locs1), Go p e below s 8 48 (Q0 Z zx zn zo qf w0 h0 n0) (TJ1.setTop (mkF m 13 #[.val (.long zx), .second, .val (.long zn), .second, .val (.long zo), .second, .val (.int qf), .unset, .unset, .unset, .unset, .unset, .unset, .unset] [(.long oo)])) := by
    intro oo TJ1 locs1 X1 e1 N1
    show Go _ _ _ _ _ _ _ (TJ1.setTop (mkF m 13 #[.val (.long zx), .second, .val (.long zn), .second, .val (.long zo), .second, .val (.int qf), .unset, .unset, .unset, .unset, .unset, .unset, .unset] [(.long oo)]))
    refine Go.step (fun _ k => XS.lstore X1.here hx rfl (hb hby at_13) rfl (l' := #[.val (.long zx), .second, .val (.long zn), .second, .val (.long zo), .second, .val (.int qf), .val (.long oo), .second, .unset, .unset, .unset, .unset, .unset]) rfl k) ?_
    have J34_2 : ∀ (dd : Value) (hJ2 : Heap) (TJ2 : State) (locs2 : List Loc) (X2 : Stand p l e room_1 s m #[(.long zx), (.long zn), (.long zo), (.int qf)] below meth c TJ2 locs2 1 3) (e2 : TJ2.heap = hJ2) (N2 : Fr n0 locs2) (K2 : Keep h0 hJ2 []) (hdd : dd.isRef = true), Go p e below s 8 48 (Q0 Z zx zn zo qf w0 h0 n0) (TJ2.setTop (mkF m 34 #[.val (.long zx), .second, .val (.long zn), .second, .val (.long zo), .second, .val (.int qf), .val (.long oo), .second, .unset, .unset, .unset, .unset, .unset] [dd])) := by
      intro dd hJ2 TJ2 locs2 X2 e2 N2 K2 hdd
      have z3 : n0 ≤ hJ2.size := Nat.le_trans Z0 K2.1
      have sqz3 : h0.size ≤ hJ2.size := Nat.le_trans sq0 K2.1
      show Go _ _ _ _ _ _ _ (TJ2.setTop (mkF m 34 #[.val (.long zx), .second, .val (.long zn), .second, .val (.long zo), .second, .val (.int qf), .val (.long oo), .second, .unset, .unset, .unset, .unset, .unset] [dd]))
      refine Go.step (fun _ k => XS.astore X2.here hx rfl (hb hby at_34) rfl (by assumption) (l' := #[.val (.long zx), .second, .val (.long zn), .second, .val (.long zo), .second, .val (.int qf), .val (.long oo), .second, .val dd, .unset, .unset, .unset, .unset]) (by rcases ref_cases (by assumption : dd.isRef = true) with q | ⟨_, q⟩ <;> rw [q] <;> rfl) k) ?_
      show Go _ _ _ _ _ _ _ (TJ2.setTop (mkF m 36 #[.val (.long zx), .second, .val (.long zn), .second, .val (.long zo), .second, .val (.int qf), .val (.long oo), .second, .val dd, .unset, .unset, .unset, .unset] []))
      obtain ⟨T5, h5, X5, e5, E5, A5, D5, -, st5⟩ := newO X2 hx hZ hown (hw _ (List.mem_of_getElem? (i := 1) rfl)) (hw _ (List.mem_of_getElem? (i := 2) rfl)) (hw _ (List.mem_of_getElem? (i := 3) rfl)) e2 (g := (mkF m 36 #[.val (.long zx), .second, .val (.long zn), .second, .val (.long zo), .second, .val (.int qf), .val (.long oo), .second, .val dd, .unset, .unset, .unset, .unset] [])) rfl (hb hby at_36) (by decide) (by decide)
      obtain ⟨b5, g5⟩ : ∃ z, z = hJ2.size := ⟨_, rfl⟩
      rw [← g5] at A5 D5 st5
      refine Go.step st5 ?_
      have gn5 : n0 ≤ b5 := Nat.le_trans z3 (Nat.le_of_eq g5.symm)
      have sz5 : h0.size ≤ b5 := Nat.le_trans sqz3 (Nat.le_of_eq g5.symm)
      have z6 : n0 ≤ h5.size := Nat.le_trans z3 E5.1
      have sqz6 : h0.size ≤ h5.size := Nat.le_trans sqz3 E5.1
      have f8 : Fld Z h5 b5 "java/util/AbstractList" "modCount" "I" (.int (0 : Int32)) := D5 (Or.inl (hw _ (List.mem_of_getElem? (i := 23) rfl))) (ty := .int) (by decide)
      have f9 : Fld Z h5 b5 "java/util/ArrayList" "elementData" "[Ljava/lang/Object;" .null := D5 (Or.inl (hw _ (List.mem_of_getElem? (i := 26) rfl))) (ty := (.array (.object "java/lang/Object"))) (by decide)
      show Go _ _ _ _ _ _ _ (T5.setTop (mkF m 39 #[.val (.long zx), .second, .val (.long zn), .second, .val (.long zo), .second, .val (.int qf), .val (.long oo), .second, .val dd, .unset, .unset, .unset, .unset] [(.ref b5)]))
      refine Go.step (fun _ k => XS.dup X5.here hx rfl (hb hby at_39) rfl rfl k) ?_
      show Go _ _ _ _ _ _ _ (T5.setTop (mkF m 40 #[.val (.long zx), .second, .val (.long zn), .second, .val (.long zo), .second, .val (.int qf), .val (.long oo), .second, .val dd, .unset, .unset, .unset, .unset] [(.ref b5), (.ref b5)]))
      have f10 : Old Z n0 h5 := ((O_0.keep K2 all0).ext E5)
      obtain ⟨_, _, ⟨T11, L11, k11, n11⟩, -, X11, ⟨Lc11, hQ11, l11, y11, z11⟩, st11⟩ := X5.specialBack hx (y := (⟨"java/util/ArrayList", "<init>", "()V"⟩ : MethodName)) rfl hown (mvT hZ (hw _ (List.mem_of_getElem? (i := 4) rfl))) (mvT hZ (hw _ (List.mem_of_getElem? (i := 5) rfl))) (mvT hZ (hw _ (List.mem_of_getElem? (i := 6) rfl))) (by decide) (backOf (W := 1) (rm1 l Z aZ hw [] b5 w0 h5 n0 z6 f10 S_1 A5 f8 f9 gn5) hZ (hw _ (List.mem_of_getElem? (i := 6) rfl)) (hw _ (List.mem_of_getElem? (i := 3) rfl)) (by decide) (by decide)) (g := (mkF m 40 #[.val (.long zx), .second, .val (.long zn), .second, .val (.long zo), .second, .val (.int qf), .val (.long oo), .second, .val dd, .unset, .unset, .unset, .unset] [(.ref b5), (.ref b5)])) rfl (by rw [hml]; rfl) (Steps.refl _) (a := b5) (argsL := []) (rest := [(.ref b5)]) (lenOf pd_0 rfl) rfl (by show 2 * 0 + _ ≤ _; exact Nat.le_of_eq rfl) (hb hby at_40) (fun _ _ => ⟨rfl, e5, (by decide : 2 + 0 ≤ _), (by decide : 6 + 0 ≤ _)⟩)
      dsimp only [Pt.U, Pt.locs, Pt.cells, Pt.slots] at X11 l11 y11 z11 st11 hQ11
      subst l11 y11 z11
      obtain ⟨rfl, Nq11, K11, c11_0, c11_1, c11_2⟩ := hQ11
      have N11 := Fr.app N2 Nq11
      refine Go.tr st11 ?_
      have z12 : n0 ≤ T11.heap.size := Nat.le_trans z6 K11.1
      have sqz12 : h0.size ≤ T11.heap.size := Nat.le_trans sqz6 K11.1
      show Go _ _ _ _ _ _ _ (T11.setTop (mkF m 43 #[.val (.long zx), .second, .val (.long zn), .second, .val (.long zo), .second, .val (.int qf), .val (.long oo), .second, .val dd, .unset, .unset, .unset, .unset] [(.ref b5)]))
      refine Go.step (fun _ k => XS.astore X11.here hx rfl (hb hby at_43) rfl rfl (l' := #[.val (.long zx), .second, .val (.long zn), .second, .val (.long zo), .second, .val (.int qf), .val (.long oo), .second, .val dd, .val (.ref b5), .unset, .unset, .unset]) rfl k) ?_
      show Go _ _ _ _ _ _ _ (T11.setTop (mkF m 45 #[.val (.long zx), .second, .val (.long zn), .second, .val (.long zo), .second, .val (.int qf), .val (.long oo), .second, .val dd, .val (.ref b5), .unset, .unset, .unset] []))
      obtain ⟨T14, h14, X14, e14, E14, A14, D14, -, st14⟩ := newO X11 hx hZ hown (hw _ (List.mem_of_getElem? (i := 27) rfl)) (hw _ (List.mem_of_getElem? (i := 28) rfl)) (hw _ (List.mem_of_getElem? (i := 29) rfl)) rfl (g := (mkF m 45 #[.val (.long zx), .second, .val (.long zn), .second, .val (.long zo), .second, .val (.int qf), .val (.long oo), .second, .val dd, .val (.ref b5), .unset, .unset, .unset] [])) rfl (hb hby at_45) (by decide) (by decide)
      obtain ⟨b14, g14⟩ : ∃ z, z = T11.heap.size := ⟨_, rfl⟩
      rw [← g14] at A14 D14 st14
      refine Go.step st14 ?_
      have gn14 : n0 ≤ b14 := Nat.le_trans z12 (Nat.le_of_eq g14.symm)
      have sz14 : h0.size ≤ b14 := Nat.le_trans sqz12 (Nat.le_of_eq g14.symm)
      have ne15 : b5 ≠ b14 := Nat.ne_of_lt (Nat.lt_of_lt_of_le c11_0.lt (Nat.le_of_eq g14.symm))
      have z16 : n0 ≤ h14.size := Nat.le_trans z12 E14.1
      have sqz16 : h0.size ≤ h14.size := Nat.le_trans sqz12 E14.1
      have f18 : Fld Z h14 b14 "com/example/punctual_lease/punctuallease/Node" "children" "Ljava/util/Set;" .null := D14 (Or.inr (hw _ (List.mem_of_getElem? (i := 68) rfl))) (ty := (.object "java/util/Set")) (by decide)
      have f19 : Fld Z h14 b14 "com/example/punctual_lease/punctuallease/Node" "czxid" "J" (.long (0 : Int64)) := D14 (Or.inr (hw _ (List.mem_of_getElem? (i := 70) rfl))) (ty := .long) (by decide)
      have f20 : Fld Z h14 b14 "com/example/punctual_lease/punctuallease/Node" "ctime" "J" (.long (0 : Int64)) := D14 (Or.inr (hw _ (List.mem_of_getElem? (i := 72) rfl))) (ty := .long) (by decide)
      have f21 : Fld Z h14 b14 "com/example/punctual_lease/punctuallease/Node" "ephemeralOwner" "J" (.long (0 : Int64)) := D14 (Or.inr (hw _ (List.mem_of_getElem? (i := 74) rfl))) (ty := .long) (by decide)
      have f22 : Fld Z h14 b14 "com/example/punctual_lease/punctuallease/Node" "acl" "Ljava/util/List;" .null := D14 (Or.inr (hw _ (List.mem_of_getElem? (i := 76) rfl))) (ty := (.object "java/util/List")) (by decide)
      have f23 : Fld Z h14 b14 "com/example/punctual_lease/punctuallease/Node" "data" "[B" .null := D14 (Or.inl (hw _ (List.mem_of_getElem? (i := 78) rfl))) (ty := (.array .byte)) (by decide)
      have f24 : Fld Z h14 b14 "com/example/punctual_lease/punctuallease/Node" "mzxid" "J" (.long (0 : Int64)) := D14 (Or.inl (hw _ (List.mem_of_getElem? (i := 80) rfl))) (ty := .long) (by decide)
      have f25 : Fld Z h14 b14 "com/example/punctual_lease/punctuallease/Node" "mtime" "J" (.long (0 : Int64)) := D14 (Or.inl (hw _ (List.mem_of_getElem? (i := 82) rfl))) (ty := .long) (by decide)
      have f26 : Fld Z h14 b14 "com/example/punctual_lease/punctuallease/Node" "pzxid" "J" (.long (0 : Int64)) := D14 (Or.inl (hw _ (List.mem_of_getElem? (i := 84) rfl))) (ty := .long) (by decide)
      show Go _ _ _ _ _ _ _ (T14.setTop (mkF m 48 #[.val (.long zx), .second, .val (.long zn), .second, .val (.long zo), .second, .val (.int qf), .val (.long oo), .second, .val dd, .val (.ref b5), .unset, .unset, .unset] [(.ref b14)]))
      refine Go.step (fun _ k => XS.dup X14.here hx rfl (hb hby at_48) rfl rfl k) ?_
      show Go _ _ _ _ _ _ _ (T14.setTop (mkF m 49 #[.val (.long zx), .second, .val (.long zn), .second, .val (.long zo), .second, .val (.int qf), .val (.long oo), .second, .val dd, .val (.ref b5), .unset, .unset, .unset] [(.ref b14), (.ref b14)]))
      refine Go.step (fun _ k => XS.lloadN X14.here hx rfl (hb hby at_49) rfl  k) ?_
      show Go _ _ _ _ _ _ _ (T14.setTop (mkF m 50 #[.val (.long zx), .second, .val (.long zn), .second, .val (.long zo), .second, .val (.int qf), .val (.long oo), .second, .val dd, .val (.ref b5), .unset, .unset, .unset] [(.long zx), (.ref b14), (.ref b14)]))
      refine Go.step (fun _ k => XS.lloadN X14.here hx rfl (hb hby at_50) rfl  k) ?_
      show Go _ _ _ _ _ _ _ (T14.setTop (mkF m 51 #[.val (.long zx), .second, .val (.long zn), .second, .val (.long zo), .second, .val (.int qf), .val (.long oo), .second, .val dd, .val (.ref b5), .unset, .unset, .unset] [(.long zn), (.long zx), (.ref b14), (.ref b14)]))
      refine Go.step (fun _ k => XS.lload X14.here hx rfl (hb hby at_51) rfl  k) ?_
      show Go _ _ _ _ _ _ _ (T14.setTop (mkF m 53 #[.val (.long zx), .second, .val (.long zn), .second, .val (.long zo), .second, .val (.int qf), .val (.long oo), .second, .val dd, .val (.ref b5), .unset, .unset, .unset] [(.long oo), (.long zn), (.long zx), (.ref b14), (.ref b14)]))
      refine Go.step (fun _ k => XS.aload X14.here hx rfl (hb hby at_53) rfl rfl  k) ?_
      show Go _ _ _ _ _ _ _ (T14.setTop (mkF m 55 #[.val (.long zx), .second, .val (.long zn), .second, .val (.long zo), .second, .val (.int qf), .val (.long oo), .second, .val dd, .val (.ref b5), .unset, .unset, .unset] [(.ref b5), (.long oo), (.long zn), (.long zx), (.ref b14), (.ref b14)]))
      refine Go.step (fun _ k => XS.aload X14.here hx rfl (hb hby at_55) rfl (by assumption)  k) ?_
      show Go _ _ _ _ _ _ _ (T14.setTop (mkF m 57 #[.val (.long zx), .second, .val (.long zn), .second, .val (.long zo), .second, .val (.int qf), .val (.long oo), .second, .val dd, .val (.ref b5), .unset, .unset, .unset] [dd, (.ref b5), (.long oo), (.long zn), (.long zx), (.ref b14), (.ref b14)]))
      have pq27 : dd.isRef = true := (by first | assumption | rfl | decide)
      obtain ⟨_, _, ⟨T28, L28, k28, n28⟩, -, X28, ⟨Lc28, hQ28, l28, y28, z28⟩, st28⟩ := X14.specialBack hx (y := (⟨"com/example/punctual_lease/punctuallease/Node", "<init>", "(JJJLjava/util/List;[B)V"⟩ : MethodName)) rfl hown (mvT hZ (hw _ (List.mem_of_getElem? (i := 30) rfl))) (mvT hZ (hw _ (List.mem_of_getElem? (i := 31) rfl))) (mvT hZ (hw _ (List.mem_of_getElem? (i := 32) rfl))) (by decide) (backOf (W := 1) (rm5 l Z aZ hw [] b14 zx zn oo b5 dd h14 n0 z16 pq27 A14 f18 f19 f20 f21 f22 f23 f24 f25 f26 gn14) hZ (hw _ (List.mem_of_getElem? (i := 32) rfl)) (hw _ (List.mem_of_getElem? (i := 29) rfl)) (by decide) (by decide)) (g := (mkF m 57 #[.val (.long zx), .second, .val (.long zn), .second, .val (.long zo), .second, .val (.int qf), .val (.long oo), .second, .val dd, .val (.ref b5), .unset, .unset, .unset] [dd, (.ref b5), (.long oo), (.long zn), (.long zx), (.ref b14), (.ref b14)])) rfl (by rw [hml]; rfl) (Steps.refl _) (a := b14) (argsL := [(.long zx), (.long zn), (.long oo), (.ref b5), dd]) (rest := [(.ref b14)]) (lenOf pd_1 rfl) rfl (by show 2 * 0 + _ ≤ _; exact Nat.le_of_eq rfl) (hb hby at_57) (fun _ _ => ⟨rfl, e14, (by decide : 3 + 2 ≤ _), (by decide : 18 + 9 ≤ _)⟩)
      dsimp only [Pt.U, Pt.locs, Pt.cells, Pt.slots] at X28 l28 y28 z28 st28 hQ28
      subst l28 y28 z28
      obtain ⟨rfl, Nq28, K28, c28_0, c28_1⟩ := hQ28
      have N28 := Fr.app N11 Nq28
      refine Go.tr st28 ?_
      have z29 : n0 ≤ T28.heap.size := Nat.le_trans z16 K28.1
      have sqz29 : h0.size ≤ T28.heap.size := Nat.le_trans sqz16 K28.1
      show Go _ _ _ _ _ _ _ (T28.setTop (mkF m 60 #[.val (.long zx), .second, .val (.long zn), .second, .val (.long zo), .second, .val (.int qf), .val (.long oo), .second, .val dd, .val (.ref b5), .unset, .unset, .unset] [(.ref b14)]))
      refine Go.step (fun _ k => XS.astore X28.here hx rfl (hb hby at_60) rfl rfl (l' := #[.val (.long zx), .second, .val (.long zn), .second, .val (.long zo), .second, .val (.int qf), .val (.long oo), .second, .val dd, .val (.ref b5), .val (.ref b14), .unset, .unset]) rfl k) ?_
      show Go _ _ _ _ _ _ _ (T28.setTop (mkF m 62 #[.val (.long zx), .second, .val (.long zn), .second, .val (.long zo), .second, .val (.int qf), .val (.long oo), .second, .val dd, .val (.ref b5), .val (.ref b14), .unset, .unset] []))
      obtain ⟨T31, h31, X31, e31, E31, A31, D31, -, st31⟩ := newO X28 hx hZ hown (hw _ (List.mem_of_getElem? (i := 27) rfl)) (hw _ (List.mem_of_getElem? (i := 28) rfl)) (hw _ (List.mem_of_getElem? (i := 29) rfl)) rfl (g := (mkF m 62 #[.val (.long zx), .second, .val (.long zn), .second, .val (.long zo), .second, .val (.int qf), .val (.long oo), .second, .val dd, .val (.ref b5), .val (.ref b14), .unset, .unset] [])) rfl (hb hby at_62) (by decide) (by decide)
      obtain ⟨b31, g31⟩ : ∃ z, z = T28.heap.size := ⟨_, rfl⟩
      rw [← g31] at A31 D31 st31
      refine Go.step st31 ?_
      have gn31 : n0 ≤ b31 := Nat.le_trans z29 (Nat.le_of_eq g31.symm)
      have sz31 : h0.size ≤ b31 := Nat.le_trans sqz29 (Nat.le_of_eq g31.symm)
      have f32 : Exa Z T28.heap b5 "java/util/ArrayList" := ((c11_0.ext E14).keep K28)
      have ne33 : b5 ≠ b31 := Nat.ne_of_lt (Nat.lt_of_lt_of_le f32.lt (Nat.le_of_eq g31.symm))
      have ne34 : b14 ≠ b31 := Nat.ne_of_lt (Nat.lt_of_lt_of_le c28_0.lt (Nat.le_of_eq g31.symm))
      have z35 : n0 ≤ h31.size := Nat.le_trans z29 E31.1
      have sqz35 : h0.size ≤ h31.size := Nat.le_trans sqz29 E31.1
      have f37 : Fld Z h31 b31 "com/example/punctual_lease/punctuallease/Node" "children" "Ljava/util/Set;" .null := D31 (Or.inr (hw _ (List.mem_of_getElem? (i := 68) rfl))) (ty := (.object "java/util/Set")) (by decide)
      have f38 : Fld Z h31 b31 "com/example/punctual_lease/punctuallease/Node" "czxid" "J" (.long (0 : Int64)) := D31 (Or.inr (hw _ (List.mem_of_getElem? (i := 70) rfl))) (ty := .long) (by decide)
      have f39 : Fld Z h31 b31 "com/example/punctual_lease/punctuallease/Node" "ctime" "J" (.long (0 : Int64)) := D31 (Or.inr (hw _ (List.mem_of_getElem? (i := 72) rfl))) (ty := .long) (by decide)
      have f40 : Fld Z h31 b31 "com/example/punctual_lease/punctuallease/Node" "ephemeralOwner" "J" (.long (0 : Int64)) := D31 (Or.inr (hw _ (List.mem_of_getElem? (i := 74) rfl))) (ty := .long) (by decide)
      have f41 : Fld Z h31 b31 "com/example/punctual_lease/punctuallease/Node" "acl" "Ljava/util/List;" .null := D31 (Or.inr (hw _ (List.mem_of_getElem? (i := 76) rfl))) (ty := (.object "java/util/List")) (by decide)
      have f42 : Fld Z h31 b31 "com/example/punctual_lease/punctuallease/Node" "data" "[B" .null := D31 (Or.inl (hw _ (List.mem_of_getElem? (i := 78) rfl))) (ty := (.array .byte)) (by decide)
      have f43 : Fld Z h31 b31 "com/example/punctual_lease/punctuallease/Node" "mzxid" "J" (.long (0 : Int64)) := D31 (Or.inl (hw _ (List.mem_of_getElem? (i := 80) rfl))) (ty := .long) (by decide)
      have f44 : Fld Z h31 b31 "com/example/punctual_lease/punctuallease/Node" "mtime" "J" (.long (0 : Int64)) := D31 (Or.inl (hw _ (List.mem_of_getElem? (i := 82) rfl))) (ty := .long) (by decide)
      have f45 : Fld Z h31 b31 "com/example/punctual_lease/punctuallease/Node" "pzxid" "J" (.long (0 : Int64)) := D31 (Or.inl (hw _ (List.mem_of_getElem? (i := 84) rfl))) (ty := .long) (by decide)
      show Go _ _ _ _ _ _ _ (T31.setTop (mkF m 65 #[.val (.long zx), .second, .val (.long zn), .second, .val (.long zo), .second, .val (.int qf), .val (.long oo), .second, .val dd, .val (.ref b5), .val (.ref b14), .unset, .unset] [(.ref b31)]))
      refine Go.step (fun _ k => XS.dup X31.here hx rfl (hb hby at_65) rfl rfl k) ?_
      show Go _ _ _ _ _ _ _ (T31.setTop (mkF m 66 #[.val (.long zx), .second, .val (.long zn), .second, .val (.long zo), .second, .val (.int qf), .val (.long oo), .second, .val dd, .val (.ref b5), .val (.ref b14), .unset, .unset] [(.ref b31), (.ref b31)]))
      refine Go.step (fun _ k => XS.lloadN X31.here hx rfl (hb hby at_66) rfl  k) ?_
      show Go _ _ _ _ _ _ _ (T31.setTop (mkF m 67 #[.val (.long zx), .second, .val (.long zn), .second, .val (.long zo), .second, .val (.int qf), .val (.long oo), .second, .val dd, .val (.ref b5), .val (.ref b14), .unset, .unset] [(.long zx), (.ref b31), (.ref b31)]))
      refine Go.step (fun _ k => XS.lloadN X31.here hx rfl (hb hby at_67) rfl  k) ?_
      show Go _ _ _ _ _ _ _ (T31.setTop (mkF m 68 #[.val (.long zx), .second, .val (.long zn), .second, .val (.long zo), .second, .val (.int qf), .val (.long oo), .second, .val dd, .val (.ref b5), .val (.ref b14), .unset, .unset] [(.long zn), (.long zx), (.ref b31), (.ref b31)]))
      refine Go.step (fun _ k => XS.lconst X31.here hx rfl (hb hby at_68) k) ?_
      show Go _ _ _ _ _ _ _ (T31.setTop (mkF m 69 #[.val (.long zx), .second, .val (.long zn), .second, .val (.long zo), .second, .val (.int qf), .val (.long oo), .second, .val dd, .val (.ref b5), .val (.ref b14), .unset, .unset] [(.long (0 : Int64)), (.long zn), (.long zx), (.ref b31), (.ref b31)]))
      refine Go.step (fun _ k => XS.aload X31.here hx rfl (hb hby at_69) rfl rfl  k) ?_
      show Go _ _ _ _ _ _ _ (T31.setTop (mkF m 71 #[.val (.long zx), .second, .val (.long zn), .second, .val (.long zo), .second, .val (.int qf), .val (.long oo), .second, .val dd, .val (.ref b5), .val (.ref b14), .unset, .unset] [(.ref b5), (.long (0 : Int64)), (.long zn), (.long zx), (.ref b31), (.ref b31)]))
      refine Go.step (fun _ k => XS.aload X31.here hx rfl (hb hby at_71) rfl (by assumption)  k) ?_
      show Go _ _ _ _ _ _ _ (T31.setTop (mkF m 73 #[.val (.long zx), .second, .val (.long zn), .second, .val (.long zo), .second, .val (.int qf), .val (.long oo), .second, .val dd, .val (.ref b5), .val (.ref b14), .unset, .unset] [dd, (.ref b5), (.long (0 : Int64)), (.long zn), (.long zx), (.ref b31), (.ref b31)]))
      have pq46 : dd.isRef = true := (by first | assumption | rfl | decide)
      obtain ⟨_, _, ⟨T47, L47, k47, n47⟩, -, X47, ⟨Lc47, hQ47, l47, y47, z47⟩, st47⟩ := X31.specialBack hx (y := (⟨"com/example/punctual_lease/punctuallease/Node", "<init>", "(JJJLjava/util/List;[B)V"⟩ : MethodName)) rfl hown (mvT hZ (hw _ (List.mem_of_getElem? (i := 30) rfl))) (mvT hZ (hw _ (List.mem_of_getElem? (i := 31) rfl))) (mvT hZ (hw _ (List.mem_of_getElem? (i := 32) rfl))) (by decide) (backOf (W := 1) (rm5 l Z aZ hw [] b31 zx zn (0 : Int64) b5 dd h31 n0 z35 pq46 A31 f37 f38 f39 f40 f41 f42 f43 f44 f45 gn31) hZ (hw _ (List.mem_of_getElem? (i := 32) rfl)) (hw _ (List.mem_of_getElem? (i := 29) rfl)) (by decide) (by decide)) (g := (mkF m 73 #[.val (.long zx), .second, .val (.long zn), .second, .val (.long zo), .second, .val (.int qf), .val (.long oo), .second, .val dd, .val (.ref b5), .val (.ref b14), .unset, .unset] [dd, (.ref b5), (.long (0 : Int64)), (.long zn), (.long zx), (.ref b31), (.ref b31)])) rfl (by rw [hml]; rfl) (Steps.refl _) (a := b31) (argsL := [(.long zx), (.long zn), (.long (0 : Int64)), (.ref b5), dd]) (rest := [(.ref b31)]) (lenOf pd_1 rfl) rfl (by show 2 * 0 + _ ≤ _; exact Nat.le_of_eq rfl) (hb hby at_73) (fun _ _ => ⟨rfl, e31, (by decide : 6 + 2 ≤ _), (by decide : 39 + 9 ≤ _)⟩)
      dsimp only [Pt.U, Pt.locs, Pt.cells, Pt.slots] at X47 l47 y47 z47 st47 hQ47
      subst l47 y47 z47
      obtain ⟨rfl, Nq47, K47, c47_0, c47_1⟩ := hQ47
      have N47 := Fr.app N28 Nq47
      refine Go.tr st47 ?_
      have z48 : n0 ≤ T47.heap.size := Nat.le_trans z35 K47.1
      have sqz48 : h0.size ≤ T47.heap.size := Nat.le_trans sqz35 K47.1
      show Go _ _ _ _ _ _ _ (T47.setTop (mkF m 76 #[.val (.long zx), .second, .val (.long zn), .second, .val (.long zo), .second, .val (.int qf), .val (.long oo), .second, .val dd, .val (.ref b5), .val (.ref b14), .unset, .unset] [(.ref b31)]))
      refine Go.step (fun _ k => XS.astore X47.here hx rfl (hb hby at_76) rfl rfl (l' := #[.val (.long zx), .second, .val (.long zn), .second, .val (.long zo), .second, .val (.int qf), .val (.long oo), .second, .val dd, .val (.ref b5), .val (.ref b14), .val (.ref b31), .unset]) rfl k) ?_
      show Go _ _ _ _ _ _ _ (T47.setTop (mkF m 78 #[.val (.long zx), .second, .val (.long zn), .second, .val (.long zo), .second, .val (.int qf), .val (.long oo), .second, .val dd, .val (.ref b5), .val (.ref b14), .val (.ref b31), .unset] []))
      refine Go.step (fun _ k => XS.lload X47.here hx rfl (hb hby at_78) rfl  k) ?_
      show Go _ _ _ _ _ _ _ (T47.setTop (mkF m 80 #[.val (.long zx), .second, .val (.long zn), .second, .val (.long zo), .second, .val (.int qf), .val (.long oo), .second, .val dd, .val (.ref b5), .val (.ref b14), .val (.ref b31), .unset] [(.long oo)]))
      refine Go.step (fun _ k => XS.lconst X47.here hx rfl (hb hby at_80) k) ?_
      show Go _ _ _ _ _ _ _ (T47.setTop (mkF m 81 #[.val (.long zx), .second, .val (.long zn), .second, .val (.long zo), .second, .val (.int qf), .val (.long oo), .second, .val dd, .val (.ref b5), .val (.ref b14), .val (.ref b31), .unset] [(.long (0 : Int64)), (.long oo)]))
      refine Go.step (fun _ k => XS.lcmp X47.here hx rfl (hb hby at_81) rfl k) ?_
      show Go _ _ _ _ _ _ _ (T47.setTop (mkF m 82 #[.val (.long zx), .second, .val (.long zn), .second, .val (.long zo), .second, .val (.int qf), .val (.long oo), .second, .val dd, .val (.ref b5), .val (.ref b14), .val (.ref b31), .unset] [(.int (lcmpW oo (0 : Int64)))]))
      by_cases hc82 : (lcmpW oo (0 : Int64)) = (0 : Int32)
      · skip
        refine Go.step (fun _ k => XS.ifYes X47.here hx rfl (pc0 := 82) (pc' := 89) rfl (hb hby at_82) rfl ((if0 _ _).trans (teq hc82).1) (by decide) (by decide) k) ?_
        show Go _ _ _ _ _ _ _ (T47.setTop (mkF m 89 #[.val (.long zx), .second, .val (.long zn), .second, .val (.long zo), .second, .val (.int qf), .val (.long oo), .second, .val dd, .val (.ref b5), .val (.ref b14), .val (.ref b31), .unset] []))
        refine Go.step (fun _ k => XS.iconst X47.here hx rfl (hb hby at_89) k) ?_
        show Go _ _ _ _ _ _ _ (T47.setTop (mkF m 90 #[.val (.long zx), .second, .val (.long zn), .second, .val (.long zo), .second, .val (.int qf), .val (.long oo), .second, .val dd, .val (.ref b5), .val (.ref b14), .val (.ref b31), .unset] [(.int (0 : Int32))]))
        refine Go.step (fun _ k => XS.istore X47.here hx rfl (hb hby at_90) rfl (l' := #[.val (.long zx), .second, .val (.long zn), .second, .val (.long zo), .second, .val (.int qf), .val (.long oo), .second, .val dd, .val (.ref b5), .val (.ref b14), .val (.ref b31), .val (.int (0 : Int32))]) rfl k) ?_
        show Go _ _ _ _ _ _ _ (T47.setTop (mkF m 92 #[.val (.long zx), .second, .val (.long zn), .second, .val (.long zo), .second, .val (.int qf), .val (.long oo), .second, .val dd, .val (.ref b5), .val (.ref b14), .val (.ref b31), .val (.int (0 : Int32))] []))
        refine Go.step (fun _ k => XS.aload X47.here hx rfl (hb hby at_92) rfl rfl  k) ?_
        show Go _ _ _ _ _ _ _ (T47.setTop (mkF m 94 #[.val (.long zx), .second, .val (.long zn), .second, .val (.long zo), .second, .val (.int qf), .val (.long oo), .second, .val dd, .val (.ref b5), .val (.ref b14), .val (.ref b31), .val (.int (0 : Int32))] [(.ref b14)]))
        have f50 : Fld Z T47.heap b14 "com/example/punctual_lease/punctuallease/Node" "ephemeralOwner" "J" (.long oo) := ((c28_1.ext E31).keep K47 (ninS ne34 nin0))
        have f52 : Exa Z T47.heap b14 "com/example/punctual_lease/punctuallease/Node" := ((c28_0.ext E31).keep K47)
        obtain ⟨cq51, kq51, q51a, q51b, q51c⟩ := isOf hZ rfl f52
        obtain ⟨_, _, ⟨T51, L51, k51, n51⟩, -, X51, ⟨Lc51, hQ51, l51, y51, z51⟩, st51⟩ := X47.virtualBack hx (y := (⟨"com/example/punctual_lease/punctuallease/Node", "isEphemeral", "()Z"⟩ : MethodName)) (z := (⟨"com/example/punctual_lease/punctuallease/Node", "isEphemeral", "()Z"⟩ : MethodName)) hown (mvT hZ (hw _ (List.mem_of_getElem? (i := 85) rfl))) (mvT hZ (hw _ (List.mem_of_getElem? (i := 86) rfl))) (notFace_of_selects (args := #[]) (mvT hZ (hw _ (List.mem_of_getElem? (i := 88) rfl)))) (mvT hZ (hw _ (List.mem_of_getElem? (i := 88) rfl))) (mvT hZ (hw _ (List.mem_of_getElem? (i := 87) rfl))) (by decide) (backOf (W := 0) (rm10 l Z aZ hw [] b14 oo T47.heap n0 z48 f50) hZ (hw _ (List.mem_of_getElem? (i := 89) rfl)) (hw _ (List.mem_of_getElem? (i := 29) rfl)) (by decide) (by decide)) q51a q51c (g := (mkF m 94 #[.val (.long zx), .second, .val (.long zn), .second, .val (.long zo), .second, .val (.int qf), .val (.long oo), .second, .val dd, .val (.ref b5), .val (.ref b14), .val (.ref b31), .val (.int (0 : Int32))] [(.ref b14)])) rfl (by rw [hml]; rfl) (Steps.refl _) (argsL := []) (rest := []) (lenOf pd_2 rfl) rfl (by show 2 * 0 + _ ≤ _; exact Nat.le_of_eq rfl) (hb hby at_94) (fun _ _ => ⟨rfl, rfl, (by decide : 8 + 0 ≤ _), (by decide : 48 + 0 ≤ _)⟩)
        dsimp only [Pt.U, Pt.locs, Pt.cells, Pt.slots] at X51 l51 y51 z51 st51 hQ51
        subst l51 y51 z51
        obtain ⟨rfl, Nq51, e51⟩ := hQ51
        have N51 := Fr.app N47 Nq51
        refine Go.tr st51 ?_
        show Go _ _ _ _ _ _ _ (T51.setTop (mkF m 97 #[.val (.long zx), .second, .val (.long zn), .second, .val (.long zo), .second, .val (.int qf), .val (.long oo), .second, .val dd, .val (.ref b5), .val (.ref b14), .val (.ref b31), .val (.int (0 : Int32))] [(.int (if oo = 0 then (0 : Int32) else 1))]))
        refine Go.step (fun _ k => XS.iload X51.here hx rfl (hb hby at_97) rfl  k) ?_
        show Go _ _ _ _ _ _ _ (T51.setTop (mkF m 99 #[.val (.long zx), .second, .val (.long zn), .second, .val (.long zo), .second, .val (.int qf), .val (.long oo), .second, .val dd, .val (.ref b5), .val (.ref b14), .val (.ref b31), .val (.int (0 : Int32))] [(.int (0 : Int32)), (.int (if oo = 0 then (0 : Int32) else 1))]))
        have hc99 : (if oo = 0 then (0 : Int32) else 1) = (0 : Int32) := own_e0 hc82
        refine Go.step (fun _ k => XS.icmpNo X51.here hx rfl (hb hby at_99) rfl (teq hc99).2 k) ?_
        show Go _ _ _ _ _ _ _ (T51.setTop (mkF m 102 #[.val (.long zx), .second, .val (.long zn), .second, .val (.long zo), .second, .val (.int qf), .val (.long oo), .second, .val dd, .val (.ref b5), .val (.ref b14), .val (.ref b31), .val (.int (0 : Int32))] []))
        refine Go.step (fun _ k => XS.aload X51.here hx rfl (hb hby at_102) rfl rfl  k) ?_
        show Go _ _ _ _ _ _ _ (T51.setTop (mkF m 104 #[.val (.long zx), .second, .val (.long zn), .second, .val (.long zo), .second, .val (.int qf), .val (.long oo), .second, .val dd, .val (.ref b5), .val (.ref b14), .val (.ref b31), .val (.int (0 : Int32))] [(.ref b31)]))
        obtain ⟨cq53, kq53, q53a, q53b, q53c⟩ := isOf hZ e51 c47_0
        obtain ⟨_, _, ⟨T53, L53, k53, n53⟩, -, X53, ⟨Lc53, hQ53, l53, y53, z53⟩, st53⟩ := X51.virtualBack hx (y := (⟨"com/example/punctual_lease/punctuallease/Node", "isEphemeral", "()Z"⟩ : MethodName)) (z := (⟨"com/example/punctual_lease/punctuallease/Node", "isEphemeral", "()Z"⟩ : MethodName)) hown (mvT hZ (hw _ (List.mem_of_getElem? (i := 85) rfl))) (mvT hZ (hw _ (List.mem_of_getElem? (i := 86) rfl))) (notFace_of_selects (args := #[]) (mvT hZ (hw _ (List.mem_of_getElem? (i := 88) rfl)))) (mvT hZ (hw _ (List.mem_of_getElem? (i := 88) rfl))) (mvT hZ (hw _ (List.mem_of_getElem? (i := 87) rfl))) (by decide) (backOf (W := 0) (rm10 l Z aZ hw [] b31 (0 : Int64) T47.heap n0 z48 c47_1) hZ (hw _ (List.mem_of_getElem? (i := 89) rfl)) (hw _ (List.mem_of_getElem? (i := 29) rfl)) (by decide) (by decide)) q53a q53c (g := (mkF m 104 #[.val (.long zx), .second, .val (.long zn), .second, .val (.long zo), .second, .val (.int qf), .val (.long oo), .second, .val dd, .val (.ref b5), .val (.ref b14), .val (.ref b31), .val (.int (0 : Int32))] [(.ref b31)])) rfl (by rw [hml]; rfl) (Steps.refl _) (argsL := []) (rest := []) (lenOf pd_2 rfl) rfl (by show 2 * 0 + _ ≤ _; exact Nat.le_of_eq rfl) (hb hby at_104) (fun _ _ => ⟨rfl, e51, (by decide : 8 + 0 ≤ _), (by decide : 48 + 0 ≤ _)⟩)
        dsimp only [Pt.U, Pt.locs, Pt.cells, Pt.slots] at X53 l53 y53 z53 st53 hQ53
        subst l53 y53 z53
        obtain ⟨rfl, Nq53, e53⟩ := hQ53
        have N53 := Fr.app N51 Nq53
        refine Go.tr st53 ?_
        show Go _ _ _ _ _ _ _ (T53.setTop (mkF m 107 #[.val (.long zx), .second, .val (.long zn), .second, .val (.long zo), .second, .val (.int qf), .val (.long oo), .second, .val dd, .val (.ref b5), .val (.ref b14), .val (.ref b31), .val (.int (0 : Int32))] [(.int (if (0 : Int64) = 0 then (0 : Int32) else 1))]))
        have hc107 : (if (0 : Int64) = 0 then (0 : Int32) else 1) = (0 : Int32) := if_pos rfl
        refine Go.step (fun _ k => XS.ifNo X53.here hx rfl (hb hby at_107) rfl ((if0 _ _).trans (teq hc107).2) k) ?_
        show Go _ _ _ _ _ _ _ (T53.setTop (mkF m 110 #[.val (.long zx), .second, .val (.long zn), .second, .val (.long zo), .second, .val (.int qf), .val (.long oo), .second, .val dd, .val (.ref b5), .val (.ref b14), .val (.ref b31), .val (.int (0 : Int32))] []))
        refine Go.step (fun _ k => XS.iconst X53.here hx rfl (hb hby at_110) k) ?_
        show Go _ _ _ _ _ _ _ (T53.setTop (mkF m 111 #[.val (.long zx), .second, .val (.long zn), .second, .val (.long zo), .second, .val (.int qf), .val (.long oo), .second, .val dd, .val (.ref b5), .val (.ref b14), .val (.ref b31), .val (.int (0 : Int32))] [(.int (1 : Int32))]))
        refine Go.step (fun _ k => XS.goto X53.here hx rfl (pc0 := 111) (pc' := 115) rfl (hb hby at_111) (by decide) (by decide) k) ?_
        show Go _ _ _ _ _ _ _ (T53.setTop (mkF m 115 #[.val (.long zx), .second, .val (.long zn), .second, .val (.long zo), .second, .val (.int qf), .val (.long oo), .second, .val dd, .val (.ref b5), .val (.ref b14), .val (.ref b31), .val (.int (0 : Int32))] [(.int (1 : Int32))]))
        refine Go.retN X53 hx (t := .boolean) Bd.returns (by simp) hlk (hb hby at_115) ?_ (by decide) (by decide)
        rw [e53]
        exact ⟨(by first | rfl | (simp_all [own_nb1, own_nb0]; done)), N53⟩
      · skip
        refine Go.step (fun _ k => XS.ifNo X47.here hx rfl (hb hby at_82) rfl ((if0 _ _).trans (feq hc82).1) k) ?_
        show Go _ _ _ _ _ _ _ (T47.setTop (mkF m 85 #[.val (.long zx), .second, .val (.long zn), .second, .val (.long zo), .second, .val (.int qf), .val (.long oo), .second, .val dd, .val (.ref b5), .val (.ref b14), .val (.ref b31), .unset] []))
        refine Go.step (fun _ k => XS.iconst X47.here hx rfl (hb hby at_85) k) ?_
        show Go _ _ _ _ _ _ _ (T47.setTop (mkF m 86 #[.val (.long zx), .second, .val (.long zn), .second, .val (.long zo), .second, .val (.int qf), .val (.long oo), .second, .val dd, .val (.ref b5), .val (.ref b14), .val (.ref b31), .unset] [(.int (1 : Int32))]))
        refine Go.step (fun _ k => XS.goto X47.here hx rfl (pc0 := 86) (pc' := 90) rfl (hb hby at_86) (by decide) (by decide) k) ?_
        show Go _ _ _ _ _ _ _ (T47.setTop (mkF m 90 #[.val (.long zx), .second, .val (.long zn), .second, .val (.long zo), .second, .val (.int qf), .val (.long oo), .second, .val dd, .val (.ref b5), .val (.ref b14), .val (.ref b31), .unset] [(.int (1 : Int32))]))
        refine Go.step (fun _ k => XS.istore X47.here hx rfl (hb hby at_90) rfl (l' := #[.val (.long zx), .second, .val (.long zn), .second, .val (.long zo), .second, .val (.int qf), .val (.long oo), .second, .val dd, .val (.ref b5), .val (.ref b14), .val (.ref b31), .val (.int (1 : Int32))]) rfl k) ?_
        show Go _ _ _ _ _ _ _ (T47.setTop (mkF m 92 #[.val (.long zx), .second, .val (.long zn), .second, .val (.long zo), .second, .val (.int qf), .val (.long oo), .second, .val dd, .val (.ref b5), .val (.ref b14), .val (.ref b31), .val (.int (1 : Int32))] []))
        refine Go.step (fun _ k => XS.aload X47.here hx rfl (hb hby at_92) rfl rfl  k) ?_
        show Go _ _ _ _ _ _ _ (T47.setTop (mkF m 94 #[.val (.long zx), .second, .val (.long zn), .second, .val (.long zo), .second, .val (.int qf), .val (.long oo), .second, .val dd, .val (.ref b5), .val (.ref b14), .val (.ref b31), .val (.int (1 : Int32))] [(.ref b14)]))
        have f54 : Fld Z T47.heap b14 "com/example/punctual_lease/punctuallease/Node" "ephemeralOwner" "J" (.long oo) := ((c28_1.ext E31).keep K47 (ninS ne34 nin0))
        have f56 : Exa Z T47.heap b14 "com/example/punctual_lease/punctuallease/Node" := ((c28_0.ext E31).keep K47)
        obtain ⟨cq55, kq55, q55a, q55b, q55c⟩ := isOf hZ rfl f56
        obtain ⟨_, _, ⟨T55, L55, k55, n55⟩, -, X55, ⟨Lc55, hQ55, l55, y55, z55⟩, st55⟩ := X47.virtualBack hx (y := (⟨"com/example/punctual_lease/punctuallease/Node", "isEphemeral", "()Z"⟩ : MethodName)) (z := (⟨"com/example/punctual_lease/punctuallease/Node", "isEphemeral", "()Z"⟩ : MethodName)) hown (mvT hZ (hw _ (List.mem_of_getElem? (i := 85) rfl))) (mvT hZ (hw _ (List.mem_of_getElem? (i := 86) rfl))) (notFace_of_selects (args := #[]) (mvT hZ (hw _ (List.mem_of_getElem? (i := 88) rfl)))) (mvT hZ (hw _ (List.mem_of_getElem? (i := 88) rfl))) (mvT hZ (hw _ (List.mem_of_getElem? (i := 87) rfl))) (by decide) (backOf (W := 0) (rm10 l Z aZ hw [] b14 oo T47.heap n0 z48 f54) hZ (hw _ (List.mem_of_getElem? (i := 89) rfl)) (hw _ (List.mem_of_getElem? (i := 29) rfl)) (by decide) (by decide)) q55a q55c (g := (mkF m 94 #[.val (.long zx), .second, .val (.long zn), .second, .val (.long zo), .second, .val (.int qf), .val (.long oo), .second, .val dd, .val (.ref b5), .val (.ref b14), .val (.ref b31), .val (.int (1 : Int32))] [(.ref b14)])) rfl (by rw [hml]; rfl) (Steps.refl _) (argsL := []) (rest := []) (lenOf pd_2 rfl) rfl (by show 2 * 0 + _ ≤ _; exact Nat.le_of_eq rfl) (hb hby at_94) (fun _ _ => ⟨rfl, rfl, (by decide : 8 + 0 ≤ _), (by decide : 48 + 0 ≤ _)⟩)
        dsimp only [Pt.U, Pt.locs, Pt.cells, Pt.slots] at X55 l55 y55 z55 st55 hQ55
        subst l55 y55 z55
        obtain ⟨rfl, Nq55, e55⟩ := hQ55
        have N55 := Fr.app N47 Nq55
        refine Go.tr st55 ?_
        show Go _ _ _ _ _ _ _ (T55.setTop (mkF m 97 #[.val (.long zx), .second, .val (.long zn), .second, .val (.long zo), .second, .val (.int qf), .val (.long oo), .second, .val dd, .val (.ref b5), .val (.ref b14), .val (.ref b31), .val (.int (1 : Int32))] [(.int (if oo = 0 then (0 : Int32) else 1))]))
        refine Go.step (fun _ k => XS.iload X55.here hx rfl (hb hby at_97) rfl  k) ?_
        show Go _ _ _ _ _ _ _ (T55.setTop (mkF m 99 #[.val (.long zx), .second, .val (.long zn), .second, .val (.long zo), .second, .val (.int qf), .val (.long oo), .second, .val dd, .val (.ref b5), .val (.ref b14), .val (.ref b31), .val (.int (1 : Int32))] [(.int (1 : Int32)), (.int (if oo = 0 then (0 : Int32) else 1))]))
        have hc99 : (if oo = 0 then (0 : Int32) else 1) = (1 : Int32) := own_e1 hc82
        refine Go.step (fun _ k => XS.icmpNo X55.here hx rfl (hb hby at_99) rfl (teq hc99).2 k) ?_
        show Go _ _ _ _ _ _ _ (T55.setTop (mkF m 102 #[.val (.long zx), .second, .val (.long zn), .second, .val (.long zo), .second, .val (.int qf), .val (.long oo), .second, .val dd, .val (.ref b5), .val (.ref b14), .val (.ref b31), .val (.int (1 : Int32))] []))
        refine Go.step (fun _ k => XS.aload X55.here hx rfl (hb hby at_102) rfl rfl  k) ?_
        show Go _ _ _ _ _ _ _ (T55.setTop (mkF m 104 #[.val (.long zx), .second, .val (.long zn), .second, .val (.long zo), .second, .val (.int qf), .val (.long oo), .second, .val dd, .val (.ref b5), .val (.ref b14), .val (.ref b31), .val (.int (1 : Int32))] [(.ref b31)]))
        obtain ⟨cq57, kq57, q57a, q57b, q57c⟩ := isOf hZ e55 c47_0
        obtain ⟨_, _, ⟨T57, L57, k57, n57⟩, -, X57, ⟨Lc57, hQ57, l57, y57, z57⟩, st57⟩ := X55.virtualBack hx (y := (⟨"com/example/punctual_lease/punctuallease/Node", "isEphemeral", "()Z"⟩ : MethodName)) (z := (⟨"com/example/punctual_lease/punctuallease/Node", "isEphemeral", "()Z"⟩ : MethodName)) hown (mvT hZ (hw _ (List.mem_of_getElem? (i := 85) rfl))) (mvT hZ (hw _ (List.mem_of_getElem? (i := 86) rfl))) (notFace_of_selects (args := #[]) (mvT hZ (hw _ (List.mem_of_getElem? (i := 88) rfl)))) (mvT hZ (hw _ (List.mem_of_getElem? (i := 88) rfl))) (mvT hZ (hw _ (List.mem_of_getElem? (i := 87) rfl))) (by decide) (backOf (W := 0) (rm10 l Z aZ hw [] b31 (0 : Int64) T47.heap n0 z48 c47_1) hZ (hw _ (List.mem_of_getElem? (i := 89) rfl)) (hw _ (List.mem_of_getElem? (i := 29) rfl)) (by decide) (by decide)) q57a q57c (g := (mkF m 104 #[.val (.long zx), .second, .val (.long zn), .second, .val (.long zo), .second, .val (.int qf), .val (.long oo), .second, .val dd, .val (.ref b5), .val (.ref b14), .val (.ref b31), .val (.int (1 : Int32))] [(.ref b31)])) rfl (by rw [hml]; rfl) (Steps.refl _) (argsL := []) (rest := []) (lenOf pd_2 rfl) rfl (by show 2 * 0 + _ ≤ _; exact Nat.le_of_eq rfl) (hb hby at_104) (fun _ _ => ⟨rfl, e55, (by decide : 8 + 0 ≤ _), (by decide : 48 + 0 ≤ _)⟩)
        dsimp only [Pt.U, Pt.locs, Pt.cells, Pt.slots] at X57 l57 y57 z57 st57 hQ57
        subst l57 y57 z57
        obtain ⟨rfl, Nq57, e57⟩ := hQ57
        have N57 := Fr.app N55 Nq57
        refine Go.tr st57 ?_
        show Go _ _ _ _ _ _ _ (T57.setTop (mkF m 107 #[.val (.long zx), .second, .val (.long zn), .second, .val (.long zo), .second, .val (.int qf), .val (.long oo), .second, .val dd, .val (.ref b5), .val (.ref b14), .val (.ref b31), .val (.int (1 : Int32))] [(.int (if (0 : Int64) = 0 then (0 : Int32) else 1))]))
        have hc107 : (if (0 : Int64) = 0 then (0 : Int32) else 1) = (0 : Int32) := if_pos rfl
        refine Go.step (fun _ k => XS.ifNo X57.here hx rfl (hb hby at_107) rfl ((if0 _ _).trans (teq hc107).2) k) ?_
        show Go _ _ _ _ _ _ _ (T57.setTop (mkF m 110 #[.val (.long zx), .second, .val (.long zn), .second, .val (.long zo), .second, .val (.int qf), .val (.long oo), .second, .val dd, .val (.ref b5), .val (.ref b14), .val (.ref b31), .val (.int (1 : Int32))] []))
        refine Go.step (fun _ k => XS.iconst X57.here hx rfl (hb hby at_110) k) ?_
        show Go _ _ _ _ _ _ _ (T57.setTop (mkF m 111 #[.val (.long zx), .second, .val (.long zn), .second, .val (.long zo), .second, .val (.int qf), .val (.long oo), .second, .val dd, .val (.ref b5), .val (.ref b14), .val (.ref b31), .val (.int (1 : Int32))] [(.int (1 : Int32))]))
        refine Go.step (fun _ k => XS.goto X57.here hx rfl (pc0 := 111) (pc' := 115) rfl (hb hby at_111) (by decide) (by decide) k) ?_
        show Go _ _ _ _ _ _ _ (T57.setTop (mkF m 115 #[.val (.long zx), .second, .val (.long zn), .second, .val (.long zo), .second, .val (.int qf), .val (.long oo), .second, .val dd, .val (.ref b5), .val (.ref b14), .val (.ref b31), .val (.int (1 : Int32))] [(.int (1 : Int32))]))
        refine Go.retN X57 hx (t := .boolean) Bd.returns (by simp) hlk (hb hby at_115) ?_ (by decide) (by decide)
        rw [e57]
        exact ⟨(by first | rfl | (simp_all [own_nb1, own_nb0]; done)), N57⟩
    show Go _ _ _ _ _ _ _ (TJ1.setTop (mkF m 15 #[.val (.long zx), .second, .val (.long zn), .second, .val (.long zo), .second, .val (.int qf), .val (.long oo), .second, .unset, .unset, .unset, .unset, .unset] []))
    refine Go.step (fun _ k => XS.iload X1.here hx rfl (hb hby at_15) rfl  k) ?_
    show Go _ _ _ _ _ _ _ (TJ1.setTop (mkF m 17 #[.val (.long zx), .second, .val (.long zn), .second, .val (.long zo), .second, .val (.int qf), .val (.long oo), .second, .unset, .unset, .unset, .unset, .unset] [(.int qf)]))
    refine Go.step (fun _ k => XS.iconst X1.here hx rfl (hb hby at_17) k) ?_
    show Go _ _ _ _ _ _ _ (TJ1.setTop (mkF m 18 #[.val (.long zx), .second, .val (.long zn), .second, .val (.long zo), .second, .val (.int qf), .val (.long oo), .second, .unset, .unset, .unset, .unset, .unset] [(.int (1 : Int32)), (.int qf)]))
    refine Go.step (fun _ k => XS.iand X1.here hx rfl (hb hby at_18) rfl k) ?_
    show Go _ _ _ _ _ _ _ (TJ1.setTop (mkF m 19 #[.val (.long zx), .second, .val (.long zn), .second, .val (.long zo), .second, .val (.int qf), .val (.long oo), .second, .unset, .unset, .unset, .unset, .unset] [(.int (qf &&& (1 : Int32)))]))
    by_cases hc19 : (qf &&& (1 : Int32)) = (0 : Int32)
    · skip
      refine Go.step (fun _ k => XS.ifYes X1.here hx rfl (pc0 := 19) (pc' := 26) rfl (hb hby at_19) rfl ((if0 _ _).trans (teq hc19).1) (by decide) (by decide) k) ?_
      show Go _ _ _ _ _ _ _ (TJ1.setTop (mkF m 26 #[.val (.long zx), .second, .val (.long zn), .second, .val (.long zo), .second, .val (.int qf), .val (.long oo), .second, .unset, .unset, .unset, .unset, .unset] []))
      refine Go.step (fun _ k => XS.iload X1.here hx rfl (hb hby at_26) rfl  k) ?_
      show Go _ _ _ _ _ _ _ (TJ1.setTop (mkF m 28 #[.val (.long zx), .second, .val (.long zn), .second, .val (.long zo), .second, .val (.int qf), .val (.long oo), .second, .unset, .unset, .unset, .unset, .unset] [(.int qf)]))
      refine Go.step (fun _ k => XS.iconst X1.here hx rfl (hb hby at_28) k) ?_
      show Go _ _ _ _ _ _ _ (TJ1.setTop (mkF m 29 #[.val (.long zx), .second, .val (.long zn), .second, .val (.long zo), .second, .val (.int qf), .val (.long oo), .second, .unset, .unset, .unset, .unset, .unset] [(.int (2 : Int32)), (.int qf)]))
      refine Go.step (fun _ k => XS.iushr X1.here hx rfl (hb hby at_29) rfl k) ?_
      show Go _ _ _ _ _ _ _ (TJ1.setTop (mkF m 30 #[.val (.long zx), .second, .val (.long zn), .second, .val (.long zo), .second, .val (.int qf), .val (.long oo), .second, .unset, .unset, .unset, .unset, .unset] [(.int ((Int32.toUInt32 qf >>> ((2 : Int32) &&& 31).toUInt32).toInt32))]))
      refine Go.step (fun _ k => XS.iconst X1.here hx rfl (hb hby at_30) k) ?_
      show Go _ _ _ _ _ _ _ (TJ1.setTop (mkF m 31 #[.val (.long zx), .second, .val (.long zn), .second, .val (.long zo), .second, .val (.int qf), .val (.long oo), .second, .unset, .unset, .unset, .unset, .unset] [(.int (3 : Int32)), (.int ((Int32.toUInt32 qf >>> ((2 : Int32) &&& 31).toUInt32).toInt32))]))
      refine Go.step (fun _ k => XS.iand X1.here hx rfl (hb hby at_31) rfl k) ?_
      show Go _ _ _ _ _ _ _ (TJ1.setTop (mkF m 32 #[.val (.long zx), .second, .val (.long zn), .second, .val (.long zo), .second, .val (.int qf), .val (.long oo), .second, .unset, .unset, .unset, .unset, .unset] [(.int (((Int32.toUInt32 qf >>> ((2 : Int32) &&& 31).toUInt32).toInt32) &&& (3 : Int32)))]))
      have ng58 : ¬ (((Int32.toUInt32 qf >>> ((2 : Int32) &&& 31).toUInt32).toInt32) &&& (3 : Int32)) < 0 := (own_n3 _).1
      have lc58 : ((((Int32.toUInt32 qf >>> ((2 : Int32) &&& 31).toUInt32).toInt32) &&& (3 : Int32))).toNatClampNeg ≤ 3 := (own_n3 _).2
      obtain ⟨T58, h58, k58, X58, e58, E58, A58, st58⟩ := newP X1 hx hZ (hw _ (List.mem_of_getElem? (i := 0) rfl)) e1 (g := (mkF m 32 #[.val (.long zx), .second, .val (.long zn), .second, .val (.long zo), .second, .val (.int qf), .val (.long oo), .second, .unset, .unset, .unset, .unset, .unset] [(.int (((Int32.toUInt32 qf >>> ((2 : Int32) &&& 31).toUInt32).toInt32) &&& (3 : Int32)))])) rfl (hb hby at_32) rfl ng58 (cap := 3) lc58 (by decide) (by decide) (by decide)
      obtain ⟨b58, g58⟩ : ∃ z, z = h0.size := ⟨_, rfl⟩
      rw [← g58] at A58 st58
      refine Go.step st58 ?_
      have gn58 : n0 ≤ b58 := Nat.le_trans Z0 (Nat.le_of_eq g58.symm)
      have sz58 : h0.size ≤ b58 := Nat.le_trans sq0 (Nat.le_of_eq g58.symm)
      have z59 : n0 ≤ h58.size := Nat.le_trans Z0 E58.1
      have sqz59 : h0.size ≤ h58.size := Nat.le_trans sq0 E58.1
      have f61 : Ai Z h58 b58 .byte (((Int32.toUInt32 qf >>> ((2 : Int32) &&& 31).toUInt32).toInt32) &&& (3 : Int32)) (fun _ => 0) := Ai.new A58 ng58 rfl
      exact J34_2 _ h58 _ _ X58 e58 N1 (Keep.ext (Keep.refl _ _) E58) rfl
    · skip
      refine Go.step (fun _ k => XS.ifNo X1.here hx rfl (hb hby at_19) rfl ((if0 _ _).trans (feq hc19).1) k) ?_
      show Go _ _ _ _ _ _ _ (TJ1.setTop (mkF m 22 #[.val (.long zx), .second, .val (.long zn), .second, .val (.long zo), .second, .val (.int qf), .val (.long oo), .second, .unset, .unset, .unset, .unset, .unset] []))
      refine Go.step (fun _ k => XS.aconstNull X1.here hx rfl (hb hby at_22) k) ?_
      show Go _ _ _ _ _ _ _ (TJ1.setTop (mkF m 23 #[.val (.long zx), .second, .val (.long zn), .second, .val (.long zo), .second, .val (.int qf), .val (.long oo), .second, .unset, .unset, .unset, .unset, .unset] [.null]))
      refine Go.step (fun _ k => XS.goto X1.here hx rfl (pc0 := 23) (pc' := 34) rfl (hb hby at_23) (by decide) (by decide) k) ?_
      exact J34_2 _ h0 _ _ (X1.more (by decide) (by decide)) e1 N1 (Keep.refl _ _) rfl
  show Go _ _ _ _ _ _ _ (s₁.setTop (mkF m 0 #[.val (.long zx), .second, .val (.long zn), .second, .val (.long zo), .second, .val (.int qf), .unset, .unset, .unset, .unset, .unset, .unset, .unset] []))
  refine Go.step (fun _ k => XS.iload X0.here hx rfl (hb hby at_0) rfl  k) ?_
  show Go _ _ _ _ _ _ _ (s₁.setTop (mkF m 2 #[.val (.long zx), .second, .val (.long zn), .second, .val (.long zo), .second, .val (.int qf), .unset, .unset, .unset, .unset, .unset, .unset, .unset] [(.int qf)]))
  refine Go.step (fun _ k => XS.iconst X0.here hx rfl (hb hby at_2) k) ?_
  show Go _ _ _ _ _ _ _ (s₁.setTop (mkF m 3 #[.val (.long zx), .second, .val (.long zn), .second, .val (.long zo), .second, .val (.int qf), .unset, .unset, .unset, .unset, .unset, .unset, .unset] [(.int (2 : Int32)), (.int qf)]))
  refine Go.step (fun _ k => XS.iand X0.here hx rfl (hb hby at_3) rfl k) ?_
  show Go _ _ _ _ _ _ _ (s₁.setTop (mkF m 4 #[.val (.long zx), .second, .val (.long zn), .second, .val (.long zo), .second, .val (.int qf), .unset, .unset, .unset, .unset, .unset, .unset, .unset] [(.int (qf &&& (2 : Int32)))]))
  by_cases hc4 : (qf &&& (2 : Int32)) = (0 : Int32)
  · skip
    refine Go.step (fun _ k => XS.ifYes X0.here hx rfl (pc0 := 4) (pc' := 12) rfl (hb hby at_4) rfl ((if0 _ _).trans (teq hc4).1) (by decide) (by decide) k) ?_
    show Go _ _ _ _ _ _ _ (s₁.setTop (mkF m 12 #[.val (.long zx), .second, .val (.long zn), .second, .val (.long zo), .second, .val (.int qf), .unset, .unset, .unset, .unset, .unset, .unset, .unset] []))
    refine Go.step (fun _ k => XS.lconst X0.here hx rfl (hb hby at_12) k) ?_
    exact J13_1 _ _ _ X0 e0 N0
  · skip
    refine Go.step (fun _ k => XS.ifNo X0.here hx rfl (hb hby at_4) rfl ((if0 _ _).trans (feq hc4).1) k) ?_
    show Go _ _ _ _ _ _ _ (s₁.setTop (mkF m 7 #[.val (.long zx), .second, .val (.long zn), .second, .val (.long zo), .second, .val (.int qf), .unset, .unset, .unset, .unset, .unset, .unset, .unset] []))
    refine Go.step (fun _ k => XS.lload X0.here hx rfl (hb hby at_7) rfl  k) ?_
    show Go _ _ _ _ _ _ _ (s₁.setTop (mkF m 9 #[.val (.long zx), .second, .val (.long zn), .second, .val (.long zo), .second, .val (.int qf), .unset, .unset, .unset, .unset, .unset, .unset, .unset] [(.long zo)]))
    refine Go.step (fun _ k => XS.goto X0.here hx rfl (pc0 := 9) (pc' := 13) rfl (hb hby at_9) (by decide) (by decide) k) ?_
    exact J13_1 _ _ _ X0 e0 N0
set_option maxRecDepth 65536 in
set_option maxHeartbeats 40000000 in
theorem comes_1 {Post : Tables → Env → Array Value → State → Outcome → State → Prop} (hpost : ∀ tb e args s v u, (limb_1_1.after args s (.returned v) u = true ∧ limb_1_2.after args s (.returned v) u = true ∧ True) → FrameEnd s (.returned v) u (Jvm.fieldLocs frame_1_writes args s ++ Jvm.arrayLocs frame_1_arrays args s ++ Jvm.staticLocs frame_1_statics s) 24 192 → Post tb e args s (.returned v) u) :
    ArmFor flags0 classFile x code maxLocals ret World_1 tables_1 room_1 Calls_1 rest_1 Pre_1 Post := by
  intro l hfl _ _ p e ha hc hk s m args below hf hA hF happ hP
  obtain ⟨hcalls, hrest, hpre⟩ := hP
  obtain ⟨-, -, -, hnamed, -, -, -, hat⟩ := (Spec.applies_iff hf).mp happ
  obtain ⟨hg, hn⟩ := and_e (Cond.before_iff.mp (show (Jvm.Cond.and given_1 narrow_1).before args s = true from hpre))
  obtain ⟨g0, r0⟩ := and_e hg
  obtain ⟨a0, r1⟩ := and_e r0
  obtain ⟨a1, r2⟩ := and_e r1
  obtain ⟨a2, r3⟩ := and_e r2
  have a3 := r3
  obtain ⟨w0, w1, w2, w3, rfl⟩ : ∃ w0 w1 w2 w3 : Value, args = #[w0, w1, w2, w3] := by
    have hs : args.size = 4 := by simpa [Cond.value, given_1] using g0
    obtain ⟨L⟩ := args
    match L, hs with
    | [w0, w1, w2, w3], _ => exact ⟨w0, w1, w2, w3, rfl⟩
  have hw := fun d (hd : d ∈ tables_1) => atoms_spec (ws := Jvm.Cond.code x code maxLocals ret :: tables_1) hat d (List.mem_cons_of_mem _ hd)
  have hfit : Fit s := fun {y c} hc i hi => by
    obtain ⟨ha, rfl⟩ := Array.getElem?_eq_some_iff.mp hc
    have q := List.all_eq_true.mp ((Array.all_eq_true_iff_forall_mem.mp hF) _ (Array.getElem_mem ha)) i (List.mem_range.mpr hi)
    simpa [Array.getElem?_eq_getElem hi] using q
  obtain ⟨hsets, hown0⟩ := atoms_of _ (rest_1_c_eq ▸ (show rest_1_c.before _ s = true from hrest))
  obtain ⟨i0, ei0⟩ := isL_v a0
  obtain rfl : w0 = (.long i0) := Option.some.inj ei0
  obtain ⟨i1, ei1⟩ := isL_v a1
  obtain rfl : w1 = (.long i1) := Option.some.inj ei1
  obtain ⟨i2, ei2⟩ := isL_v a2
  obtain rfl : w2 = (.long i2) := Option.some.inj ei2
  obtain ⟨i3, ei3⟩ := is_v a3
  obtain rfl : w3 = (.int i3) := Option.some.inj ei3
  obtain ⟨w0, ew0⟩ := exa_v (Cond.before_iff.mp (hsets _ (List.mem_of_getElem? (i := 7) rfl)))
  have hst : Sta s s.heap "java/util/ArrayList" "DEFAULTCAPACITY_EMPTY_ELEMENTDATA" "[Ljava/lang/Object;" (.ref w0) := Sta.start ew0 (Or.inr ⟨hw _ (List.mem_of_getElem? (i := 3) rfl), hsets _ (List.mem_of_getElem? (i := 2) rfl)⟩)
  obtain ⟨n, o, h1, h2, h3, _, L, rfl, ⟨rfl, N⟩, hq⟩ := rm0 l s _ hw tables_1 i0 i1 i2 i3 w0 s.heap s.heap.size (Nat.le_refl _) (Old.start s) hst p e ha hc hk s m _ below hf ((Spec.applies_iff_loose hf).mp happ).1 ⟨rfl, State.Warmed39.refl s, rfl⟩ trivial
  refine ⟨n, _, h1, h2, h3, hpost _ _ _ _ _ _ ⟨Cond.after_iff.mpr rfl, Cond.after_iff.mpr (eq_i res_at (Term.int_eval (1)) rfl), trivial⟩ ⟨hq.1, hq.2.1, (hq.2.2.sift fun y hy => Or.inr (N y hy)).mono (by decide) (by decide)⟩⟩
theorem main_1_1 : Claimed_1_1 := comes_1 fun _ _ _ _ _ _ h hF => ⟨h.1, hF⟩
theorem main_1_2 : Claimed_1_2 := comes_1 fun _ _ _ _ _ _ h hF => ⟨h.2.1, hF⟩
end Jvm.Pilot.@@N@@
namespace Jvm.Pilot.@@N@@
open Jvm Jvm.ClassFile Sem Op Lib Jvm.Free Jvm.Stand Jvm.Pilot.@@N@@.Jvm.D
/-! MADE BY PROGRAM (witnessworld.py) out of the Statement's table words and the real class files: 24 classes; the members and pool entries that the words name. The judged class is class 1, her method 1. -/
namespace start1
open Jvm.ClassFile
def u (s : String) : CpInfo := .utf8 (stringToUtf16 s)
/-- a pool by its gaps: so many unusable entries, then the entry; so many at the end -/
def gap : Nat → List CpInfo → List CpInfo
  | 0, r => r
  | n + 1, r => .unusable :: gap n r
def poolList (es : List (Nat × CpInfo)) (last : Nat) : List CpInfo := es.foldr (fun e r => gap e.1 (e.2 :: r)) (gap last [])
def pool (es : List (Nat × CpInfo)) (last : Nat) : Array CpInfo := ⟨poolList es last⟩
def fileOf (pool : Array CpInfo) (this : Nat) (attrs : Array Attribute := #[]) (ms : Array MethodInfo := #[]) (fl : Nat := 33) (sup : Nat := 0) (ifs : Array Nat := #[]) (fds : Array FieldInfo := #[]) : ClassFile where
  minorVersion := 0
  majorVersion := 65
  constantPool := pool
  accessFlags := fl
  thisClass := this
  superClass := sup
  interfaces := ifs
  fields := fds
  methods := ms
  attributes := attrs
def plain (name : String) (sup : Option ClassId) : Class where
  name := name
  kind := .ordinary
  loader := none
  accessFlags := 33
  super := sup
  interfaces := #[]
  cf := none
  fields := #[]
  methods := #[]
  instanceTypes := #[]
  staticTypes := #[]
  resolved := #[]
  callSites := []
  init := .initialized
  statics := none
  mirror := none

def pool0 : Array CpInfo := pool [(5, u "<init>"), (0, u "()V"), (1, .class_ 10), (1, u "java/lang/Object")] 113

def k0c0 : Code := { maxStack := 0, maxLocals := 1, code := object_method_1_code, exceptionTable := #[], attributes := #[] }
def k0m0 : Method := { name := "<init>", desc := "()V", sig := { parameters := [], returnType := none }, accessFlags := 1, code := some k0c0 }
/-- java/lang/Object -/
def k0 : Class := { plain "java/lang/Object" none with
  accessFlags := 33
  interfaces := #[]
  cf := some (fileOf pool0 8 #[] #[{ accessFlags := 1, nameIndex := 5, descriptorIndex := 6, attributes := #[] }] 33 0 #[] #[])
  fields := #[]
  methods := #[k0m0]
  instanceTypes := #[]
  staticTypes := #[]
  resolved := Array.replicate 124 none
  statics := none }

def pool1 : Array CpInfo := pool [(2, .class_ 4), (0, .nameAndType 5 6), (0, u "java/lang/Object"), (0, u "<init>"), (0, u "()V"), (0, .class_ 8), (0, u "java/util/ArrayList"), (0, .methodref 7 3), (0, .class_ 11), (0, u "com/example/punctual_lease/punctuallease/Node"), (0, .methodref 10 13), (0, .nameAndType 5 14), (0, u "(JJJLjava/util/List;[B)V"), (0, .methodref 10 16), (0, .nameAndType 17 18), (0, u "isEphemeral"), (0, u "()Z"), (0, .class_ 20), (0, u "com/example/punctual_lease/punctuallease/NodeIsEphemeralPinLaw"), (2, u "law"), (0, u "(JJJI)Z")] 7

def k1m0 : Method := { name := "<init>", desc := "()V", sig := { parameters := [], returnType := none }, accessFlags := 1, code := none }
def k1c1 : Code := { maxStack := 10, maxLocals := 14, code := code, exceptionTable := #[], attributes := #[] }
def k1m1 : Method := { name := "law", desc := "(JJJI)Z", sig := { parameters := [.long, .long, .long, .int], returnType := some .boolean }, accessFlags := 9, code := some k1c1 }
/-- com/example/punctual_lease/punctuallease/NodeIsEphemeralPinLaw -/
def k1 : Class := { plain "com/example/punctual_lease/punctuallease/NodeIsEphemeralPinLaw" (some 0) with
  accessFlags := 49
  interfaces := #[]
  cf := some (fileOf pool1 19 #[] #[{ accessFlags := 1, nameIndex := 5, descriptorIndex := 6, attributes := #[] }, { accessFlags := 9, nameIndex := 23, descriptorIndex := 24, attributes := #[] }] 49 2 #[] #[])
  fields := #[]
  methods := #[k1m0, k1m1]
  instanceTypes := #[]
  staticTypes := #[]
  resolved := Array.replicate 32 none
  statics := none }

def pool2 : Array CpInfo := pool [(8, .class_ 10), (1, u "java/lang/Iterable"), (24, .class_ 36), (0, u "java/lang/Object")] 25

/-- java/lang/Iterable -/
def k2 : Class := { plain "java/lang/Iterable" (some 0) with
  accessFlags := 1537
  interfaces := #[]
  cf := some (fileOf pool2 8 #[] #[] 1537 35 #[] #[])
  fields := #[]
  methods := #[]
  instanceTypes := #[]
  staticTypes := #[]
  resolved := Array.replicate 62 none
  statics := none }

def pool3 : Array CpInfo := pool [(10, .class_ 12), (1, u "java/util/Collection"), (47, .class_ 61), (0, u "java/lang/Object"), (0, .class_ 63), (0, u "java/lang/Iterable")] 51

/-- java/util/Collection -/
def k3 : Class := { plain "java/util/Collection" (some 0) with
  accessFlags := 1537
  interfaces := #[2]
  cf := some (fileOf pool3 10 #[] #[] 1537 60 #[62] #[])
  fields := #[]
  methods := #[]
  instanceTypes := #[]
  staticTypes := #[]
  resolved := Array.replicate 115 none
  statics := none }

def pool4 : Array CpInfo := pool [(1, .methodref 2 3), (0, .class_ 4), (0, .nameAndType 5 6), (0, u "java/lang/Object"), (0, u "<init>"), (0, u "()V"), (1, .class_ 10), (1, u "java/util/AbstractCollection"), (66, .class_ 78), (0, u "java/util/Collection")] 81

def k4c0 : Code := { maxStack := 1, maxLocals := 1, code := jdk_22_method_1_code, exceptionTable := #[], attributes := #[] }
def k4m0 : Method := { name := "<init>", desc := "()V", sig := { parameters := [], returnType := none }, accessFlags := 4, code := some k4c0 }
/-- java/util/AbstractCollection -/
def k4 : Class := { plain "java/util/AbstractCollection" (some 0) with
  accessFlags := 1057
  interfaces := #[3]
  cf := some (fileOf pool4 8 #[] #[{ accessFlags := 4, nameIndex := 5, descriptorIndex := 6, attributes := #[] }] 1057 2 #[77] #[])
  fields := #[]
  methods := #[k4m0]
  instanceTypes := #[]
  staticTypes := #[]
  resolved := Array.replicate 160 none
  statics := none }

def pool5 : Array CpInfo := pool [(8, .class_ 10), (1, u "java/util/SequencedCollection"), (15, .class_ 27), (0, u "java/lang/Object"), (0, .class_ 29), (0, u "java/util/Collection")] 27

/-- java/util/SequencedCollection -/
def k5 : Class := { plain "java/util/SequencedCollection" (some 0) with
  accessFlags := 1537
  interfaces := #[3]
  cf := some (fileOf pool5 8 #[] #[] 1537 26 #[28] #[])
  fields := #[]
  methods := #[]
  instanceTypes := #[]
  staticTypes := #[]
  resolved := Array.replicate 57 none
  statics := none }

def pool6 : Array CpInfo := pool [(8, .class_ 10), (1, u "java/util/List"), (92, .class_ 104), (0, u "java/lang/Object"), (15, .class_ 121), (0, u "java/util/SequencedCollection")] 129

/-- java/util/List -/
def k6 : Class := { plain "java/util/List" (some 0) with
  accessFlags := 1537
  interfaces := #[5]
  cf := some (fileOf pool6 8 #[] #[] 1537 103 #[120] #[])
  fields := #[]
  methods := #[]
  instanceTypes := #[]
  staticTypes := #[]
  resolved := Array.replicate 251 none
  statics := none }

def pool7 : Array CpInfo := pool [(1, .methodref 2 3), (0, .class_ 4), (0, .nameAndType 5 6), (0, u "java/util/AbstractCollection"), (0, u "<init>"), (0, u "()V"), (0, .fieldref 8 9), (0, .class_ 10), (0, .nameAndType 11 12), (0, u "java/util/AbstractList"), (0, u "modCount"), (0, u "I"), (64, .class_ 78), (0, u "java/util/AbstractList$Itr"), (3, .class_ 83), (0, u "java/util/AbstractList$ListItr"), (9, .class_ 94), (0, u "java/util/AbstractList$RandomAccessSubList"), (3, .class_ 99), (0, u "java/util/AbstractList$SubList"), (33, .class_ 134), (0, u "java/util/List"), (73, .class_ 209), (0, u "java/util/AbstractList$SubList$1"), (0, .class_ 211), (0, u "java/util/AbstractList$RandomAccessSpliterator")] 6

def k7c0 : Code := { maxStack := 2, maxLocals := 1, code := jdk_39_method_1_code, exceptionTable := #[], attributes := #[] }
def k7m0 : Method := { name := "<init>", desc := "()V", sig := { parameters := [], returnType := none }, accessFlags := 4, code := some k7c0 }
/-- java/util/AbstractList -/
def k7 : Class := { plain "java/util/AbstractList" (some 4) with
  accessFlags := 1057
  interfaces := #[6]
  cf := some (fileOf pool7 8 #[.nestMembers #[93, 98, 208, 210, 82, 77]] #[{ accessFlags := 4, nameIndex := 5, descriptorIndex := 6, attributes := #[] }] 1057 2 #[133] #[{ accessFlags := 132, nameIndex := 11, descriptorIndex := 12, attributes := #[] }])
  fields := #[{ name := "modCount", type := .int, accessFlags := 132, slot := 0, constantValue := 0 }]
  methods := #[k7m0]
  instanceTypes := #[.int]
  staticTypes := #[]
  resolved := Array.replicate 218 none
  statics := none }

def pool8 : Array CpInfo := pool [(1, .class_ 2), (0, u "java/util/RandomAccess"), (0, .class_ 4), (0, u "java/lang/Object")] 2

/-- java/util/RandomAccess -/
def k8 : Class := { plain "java/util/RandomAccess" (some 0) with
  accessFlags := 1537
  interfaces := #[]
  cf := some (fileOf pool8 1 #[] #[] 1537 3 #[] #[])
  fields := #[]
  methods := #[]
  instanceTypes := #[]
  staticTypes := #[]
  resolved := Array.replicate 7 none
  statics := none }

def pool9 : Array CpInfo := pool [(1, .class_ 2), (0, u "java/lang/Cloneable"), (0, .class_ 4), (0, u "java/lang/Object")] 2

/-- java/lang/Cloneable -/
def k9 : Class := { plain "java/lang/Cloneable" (some 0) with
  accessFlags := 1537
  interfaces := #[]
  cf := some (fileOf pool9 1 #[] #[] 1537 3 #[] #[])
  fields := #[]
  methods := #[]
  instanceTypes := #[]
  staticTypes := #[]
  resolved := Array.replicate 7 none
  statics := none }

def pool10 : Array CpInfo := pool [(1, .class_ 2), (0, u "java/io/Serializable"), (0, .class_ 4), (0, u "java/lang/Object")] 2

/-- java/io/Serializable -/
def k10 : Class := { plain "java/io/Serializable" (some 0) with
  accessFlags := 1537
  interfaces := #[]
  cf := some (fileOf pool10 1 #[] #[] 1537 3 #[] #[])
  fields := #[]
  methods := #[]
  instanceTypes := #[]
  staticTypes := #[]
  resolved := Array.replicate 7 none
  statics := none }

def pool11 : Array CpInfo := pool [(1, .methodref 2 3), (0, .class_ 4), (0, .nameAndType 5 6), (0, u "java/util/AbstractList"), (0, u "<init>"), (0, u "()V"), (2, .fieldref 10 11), (0, .class_ 12), (0, .nameAndType 13 14), (0, u "java/util/ArrayList"), (0, u "elementData"), (0, u "[Ljava/lang/Object;"), (2, u "EMPTY_ELEMENTDATA"), (21, .fieldref 10 40), (0, .nameAndType 41 14), (0, u "DEFAULTCAPACITY_EMPTY_ELEMENTDATA"), (8, u "size"), (0, u "I"), (96, .class_ 149), (0, u "java/util/List"), (112, .class_ 263), (0, u "java/util/ArrayList$ListItr"), (3, .class_ 268), (0, u "java/util/ArrayList$Itr"), (7, .class_ 277), (0, u "java/util/ArrayList$SubList"), (12, .class_ 291), (0, u "java/util/ArrayList$ArrayListSpliterator"), (37, .class_ 330), (0, u "java/util/RandomAccess"), (0, .class_ 332), (0, u "java/lang/Cloneable"), (0, .class_ 334), (0, u "java/io/Serializable"), (0, u "serialVersionUID"), (0, u "J"), (3, u "DEFAULT_CAPACITY"), (159, .class_ 501), (0, u "java/util/ArrayList$SubList$2"), (0, .class_ 503), (0, u "java/util/ArrayList$SubList$1")] 5

def k11c0 : Code := { maxStack := 2, maxLocals := 1, code := jdk_38_method_2_code, exceptionTable := #[], attributes := #[] }
def k11m0 : Method := { name := "<init>", desc := "()V", sig := { parameters := [], returnType := none }, accessFlags := 1, code := some k11c0 }
/-- java/util/ArrayList -/
def k11 : Class := { plain "java/util/ArrayList" (some 7) with
  accessFlags := 33
  interfaces := #[6, 8, 9, 10]
  cf := some (fileOf pool11 10 #[.nestMembers #[290, 276, 500, 502, 262, 267]] #[{ accessFlags := 1, nameIndex := 5, descriptorIndex := 6, attributes := #[] }] 33 2 #[148, 329, 331, 333] #[{ accessFlags := 26, nameIndex := 335, descriptorIndex := 336, attributes := #[] }, { accessFlags := 26, nameIndex := 340, descriptorIndex := 51, attributes := #[] }, { accessFlags := 26, nameIndex := 17, descriptorIndex := 14, attributes := #[] }, { accessFlags := 26, nameIndex := 41, descriptorIndex := 14, attributes := #[] }, { accessFlags := 128, nameIndex := 13, descriptorIndex := 14, attributes := #[] }, { accessFlags := 2, nameIndex := 50, descriptorIndex := 51, attributes := #[] }])
  fields := #[{ name := "serialVersionUID", type := .long, accessFlags := 26, slot := 0, constantValue := 0 }, { name := "DEFAULT_CAPACITY", type := .int, accessFlags := 26, slot := 1, constantValue := 0 }, { name := "EMPTY_ELEMENTDATA", type := (.array (.object "java/lang/Object")), accessFlags := 26, slot := 2, constantValue := 0 }, { name := "DEFAULTCAPACITY_EMPTY_ELEMENTDATA", type := (.array (.object "java/lang/Object")), accessFlags := 26, slot := 3, constantValue := 0 }, { name := "elementData", type := (.array (.object "java/lang/Object")), accessFlags := 128, slot := 1, constantValue := 0 }, { name := "size", type := .int, accessFlags := 2, slot := 2, constantValue := 0 }]
  methods := #[k11m0]
  instanceTypes := #[.int, (.array (.object "java/lang/Object")), .int]
  staticTypes := #[.long, .int, (.array (.object "java/lang/Object")), (.array (.object "java/lang/Object"))]
  resolved := Array.replicate 509 none
  statics := some 0 }

def pool12 : Array CpInfo := pool [(1, .methodref 2 3), (0, .class_ 4), (0, .nameAndType 5 6), (0, u "java/lang/Object"), (0, u "<init>"), (0, u "()V"), (0, .class_ 8), (0, u "java/util/HashSet"), (0, .methodref 7 3), (0, .fieldref 11 12), (0, .class_ 13), (0, .nameAndType 14 15), (0, u "com/example/punctual_lease/punctuallease/Node"), (0, u "children"), (0, u "Ljava/util/Set;"), (0, .fieldref 11 17), (0, .nameAndType 18 19), (0, u "czxid"), (0, u "J"), (0, .fieldref 11 21), (0, .nameAndType 22 19), (0, u "ctime"), (0, .fieldref 11 24), (0, .nameAndType 25 19), (0, u "ephemeralOwner"), (0, .fieldref 11 27), (0, .nameAndType 28 29), (0, u "acl"), (0, u "Ljava/util/List;"), (0, .fieldref 11 31), (0, .nameAndType 32 33), (0, u "data"), (0, u "[B"), (0, .fieldref 11 35), (0, .nameAndType 36 19), (0, u "mzxid"), (0, .fieldref 11 38), (0, .nameAndType 39 19), (0, u "mtime"), (0, .fieldref 11 41), (0, .nameAndType 42 19), (0, u "pzxid"), (3, u "version"), (0, u "I"), (0, u "cversion"), (0, u "childrenCreated"), (0, u "(JJJLjava/util/List;[B)V"), (3, u "isEphemeral"), (0, u "()Z")] 5

def k12c0 : Code := { maxStack := 3, maxLocals := 9, code := prog_5_method_1_code, exceptionTable := #[], attributes := #[] }
def k12m0 : Method := { name := "<init>", desc := "(JJJLjava/util/List;[B)V", sig := { parameters := [.long, .long, .long, (.object "java/util/List"), (.array .byte)], returnType := none }, accessFlags := 0, code := some k12c0 }
def k12c1 : Code := { maxStack := 4, maxLocals := 1, code := prog_5_method_2_code, exceptionTable := #[], attributes := #[] }
def k12m1 : Method := { name := "isEphemeral", desc := "()Z", sig := { parameters := [], returnType := some .boolean }, accessFlags := 0, code := some k12c1 }
/-- com/example/punctual_lease/punctuallease/Node -/
def k12 : Class := { plain "com/example/punctual_lease/punctuallease/Node" (some 0) with
  accessFlags := 48
  interfaces := #[]
  cf := some (fileOf pool12 11 #[] #[{ accessFlags := 0, nameIndex := 5, descriptorIndex := 50, attributes := #[] }, { accessFlags := 0, nameIndex := 54, descriptorIndex := 55, attributes := #[] }] 48 2 #[] #[{ accessFlags := 16, nameIndex := 18, descriptorIndex := 19, attributes := #[] }, { accessFlags := 16, nameIndex := 22, descriptorIndex := 19, attributes := #[] }, { accessFlags := 16, nameIndex := 25, descriptorIndex := 19, attributes := #[] }, { accessFlags := 16, nameIndex := 28, descriptorIndex := 29, attributes := #[] }, { accessFlags := 16, nameIndex := 14, descriptorIndex := 15, attributes := #[] }, { accessFlags := 0, nameIndex := 32, descriptorIndex := 33, attributes := #[] }, { accessFlags := 0, nameIndex := 36, descriptorIndex := 19, attributes := #[] }, { accessFlags := 0, nameIndex := 39, descriptorIndex := 19, attributes := #[] }, { accessFlags := 0, nameIndex := 46, descriptorIndex := 47, attributes := #[] }, { accessFlags := 0, nameIndex := 48, descriptorIndex := 47, attributes := #[] }, { accessFlags := 0, nameIndex := 42, descriptorIndex := 19, attributes := #[] }, { accessFlags := 0, nameIndex := 49, descriptorIndex := 19, attributes := #[] }])
  fields := #[{ name := "czxid", type := .long, accessFlags := 16, slot := 0, constantValue := 0 }, { name := "ctime", type := .long, accessFlags := 16, slot := 1, constantValue := 0 }, { name := "ephemeralOwner", type := .long, accessFlags := 16, slot := 2, constantValue := 0 }, { name := "acl", type := (.object "java/util/List"), accessFlags := 16, slot := 3, constantValue := 0 }, { name := "children", type := (.object "java/util/Set"), accessFlags := 16, slot := 4, constantValue := 0 }, { name := "data", type := (.array .byte), accessFlags := 0, slot := 5, constantValue := 0 }, { name := "mzxid", type := .long, accessFlags := 0, slot := 6, constantValue := 0 }, { name := "mtime", type := .long, accessFlags := 0, slot := 7, constantValue := 0 }, { name := "version", type := .int, accessFlags := 0, slot := 8, constantValue := 0 }, { name := "cversion", type := .int, accessFlags := 0, slot := 9, constantValue := 0 }, { name := "pzxid", type := .long, accessFlags := 0, slot := 10, constantValue := 0 }, { name := "childrenCreated", type := .long, accessFlags := 0, slot := 11, constantValue := 0 }]
  methods := #[k12m0, k12m1]
  instanceTypes := #[.long, .long, .long, (.object "java/util/List"), (.object "java/util/Set"), (.array .byte), .long, .long, .int, .int, .long, .long]
  staticTypes := #[]
  resolved := Array.replicate 61 none
  statics := none }

def pool13 : Array CpInfo := pool [(26, .class_ 27), (0, u "java/lang/Object"), (5, .class_ 34), (0, u "java/util/Set"), (1, .class_ 38), (1, u "java/util/Collection")] 105

/-- java/util/Set -/
def k13 : Class := { plain "java/util/Set" (some 0) with
  accessFlags := 1537
  interfaces := #[3]
  cf := some (fileOf pool13 33 #[] #[] 1537 26 #[36] #[])
  fields := #[]
  methods := #[]
  instanceTypes := #[]
  staticTypes := #[]
  resolved := Array.replicate 144 none
  statics := none }

def pool14 : Array CpInfo := pool [(1, .methodref 2 3), (0, .class_ 4), (0, .nameAndType 5 6), (0, u "java/util/AbstractCollection"), (0, u "<init>"), (0, u "()V"), (0, .class_ 8), (0, u "java/util/Set"), (7, .class_ 17), (0, u "java/util/AbstractSet")] 78

def k14c0 : Code := { maxStack := 1, maxLocals := 1, code := jdk_91_method_1_code, exceptionTable := #[], attributes := #[] }
def k14m0 : Method := { name := "<init>", desc := "()V", sig := { parameters := [], returnType := none }, accessFlags := 4, code := some k14c0 }
/-- java/util/AbstractSet -/
def k14 : Class := { plain "java/util/AbstractSet" (some 4) with
  accessFlags := 1057
  interfaces := #[13]
  cf := some (fileOf pool14 16 #[] #[{ accessFlags := 4, nameIndex := 5, descriptorIndex := 6, attributes := #[] }] 1057 2 #[7] #[])
  fields := #[]
  methods := #[k14m0]
  instanceTypes := #[]
  staticTypes := #[]
  resolved := Array.replicate 96 none
  statics := none }

def pool15 : Array CpInfo := pool [(1, .methodref 2 3), (0, .class_ 4), (0, .nameAndType 5 6), (0, u "java/util/AbstractSet"), (0, u "<init>"), (0, u "()V"), (0, .class_ 8), (0, u "java/util/HashMap"), (0, .methodref 7 3), (0, .fieldref 11 12), (0, .class_ 13), (0, .nameAndType 14 15), (0, u "java/util/HashSet"), (0, u "map"), (0, u "Ljava/util/HashMap;"), (34, .class_ 52), (1, u "java/util/Set"), (13, u "PRESENT"), (0, u "Ljava/lang/Object;"), (158, .class_ 227), (0, u "java/lang/Cloneable"), (0, .class_ 229), (0, u "java/io/Serializable"), (0, u "serialVersionUID"), (0, u "J")] 71

def k15c0 : Code := { maxStack := 3, maxLocals := 1, code := jdk_93_method_1_code, exceptionTable := #[], attributes := #[] }
def k15m0 : Method := { name := "<init>", desc := "()V", sig := { parameters := [], returnType := none }, accessFlags := 1, code := some k15c0 }
/-- java/util/HashSet -/
def k15 : Class := { plain "java/util/HashSet" (some 14) with
  accessFlags := 33
  interfaces := #[13, 9, 10]
  cf := some (fileOf pool15 11 #[] #[{ accessFlags := 1, nameIndex := 5, descriptorIndex := 6, attributes := #[] }] 33 2 #[50, 226, 228] #[{ accessFlags := 24, nameIndex := 230, descriptorIndex := 231, attributes := #[] }, { accessFlags := 128, nameIndex := 14, descriptorIndex := 15, attributes := #[] }, { accessFlags := 24, nameIndex := 66, descriptorIndex := 67, attributes := #[] }])
  fields := #[{ name := "serialVersionUID", type := .long, accessFlags := 24, slot := 0, constantValue := 0 }, { name := "map", type := (.object "java/util/HashMap"), accessFlags := 128, slot := 0, constantValue := 0 }, { name := "PRESENT", type := (.object "java/lang/Object"), accessFlags := 24, slot := 1, constantValue := 0 }]
  methods := #[k15m0]
  instanceTypes := #[(.object "java/util/HashMap")]
  staticTypes := #[.long, (.object "java/lang/Object")]
  resolved := Array.replicate 303 none
  statics := none }

def pool16 : Array CpInfo := pool [(2, .class_ 4), (1, u "java/util/Map"), (31, .class_ 37), (0, u "java/util/Map$Entry"), (55, .class_ 94), (0, u "java/lang/Object")] 168

/-- java/util/Map -/
def k16 : Class := { plain "java/util/Map" (some 0) with
  accessFlags := 1537
  interfaces := #[]
  cf := some (fileOf pool16 2 #[.nestMembers #[36]] #[] 1537 93 #[] #[])
  fields := #[]
  methods := #[]
  instanceTypes := #[]
  staticTypes := #[]
  resolved := Array.replicate 263 none
  statics := none }

def pool17 : Array CpInfo := pool [(1, .methodref 2 3), (0, .class_ 4), (0, .nameAndType 5 6), (0, u "java/lang/Object"), (0, u "<init>"), (0, u "()V"), (1, .class_ 10), (1, u "java/util/AbstractMap"), (42, .class_ 54), (0, u "java/util/Map"), (9, u "keySet"), (0, u "Ljava/util/Set;"), (0, .class_ 67), (0, u "java/util/AbstractMap$1"), (5, u "values"), (0, u "Ljava/util/Collection;"), (0, .class_ 76), (0, u "java/util/AbstractMap$2"), (104, .class_ 182), (0, u "java/util/AbstractMap$ViewCollection"), (0, .class_ 184), (0, u "java/util/AbstractMap$SimpleImmutableEntry"), (0, .class_ 186), (0, u "java/util/AbstractMap$SimpleEntry"), (0, .class_ 188), (0, u "java/util/AbstractMap$2$1"), (0, .class_ 190), (0, u "java/util/AbstractMap$1$1")] 5

def k17c0 : Code := { maxStack := 1, maxLocals := 1, code := jdk_71_method_1_code, exceptionTable := #[], attributes := #[] }
def k17m0 : Method := { name := "<init>", desc := "()V", sig := { parameters := [], returnType := none }, accessFlags := 4, code := some k17c0 }
/-- java/util/AbstractMap -/
def k17 : Class := { plain "java/util/AbstractMap" (some 0) with
  accessFlags := 1057
  interfaces := #[16]
  cf := some (fileOf pool17 8 #[.nestMembers #[181, 183, 185, 75, 187, 66, 189]] #[{ accessFlags := 4, nameIndex := 5, descriptorIndex := 6, attributes := #[] }] 1057 2 #[53] #[{ accessFlags := 128, nameIndex := 64, descriptorIndex := 65, attributes := #[] }, { accessFlags := 128, nameIndex := 73, descriptorIndex := 74, attributes := #[] }])
  fields := #[{ name := "keySet", type := (.object "java/util/Set"), accessFlags := 128, slot := 0, constantValue := 0 }, { name := "values", type := (.object "java/util/Collection"), accessFlags := 128, slot := 1, constantValue := 0 }]
  methods := #[k17m0]
  instanceTypes := #[(.object "java/util/Set"), (.object "java/util/Collection")]
  staticTypes := #[]
  resolved := Array.replicate 196 none
  statics := none }

def pool18 : Array CpInfo := pool [(40, .class_ 41), (0, u "java/util/HashMap"), (1, .methodref 44 45), (0, .class_ 46), (0, .nameAndType 47 48), (0, u "java/util/AbstractMap"), (0, u "<init>"), (0, u "()V"), (32, .fieldref 40 82), (0, .nameAndType 83 84), (0, u "loadFactor"), (0, u "F"), (5, u "threshold"), (0, u "I"), (0, .float 1061158912), (8, .class_ 103), (1, u "java/util/Map"), (0, u "size"), (2, u "table"), (0, u "[Ljava/util/HashMap$Node;"), (14, u "entrySet"), (39, .class_ 165), (1, u "java/util/HashMap$Node"), (14, .class_ 181), (0, u "java/util/HashMap$TreeNode"), (22, u "modCount"), (37, u "Ljava/util/Set;"), (0, .class_ 244), (0, u "java/util/HashMap$KeySet"), (18, .class_ 264), (0, u "java/util/HashMap$Values"), (3, .class_ 269), (0, u "java/util/HashMap$EntrySet"), (76, .class_ 348), (1, u "java/util/HashMap$UnsafeHolder"), (43, .class_ 393), (0, u "java/lang/Cloneable"), (0, .class_ 395), (0, u "java/io/Serializable"), (0, u "serialVersionUID"), (0, u "J"), (3, u "DEFAULT_INITIAL_CAPACITY"), (1, u "MAXIMUM_CAPACITY"), (0, u "DEFAULT_LOAD_FACTOR"), (0, u "TREEIFY_THRESHOLD"), (1, u "UNTREEIFY_THRESHOLD"), (1, u "MIN_TREEIFY_CAPACITY"), (186, .class_ 597), (0, u "java/util/HashMap$EntrySpliterator"), (0, .class_ 599), (0, u "java/util/HashMap$ValueSpliterator"), (0, .class_ 601), (0, u "java/util/HashMap$KeySpliterator"), (0, .class_ 603), (0, u "java/util/HashMap$HashMapSpliterator"), (0, .class_ 605), (0, u "java/util/HashMap$EntryIterator"), (0, .class_ 607), (0, u "java/util/HashMap$ValueIterator"), (0, .class_ 609), (0, u "java/util/HashMap$KeyIterator"), (0, .class_ 611), (0, u "java/util/HashMap$HashIterator")] 17

def k18c0 : Code := { maxStack := 2, maxLocals := 1, code := jdk_69_method_7_code, exceptionTable := #[], attributes := #[] }
def k18m0 : Method := { name := "<init>", desc := "()V", sig := { parameters := [], returnType := none }, accessFlags := 1, code := some k18c0 }
/-- java/util/HashMap -/
def k18 : Class := { plain "java/util/HashMap" (some 17) with
  accessFlags := 33
  interfaces := #[16, 9, 10]
  cf := some (fileOf pool18 40 #[.nestMembers #[180, 596, 598, 600, 602, 604, 606, 608, 610, 346, 268, 263, 243, 163]] #[{ accessFlags := 1, nameIndex := 47, descriptorIndex := 48, attributes := #[] }] 33 44 #[101, 392, 394] #[{ accessFlags := 26, nameIndex := 396, descriptorIndex := 397, attributes := #[] }, { accessFlags := 24, nameIndex := 401, descriptorIndex := 91, attributes := #[] }, { accessFlags := 24, nameIndex := 403, descriptorIndex := 91, attributes := #[] }, { accessFlags := 24, nameIndex := 404, descriptorIndex := 84, attributes := #[] }, { accessFlags := 24, nameIndex := 405, descriptorIndex := 91, attributes := #[] }, { accessFlags := 24, nameIndex := 407, descriptorIndex := 91, attributes := #[] }, { accessFlags := 24, nameIndex := 409, descriptorIndex := 91, attributes := #[] }, { accessFlags := 128, nameIndex := 107, descriptorIndex := 108, attributes := #[] }, { accessFlags := 128, nameIndex := 123, descriptorIndex := 242, attributes := #[] }, { accessFlags := 128, nameIndex := 104, descriptorIndex := 91, attributes := #[] }, { accessFlags := 128, nameIndex := 204, descriptorIndex := 91, attributes := #[] }, { accessFlags := 0, nameIndex := 90, descriptorIndex := 91, attributes := #[] }, { accessFlags := 16, nameIndex := 83, descriptorIndex := 84, attributes := #[] }])
  fields := #[{ name := "serialVersionUID", type := .long, accessFlags := 26, slot := 0, constantValue := 0 }, { name := "DEFAULT_INITIAL_CAPACITY", type := .int, accessFlags := 24, slot := 1, constantValue := 0 }, { name := "MAXIMUM_CAPACITY", type := .int, accessFlags := 24, slot := 2, constantValue := 0 }, { name := "DEFAULT_LOAD_FACTOR", type := .float, accessFlags := 24, slot := 3, constantValue := 0 }, { name := "TREEIFY_THRESHOLD", type := .int, accessFlags := 24, slot := 4, constantValue := 0 }, { name := "UNTREEIFY_THRESHOLD", type := .int, accessFlags := 24, slot := 5, constantValue := 0 }, { name := "MIN_TREEIFY_CAPACITY", type := .int, accessFlags := 24, slot := 6, constantValue := 0 }, { name := "table", type := (.array (.object "java/util/HashMap$Node")), accessFlags := 128, slot := 2, constantValue := 0 }, { name := "entrySet", type := (.object "java/util/Set"), accessFlags := 128, slot := 3, constantValue := 0 }, { name := "size", type := .int, accessFlags := 128, slot := 4, constantValue := 0 }, { name := "modCount", type := .int, accessFlags := 128, slot := 5, constantValue := 0 }, { name := "threshold", type := .int, accessFlags := 0, slot := 6, constantValue := 0 }, { name := "loadFactor", type := .float, accessFlags := 16, slot := 7, constantValue := 0 }]
  methods := #[k18m0]
  instanceTypes := #[(.object "java/util/Set"), (.object "java/util/Collection"), (.array (.object "java/util/HashMap$Node")), (.object "java/util/Set"), .int, .int, .int, .float]
  staticTypes := #[.long, .int, .int, .float, .int, .int, .int]
  resolved := Array.replicate 629 none
  statics := none }

/-- the primitive byte -/
def k19 : Class := { plain "byte" none with kind := .primitive 'B', accessFlags := 0x411 }
/-- [B -/
def k20 : Class := { plain "[B" (some 0) with kind := .array 19 .byte, interfaces := #[9, 10], accessFlags := 1041 }

/-- the primitive int -/
def k21 : Class := { plain "int" none with kind := .primitive 'I', accessFlags := 0x411 }
/-- [I -/
def k22 : Class := { plain "[I" (some 0) with kind := .array 21 .int, interfaces := #[9, 10], accessFlags := 1041 }

/-- [Ljava/lang/Object; -/
def k23 : Class := { plain "[Ljava/lang/Object;" (some 0) with kind := .array 0 (.object "java/lang/Object"), interfaces := #[9, 10], accessFlags := 1041 }

def heap : Heap := #[{ cls := 11, slots := #[.long 0, .int 0, .ref 1, .ref 2], vm := .statics 11 },
  { cls := 23, slots := #[], vm := .none },
  { cls := 23, slots := #[], vm := .none }]
def classes : Array Class := #[k0, k1, k2, k3, k4, k5, k6, k7, k8, k9, k10, k11, k12, k13, k14, k15, k16, k17, k18, k19, k20, k21, k22, k23]
def interned : List (Array UInt16 × Addr) := []
def slotsUsed : Nat := 4
def theMethod : MethodId := ⟨1, 1⟩
def args0 : Array Value := #[.long 5, .long 3, .long 1, .int 2]
def aboutOver (below : List Frame) : State where
  vm := { classes := classes, interned := interned.toArray }
  heap := heap
  slotsUsed := slotsUsed
  threads := #[{ frames := .invoking theMethod args0 :: below }]
def below0 : List Frame := [.native { method := ⟨0, 0⟩, args := #[] }]
def about1 : State := aboutOver below0
def p0 : Program := .bare "" "" ""
def e0 : Env := launch0.env 0 0 0
theorem w_frames : about1.frames = Frame.invoking theMethod args0 :: below0 := rfl
set_option maxRecDepth 65536 in
theorem w_args : argsFit about1.vm theMethod args0 = true := by decide +kernel
set_option maxRecDepth 65536 in
theorem w_heap : heapFits about1 = true := by decide +kernel
set_option maxRecDepth 65536 in
theorem w_runnable : about1.curStatus? = some .runnable := by decide +kernel
set_option maxRecDepth 65536 in
theorem w_alone : about1.alone = true := by decide +kernel
set_option maxRecDepth 65536 in
theorem w_named : about1.methodNamed? x = some theMethod := by decide +kernel
set_option maxRecDepth 65536 in
theorem w_hears : about1.hears theMethod below0 = true := by decide +kernel
set_option maxRecDepth 65536 in
theorem w_ripe : about1.ripe theMethod args0 below0 = true := by decide +kernel
theorem w_running : about1.status = .running := rfl
set_option maxRecDepth 65536 in
theorem w_room : about1.hasRoom e0.platform room_1 = true :=
  launch0.hasRoom_least _ room_1 (by decide +kernel) (by decide +kernel) (by decide +kernel) (by decide +kernel) (by decide +kernel) (by decide +kernel)
theorem allAtoms_all (ts : List Jvm.Cond) (a : Array Jvm.Value) (st : Jvm.State) : (allAtoms ts).before a st = ts.all (fun c => c.before a st) := by
  induction ts with
  | nil => rfl
  | cons c t ih =>
    show (Jvm.Cond.and c (allAtoms t)).before a st = _
    rw [Jvm.Cond.before_and, ih, List.all_cons]
def words1 : List Jvm.Cond := Jvm.Cond.code x code maxLocals ret :: tables_1
/-- a 'code' word, met by the world's own term for the bytes: nothing is compared byte by byte -/
theorem code_word {y : MethodName} {bytes : ByteArray} {mx : Nat} {rt : Option FieldType} {a : Array Value} {s : State} {m : MethodId} {meth : Method} {c : Code} (h1 : s.methodNamed? y = some m) (h2 : s.vm.method? m = some meth) (h3 : meth.code = some c) (h4 : c.code = bytes)
    (h5 : (c.maxLocals == mx && c.exceptionTable.isEmpty && decide (c.maxStack ≤ mostOperands) && decide (meth.sig.returnType = rt) && !meth.locks && decide (parseMethodDescriptor y.desc = some meth.sig)) = true) : (Jvm.Cond.code y bytes mx rt).before a s = true := by
  simp only [Bool.and_eq_true, beq_iff_eq, Bool.not_eq_true', decide_eq_true_eq] at h5
  obtain ⟨⟨⟨⟨⟨g1, g2⟩, g3⟩, g4⟩, g5⟩, g6⟩ := h5
  simp [Cond.before, Cond.holds, Cond.value, h1, h2, h3, h4, g1, g2, g3, g4, g5, g6]
def isCode : Jvm.Cond → Bool
  | .code _ _ _ _ => true
  | _ => false
theorem all_split {L : List Jvm.Cond} {P : Jvm.Cond → Bool} (h1 : L.all (fun c => isCode c || P c) = true) (h2 : ∀ c ∈ L.filter isCode, P c = true) : L.all P = true := by
  refine List.all_eq_true.mpr fun c hc => ?_
  have h := List.all_eq_true.mp h1 c hc
  rcases Bool.eq_false_or_eq_true (isCode c) with hi | hi
  · exact h2 c (List.mem_filter.mpr ⟨hc, hi⟩)
  · simpa [hi] using h
set_option maxRecDepth 65536 in
theorem w_c0 : (Jvm.Cond.code x code maxLocals ret).before args0 about1 = true := code_word (m := ⟨1, 1⟩) (meth := k1m1) (c := k1c1) (by decide +kernel) rfl rfl rfl (by decide +kernel)
set_option maxRecDepth 65536 in
theorem w_c1 : (Jvm.Cond.code ({ cls := "java/util/ArrayList", name := "<init>", desc := "()V" } : Jvm.MethodName) jdk_38_method_2_code (1 : Nat) (Option.none : Option Jvm.ClassFile.FieldType)).before args0 about1 = true := code_word (m := ⟨11, 0⟩) (meth := k11m0) (c := k11c0) (by decide +kernel) rfl rfl rfl (by decide +kernel)
set_option maxRecDepth 65536 in
theorem w_c2 : (Jvm.Cond.code ({ cls := "java/util/AbstractList", name := "<init>", desc := "()V" } : Jvm.MethodName) jdk_39_method_1_code (1 : Nat) (Option.none : Option Jvm.ClassFile.FieldType)).before args0 about1 = true := code_word (m := ⟨7, 0⟩) (meth := k7m0) (c := k7c0) (by decide +kernel) rfl rfl rfl (by decide +kernel)
set_option maxRecDepth 65536 in
theorem w_c3 : (Jvm.Cond.code ({ cls := "java/util/AbstractCollection", name := "<init>", desc := "()V" } : Jvm.MethodName) jdk_22_method_1_code (1 : Nat) (Option.none : Option Jvm.ClassFile.FieldType)).before args0 about1 = true := code_word (m := ⟨4, 0⟩) (meth := k4m0) (c := k4c0) (by decide +kernel) rfl rfl rfl (by decide +kernel)
set_option maxRecDepth 65536 in
theorem w_c4 : (Jvm.Cond.code ({ cls := "java/lang/Object", name := "<init>", desc := "()V" } : Jvm.MethodName) object_method_1_code (1 : Nat) (Option.none : Option Jvm.ClassFile.FieldType)).before args0 about1 = true := code_word (m := ⟨0, 0⟩) (meth := k0m0) (c := k0c0) (by decide +kernel) rfl rfl rfl (by decide +kernel)
set_option maxRecDepth 65536 in
theorem w_c5 : (Jvm.Cond.code ({ cls := "com/example/punctual_lease/punctuallease/Node", name := "<init>", desc := "(JJJLjava/util/List;[B)V" } : Jvm.MethodName) prog_5_method_1_code (9 : Nat) (Option.none : Option Jvm.ClassFile.FieldType)).before args0 about1 = true := code_word (m := ⟨12, 0⟩) (meth := k12m0) (c := k12c0) (by decide +kernel) rfl rfl rfl (by decide +kernel)
set_option maxRecDepth 65536 in
theorem w_c6 : (Jvm.Cond.code ({ cls := "java/util/HashSet", name := "<init>", desc := "()V" } : Jvm.MethodName) jdk_93_method_1_code (1 : Nat) (Option.none : Option Jvm.ClassFile.FieldType)).before args0 about1 = true := code_word (m := ⟨15, 0⟩) (meth := k15m0) (c := k15c0) (by decide +kernel) rfl rfl rfl (by decide +kernel)
set_option maxRecDepth 65536 in
theorem w_c7 : (Jvm.Cond.code ({ cls := "java/util/AbstractSet", name := "<init>", desc := "()V" } : Jvm.MethodName) jdk_91_method_1_code (1 : Nat) (Option.none : Option Jvm.ClassFile.FieldType)).before args0 about1 = true := code_word (m := ⟨14, 0⟩) (meth := k14m0) (c := k14c0) (by decide +kernel) rfl rfl rfl (by decide +kernel)
set_option maxRecDepth 65536 in
theorem w_c8 : (Jvm.Cond.code ({ cls := "java/util/HashMap", name := "<init>", desc := "()V" } : Jvm.MethodName) jdk_69_method_7_code (1 : Nat) (Option.none : Option Jvm.ClassFile.FieldType)).before args0 about1 = true := code_word (m := ⟨18, 0⟩) (meth := k18m0) (c := k18c0) (by decide +kernel) rfl rfl rfl (by decide +kernel)
set_option maxRecDepth 65536 in
theorem w_c9 : (Jvm.Cond.code ({ cls := "java/util/AbstractMap", name := "<init>", desc := "()V" } : Jvm.MethodName) jdk_71_method_1_code (1 : Nat) (Option.none : Option Jvm.ClassFile.FieldType)).before args0 about1 = true := code_word (m := ⟨17, 0⟩) (meth := k17m0) (c := k17c0) (by decide +kernel) rfl rfl rfl (by decide +kernel)
set_option maxRecDepth 65536 in
theorem w_c10 : (Jvm.Cond.code ({ cls := "com/example/punctual_lease/punctuallease/Node", name := "isEphemeral", desc := "()Z" } : Jvm.MethodName) prog_5_method_2_code (1 : Nat) (Option.some Jvm.ClassFile.FieldType.boolean)).before args0 about1 = true := code_word (m := ⟨12, 1⟩) (meth := k12m1) (c := k12c1) (by decide +kernel) rfl rfl rfl (by decide +kernel)
def codes1 : List Jvm.Cond := [Jvm.Cond.code x code maxLocals ret, Jvm.Cond.code ({ cls := "java/util/ArrayList", name := "<init>", desc := "()V" } : Jvm.MethodName) jdk_38_method_2_code (1 : Nat) (Option.none : Option Jvm.ClassFile.FieldType), Jvm.Cond.code ({ cls := "java/util/AbstractList", name := "<init>", desc := "()V" } : Jvm.MethodName) jdk_39_method_1_code (1 : Nat) (Option.none : Option Jvm.ClassFile.FieldType), Jvm.Cond.code ({ cls := "java/util/AbstractCollection", name := "<init>", desc := "()V" } : Jvm.MethodName) jdk_22_method_1_code (1 : Nat) (Option.none : Option Jvm.ClassFile.FieldType), Jvm.Cond.code ({ cls := "java/lang/Object", name := "<init>", desc := "()V" } : Jvm.MethodName) object_method_1_code (1 : Nat) (Option.none : Option Jvm.ClassFile.FieldType), Jvm.Cond.code ({ cls := "com/example/punctual_lease/punctuallease/Node", name := "<init>", desc := "(JJJLjava/util/List;[B)V" } : Jvm.MethodName) prog_5_method_1_code (9 : Nat) (Option.none : Option Jvm.ClassFile.FieldType), Jvm.Cond.code ({ cls := "java/util/HashSet", name := "<init>", desc := "()V" } : Jvm.MethodName) jdk_93_method_1_code (1 : Nat) (Option.none : Option Jvm.ClassFile.FieldType), Jvm.Cond.code ({ cls := "java/util/AbstractSet", name := "<init>", desc := "()V" } : Jvm.MethodName) jdk_91_method_1_code (1 : Nat) (Option.none : Option Jvm.ClassFile.FieldType), Jvm.Cond.code ({ cls := "java/util/HashMap", name := "<init>", desc := "()V" } : Jvm.MethodName) jdk_69_method_7_code (1 : Nat) (Option.none : Option Jvm.ClassFile.FieldType), Jvm.Cond.code ({ cls := "java/util/AbstractMap", name := "<init>", desc := "()V" } : Jvm.MethodName) jdk_71_method_1_code (1 : Nat) (Option.none : Option Jvm.ClassFile.FieldType), Jvm.Cond.code ({ cls := "com/example/punctual_lease/punctuallease/Node", name := "isEphemeral", desc := "()Z" } : Jvm.MethodName) prog_5_method_2_code (1 : Nat) (Option.some Jvm.ClassFile.FieldType.boolean)]
set_option maxRecDepth 65536 in
theorem codes_eq : words1.filter isCode = codes1 := rfl
theorem w_codes : ∀ c ∈ words1.filter isCode, c.before args0 about1 = true := by
  rw [codes_eq]
  intro c hc
  simp only [codes1, List.mem_cons, List.not_mem_nil, or_false] at hc
  rcases hc with rfl | rfl | rfl | rfl | rfl | rfl | rfl | rfl | rfl | rfl | rfl
  · exact w_c0
  · exact w_c1
  · exact w_c2
  · exact w_c3
  · exact w_c4
  · exact w_c5
  · exact w_c6
  · exact w_c7
  · exact w_c8
  · exact w_c9
  · exact w_c10
set_option maxRecDepth 65536 in
theorem w_t1 : (words1.take 24).all (fun c => isCode c || c.before args0 about1) = true := by decide +kernel
set_option maxRecDepth 65536 in
theorem w_t2 : ((words1.drop 24).take 24).all (fun c => isCode c || c.before args0 about1) = true := by decide +kernel
set_option maxRecDepth 65536 in
theorem w_t3 : (((words1.drop 24).drop 24).take 24).all (fun c => isCode c || c.before args0 about1) = true := by decide +kernel
set_option maxRecDepth 65536 in
theorem w_t4 : (((words1.drop 24).drop 24).drop 24).all (fun c => isCode c || c.before args0 about1) = true := by decide +kernel
theorem w_tables : (allAtoms (Jvm.Cond.code x code maxLocals ret :: tables_1)).before args0 about1 = true := by
  rw [allAtoms_all]
  show words1.all (fun c => c.before args0 about1) = true
  refine all_split ?_ w_codes
  rw [← List.take_append_drop 24 words1, List.all_append, w_t1, ← List.take_append_drop 24 (words1.drop 24), List.all_append, w_t2, ← List.take_append_drop 24 ((words1.drop 24).drop 24), List.all_append, w_t3, w_t4]
  rfl
set_option maxRecDepth 65536 in
theorem w_rest : rest_1_c.before args0 about1 = true := by decide +kernel
set_option maxRecDepth 65536 in
theorem w_case : (Jvm.Cond.and given_1 narrow_1).before args0 about1 = true := by decide +kernel
theorem w_applies : (headSpec (Jvm.Cond.code x code maxLocals ret :: tables_1) room_1).applies x e0.platform about1 = true :=
  (Spec.applies_iff w_frames).mpr ⟨w_running, w_runnable, w_alone, w_named, w_hears, w_ripe, w_room, w_tables⟩
theorem atStart : AtStart classFile x code maxLocals ret World_1 tables_1 room_1 Calls_1 rest_1 Pre_1 launch0 p0 e0 about1 theMethod args0 below0 :=
  ⟨lists_1, trivial, launch0.admits_env _ _ _, launch0.least_env, fairChoices_fair.cas, fairChoices_fair.clock, w_frames, w_args, w_heap, w_applies, trivial, w_rest, w_case⟩
end start1
theorem witness_1 : WitnessClaimed_1 := ⟨start1.p0, start1.e0, start1.about1, start1.theMethod, start1.args0, start1.below0, start1.atStart⟩
end Jvm.Pilot.@@N@@
