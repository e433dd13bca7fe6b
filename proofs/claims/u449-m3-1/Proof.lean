import JvmDerived
import JvmDerived.Pilot.@@N@@Statement
import JvmDerived.Pilot.@@N@@Code
set_option linter.unusedVariables false
set_option linter.unusedSimpArgs false
namespace Jvm.Pilot.@@N@@
open Jvm Jvm.ClassFile Sem Op Lib Jvm.Free Jvm.Stand Jvm.LawKit Jvm.RoadKit Bundle Jvm.Pilot.@@N@@.Jvm.D
section Own
variable {p : Program} {l : Launch} {e : Env} {R : Room} {s : State} {m : MethodId} {args : Array Value} {below : List Frame} {meth : Method} {c : Code} {T : State} {locs : List Loc} {cells slots : Nat} {C N : Nat} {Q : Option Value → Heap → List Loc → Prop} {S S' : State} {Z : State} {h h' : Heap}
/-- from the state S the invocation ends in a return, and Q holds there -/
def Go (p : Program) (e : Env) (below : List Frame) (s : State) (C N : Nat) (Q : Option Value → Heap → List Loc → Prop) (S : State) : Prop :=
  ∃ s₂ o, Steps p.tables e below S s₂ ∧ s₂.status = .running ∧ Ended s₂ below o ∧ ∃ v L, o = .returned v ∧ Q v s₂.heap L ∧ FrameEnd s o s₂ L C N
theorem Go.step (st : ∀ t, Steps p.tables e below S' t → Steps p.tables e below S t) (G : Go p e below s C N Q S') : Go p e below s C N Q S := by
  obtain ⟨s₂, o, h, r⟩ := G
  exact ⟨s₂, o, st _ h, r⟩
theorem Go.tr (st : Steps p.tables e below S S') (G : Go p e below s C N Q S') : Go p e below s C N Q S := by
  obtain ⟨s₂, o, h, r⟩ := G
  exact ⟨s₂, o, st.trans h, r⟩
theorem Go.out (X : Stand p l e R s m args below meth c T locs cells slots) {v : Option Value} {g : JFrame} (hv : meth.sig.returnType = none → v = none) (hlk : meth.locks = false)
    (hst : ∀ fs, (∀ (f : JFrame) (acts : List Action), f.method = m → f.locked = none → f.entered = [] → (doReturn e (T.setTop f) acts v).1 = T.setFrames fs) → Steps p.tables e below (T.setTop g) (T.setFrames fs))
    (hQ : Q v T.heap locs) (hc : cells ≤ C) (hn : slots ≤ N) : Go p e below s C N Q (T.setTop g) := by
  obtain ⟨fs, hr, hrun, hended, hW, hsame⟩ := X.leave (v := v) hv hlk
  exact ⟨_, _, hst fs hr, hrun, hended, _, _, rfl, hQ, ⟨_, rfl⟩, hW, hsame.mono hc hn⟩
theorem Go.retV (X : Stand p l e R s m args below meth c T locs cells slots) (hx : p.tables.exec = Jvm.exec) {pc : Nat} {Ls : Array Slot} (hret : meth.sig.returnType = none) (hlk : meth.locks = false) (hd : decode c.code pc = .ok (.return_, 1))
    (hQ : Q none T.heap locs) (hc : cells ≤ C) (hn : slots ≤ N) : Go p e below s C N Q (T.setTop (mkF m pc Ls [])) :=
  Go.out X (fun _ => rfl) hlk (fun fs hr => X.returnOut hx hret hd hr) hQ hc hn
theorem Go.retI (X : Stand p l e R s m args below meth c T locs cells slots) (hx : p.tables.exec = Jvm.exec) {pc : Nat} {Ls : Array Slot} {z : Int32} {rest : List Value} (hret : meth.sig.returnType = some .int) (hlk : meth.locks = false) (hd : decode c.code pc = .ok (.ireturn, 1))
    (hQ : Q (some (.int z)) T.heap locs) (hc : cells ≤ C) (hn : slots ≤ N) : Go p e below s C N Q (T.setTop (mkF m pc Ls (.int z :: rest))) :=
  Go.out X (fun h => by rw [hret] at h; cases h) hlk (fun fs hr => retOut X hx hret rfl (Or.inl ⟨rfl, Or.inl rfl, z, rfl⟩) hd hr) hQ hc hn
theorem Go.retN (X : Stand p l e R s m args below meth c T locs cells slots) (hx : p.tables.exec = Jvm.exec) {pc : Nat} {Ls : Array Slot} {z : Int32} {t : FieldType} {rest : List Value} (hret : meth.sig.returnType = some t) (ht : t = .boolean ∨ t = .byte ∨ t = .char ∨ t = .short) (hlk : meth.locks = false) (hd : decode c.code pc = .ok (.ireturn, 1))
    (hQ : Q (some (.int (nar t z))) T.heap locs) (hc : cells ≤ C) (hn : slots ≤ N) : Go p e below s C N Q (T.setTop (mkF m pc Ls (.int z :: rest))) :=
  Go.out X (fun h => by rw [hret] at h; cases h) hlk (fun fs hr => Jvm.RoadKit.retN X hx hret ht hd hr) hQ hc hn
theorem Go.retJ (X : Stand p l e R s m args below meth c T locs cells slots) (hx : p.tables.exec = Jvm.exec) {pc : Nat} {Ls : Array Slot} {z : Int64} {rest : List Value} (hret : meth.sig.returnType = some .long) (hlk : meth.locks = false) (hd : decode c.code pc = .ok (.lreturn, 1))
    (hQ : Q (some (.long z)) T.heap locs) (hc : cells ≤ C) (hn : slots ≤ N) : Go p e below s C N Q (T.setTop (mkF m pc Ls (.long z :: rest))) :=
  Go.out X (fun h => by rw [hret] at h; cases h) hlk (fun fs hr => retOut X hx hret rfl (Or.inr (Or.inl ⟨rfl, rfl, z, rfl⟩)) hd hr) hQ hc hn
theorem Go.retA (X : Stand p l e R s m args below meth c T locs cells slots) (hx : p.tables.exec = Jvm.exec) {pc : Nat} {Ls : Array Slot} {w : Value} {t : FieldType} {rest : List Value} (hret : meth.sig.returnType = some t) (ht : t.isReference = true) (hw : w.isRef = true) (hlk : meth.locks = false) (hd : decode c.code pc = .ok (.areturn, 1))
    (hQ : Q (some w) T.heap locs) (hc : cells ≤ C) (hn : slots ≤ N) : Go p e below s C N Q (T.setTop (mkF m pc Ls (w :: rest))) :=
  Go.out X (fun h => by rw [hret] at h; cases h) hlk (fun fs hr => retOut X hx hret (by rcases ref_cases hw with rfl | ⟨a, rfl⟩ <;> cases t <;> first | rfl | cases ht) (Or.inr (Or.inr (Or.inr (Or.inr ⟨rfl, ht, hw⟩)))) hd hr) hQ hc hn
/-- an array of ints, bytes ..: z places, the j-th holds f j -/
def Ai (Z : State) (h : Heap) (a : Addr) (ty : FieldType) (z : Int32) (f : Int32 → Int32) : Prop :=
  ∃ c : Cell, Arr Z h a c ty ∧ c.slots.size = z.toNatClampNeg ∧ ¬ z < 0 ∧ ∀ j : Int32, ¬ j < 0 → j < z → c.slots[j.toNatClampNeg]? = some (.int (f j))
theorem own_inb {cl : Cell} {z j : Int32} (S : cl.slots.size = z.toNatClampNeg) (h0 : ¬ j < 0) (h1 : j < z) : ¬ (j < 0 ∨ cl.slots.size ≤ j.toNatClampNeg) := inb_of S ⟨h0, h1⟩
theorem Ai.lt {a : Addr} {ty : FieldType} {z : Int32} {f : Int32 → Int32} (F : Ai Z h a ty z f) : a < h.size := by obtain ⟨c, A, -⟩ := F; exact A.lt
theorem Ai.nn {a : Addr} {ty : FieldType} {z : Int32} {f : Int32 → Int32} (F : Ai Z h a ty z f) : ¬ z < 0 := by obtain ⟨c, -, -, q, -⟩ := F; exact q
theorem Ai.ext {a : Addr} {ty : FieldType} {z : Int32} {f : Int32 → Int32} (F : Ai Z h a ty z f) (E : Ext h h') : Ai Z h' a ty z f := by obtain ⟨c, A, r⟩ := F; exact ⟨c, A.ext E, r⟩
theorem Ai.other {a b : Addr} {sl : Nat} {v : Value} {ty : FieldType} {z : Int32} {f : Int32 → Int32} (F : Ai Z h b ty z f) (W : Wr h h' a sl v) (q : b ≠ a) : Ai Z h' b ty z f := by obtain ⟨c, A, r⟩ := F; exact ⟨c, A.other W q, r⟩
theorem Ai.keep {a : Addr} {ws : List Addr} {ty : FieldType} {z : Int32} {f : Int32 → Int32} (F : Ai Z h a ty z f) (K : Keep h h' ws) (q : a ∉ ws) : Ai Z h' a ty z f := by obtain ⟨c, A, r⟩ := F; exact ⟨c, ⟨K.2.1 a c A.1 q, A.2⟩, r⟩
theorem Ai.new {a : Addr} {k : ClassId} {ty : FieldType} {z : Int32} (A : Arr Z h a (newA k ty z) ty) (q : ¬ z < 0) (hd : defaultValue ty = .int 0) : Ai Z h a ty z (fun _ => 0) :=
  ⟨_, A, sz_new _ _ _, q, fun j h0 h1 => by rw [get_new (sz_new k ty z ▸ own_inb (sz_new k ty z) h0 h1), hd]⟩
theorem Ai.eqf {a : Addr} {ty : FieldType} {z : Int32} {f g : Int32 → Int32} (F : Ai Z h a ty z f) (q : ∀ j : Int32, ¬ j < 0 → j < z → f j = g j) : Ai Z h a ty z g := by
  obtain ⟨c, A, S, n, H⟩ := F; exact ⟨c, A, S, n, fun j h0 h1 => by rw [← q j h0 h1]; exact H j h0 h1⟩
theorem Ai.set {a : Addr} {ty : FieldType} {z j x : Int32} {f : Int32 → Int32} (F : Ai Z h a ty z f) (h0 : ¬ j < 0) (h1 : j < z) (W : Wr h h' a j.toNatClampNeg (.int x)) : Ai Z h' a ty z (fun i => if i = j then x else f i) := by
  obtain ⟨c, A, S, n, H⟩ := F
  refine ⟨_, A.same W, by rw [sz_set]; exact S, n, fun i g0 g1 => ?_⟩
  by_cases e : i = j
  · rw [get_hit (own_inb S h0 h1) e]; simp [e]
  · rw [get_miss h0 g0 e, H i g0 g1]; simp [e]
theorem Ai.len (X : Stand p l e R s m args below meth c T locs cells slots) (hx : p.tables.exec = Jvm.exec) (hZ : Z.Warmed39 s.vm) (eT : T.heap = h) {a : Addr} {ty : FieldType} {z : Int32} {f : Int32 → Int32} (F : Ai Z h a ty z f)
    {g : JFrame} (hg : g.method = m) {rest : List Value} (hs : g.stack = .ref a :: rest) (hd : decode c.code g.pc = .ok (.arraylength, 1)) : ∀ target, Steps p.tables e below (T.setTop { g with pc := g.pc + 1, stack := .int z :: rest }) target → Steps p.tables e below (T.setTop g) target := by
  obtain ⟨cl, A, S, n, H⟩ := F
  intro t k
  refine X.arraylength hx (by rw [eT]; exact A.1) (State.isArrayOf_alike hZ.alike A.2.1) hg hs hd _ ?_
  rw [len_of S n]; exact k
theorem Ai.iaload (X : Stand p l e R s m args below meth c T locs cells slots) (hx : p.tables.exec = Jvm.exec) (hZ : Z.Warmed39 s.vm) (eT : T.heap = h) {a : Addr} {z j : Int32} {f : Int32 → Int32} (F : Ai Z h a .int z f) (h0 : ¬ j < 0) (h1 : j < z)
    {g : JFrame} (hg : g.method = m) {rest : List Value} (hs : g.stack = .int j :: .ref a :: rest) (hd : decode c.code g.pc = .ok (.iaload, 1)) : ∀ target, Steps p.tables e below (T.setTop { g with pc := g.pc + 1, stack := .int (f j) :: rest }) target → Steps p.tables e below (T.setTop g) target := by
  obtain ⟨cl, A, S, n, H⟩ := F
  exact X.iaload hx (by rw [eT]; exact A.1) (State.isArrayOf_alike hZ.alike A.2.1) A.2.2 (own_inb S h0 h1) (H j h0 h1) hg hs hd
theorem Ai.baload (X : Stand p l e R s m args below meth c T locs cells slots) (hx : p.tables.exec = Jvm.exec) (hZ : Z.Warmed39 s.vm) (eT : T.heap = h) {a : Addr} {z j : Int32} {f : Int32 → Int32} (F : Ai Z h a .byte z f) (h0 : ¬ j < 0) (h1 : j < z)
    {g : JFrame} (hg : g.method = m) {rest : List Value} (hs : g.stack = .int j :: .ref a :: rest) (hd : decode c.code g.pc = .ok (.baload, 1)) : ∀ target, Steps p.tables e below (T.setTop { g with pc := g.pc + 1, stack := .int (f j) :: rest }) target → Steps p.tables e below (T.setTop g) target := by
  obtain ⟨cl, A, S, n, H⟩ := F
  exact X.baloadBytes hx (by rw [eT]; exact A.1) (State.isArrayOf_alike hZ.alike A.2.1) A.2.2 (own_inb S h0 h1) (H j h0 h1) hg hs hd
theorem Ai.stI (X : Stand p l e R s m args below meth c T locs cells slots) (hx : p.tables.exec = Jvm.exec) (hZ : Z.Warmed39 s.vm) (eT : T.heap = h) {a : Addr} {z j x : Int32} {f : Int32 → Int32} (F : Ai Z h a .int z f) (h0 : ¬ j < 0) (h1 : j < z)
    {g : JFrame} (hg : g.method = m) {rest : List Value} (hs : g.stack = .int x :: .int j :: .ref a :: rest) (hd : decode c.code g.pc = .ok (.iastore, 1)) :
    ∃ T' h', Stand p l e R s m args below meth c T' (locs ++ [⟨a, j.toNatClampNeg⟩]) cells slots ∧ T'.heap = h' ∧ Wr h h' a j.toNatClampNeg (.int x) ∧ Ai Z h' a .int z (fun i => if i = j then x else f i) ∧ ∀ target, Steps p.tables e below (T'.setTop { g with pc := g.pc + 1, stack := rest }) target → Steps p.tables e below (T.setTop g) target := by
  obtain ⟨cl, A, S, n, H⟩ := F
  obtain ⟨T', h', X', e', W, st⟩ := Jvm.RoadKit.stI X hx hZ eT A (own_inb S h0 h1) hg hs hd
  exact ⟨T', h', X', e', W, Ai.set ⟨cl, A, S, n, H⟩ h0 h1 W, st⟩
theorem Ai.stB (X : Stand p l e R s m args below meth c T locs cells slots) (hx : p.tables.exec = Jvm.exec) (hZ : Z.Warmed39 s.vm) (eT : T.heap = h) {a : Addr} {z j x : Int32} {f : Int32 → Int32} (F : Ai Z h a .byte z f) (h0 : ¬ j < 0) (h1 : j < z)
    {g : JFrame} (hg : g.method = m) {rest : List Value} (hs : g.stack = .int x :: .int j :: .ref a :: rest) (hd : decode c.code g.pc = .ok (.bastore, 1)) :
    ∃ T' h', Stand p l e R s m args below meth c T' (locs ++ [⟨a, j.toNatClampNeg⟩]) cells slots ∧ T'.heap = h' ∧ Wr h h' a j.toNatClampNeg (.int (nar .byte x)) ∧ Ai Z h' a .byte z (fun i => if i = j then nar .byte x else f i) ∧ ∀ target, Steps p.tables e below (T'.setTop { g with pc := g.pc + 1, stack := rest }) target → Steps p.tables e below (T.setTop g) target := by
  obtain ⟨cl, A, S, n, H⟩ := F
  obtain ⟨T', h', X', e', W, st⟩ := Jvm.RoadKit.stB X hx hZ eT A (own_inb S h0 h1) hg hs hd
  exact ⟨T', h', X', e', W, Ai.set ⟨cl, A, S, n, H⟩ h0 h1 W, st⟩
end Own
theorem narrow_ref {t : FieldType} {v : Value} (hv : v.isRef = true) (ht : t.isReference = true) : narrow t v = v := by rcases ref_cases hv with rfl | ⟨a, rfl⟩ <;> cases t <;> first | rfl | cases ht
theorem fits_refV {t : FieldType} {v : Value} (hv : v.isRef = true) (ht : t.isReference = true) : fits t v = true := by rcases ref_cases hv with rfl | ⟨a, rfl⟩ <;> cases t <;> first | rfl | cases ht
theorem own_iincW {tb : Tables} [Ours tb] {e : Env} {below : List Frame} {T target : State} {m : MethodId} {c : Code} {g : JFrame} (h : At T m c below) (hx : tb.exec = Jvm.exec) (hg : g.method = m) {k : Nat} {cst : Int} {x : Int32} {l' : Array Slot} (hd : decode c.code g.pc = .ok (.iinc k cst, 6)) (hl : g.locals[k]? = some (.val (.int x))) (hl' : storeLocals g.locals k (.int (x + Int32.ofInt cst)) = some l')
    (hr : Steps tb e below (T.setTop { g with pc := g.pc + 6, locals := l' }) target) : Steps tb e below (T.setTop g) target := by
  subst hg
  jvm_step h [h.top, hx, hd, hl, hl']
  exact hr

section Own
variable {p : Program} {l : Launch} {e : Env} {R : Room} {s : State} {m : MethodId} {args : Array Value} {below : List Frame} {meth : Method} {c : Code} {T : State} {locs : List Loc} {cells slots : Nat} {Z : State} {h h' : Heap} {a0 : Array Value}
theorem own_nat {i : Nat} (q : i < 2 ^ 31) : i.toInt32.toNatClampNeg = i := by
  show i.toInt32.toInt.toNat = i
  rw [len_toInt q]; rfl
theorem own_clampLt {z : Int32} : z.toNatClampNeg < 2 ^ 31 := by
  show z.toInt.toNat < 2 ^ 31
  have := rng32 z; omega
theorem own_natR {i : Nat} {z : Int32} (q : i < z.toNatClampNeg) : ¬ i.toInt32 < 0 ∧ i.toInt32 < z := by
  have q1 := Nat.lt_trans q (own_clampLt (z := z))
  have e1 := len_toInt q1
  have q2 : i < z.toInt.toNat := q
  have e0 : (0 : Int32).toInt = 0 := by decide
  rw [Int32.lt_iff_toInt_lt, Int32.lt_iff_toInt_lt, e1, e0]
  omega
theorem own_natJ {j z : Int32} (h0 : ¬ j < 0) (h1 : j < z) : j.toNatClampNeg < z.toNatClampNeg ∧ j.toNatClampNeg.toInt32 = j := by
  refine ⟨?_, (back32 h0).1⟩
  show j.toInt.toNat < z.toInt.toNat
  have e0 : (0 : Int32).toInt = 0 := by decide
  rw [Int32.lt_iff_toInt_lt, e0] at h0
  rw [Int32.lt_iff_toInt_lt] at h1
  omega
def own_vs (z : Int32) (f : Int32 → Int32) : List Value := (List.range z.toNatClampNeg).map fun i => Value.int (f i.toInt32)
theorem own_vsAt {z : Int32} {f : Int32 → Int32} {i : Nat} {d : Value} (q : i < z.toNatClampNeg) : (own_vs z f).getD i d = .int (f i.toInt32) := by
  simp [own_vs, List.getD, q]
theorem own_vsLen (z : Int32) (f : Int32 → Int32) : (own_vs z f).length = z.toNatClampNeg := by simp [own_vs]
theorem Ai.arv {a : Addr} {z : Int32} {f : Int32 → Int32} (F : Ai Z h a .int z f) : ∃ k, Arv Z h a k .int z (own_vs z f) (.int 0) := by
  obtain ⟨c, A, S, n, H⟩ := F
  refine ⟨c.cls, c, A, rfl, S, n, fun i hi => ?_, fun i hi => ?_⟩
  · rw [S] at hi
    have q := own_natR hi
    rw [own_vsAt hi, ← H _ q.1 q.2, own_nat (Nat.lt_trans hi own_clampLt)]
  · rw [S] at hi
    rw [own_vsAt hi]; rfl
theorem Ai.ofArv {a : Addr} {k : ClassId} {z : Int32} {vs : List Value} {d : Value} {f : Int32 → Int32} (F : Arv Z h a k .int z vs d) (q : ∀ j : Int32, ¬ j < 0 → j < z → vs.getD j.toNatClampNeg d = .int (f j)) : Ai Z h a .int z f := by
  obtain ⟨c, A, -, S, n, H, -⟩ := F
  refine ⟨c, A, S, n, fun j h0 h1 => ?_⟩
  have r := own_natJ h0 h1
  rw [← q j h0 h1]
  exact H _ (by rw [S]; exact r.1)
theorem Ai.copy (X : Stand p l e R s m args below meth c T locs cells slots) (hx : p.tables.exec = Jvm.exec) (hZ : Z.Warmed39 s.vm) {own : String} {index : Nat} (hown : s.vm.findClass own = some m.cls)
    (w1 : (Cond.methodLink own index Jvm.Stand.acN).before a0 Z = true) (w2 : (Cond.native Jvm.Stand.acN).before a0 Z = true) (w3 : (Cond.static Jvm.Stand.acN).before a0 Z = true) (w4 : (Cond.initialized "java/lang/System").before a0 Z = true) (eT : T.heap = h)
    {a b : Addr} {z z' nn : Int32} {f : Int32 → Int32} (A : Ai Z h a .int z f) (B : Ai Z h b .int z' (fun _ => 0)) (h3 : ¬ nn < 0) (h4 : ¬ z < nn) (h5 : ¬ z' < nn) {n0 : Nat} (N : Fr n0 locs) (ge : n0 ≤ b)
    {g : JFrame} (hg : g.method = m) (hsize : g.locals.size = c.maxLocals) {rest : List Value} (hs : g.stack = .int nn :: .int 0 :: .ref b :: .int 0 :: .ref a :: rest) (hd : decode c.code g.pc = .ok (.invokestatic index, 3))
    (hf : 1 ≤ R.frames) {W : Nat} (hW : 2 * g.monitorRoom + (rest.map fun v => v.category).sum ≤ W) (hlo : W + (nativeFrameWords "java/lang/System" "arraycopy" 5 + 11) ≤ R.locals) :
    ∃ T' h' L, Stand p l e R s m args below meth c T' L cells slots ∧ T'.heap = h' ∧ Fr n0 L ∧ Keep h h' [b] ∧ Ai Z h' b .int z' (fun j => if j < nn then f j else 0) ∧
      ∀ target, Steps p.tables e below (T'.setTop { g with pc := g.pc + 3, stack := rest }) target → Steps p.tables e below (T.setTop g) target := by
  obtain ⟨k, A'⟩ := A.arv
  obtain ⟨k', B'⟩ := B.arv
  have e0 : (0 : Int32).toNatClampNeg = 0 := by decide
  have le (x y : Int32) (q : ¬ x < y) : y.toNatClampNeg ≤ x.toNatClampNeg := by
    show y.toInt.toNat ≤ x.toInt.toNat
    rw [Int32.lt_iff_toInt_lt] at q; omega
  obtain ⟨T', h', L, X', e', N', K, V, st⟩ := cpA X hx hZ hown w1 w2 w3 w4 eT A' B' (sp := 0) (dp := 0) (nn := nn) (us := (List.range nn.toNatClampNeg).map fun i => (own_vs z f).getD ((0 : Int32).toNatClampNeg + i) (.int 0)) (Or.inl ⟨rfl, rfl⟩) (by decide) (by decide) h3 (by rw [e0, Nat.zero_add]; exact le _ _ h4) (by rw [e0, Nat.zero_add]; exact le _ _ h5) rfl (by rw [e0, Nat.zero_add, own_vsLen]; exact le _ _ h5) N ge hg hsize hs hd hf hW hlo
  refine ⟨T', h', L, X', e', N', K, Ai.ofArv V fun j q0 q1 => ?_, st⟩
  have r := own_natJ q0 q1
  rw [e0]
  simp only [Nat.zero_add, List.take_zero, List.nil_append]
  by_cases q : j < nn
  · have r2 := own_natJ q0 q
    have r3 := (own_natJ q0 (show j < z by rw [Int32.lt_iff_toInt_lt] at *; omega))
    rw [if_pos q]
    simp only [List.getD_eq_getElem?_getD]
    rw [List.getElem?_append_left (by simpa using r2.1)]
    simp only [List.getElem?_map, List.getElem?_range r2.1, Option.map_some, Option.getD_some]
    have := own_vsAt (f := f) (d := .int 0) r3.1
    rw [r3.2] at this
    simpa [List.getD_eq_getElem?_getD] using this
  · rw [if_neg q]
    have r2 : nn.toNatClampNeg ≤ j.toNatClampNeg := le _ _ q
    simp only [List.getD_eq_getElem?_getD]
    rw [List.getElem?_append_right (by simpa using r2)]
    have := own_vsAt (f := fun _ => 0) (d := .int 0) r.1
    simp only [List.getD_eq_getElem?_getD] at this
    simp only [List.length_map, List.length_range, List.getElem?_drop]
    rw [Nat.add_sub_cancel' r2]
    exact this
end Own

theorem own_nb1 : nar .boolean 1 = 1 := by decide
theorem own_nb0 : nar .boolean 0 = 0 := by decide
theorem own_lirr {a : Int32} : ¬ a < a := by rw [Int32.lt_iff_toInt_lt]; omega
theorem own_lasym {a b : Int32} (h : a < b) : ¬ b < a := by rw [Int32.lt_iff_toInt_lt] at *; omega
theorem own_lneg {a b : Int32} (h0 : ¬ a < 0) (h : a < b) : ¬ b < 0 := by rw [Int32.lt_iff_toInt_lt] at *; omega
theorem own_clamp {z : Int32} {n : Nat} (h : z.toInt ≤ n) : z.toNatClampNeg ≤ n := by
  show z.toInt.toNat ≤ n
  omega
theorem own_i_0 : (0 : Int32).toInt = 0 := by decide
theorem own_i_1 : (1 : Int32).toInt = 1 := by decide
theorem own_i_2 : (2 : Int32).toInt = 2 := by decide
theorem own_i_7 : (7 : Int32).toInt = 7 := by decide
theorem own_i_15 : (15 : Int32).toInt = 15 := by decide
theorem own_i_30 : (30 : Int32).toInt = 30 := by decide
theorem own_m7 (x : Int32) : ¬ (x &&& 7) < 0 ∧ (x &&& 7).toNatClampNeg ≤ 7 ∧ ¬ (30 : Int32) < (x &&& 7) := by
  have h := c_mask x 7 3 (by decide) (by decide)
  refine ⟨?_, own_clamp (by omega), ?_⟩ <;> (simp only [Int32.lt_iff_toInt_lt, own_i_0, own_i_30]; omega)
theorem own_m15 (x : Int32) : ¬ (x &&& 15) < 0 ∧ ¬ (15 : Int32) < (x &&& 15) := by
  have h := c_mask x 15 4 (by decide) (by decide)
  refine ⟨?_, ?_⟩ <;> (simp only [Int32.lt_iff_toInt_lt, own_i_0, own_i_15]; omega)
theorem own_m31 (x : Int32) : ¬ (x &&& 31) < 0 := by
  have h := c_mask x 31 5 (by decide) (by decide)
  simp only [Int32.lt_iff_toInt_lt, own_i_0]; omega
theorem own_mM (x : Int32) : ¬ (x &&& 2147483647) < 0 := by
  have h := c_mask x 2147483647 31 (by decide) (by decide)
  simp only [Int32.lt_iff_toInt_lt, own_i_0]; omega
theorem own_grow {p z : Int32} (h0 : ¬ p < 0) (h1 : ¬ (15 : Int32) < p) (hz : ¬ z < 0) (h : ¬ p < z) :
    p < (if p + 1 < 2 * z then 2 * z else p + 1) ∧ z < (if p + 1 < 2 * z then 2 * z else p + 1) ∧ (if p + 1 < 2 * z then 2 * z else p + 1).toNatClampNeg ≤ 30 ∧ ¬ (30 : Int32) < (if p + 1 < 2 * z then 2 * z else p + 1) := by
  have a1 := c_iadd p 1
  have a2 := rng32 (p + 1)
  have a3 := c_imul 2 z
  have a4 := rng32 (2 * z)
  simp only [Int32.lt_iff_toInt_lt, own_i_0, own_i_1, own_i_2, own_i_15, own_i_30] at *
  split <;> refine ⟨by omega, by omega, own_clamp (by omega), by omega⟩
theorem d5_0 : decode jdk_29_method_65_code 0 = .ok (.iload_n 0, 1) := by decide +kernel
theorem d5_1 : decode jdk_29_method_65_code 1 = .ok (.iload_n 1, 1) := by decide +kernel
theorem d5_2 : decode jdk_29_method_65_code 2 = .ok (.if_icmp .lt 7, 3) := by decide +kernel
theorem d5_5 : decode jdk_29_method_65_code 5 = .ok (.iload_n 0, 1) := by decide +kernel
theorem d5_6 : decode jdk_29_method_65_code 6 = .ok (.goto 4, 3) := by decide +kernel
theorem d5_9 : decode jdk_29_method_65_code 9 = .ok (.iload_n 1, 1) := by decide +kernel
theorem d5_10 : decode jdk_29_method_65_code 10 = .ok (.ireturn, 1) := by decide +kernel
theorem ef_5 (m : MethodId) (p0 : Int32) (p1 : Int32) : entryFrame m #[(.int p0), (.int p1)] 2 = mkF m 0 #[.val (.int p0), .val (.int p1)] [] := by first | (simp [entryFrame, mkF, argsToLocals, Value.category]; done) | rfl
def Q5 (Z : State) (p0 : Int32) (p1 : Int32) (h0 : Heap) (n0 : Nat) (v : Option Value) (h : Heap) (L : List Loc) : Prop := (v = some (.int (if p0 < p1 then p1 else p0))) ∧ (Fr n0 L) ∧ (h = h0)
set_option maxRecDepth 65536 in
set_option maxHeartbeats 40000000 in
theorem rm5 (l : Launch) (Z : State) (aZ : Array Value) (hw : ∀ d ∈ tables_1, d.before aZ Z = true) (ws : List Jvm.Cond) (p0 : Int32) (p1 : Int32) (h0 : Heap) (n0 : Nat) (Z0 : n0 ≤ h0.size)  :
    MetFree l (⟨"java/lang/Math", "max", "(II)I"⟩ : MethodName) (head1 (Jvm.Cond.code (⟨"java/lang/Math", "max", "(II)I"⟩ : MethodName) jdk_29_method_65_code 2 (some .int) :: ws) ({ frames := 0, cells := 0, slots := 0, locals := 0 } : Room)) (fun a U => a = #[(.int p0), (.int p1)] ∧ Z.Warmed39 U.vm ∧ U.heap = h0) (fun _ _ _ _ _ => True) (fun _ U o U' => ∃ v L, o = .returned v ∧ Q5 Z p0 p1 h0 n0 v U'.heap L ∧ FrameEnd U o U' L ({ frames := 0, cells := 0, slots := 0, locals := 0 } : Room).cells ({ frames := 0, cells := 0, slots := 0, locals := 0 } : Room).slots) := by
  refine MetFree.of_bodySF (Jvm.Free.JP.mathPlain rfl (by decide +kernel)) hisR ?_
  intro p e s m args below meth c s₁ Bd hml0 hP hK
  obtain ⟨rfl, hZ, hh⟩ := hP
  have hx := Bd.exec
  have hby := Bd.bytes
  have hml : c.maxLocals = 2 := hml0
  have hown : s.vm.findClass "java/lang/Math" = some m.cls := findClass_of_methodNamed Bd.named
  have hnm := (name_of_methodNamed Bd.named Bd.method).1
  have hlk : meth.locks = false := BodyLoose.notSynchronized Bd
  have X0 : Stand p l e ({ frames := 0, cells := 0, slots := 0, locals := 0 } : Room) s m #[(.int p0), (.int p1)] below meth c s₁ [] 0 0 := Stand.of_body Bd
  have e0 : s₁.heap = h0 := by rw [← hh, Bd.state]; rfl
  have N0 := Fr.nil n0
  have sq0 : h0.size ≤ h0.size := Nat.le_refl _
  change Go p e below s ({ frames := 0, cells := 0, slots := 0, locals := 0 } : Room).cells ({ frames := 0, cells := 0, slots := 0, locals := 0 } : Room).slots (Q5 Z p0 p1 h0 n0) (s₁.setTop (entryFrame m #[(.int p0), (.int p1)] 2))
  rw [ef_5 m p0 p1]
  show Go _ _ _ _ _ _ _ (s₁.setTop (mkF m 0 #[.val (.int p0), .val (.int p1)] []))
  refine Go.step (fun _ k => XS.iloadN X0.here hx rfl (hb hby d5_0) rfl  k) ?_
  show Go _ _ _ _ _ _ _ (s₁.setTop (mkF m 1 #[.val (.int p0), .val (.int p1)] [(.int p0)]))
  refine Go.step (fun _ k => XS.iloadN X0.here hx rfl (hb hby d5_1) rfl  k) ?_
  show Go _ _ _ _ _ _ _ (s₁.setTop (mkF m 2 #[.val (.int p0), .val (.int p1)] [(.int p1), (.int p0)]))
  by_cases hc2 : p0 < p1
  · skip
    refine Go.step (fun _ k => XS.icmpYes X0.here hx rfl (pc0 := 2) (pc' := 9) rfl (hb hby d5_2) rfl (tlt hc2).1 (by decide) (by decide) k) ?_
    show Go _ _ _ _ _ _ _ (s₁.setTop (mkF m 9 #[.val (.int p0), .val (.int p1)] []))
    refine Go.step (fun _ k => XS.iloadN X0.here hx rfl (hb hby d5_9) rfl  k) ?_
    show Go _ _ _ _ _ _ _ (s₁.setTop (mkF m 10 #[.val (.int p0), .val (.int p1)] [(.int p1)]))
    refine Go.retI X0 hx Bd.returns hlk (hb hby d5_10) ?_ (by decide) (by decide)
    rw [e0]
    exact ⟨(by first | rfl | rw [if_pos hc2] | rw [if_neg hc2]), N0, rfl⟩
  · skip
    refine Go.step (fun _ k => XS.icmpNo X0.here hx rfl (hb hby d5_2) rfl (flt hc2).1 k) ?_
    show Go _ _ _ _ _ _ _ (s₁.setTop (mkF m 5 #[.val (.int p0), .val (.int p1)] []))
    refine Go.step (fun _ k => XS.iloadN X0.here hx rfl (hb hby d5_5) rfl  k) ?_
    show Go _ _ _ _ _ _ _ (s₁.setTop (mkF m 6 #[.val (.int p0), .val (.int p1)] [(.int p0)]))
    refine Go.step (fun _ k => XS.goto X0.here hx rfl (pc0 := 6) (pc' := 10) rfl (hb hby d5_6) (by decide) (by decide) k) ?_
    show Go _ _ _ _ _ _ _ (s₁.setTop (mkF m 10 #[.val (.int p0), .val (.int p1)] [(.int p0)]))
    refine Go.retI X0 hx Bd.returns hlk (hb hby d5_10) ?_ (by decide) (by decide)
    rw [e0]
    exact ⟨(by first | rfl | rw [if_pos hc2] | rw [if_neg hc2]), N0, rfl⟩
theorem d7_0 : decode jdk_29_method_69_code 0 = .ok (.iload_n 0, 1) := by decide +kernel
theorem d7_1 : decode jdk_29_method_69_code 1 = .ok (.iload_n 1, 1) := by decide +kernel
theorem d7_2 : decode jdk_29_method_69_code 2 = .ok (.if_icmp .gt 7, 3) := by decide +kernel
theorem d7_5 : decode jdk_29_method_69_code 5 = .ok (.iload_n 0, 1) := by decide +kernel
theorem d7_6 : decode jdk_29_method_69_code 6 = .ok (.goto 4, 3) := by decide +kernel
theorem d7_9 : decode jdk_29_method_69_code 9 = .ok (.iload_n 1, 1) := by decide +kernel
theorem d7_10 : decode jdk_29_method_69_code 10 = .ok (.ireturn, 1) := by decide +kernel
theorem ef_7 (m : MethodId) (p0 : Int32) (p1 : Int32) : entryFrame m #[(.int p0), (.int p1)] 2 = mkF m 0 #[.val (.int p0), .val (.int p1)] [] := by first | (simp [entryFrame, mkF, argsToLocals, Value.category]; done) | rfl
def Q7 (Z : State) (p0 : Int32) (p1 : Int32) (h0 : Heap) (n0 : Nat) (v : Option Value) (h : Heap) (L : List Loc) : Prop := (v = some (.int (if p1 < p0 then p1 else p0))) ∧ (Fr n0 L) ∧ (h = h0)
set_option maxRecDepth 65536 in
set_option maxHeartbeats 40000000 in
theorem rm7 (l : Launch) (Z : State) (aZ : Array Value) (hw : ∀ d ∈ tables_1, d.before aZ Z = true) (ws : List Jvm.Cond) (p0 : Int32) (p1 : Int32) (h0 : Heap) (n0 : Nat) (Z0 : n0 ≤ h0.size)  :
    MetFree l (⟨"java/lang/Math", "min", "(II)I"⟩ : MethodName) (head1 (Jvm.Cond.code (⟨"java/lang/Math", "min", "(II)I"⟩ : MethodName) jdk_29_method_69_code 2 (some .int) :: ws) ({ frames := 0, cells := 0, slots := 0, locals := 0 } : Room)) (fun a U => a = #[(.int p0), (.int p1)] ∧ Z.Warmed39 U.vm ∧ U.heap = h0) (fun _ _ _ _ _ => True) (fun _ U o U' => ∃ v L, o = .returned v ∧ Q7 Z p0 p1 h0 n0 v U'.heap L ∧ FrameEnd U o U' L ({ frames := 0, cells := 0, slots := 0, locals := 0 } : Room).cells ({ frames := 0, cells := 0, slots := 0, locals := 0 } : Room).slots) := by
  refine MetFree.of_bodySF (Jvm.Free.JP.mathPlain rfl (by decide +kernel)) hisR ?_
  intro p e s m args below meth c s₁ Bd hml0 hP hK
  obtain ⟨rfl, hZ, hh⟩ := hP
  have hx := Bd.exec
  have hby := Bd.bytes
  have hml : c.maxLocals = 2 := hml0
  have hown : s.vm.findClass "java/lang/Math" = some m.cls := findClass_of_methodNamed Bd.named
  have hnm := (name_of_methodNamed Bd.named Bd.method).1
  have hlk : meth.locks = false := BodyLoose.notSynchronized Bd
  have X0 : Stand p l e ({ frames := 0, cells := 0, slots := 0, locals := 0 } : Room) s m #[(.int p0), (.int p1)] below meth c s₁ [] 0 0 := Stand.of_body Bd
  have e0 : s₁.heap = h0 := by rw [← hh, Bd.state]; rfl
  have N0 := Fr.nil n0
  have sq0 : h0.size ≤ h0.size := Nat.le_refl _
  change Go p e below s ({ frames := 0, cells := 0, slots := 0, locals := 0 } : Room).cells ({ frames := 0, cells := 0, slots := 0, locals := 0 } : Room).slots (Q7 Z p0 p1 h0 n0) (s₁.setTop (entryFrame m #[(.int p0), (.int p1)] 2))
  rw [ef_7 m p0 p1]
  show Go _ _ _ _ _ _ _ (s₁.setTop (mkF m 0 #[.val (.int p0), .val (.int p1)] []))
  refine Go.step (fun _ k => XS.iloadN X0.here hx rfl (hb hby d7_0) rfl  k) ?_
  show Go _ _ _ _ _ _ _ (s₁.setTop (mkF m 1 #[.val (.int p0), .val (.int p1)] [(.int p0)]))
  refine Go.step (fun _ k => XS.iloadN X0.here hx rfl (hb hby d7_1) rfl  k) ?_
  show Go _ _ _ _ _ _ _ (s₁.setTop (mkF m 2 #[.val (.int p0), .val (.int p1)] [(.int p1), (.int p0)]))
  by_cases hc2 : p1 < p0
  · skip
    refine Go.step (fun _ k => XS.icmpYes X0.here hx rfl (pc0 := 2) (pc' := 9) rfl (hb hby d7_2) rfl (tlt hc2).2.2.1 (by decide) (by decide) k) ?_
    show Go _ _ _ _ _ _ _ (s₁.setTop (mkF m 9 #[.val (.int p0), .val (.int p1)] []))
    refine Go.step (fun _ k => XS.iloadN X0.here hx rfl (hb hby d7_9) rfl  k) ?_
    show Go _ _ _ _ _ _ _ (s₁.setTop (mkF m 10 #[.val (.int p0), .val (.int p1)] [(.int p1)]))
    refine Go.retI X0 hx Bd.returns hlk (hb hby d7_10) ?_ (by decide) (by decide)
    rw [e0]
    exact ⟨(by first | rfl | rw [if_pos hc2] | rw [if_neg hc2]), N0, rfl⟩
  · skip
    refine Go.step (fun _ k => XS.icmpNo X0.here hx rfl (hb hby d7_2) rfl (flt hc2).2.2.1 k) ?_
    show Go _ _ _ _ _ _ _ (s₁.setTop (mkF m 5 #[.val (.int p0), .val (.int p1)] []))
    refine Go.step (fun _ k => XS.iloadN X0.here hx rfl (hb hby d7_5) rfl  k) ?_
    show Go _ _ _ _ _ _ _ (s₁.setTop (mkF m 6 #[.val (.int p0), .val (.int p1)] [(.int p0)]))
    refine Go.step (fun _ k => XS.goto X0.here hx rfl (pc0 := 6) (pc' := 10) rfl (hb hby d7_6) (by decide) (by decide) k) ?_
    show Go _ _ _ _ _ _ _ (s₁.setTop (mkF m 10 #[.val (.int p0), .val (.int p1)] [(.int p0)]))
    refine Go.retI X0 hx Bd.returns hlk (hb hby d7_10) ?_ (by decide) (by decide)
    rw [e0]
    exact ⟨(by first | rfl | rw [if_pos hc2] | rw [if_neg hc2]), N0, rfl⟩
theorem pn_6 : plainName "java/util/Arrays" = true := by first | (simp [plainName, overriddenIn]; done) | decide +kernel
theorem pd_0 : parseMethodDescriptor "(II)I" = some ⟨[.int, .int], some .int⟩ := by decide +kernel
theorem d6_0 : decode jdk_65_method_123_code 0 = .ok (.iload_n 1, 1) := by decide +kernel
theorem d6_1 : decode jdk_65_method_123_code 1 = .ok (.aload_n 0, 1) := by decide +kernel
theorem d6_2 : decode jdk_65_method_123_code 2 = .ok (.arraylength, 1) := by decide +kernel
theorem d6_3 : decode jdk_65_method_123_code 3 = .ok (.if_icmp .ne 11, 3) := by decide +kernel
theorem d6_14 : decode jdk_65_method_123_code 14 = .ok (.iload_n 1, 1) := by decide +kernel
theorem d6_15 : decode jdk_65_method_123_code 15 = .ok (.newarray .int, 2) := by decide +kernel
theorem d6_17 : decode jdk_65_method_123_code 17 = .ok (.astore_n 2, 1) := by decide +kernel
theorem d6_18 : decode jdk_65_method_123_code 18 = .ok (.aload_n 0, 1) := by decide +kernel
theorem d6_19 : decode jdk_65_method_123_code 19 = .ok (.iconst 0, 1) := by decide +kernel
theorem d6_20 : decode jdk_65_method_123_code 20 = .ok (.aload_n 2, 1) := by decide +kernel
theorem d6_21 : decode jdk_65_method_123_code 21 = .ok (.iconst 0, 1) := by decide +kernel
theorem d6_22 : decode jdk_65_method_123_code 22 = .ok (.aload_n 0, 1) := by decide +kernel
theorem d6_23 : decode jdk_65_method_123_code 23 = .ok (.arraylength, 1) := by decide +kernel
theorem d6_24 : decode jdk_65_method_123_code 24 = .ok (.iload_n 1, 1) := by decide +kernel
theorem d6_25 : decode jdk_65_method_123_code 25 = .ok (.invokestatic 304, 3) := by decide +kernel
theorem d6_28 : decode jdk_65_method_123_code 28 = .ok (.invokestatic 150, 3) := by decide +kernel
theorem d6_31 : decode jdk_65_method_123_code 31 = .ok (.aload_n 2, 1) := by decide +kernel
theorem d6_32 : decode jdk_65_method_123_code 32 = .ok (.areturn, 1) := by decide +kernel
theorem ef_6 (m : MethodId) (a0 : Addr) (p1 : Int32) : entryFrame m #[(.ref a0), (.int p1)] 3 = mkF m 0 #[.val (.ref a0), .val (.int p1), .unset] [] := by first | (simp [entryFrame, mkF, argsToLocals, Value.category]; done) | rfl
def Q6 (Z : State) (a0 : Addr) (p1 : Int32) (z1 : Int32) (f1 : Int32 → Int32) (h0 : Heap) (n0 : Nat) (v : Option Value) (h : Heap) (L : List Loc) : Prop := ∃ (b : Addr), (v = some (.ref b)) ∧ (Fr n0 L) ∧ (Keep h0 h []) ∧ (h0.size ≤ b) ∧ (Ai Z h b .int p1 (fun j => if j < z1 then f1 j else 0))
set_option maxRecDepth 65536 in
set_option maxHeartbeats 40000000 in
theorem rm6 (l : Launch) (Z : State) (aZ : Array Value) (hw : ∀ d ∈ tables_1, d.before aZ Z = true) (ws : List Jvm.Cond) (a0 : Addr) (p1 : Int32) (z1 : Int32) (f1 : Int32 → Int32) (h0 : Heap) (n0 : Nat) (Z0 : n0 ≤ h0.size) (A_0 : Ai Z h0 a0 .int z1 f1) (hp1 : z1 < p1) (hcap : p1.toNatClampNeg ≤ 30) :
    MetFree l (⟨"java/util/Arrays", "copyOf", "([II)[I"⟩ : MethodName) (head1 (Jvm.Cond.code (⟨"java/util/Arrays", "copyOf", "([II)[I"⟩ : MethodName) jdk_65_method_123_code 3 (some (.array .int)) :: ws) ({ frames := 1, cells := 1, slots := 30, locals := 18 } : Room)) (fun a U => a = #[(.ref a0), (.int p1)] ∧ Z.Warmed39 U.vm ∧ U.heap = h0) (fun _ _ _ _ _ => True) (fun _ U o U' => ∃ v L, o = .returned v ∧ Q6 Z a0 p1 z1 f1 h0 n0 v U'.heap L ∧ FrameEnd U o U' L ({ frames := 1, cells := 1, slots := 30, locals := 18 } : Room).cells ({ frames := 1, cells := 1, slots := 30, locals := 18 } : Room).slots) := by
  refine MetFree.of_bodySF (plainFor_of_name pn_6) hisR ?_
  intro p e s m args below meth c s₁ Bd hml0 hP hK
  obtain ⟨rfl, hZ, hh⟩ := hP
  have hx := Bd.exec
  have hby := Bd.bytes
  have hml : c.maxLocals = 3 := hml0
  have hown : s.vm.findClass "java/util/Arrays" = some m.cls := findClass_of_methodNamed Bd.named
  have hnm := (name_of_methodNamed Bd.named Bd.method).1
  have hlk : meth.locks = false := BodyLoose.notSynchronized Bd
  have X0 : Stand p l e ({ frames := 1, cells := 1, slots := 30, locals := 18 } : Room) s m #[(.ref a0), (.int p1)] below meth c s₁ [] 0 0 := Stand.of_body Bd
  have e0 : s₁.heap = h0 := by rw [← hh, Bd.state]; rfl
  have N0 := Fr.nil n0
  have sq0 : h0.size ≤ h0.size := Nat.le_refl _
  have k0 : Keep h0 h0 [] := Keep.refl _ _
  change Go p e below s ({ frames := 1, cells := 1, slots := 30, locals := 18 } : Room).cells ({ frames := 1, cells := 1, slots := 30, locals := 18 } : Room).slots (Q6 Z a0 p1 z1 f1 h0 n0) (s₁.setTop (entryFrame m #[(.ref a0), (.int p1)] 3))
  rw [ef_6 m a0 p1]
  show Go _ _ _ _ _ _ _ (s₁.setTop (mkF m 0 #[.val (.ref a0), .val (.int p1), .unset] []))
  refine Go.step (fun _ k => XS.iloadN X0.here hx rfl (hb hby d6_0) rfl  k) ?_
  show Go _ _ _ _ _ _ _ (s₁.setTop (mkF m 1 #[.val (.ref a0), .val (.int p1), .unset] [(.int p1)]))
  refine Go.step (fun _ k => XS.aloadN X0.here hx rfl (hb hby d6_1) rfl rfl  k) ?_
  show Go _ _ _ _ _ _ _ (s₁.setTop (mkF m 2 #[.val (.ref a0), .val (.int p1), .unset] [(.ref a0), (.int p1)]))
  refine Go.step (Ai.len X0 hx hZ e0 A_0 (g := (mkF m 2 #[.val (.ref a0), .val (.int p1), .unset] [(.ref a0), (.int p1)])) rfl rfl (hb hby d6_2)) ?_
  show Go _ _ _ _ _ _ _ (s₁.setTop (mkF m 3 #[.val (.ref a0), .val (.int p1), .unset] [(.int z1), (.int p1)]))
  have hc3 : ¬ (p1 = z1) := fun q => own_lirr (q ▸ hp1)
  refine Go.step (fun _ k => XS.icmpYes X0.here hx rfl (pc0 := 3) (pc' := 14) rfl (hb hby d6_3) rfl (feq hc3).2 (by decide) (by decide) k) ?_
  show Go _ _ _ _ _ _ _ (s₁.setTop (mkF m 14 #[.val (.ref a0), .val (.int p1), .unset] []))
  refine Go.step (fun _ k => XS.iloadN X0.here hx rfl (hb hby d6_14) rfl  k) ?_
  show Go _ _ _ _ _ _ _ (s₁.setTop (mkF m 15 #[.val (.ref a0), .val (.int p1), .unset] [(.int p1)]))
  have ng1 : ¬ p1 < 0 := own_lneg A_0.nn hp1
  have lc1 : (p1).toNatClampNeg ≤ 30 := hcap
  obtain ⟨T1, h1, k1, X1, e1, E1, A1, st1⟩ := newP X0 hx hZ (hw _ (List.mem_of_getElem? (i := 13) rfl)) e0 (g := (mkF m 15 #[.val (.ref a0), .val (.int p1), .unset] [(.int p1)])) rfl (hb hby d6_15) rfl ng1 (cap := 30) lc1 (by decide) (by decide) (by decide)
  obtain ⟨b1, g1⟩ : ∃ z, z = h0.size := ⟨_, rfl⟩
  rw [← g1] at A1 st1
  refine Go.step st1 ?_
  have gn1 : n0 ≤ b1 := Nat.le_trans Z0 (Nat.le_of_eq g1.symm)
  have sz1 : h0.size ≤ b1 := Nat.le_trans sq0 (Nat.le_of_eq g1.symm)
  have ne2 : a0 ≠ b1 := Nat.ne_of_lt (Nat.lt_of_lt_of_le A_0.lt (Nat.le_of_eq g1.symm))
  have z3 : n0 ≤ h1.size := Nat.le_trans Z0 E1.1
  have sqz3 : h0.size ≤ h1.size := Nat.le_trans sq0 E1.1
  have k4 : Keep h0 h1 [] := k0.ext E1
  have f5 : Ai Z h1 b1 .int p1 (fun _ => 0) := Ai.new A1 ng1 rfl
  show Go _ _ _ _ _ _ _ (T1.setTop (mkF m 17 #[.val (.ref a0), .val (.int p1), .unset] [(.ref b1)]))
  refine Go.step (fun _ k => XS.astoreN X1.here hx rfl (hb hby d6_17) rfl rfl (l' := #[.val (.ref a0), .val (.int p1), .val (.ref b1)]) rfl k) ?_
  show Go _ _ _ _ _ _ _ (T1.setTop (mkF m 18 #[.val (.ref a0), .val (.int p1), .val (.ref b1)] []))
  refine Go.step (fun _ k => XS.aloadN X1.here hx rfl (hb hby d6_18) rfl rfl  k) ?_
  show Go _ _ _ _ _ _ _ (T1.setTop (mkF m 19 #[.val (.ref a0), .val (.int p1), .val (.ref b1)] [(.ref a0)]))
  refine Go.step (fun _ k => XS.iconst X1.here hx rfl (hb hby d6_19) k) ?_
  show Go _ _ _ _ _ _ _ (T1.setTop (mkF m 20 #[.val (.ref a0), .val (.int p1), .val (.ref b1)] [(.int (0 : Int32)), (.ref a0)]))
  refine Go.step (fun _ k => XS.aloadN X1.here hx rfl (hb hby d6_20) rfl rfl  k) ?_
  show Go _ _ _ _ _ _ _ (T1.setTop (mkF m 21 #[.val (.ref a0), .val (.int p1), .val (.ref b1)] [(.ref b1), (.int (0 : Int32)), (.ref a0)]))
  refine Go.step (fun _ k => XS.iconst X1.here hx rfl (hb hby d6_21) k) ?_
  show Go _ _ _ _ _ _ _ (T1.setTop (mkF m 22 #[.val (.ref a0), .val (.int p1), .val (.ref b1)] [(.int (0 : Int32)), (.ref b1), (.int (0 : Int32)), (.ref a0)]))
  refine Go.step (fun _ k => XS.aloadN X1.here hx rfl (hb hby d6_22) rfl rfl  k) ?_
  show Go _ _ _ _ _ _ _ (T1.setTop (mkF m 23 #[.val (.ref a0), .val (.int p1), .val (.ref b1)] [(.ref a0), (.int (0 : Int32)), (.ref b1), (.int (0 : Int32)), (.ref a0)]))
  have f6 : Ai Z h1 a0 .int z1 f1 := (A_0.ext E1)
  refine Go.step (Ai.len X1 hx hZ e1 f6 (g := (mkF m 23 #[.val (.ref a0), .val (.int p1), .val (.ref b1)] [(.ref a0), (.int (0 : Int32)), (.ref b1), (.int (0 : Int32)), (.ref a0)])) rfl rfl (hb hby d6_23)) ?_
  show Go _ _ _ _ _ _ _ (T1.setTop (mkF m 24 #[.val (.ref a0), .val (.int p1), .val (.ref b1)] [(.int z1), (.int (0 : Int32)), (.ref b1), (.int (0 : Int32)), (.ref a0)]))
  refine Go.step (fun _ k => XS.iloadN X1.here hx rfl (hb hby d6_24) rfl  k) ?_
  show Go _ _ _ _ _ _ _ (T1.setTop (mkF m 25 #[.val (.ref a0), .val (.int p1), .val (.ref b1)] [(.int p1), (.int z1), (.int (0 : Int32)), (.ref b1), (.int (0 : Int32)), (.ref a0)]))
  obtain ⟨_, _, ⟨T7, L7, k7, n7⟩, -, X7, ⟨Lc7, hQ7, l7, y7, z7⟩, st7⟩ := Jvm.LawKit.callS X1 hx (y := (⟨"java/lang/Math", "min", "(II)I"⟩ : MethodName)) hown (mvT hZ (hw _ (List.mem_of_getElem? (i := 36) rfl))) (mvT hZ (hw _ (List.mem_of_getElem? (i := 37) rfl))) (mvT hZ (hw _ (List.mem_of_getElem? (i := 30) rfl))) (mvT hZ (hw _ (List.mem_of_getElem? (i := 38) rfl))) (by decide) (backOf (W := 4) (rm7 l Z aZ hw [] z1 p1 h1 n0 z3 ) hZ (hw _ (List.mem_of_getElem? (i := 38) rfl)) (hw _ (List.mem_of_getElem? (i := 30) rfl)) (by decide) (by decide)) (g := (mkF m 25 #[.val (.ref a0), .val (.int p1), .val (.ref b1)] [(.int p1), (.int z1), (.int (0 : Int32)), (.ref b1), (.int (0 : Int32)), (.ref a0)])) rfl (by rw [hml]; rfl) (argsL := [(.int z1), (.int p1)]) (rest := [(.int (0 : Int32)), (.ref b1), (.int (0 : Int32)), (.ref a0)]) (lenOf pd_0 rfl) rfl (by show 2 * 0 + _ ≤ _; exact Nat.le_of_eq rfl) (hb hby d6_25) (fun _ _ => ⟨rfl, e1, (by decide : 1 + 0 ≤ _), (by decide : 30 + 0 ≤ _)⟩)
  dsimp only [Pt.U, Pt.locs, Pt.cells, Pt.slots] at X7 l7 y7 z7 st7 hQ7
  subst l7 y7 z7
  obtain ⟨rfl, Nq7, e7⟩ := hQ7
  have N7 := Fr.app N0 Nq7
  refine Go.step st7 ?_
  show Go _ _ _ _ _ _ _ (T7.setTop (mkF m 28 #[.val (.ref a0), .val (.int p1), .val (.ref b1)] [(.int (if p1 < z1 then p1 else z1)), (.int (0 : Int32)), (.ref b1), (.int (0 : Int32)), (.ref a0)]))
  have sv8 : (if p1 < z1 then p1 else z1) = z1 := if_neg (own_lasym hp1)
  rw [sv8]
  show Go _ _ _ _ _ _ _ (T7.setTop (mkF m 28 #[.val (.ref a0), .val (.int p1), .val (.ref b1)] [(.int z1), (.int (0 : Int32)), (.ref b1), (.int (0 : Int32)), (.ref a0)]))
  have ac9_3 : ¬ z1 < 0 := A_0.nn
  have ac9_4 : ¬ z1 < z1 := own_lirr
  have ac9_5 : ¬ p1 < z1 := own_lasym hp1
  obtain ⟨T9, h9, L9, X9, e9, N9, K9, f9, st9⟩ := Ai.copy X7 hx hZ hown (hw _ (List.mem_of_getElem? (i := 39) rfl)) (hw _ (List.mem_of_getElem? (i := 42) rfl)) (hw _ (List.mem_of_getElem? (i := 40) rfl)) (hw _ (List.mem_of_getElem? (i := 41) rfl)) e7 f6 f5 ac9_3 ac9_4 ac9_5 N7 gn1 (g := (mkF m 28 #[.val (.ref a0), .val (.int p1), .val (.ref b1)] [(.int z1), (.int (0 : Int32)), (.ref b1), (.int (0 : Int32)), (.ref a0)])) rfl (by rw [hml]; rfl) rfl (hb hby d6_28) (by decide) (W := 0) (by show 2 * 0 + _ ≤ _; exact Nat.le_of_eq rfl) (by decide)
  refine Go.step st9 ?_
  have z10 : n0 ≤ h9.size := Nat.le_trans z3 K9.1
  have sqz10 : h0.size ≤ h9.size := Nat.le_trans sqz3 K9.1
  have k11 : Keep h0 h9 [] := k4.trans K9 (allS (Or.inr sz1) all0)
  show Go _ _ _ _ _ _ _ (T9.setTop (mkF m 31 #[.val (.ref a0), .val (.int p1), .val (.ref b1)] []))
  refine Go.step (fun _ k => XS.aloadN X9.here hx rfl (hb hby d6_31) rfl rfl  k) ?_
  show Go _ _ _ _ _ _ _ (T9.setTop (mkF m 32 #[.val (.ref a0), .val (.int p1), .val (.ref b1)] [(.ref b1)]))
  refine Go.retA X9 hx Bd.returns rfl rfl hlk (hb hby d6_32) ?_ (by decide) (by decide)
  rw [e9]
  exact ⟨b1, (rfl), N9, k11, sz1, f9⟩
theorem pn_7 : plainName "com/example/steward/steward/timeordered/SequenceTable" = true := by first | (simp [plainName, overriddenIn]; done) | decide +kernel
theorem d1_0 : decode prog_83_method_1_code 0 = .ok (.aload_n 0, 1) := by decide +kernel
theorem d1_1 : decode prog_83_method_1_code 1 = .ok (.invokespecial 1, 3) := by decide +kernel
theorem d1_4 : decode prog_83_method_1_code 4 = .ok (.aload_n 0, 1) := by decide +kernel
theorem d1_5 : decode prog_83_method_1_code 5 = .ok (.ldc2_w 7, 3) := by decide +kernel
theorem d1_8 : decode prog_83_method_1_code 8 = .ok (.putfield 9, 3) := by decide +kernel
theorem d1_11 : decode prog_83_method_1_code 11 = .ok (.aload_n 0, 1) := by decide +kernel
theorem d1_12 : decode prog_83_method_1_code 12 = .ok (.iload_n 1, 1) := by decide +kernel
theorem d1_13 : decode prog_83_method_1_code 13 = .ok (.newarray .int, 2) := by decide +kernel
theorem d1_15 : decode prog_83_method_1_code 15 = .ok (.putfield 15, 3) := by decide +kernel
theorem d1_18 : decode prog_83_method_1_code 18 = .ok (.aload_n 0, 1) := by decide +kernel
theorem d1_19 : decode prog_83_method_1_code 19 = .ok (.iload_n 1, 1) := by decide +kernel
theorem d1_20 : decode prog_83_method_1_code 20 = .ok (.putfield 19, 3) := by decide +kernel
theorem d1_23 : decode prog_83_method_1_code 23 = .ok (.return_, 1) := by decide +kernel
theorem ef_1 (m : MethodId) (a0 : Addr) (p1 : Int32) : entryFrame m #[(.ref a0), (.int p1)] 2 = mkF m 0 #[.val (.ref a0), .val (.int p1)] [] := by first | (simp [entryFrame, mkF, argsToLocals, Value.category]; done) | rfl
def Q1 (Z : State) (a0 : Addr) (p1 : Int32) (h0 : Heap) (n0 : Nat) (v : Option Value) (h : Heap) (L : List Loc) : Prop := ∃ (b1 : Addr), (v = none) ∧ (Fr n0 L) ∧ (Keep h0 h [a0]) ∧ (h0.size ≤ b1) ∧ (Exa Z h a0 "com/example/steward/steward/timeordered/SequenceTable") ∧ (Fld Z h a0 "com/example/steward/steward/timeordered/SequenceTable" "hours" "[I" (.ref b1)) ∧ (Fld Z h a0 "com/example/steward/steward/timeordered/SequenceTable" "size" "I" (.int p1)) ∧ (Fld Z h a0 "com/example/steward/steward/timeordered/SequenceTable" "copied" "J" (.long (-1 : Int64))) ∧ (Ai Z h b1 .int p1 (fun _ => 0)) ∧ (a0 ≠ b1)
set_option maxRecDepth 65536 in
set_option maxHeartbeats 40000000 in
theorem rm1 (l : Launch) (Z : State) (aZ : Array Value) (hw : ∀ d ∈ tables_1, d.before aZ Z = true) (ws : List Jvm.Cond) (a0 : Addr) (p1 : Int32) (h0 : Heap) (n0 : Nat) (Z0 : n0 ≤ h0.size) (E_0 : Exa Z h0 a0 "com/example/steward/steward/timeordered/SequenceTable") (F_1 : Fld Z h0 a0 "com/example/steward/steward/timeordered/SequenceTable" "copied" "J" (.long (0 : Int64))) (F_2 : Fld Z h0 a0 "com/example/steward/steward/timeordered/SequenceTable" "hours" "[I" .null) (F_3 : Fld Z h0 a0 "com/example/steward/steward/timeordered/SequenceTable" "size" "I" (.int (0 : Int32))) (g_4 : n0 ≤ a0) (hq0 : ¬ p1 < 0) (h7 : p1.toNatClampNeg ≤ 7) :
    MetFree l (⟨"com/example/steward/steward/timeordered/SequenceTable", "<init>", "(I)V"⟩ : MethodName) (head1 (Jvm.Cond.code (⟨"com/example/steward/steward/timeordered/SequenceTable", "<init>", "(I)V"⟩ : MethodName) prog_83_method_1_code 2 none :: ws) ({ frames := 1, cells := 1, slots := 7, locals := 12 } : Room)) (fun a U => a = #[(.ref a0), (.int p1)] ∧ Z.Warmed39 U.vm ∧ U.heap = h0) (fun _ _ _ _ _ => True) (fun _ U o U' => ∃ v L, o = .returned v ∧ Q1 Z a0 p1 h0 n0 v U'.heap L ∧ FrameEnd U o U' L ({ frames := 1, cells := 1, slots := 7, locals := 12 } : Room).cells ({ frames := 1, cells := 1, slots := 7, locals := 12 } : Room).slots) := by
  refine MetFree.of_bodySF (plainFor_of_name pn_7) hisR ?_
  intro p e s m args below meth c s₁ Bd hml0 hP hK
  obtain ⟨rfl, hZ, hh⟩ := hP
  have hx := Bd.exec
  have hby := Bd.bytes
  have hml : c.maxLocals = 2 := hml0
  have hown : s.vm.findClass "com/example/steward/steward/timeordered/SequenceTable" = some m.cls := findClass_of_methodNamed Bd.named
  have hnm := (name_of_methodNamed Bd.named Bd.method).1
  have hlk : meth.locks = false := BodyLoose.notSynchronized Bd
  have X0 : Stand p l e ({ frames := 1, cells := 1, slots := 7, locals := 12 } : Room) s m #[(.ref a0), (.int p1)] below meth c s₁ [] 0 0 := Stand.of_body Bd
  have e0 : s₁.heap = h0 := by rw [← hh, Bd.state]; rfl
  have N0 := Fr.nil n0
  have sq0 : h0.size ≤ h0.size := Nat.le_refl _
  have k0 : Keep h0 h0 [a0] := Keep.refl _ _
  change Go p e below s ({ frames := 1, cells := 1, slots := 7, locals := 12 } : Room).cells ({ frames := 1, cells := 1, slots := 7, locals := 12 } : Room).slots (Q1 Z a0 p1 h0 n0) (s₁.setTop (entryFrame m #[(.ref a0), (.int p1)] 2))
  rw [ef_1 m a0 p1]
  show Go _ _ _ _ _ _ _ (s₁.setTop (mkF m 0 #[.val (.ref a0), .val (.int p1)] []))
  refine Go.step (fun _ k => XS.aloadN X0.here hx rfl (hb hby d1_0) rfl rfl  k) ?_
  show Go _ _ _ _ _ _ _ (s₁.setTop (mkF m 1 #[.val (.ref a0), .val (.int p1)] [(.ref a0)]))
  obtain ⟨T1, X1, e1, st1⟩ := initO X0 hx hZ hown (hw _ (List.mem_of_getElem? (i := 7) rfl)) (hw _ (List.mem_of_getElem? (i := 8) rfl)) (hw _ (List.mem_of_getElem? (i := 9) rfl)) e0 (g := (mkF m 1 #[.val (.ref a0), .val (.int p1)] [(.ref a0)])) rfl (by rw [hml]; rfl) rfl (hb hby d1_1) (by decide) (W := 0) (by show 2 * 0 + _ ≤ _; exact Nat.le_of_eq rfl) (by decide)
  refine Go.step st1 ?_
  show Go _ _ _ _ _ _ _ (T1.setTop (mkF m 4 #[.val (.ref a0), .val (.int p1)] []))
  refine Go.step (fun _ k => XS.aloadN X1.here hx rfl (hb hby d1_4) rfl rfl  k) ?_
  show Go _ _ _ _ _ _ _ (T1.setTop (mkF m 5 #[.val (.ref a0), .val (.int p1)] [(.ref a0)]))
  refine Go.step (X1.ldc2Long hx hown (mvT hZ (hw _ (List.mem_of_getElem? (i := 10) rfl))) (g := (mkF m 5 #[.val (.ref a0), .val (.int p1)] [(.ref a0)])) rfl (hb hby d1_5)) ?_
  show Go _ _ _ _ _ _ _ (T1.setTop (mkF m 8 #[.val (.ref a0), .val (.int p1)] [(.long (-1 : Int64)), (.ref a0)]))
  obtain ⟨T2, h2, X2, e2, W2, st2⟩ := putF X1 hx hZ hown (host := "") (Or.inl (hw _ (List.mem_of_getElem? (i := 11) rfl))) Via.refl e1 F_1 E_0 (Or.inl (hw _ (List.mem_of_getElem? (i := 12) rfl))) (hw _ (List.mem_of_getElem? (i := 2) rfl)) (ty := .long) (v := (.long (-1 : Int64))) (by decide) rfl rfl (g := (mkF m 8 #[.val (.ref a0), .val (.int p1)] [(.long (-1 : Int64)), (.ref a0)])) rfl rfl (hb hby d1_8)
  refine Go.step st2 ?_
  have N2 := Fr.snoc X2 N0 g_4
  have z3 : n0 ≤ h2.size := Nat.le_trans Z0 (Keep.of_wr W2).1
  have sqz3 : h0.size ≤ h2.size := Nat.le_trans sq0 (Keep.of_wr W2).1
  have k4 : Keep h0 h2 [a0] := k0.wr W2 (Or.inl (List.mem_of_getElem? (i := 0) rfl))
  have f5 : Fld Z h2 a0 "com/example/steward/steward/timeordered/SequenceTable" "copied" "J" (.long (-1 : Int64)) := F_1.same W2
  show Go _ _ _ _ _ _ _ (T2.setTop (mkF m 11 #[.val (.ref a0), .val (.int p1)] []))
  refine Go.step (fun _ k => XS.aloadN X2.here hx rfl (hb hby d1_11) rfl rfl  k) ?_
  show Go _ _ _ _ _ _ _ (T2.setTop (mkF m 12 #[.val (.ref a0), .val (.int p1)] [(.ref a0)]))
  refine Go.step (fun _ k => XS.iloadN X2.here hx rfl (hb hby d1_12) rfl  k) ?_
  show Go _ _ _ _ _ _ _ (T2.setTop (mkF m 13 #[.val (.ref a0), .val (.int p1)] [(.int p1), (.ref a0)]))
  have ng6 : ¬ p1 < 0 := hq0
  have lc6 : (p1).toNatClampNeg ≤ 7 := h7
  obtain ⟨T6, h6, k6, X6, e6, E6, A6, st6⟩ := newP X2 hx hZ (hw _ (List.mem_of_getElem? (i := 13) rfl)) e2 (g := (mkF m 13 #[.val (.ref a0), .val (.int p1)] [(.int p1), (.ref a0)])) rfl (hb hby d1_13) rfl ng6 (cap := 7) lc6 (by decide) (by decide) (by decide)
  obtain ⟨b6, g6⟩ : ∃ z, z = h2.size := ⟨_, rfl⟩
  rw [← g6] at A6 st6
  refine Go.step st6 ?_
  have gn6 : n0 ≤ b6 := Nat.le_trans z3 (Nat.le_of_eq g6.symm)
  have sz6 : h0.size ≤ b6 := Nat.le_trans sqz3 (Nat.le_of_eq g6.symm)
  have f7 : Exa Z h2 a0 "com/example/steward/steward/timeordered/SequenceTable" := (E_0.wr W2)
  have ne8 : a0 ≠ b6 := Nat.ne_of_lt (Nat.lt_of_lt_of_le f7.lt (Nat.le_of_eq g6.symm))
  have z9 : n0 ≤ h6.size := Nat.le_trans z3 E6.1
  have sqz9 : h0.size ≤ h6.size := Nat.le_trans sqz3 E6.1
  have k10 : Keep h0 h6 [a0] := k4.ext E6
  have f11 : Ai Z h6 b6 .int p1 (fun _ => 0) := Ai.new A6 ng6 rfl
  show Go _ _ _ _ _ _ _ (T6.setTop (mkF m 15 #[.val (.ref a0), .val (.int p1)] [(.ref b6), (.ref a0)]))
  have f12 : Exa Z h6 a0 "com/example/steward/steward/timeordered/SequenceTable" := (f7.ext E6)
  have f13 : Fld Z h6 a0 "com/example/steward/steward/timeordered/SequenceTable" "hours" "[I" .null := ((F_2.other W2 (Or.inr (slot_ne (Or.inl (hw _ (List.mem_of_getElem? (i := 15) rfl))) (Or.inl (hw _ (List.mem_of_getElem? (i := 12) rfl))) (by decide) (t := (.array .int)) (t' := .long) (by decide) (by decide)))).ext E6)
  obtain ⟨T14, h14, X14, e14, W14, st14⟩ := putF X6 hx hZ hown (host := "") (Or.inl (hw _ (List.mem_of_getElem? (i := 14) rfl))) Via.refl e6 f13 f12 (Or.inl (hw _ (List.mem_of_getElem? (i := 15) rfl))) (hw _ (List.mem_of_getElem? (i := 2) rfl)) (ty := (.array .int)) (v := (.ref b6)) (by decide) rfl rfl (g := (mkF m 15 #[.val (.ref a0), .val (.int p1)] [(.ref b6), (.ref a0)])) rfl rfl (hb hby d1_15)
  refine Go.step st14 ?_
  have N14 := Fr.snoc X14 N2 g_4
  have z15 : n0 ≤ h14.size := Nat.le_trans z9 (Keep.of_wr W14).1
  have sqz15 : h0.size ≤ h14.size := Nat.le_trans sqz9 (Keep.of_wr W14).1
  have k16 : Keep h0 h14 [a0] := k10.wr W14 (Or.inl (List.mem_of_getElem? (i := 0) rfl))
  have f17 : Fld Z h14 a0 "com/example/steward/steward/timeordered/SequenceTable" "hours" "[I" (.ref b6) := f13.same W14
  show Go _ _ _ _ _ _ _ (T14.setTop (mkF m 18 #[.val (.ref a0), .val (.int p1)] []))
  refine Go.step (fun _ k => XS.aloadN X14.here hx rfl (hb hby d1_18) rfl rfl  k) ?_
  show Go _ _ _ _ _ _ _ (T14.setTop (mkF m 19 #[.val (.ref a0), .val (.int p1)] [(.ref a0)]))
  refine Go.step (fun _ k => XS.iloadN X14.here hx rfl (hb hby d1_19) rfl  k) ?_
  show Go _ _ _ _ _ _ _ (T14.setTop (mkF m 20 #[.val (.ref a0), .val (.int p1)] [(.int p1), (.ref a0)]))
  have f18 : Exa Z h14 a0 "com/example/steward/steward/timeordered/SequenceTable" := (f12.wr W14)
  have f19 : Fld Z h14 a0 "com/example/steward/steward/timeordered/SequenceTable" "size" "I" (.int (0 : Int32)) := (((F_3.other W2 (Or.inr (slot_ne (Or.inl (hw _ (List.mem_of_getElem? (i := 17) rfl))) (Or.inl (hw _ (List.mem_of_getElem? (i := 12) rfl))) (by decide) (t := .int) (t' := .long) (by decide) (by decide)))).ext E6).other W14 (Or.inr (slot_ne (Or.inl (hw _ (List.mem_of_getElem? (i := 17) rfl))) (Or.inl (hw _ (List.mem_of_getElem? (i := 15) rfl))) (by decide) (t := .int) (t' := (.array .int)) (by decide) (by decide))))
  obtain ⟨T20, h20, X20, e20, W20, st20⟩ := putF X14 hx hZ hown (host := "") (Or.inl (hw _ (List.mem_of_getElem? (i := 16) rfl))) Via.refl e14 f19 f18 (Or.inl (hw _ (List.mem_of_getElem? (i := 17) rfl))) (hw _ (List.mem_of_getElem? (i := 2) rfl)) (ty := .int) (v := (.int p1)) (by decide) rfl rfl (g := (mkF m 20 #[.val (.ref a0), .val (.int p1)] [(.int p1), (.ref a0)])) rfl rfl (hb hby d1_20)
  refine Go.step st20 ?_
  have N20 := Fr.snoc X20 N14 g_4
  have z21 : n0 ≤ h20.size := Nat.le_trans z15 (Keep.of_wr W20).1
  have sqz21 : h0.size ≤ h20.size := Nat.le_trans sqz15 (Keep.of_wr W20).1
  have k22 : Keep h0 h20 [a0] := k16.wr W20 (Or.inl (List.mem_of_getElem? (i := 0) rfl))
  have f23 : Fld Z h20 a0 "com/example/steward/steward/timeordered/SequenceTable" "size" "I" (.int p1) := f19.same W20
  show Go _ _ _ _ _ _ _ (T20.setTop (mkF m 23 #[.val (.ref a0), .val (.int p1)] []))
  have f24 : Exa Z h20 a0 "com/example/steward/steward/timeordered/SequenceTable" := (f18.wr W20)
  have f25 : Fld Z h20 a0 "com/example/steward/steward/timeordered/SequenceTable" "hours" "[I" (.ref b6) := (f17.other W20 (Or.inr (slot_ne (Or.inl (hw _ (List.mem_of_getElem? (i := 15) rfl))) (Or.inl (hw _ (List.mem_of_getElem? (i := 17) rfl))) (by decide) (t := (.array .int)) (t' := .int) (by decide) (by decide))))
  have f26 : Fld Z h20 a0 "com/example/steward/steward/timeordered/SequenceTable" "copied" "J" (.long (-1 : Int64)) := (((f5.ext E6).other W14 (Or.inr (slot_ne (Or.inl (hw _ (List.mem_of_getElem? (i := 12) rfl))) (Or.inl (hw _ (List.mem_of_getElem? (i := 15) rfl))) (by decide) (t := .long) (t' := (.array .int)) (by decide) (by decide)))).other W20 (Or.inr (slot_ne (Or.inl (hw _ (List.mem_of_getElem? (i := 12) rfl))) (Or.inl (hw _ (List.mem_of_getElem? (i := 17) rfl))) (by decide) (t := .long) (t' := .int) (by decide) (by decide))))
  have f27 : Ai Z h20 b6 .int p1 (fun _ => 0) := ((f11.other W14 (Ne.symm ne8)).other W20 (Ne.symm ne8))
  refine Go.retV X20 hx Bd.returns hlk (hb hby d1_23) ?_ (by decide) (by decide)
  rw [e20]
  exact ⟨b6, (rfl), N20, k22, sz6, f24, f25, f23, f26, f27, ne8⟩
theorem d3_0 : decode prog_83_method_3_code 0 = .ok (.iload_n 1, 1) := by decide +kernel
theorem d3_1 : decode prog_83_method_3_code 1 = .ok (.aload_n 0, 1) := by decide +kernel
theorem d3_2 : decode prog_83_method_3_code 2 = .ok (.getfield 15, 3) := by decide +kernel
theorem d3_5 : decode prog_83_method_3_code 5 = .ok (.arraylength, 1) := by decide +kernel
theorem d3_6 : decode prog_83_method_3_code 6 = .ok (.if_icmp .ge 12, 3) := by decide +kernel
theorem d3_9 : decode prog_83_method_3_code 9 = .ok (.aload_n 0, 1) := by decide +kernel
theorem d3_10 : decode prog_83_method_3_code 10 = .ok (.getfield 15, 3) := by decide +kernel
theorem d3_13 : decode prog_83_method_3_code 13 = .ok (.iload_n 1, 1) := by decide +kernel
theorem d3_14 : decode prog_83_method_3_code 14 = .ok (.iaload, 1) := by decide +kernel
theorem d3_15 : decode prog_83_method_3_code 15 = .ok (.goto 4, 3) := by decide +kernel
theorem d3_18 : decode prog_83_method_3_code 18 = .ok (.iconst 0, 1) := by decide +kernel
theorem d3_19 : decode prog_83_method_3_code 19 = .ok (.ireturn, 1) := by decide +kernel
theorem ef_3 (m : MethodId) (a0 : Addr) (p1 : Int32) : entryFrame m #[(.ref a0), (.int p1)] 2 = mkF m 0 #[.val (.ref a0), .val (.int p1)] [] := by first | (simp [entryFrame, mkF, argsToLocals, Value.category]; done) | rfl
def Q3 (Z : State) (a0 : Addr) (p1 : Int32) (b1 : Addr) (z1 : Int32) (f1 : Int32 → Int32) (h0 : Heap) (n0 : Nat) (v : Option Value) (h : Heap) (L : List Loc) : Prop := (v = some (.int (if p1 < z1 then (f1 p1) else (0 : Int32)))) ∧ (Fr n0 L) ∧ (h = h0)
set_option maxRecDepth 65536 in
set_option maxHeartbeats 40000000 in
theorem rm3 (l : Launch) (Z : State) (aZ : Array Value) (hw : ∀ d ∈ tables_1, d.before aZ Z = true) (ws : List Jvm.Cond) (a0 : Addr) (p1 : Int32) (b1 : Addr) (z1 : Int32) (f1 : Int32 → Int32) (h0 : Heap) (n0 : Nat) (Z0 : n0 ≤ h0.size) (F_0 : Fld Z h0 a0 "com/example/steward/steward/timeordered/SequenceTable" "hours" "[I" (.ref b1)) (A_1 : Ai Z h0 b1 .int z1 f1) (hq0 : ¬ p1 < 0) :
    MetFree l (⟨"com/example/steward/steward/timeordered/SequenceTable", "hour", "(I)I"⟩ : MethodName) (head1 (Jvm.Cond.code (⟨"com/example/steward/steward/timeordered/SequenceTable", "hour", "(I)I"⟩ : MethodName) prog_83_method_3_code 2 (some .int) :: ws) ({ frames := 0, cells := 0, slots := 0, locals := 0 } : Room)) (fun a U => a = #[(.ref a0), (.int p1)] ∧ Z.Warmed39 U.vm ∧ U.heap = h0) (fun _ _ _ _ _ => True) (fun _ U o U' => ∃ v L, o = .returned v ∧ Q3 Z a0 p1 b1 z1 f1 h0 n0 v U'.heap L ∧ FrameEnd U o U' L ({ frames := 0, cells := 0, slots := 0, locals := 0 } : Room).cells ({ frames := 0, cells := 0, slots := 0, locals := 0 } : Room).slots) := by
  refine MetFree.of_bodySF (plainFor_of_name pn_7) hisR ?_
  intro p e s m args below meth c s₁ Bd hml0 hP hK
  obtain ⟨rfl, hZ, hh⟩ := hP
  have hx := Bd.exec
  have hby := Bd.bytes
  have hml : c.maxLocals = 2 := hml0
  have hown : s.vm.findClass "com/example/steward/steward/timeordered/SequenceTable" = some m.cls := findClass_of_methodNamed Bd.named
  have hnm := (name_of_methodNamed Bd.named Bd.method).1
  have hlk : meth.locks = false := BodyLoose.notSynchronized Bd
  have X0 : Stand p l e ({ frames := 0, cells := 0, slots := 0, locals := 0 } : Room) s m #[(.ref a0), (.int p1)] below meth c s₁ [] 0 0 := Stand.of_body Bd
  have e0 : s₁.heap = h0 := by rw [← hh, Bd.state]; rfl
  have N0 := Fr.nil n0
  have sq0 : h0.size ≤ h0.size := Nat.le_refl _
  change Go p e below s ({ frames := 0, cells := 0, slots := 0, locals := 0 } : Room).cells ({ frames := 0, cells := 0, slots := 0, locals := 0 } : Room).slots (Q3 Z a0 p1 b1 z1 f1 h0 n0) (s₁.setTop (entryFrame m #[(.ref a0), (.int p1)] 2))
  rw [ef_3 m a0 p1]
  show Go _ _ _ _ _ _ _ (s₁.setTop (mkF m 0 #[.val (.ref a0), .val (.int p1)] []))
  refine Go.step (fun _ k => XS.iloadN X0.here hx rfl (hb hby d3_0) rfl  k) ?_
  show Go _ _ _ _ _ _ _ (s₁.setTop (mkF m 1 #[.val (.ref a0), .val (.int p1)] [(.int p1)]))
  refine Go.step (fun _ k => XS.aloadN X0.here hx rfl (hb hby d3_1) rfl rfl  k) ?_
  show Go _ _ _ _ _ _ _ (s₁.setTop (mkF m 2 #[.val (.ref a0), .val (.int p1)] [(.ref a0), (.int p1)]))
  obtain ⟨T1, X1, e1, st1⟩ := getF X0 hx hZ hown (host := "") (Or.inl (hw _ (List.mem_of_getElem? (i := 14) rfl))) Via.refl e0 F_0 (g := (mkF m 2 #[.val (.ref a0), .val (.int p1)] [(.ref a0), (.int p1)])) rfl rfl (hb hby d3_2)
  refine Go.step st1 ?_
  show Go _ _ _ _ _ _ _ (T1.setTop (mkF m 5 #[.val (.ref a0), .val (.int p1)] [(.ref b1), (.int p1)]))
  refine Go.step (Ai.len X1 hx hZ e1 A_1 (g := (mkF m 5 #[.val (.ref a0), .val (.int p1)] [(.ref b1), (.int p1)])) rfl rfl (hb hby d3_5)) ?_
  show Go _ _ _ _ _ _ _ (T1.setTop (mkF m 6 #[.val (.ref a0), .val (.int p1)] [(.int z1), (.int p1)]))
  by_cases hc6 : p1 < z1
  · skip
    refine Go.step (fun _ k => XS.icmpNo X1.here hx rfl (hb hby d3_6) rfl (tlt hc6).2.1 k) ?_
    show Go _ _ _ _ _ _ _ (T1.setTop (mkF m 9 #[.val (.ref a0), .val (.int p1)] []))
    refine Go.step (fun _ k => XS.aloadN X1.here hx rfl (hb hby d3_9) rfl rfl  k) ?_
    show Go _ _ _ _ _ _ _ (T1.setTop (mkF m 10 #[.val (.ref a0), .val (.int p1)] [(.ref a0)]))
    obtain ⟨T2, X2, e2, st2⟩ := getF X1 hx hZ hown (host := "") (Or.inl (hw _ (List.mem_of_getElem? (i := 14) rfl))) Via.refl e1 F_0 (g := (mkF m 10 #[.val (.ref a0), .val (.int p1)] [(.ref a0)])) rfl rfl (hb hby d3_10)
    refine Go.step st2 ?_
    show Go _ _ _ _ _ _ _ (T2.setTop (mkF m 13 #[.val (.ref a0), .val (.int p1)] [(.ref b1)]))
    refine Go.step (fun _ k => XS.iloadN X2.here hx rfl (hb hby d3_13) rfl  k) ?_
    show Go _ _ _ _ _ _ _ (T2.setTop (mkF m 14 #[.val (.ref a0), .val (.int p1)] [(.int p1), (.ref b1)]))
    have lo3 : ¬ p1 < 0 := (by assumption)
    have hi3 : p1 < z1 := (by assumption)
    refine Go.step (Ai.iaload X2 hx hZ e2 A_1 (j := p1) lo3 hi3 (g := (mkF m 14 #[.val (.ref a0), .val (.int p1)] [(.int p1), (.ref b1)])) rfl rfl (hb hby d3_14)) ?_
    show Go _ _ _ _ _ _ _ (T2.setTop (mkF m 15 #[.val (.ref a0), .val (.int p1)] [(.int (f1 p1))]))
    refine Go.step (fun _ k => XS.goto X2.here hx rfl (pc0 := 15) (pc' := 19) rfl (hb hby d3_15) (by decide) (by decide) k) ?_
    show Go _ _ _ _ _ _ _ (T2.setTop (mkF m 19 #[.val (.ref a0), .val (.int p1)] [(.int (f1 p1))]))
    refine Go.retI X2 hx Bd.returns hlk (hb hby d3_19) ?_ (by decide) (by decide)
    rw [e2]
    exact ⟨(by simp [hc6]), N0, rfl⟩
  · skip
    refine Go.step (fun _ k => XS.icmpYes X1.here hx rfl (pc0 := 6) (pc' := 18) rfl (hb hby d3_6) rfl (flt hc6).2.1 (by decide) (by decide) k) ?_
    show Go _ _ _ _ _ _ _ (T1.setTop (mkF m 18 #[.val (.ref a0), .val (.int p1)] []))
    refine Go.step (fun _ k => XS.iconst X1.here hx rfl (hb hby d3_18) k) ?_
    show Go _ _ _ _ _ _ _ (T1.setTop (mkF m 19 #[.val (.ref a0), .val (.int p1)] [(.int (0 : Int32))]))
    refine Go.retI X1 hx Bd.returns hlk (hb hby d3_19) ?_ (by decide) (by decide)
    rw [e1]
    exact ⟨(by simp [hc6]), N0, rfl⟩
theorem own_pf_ne {z p q : Int32} {f : Int32 → Int32} (h0 : ¬ p < 0) (h6 : p < z) (h54 : f p = q) : ∀ j : Int32, ¬ j < 0 → (if j < z then f j else 0) = if j = p then q else if j < z then f j else 0 := fun j hj => by
  by_cases e : j = p
  · rw [e, if_pos rfl, if_pos h6, h54]
  · rw [if_neg e]
theorem own_pf_ns {z p q : Int32} {f F : Int32 → Int32} (h0 : ¬ p < 0) (h6 : p < z) (h54 : ¬ f p = q) (hF : F = fun i => if i = p then q else f i) : ∀ j : Int32, ¬ j < 0 → (if j < z then F j else 0) = if j = p then q else if j < z then f j else 0 := fun j hj => by
  rw [hF]
  by_cases e : j = p
  · rw [e, if_pos rfl, if_pos h6]; simp
  · simp [e]
theorem own_pf_ge {z p q Y : Int32} {f : Int32 → Int32} (h0 : ¬ p < 0) (h6 : ¬ p < z) (h54 : (if p < z then f p else 0) = q) (hp : p < Y) (hz : z < Y) : ∀ j : Int32, ¬ j < 0 → (if j < Y then (if j < z then f j else 0) else 0) = if j = p then q else if j < z then f j else 0 := fun j hj => by
  by_cases e : j = p
  · rw [e, if_pos rfl, if_pos hp, h54]
  · rw [if_neg e]
    split
    · rfl
    · rename_i h
      rw [if_neg]
      intro h2; rw [Int32.lt_iff_toInt_lt] at *; omega
theorem own_pf_gs {z p q Y : Int32} {f F : Int32 → Int32} (h0 : ¬ p < 0) (h6 : ¬ p < z) (h54 : ¬ (if p < z then f p else 0) = q) (hp : p < Y) (hz : z < Y) (hF : F = fun i => if i = p then q else (if i < z then f i else 0)) : ∀ j : Int32, ¬ j < 0 → (if j < Y then F j else 0) = if j = p then q else if j < z then f j else 0 := fun j hj => by
  rw [hF]
  by_cases e : j = p
  · rw [e, if_pos rfl, if_pos hp]; simp
  · rw [if_neg e]
    split
    · simp [e]
    · rename_i h
      rw [if_neg]
      intro h2; rw [Int32.lt_iff_toInt_lt] at *; omega
theorem pd_1 : parseMethodDescriptor "([II)[I" = some ⟨[(.array .int), .int], some (.array .int)⟩ := by decide +kernel
theorem d4_0 : decode prog_83_method_4_code 0 = .ok (.iload_n 1, 1) := by decide +kernel
theorem d4_1 : decode prog_83_method_4_code 1 = .ok (.aload_n 0, 1) := by decide +kernel
theorem d4_2 : decode prog_83_method_4_code 2 = .ok (.getfield 15, 3) := by decide +kernel
theorem d4_5 : decode prog_83_method_4_code 5 = .ok (.arraylength, 1) := by decide +kernel
theorem d4_6 : decode prog_83_method_4_code 6 = .ok (.if_icmp .lt 27, 3) := by decide +kernel
theorem d4_9 : decode prog_83_method_4_code 9 = .ok (.aload_n 0, 1) := by decide +kernel
theorem d4_10 : decode prog_83_method_4_code 10 = .ok (.aload_n 0, 1) := by decide +kernel
theorem d4_11 : decode prog_83_method_4_code 11 = .ok (.getfield 15, 3) := by decide +kernel
theorem d4_14 : decode prog_83_method_4_code 14 = .ok (.iload_n 1, 1) := by decide +kernel
theorem d4_15 : decode prog_83_method_4_code 15 = .ok (.iconst 1, 1) := by decide +kernel
theorem d4_16 : decode prog_83_method_4_code 16 = .ok (.iadd, 1) := by decide +kernel
theorem d4_17 : decode prog_83_method_4_code 17 = .ok (.iconst 2, 1) := by decide +kernel
theorem d4_18 : decode prog_83_method_4_code 18 = .ok (.aload_n 0, 1) := by decide +kernel
theorem d4_19 : decode prog_83_method_4_code 19 = .ok (.getfield 15, 3) := by decide +kernel
theorem d4_22 : decode prog_83_method_4_code 22 = .ok (.arraylength, 1) := by decide +kernel
theorem d4_23 : decode prog_83_method_4_code 23 = .ok (.imul, 1) := by decide +kernel
theorem d4_24 : decode prog_83_method_4_code 24 = .ok (.invokestatic 104, 3) := by decide +kernel
theorem d4_27 : decode prog_83_method_4_code 27 = .ok (.invokestatic 110, 3) := by decide +kernel
theorem d4_30 : decode prog_83_method_4_code 30 = .ok (.putfield 15, 3) := by decide +kernel
theorem d4_33 : decode prog_83_method_4_code 33 = .ok (.aload_n 0, 1) := by decide +kernel
theorem d4_34 : decode prog_83_method_4_code 34 = .ok (.aload_n 0, 1) := by decide +kernel
theorem d4_35 : decode prog_83_method_4_code 35 = .ok (.getfield 19, 3) := by decide +kernel
theorem d4_38 : decode prog_83_method_4_code 38 = .ok (.iload_n 1, 1) := by decide +kernel
theorem d4_39 : decode prog_83_method_4_code 39 = .ok (.iconst 1, 1) := by decide +kernel
theorem d4_40 : decode prog_83_method_4_code 40 = .ok (.iadd, 1) := by decide +kernel
theorem d4_41 : decode prog_83_method_4_code 41 = .ok (.invokestatic 104, 3) := by decide +kernel
theorem d4_44 : decode prog_83_method_4_code 44 = .ok (.putfield 19, 3) := by decide +kernel
theorem d4_47 : decode prog_83_method_4_code 47 = .ok (.aload_n 0, 1) := by decide +kernel
theorem d4_48 : decode prog_83_method_4_code 48 = .ok (.getfield 15, 3) := by decide +kernel
theorem d4_51 : decode prog_83_method_4_code 51 = .ok (.iload_n 1, 1) := by decide +kernel
theorem d4_52 : decode prog_83_method_4_code 52 = .ok (.iaload, 1) := by decide +kernel
theorem d4_53 : decode prog_83_method_4_code 53 = .ok (.iload_n 2, 1) := by decide +kernel
theorem d4_54 : decode prog_83_method_4_code 54 = .ok (.if_icmp .eq 17, 3) := by decide +kernel
theorem d4_57 : decode prog_83_method_4_code 57 = .ok (.aload_n 0, 1) := by decide +kernel
theorem d4_58 : decode prog_83_method_4_code 58 = .ok (.getfield 15, 3) := by decide +kernel
theorem d4_61 : decode prog_83_method_4_code 61 = .ok (.iload_n 1, 1) := by decide +kernel
theorem d4_62 : decode prog_83_method_4_code 62 = .ok (.iload_n 2, 1) := by decide +kernel
theorem d4_63 : decode prog_83_method_4_code 63 = .ok (.iastore, 1) := by decide +kernel
theorem d4_64 : decode prog_83_method_4_code 64 = .ok (.aload_n 0, 1) := by decide +kernel
theorem d4_65 : decode prog_83_method_4_code 65 = .ok (.ldc2_w 7, 3) := by decide +kernel
theorem d4_68 : decode prog_83_method_4_code 68 = .ok (.putfield 9, 3) := by decide +kernel
theorem d4_71 : decode prog_83_method_4_code 71 = .ok (.return_, 1) := by decide +kernel
theorem ef_4 (m : MethodId) (a0 : Addr) (p1 : Int32) (p2 : Int32) : entryFrame m #[(.ref a0), (.int p1), (.int p2)] 3 = mkF m 0 #[.val (.ref a0), .val (.int p1), .val (.int p2)] [] := by first | (simp [entryFrame, mkF, argsToLocals, Value.category]; done) | rfl
def Q4 (Z : State) (a0 : Addr) (p1 : Int32) (p2 : Int32) (b1 : Addr) (z1 : Int32) (f1 : Int32 → Int32) (w1 : Int32) (wc : Int64) (h0 : Heap) (n0 : Nat) (v : Option Value) (h : Heap) (L : List Loc) : Prop := ∃ (b2 : Addr), ∃ (z2 : Int32), ∃ (f2 : Int32 → Int32), ∃ (w2 : Int32), ∃ (wc2 : Int64), (v = none) ∧ (Fr n0 L) ∧ (Keep h0 h [a0, b1]) ∧ (Exa Z h a0 "com/example/steward/steward/timeordered/SequenceTable") ∧ (Fld Z h a0 "com/example/steward/steward/timeordered/SequenceTable" "hours" "[I" (.ref b2)) ∧ (Fld Z h a0 "com/example/steward/steward/timeordered/SequenceTable" "size" "I" (.int w2)) ∧ (Fld Z h a0 "com/example/steward/steward/timeordered/SequenceTable" "copied" "J" (.long wc2)) ∧ (Ai Z h b2 .int z2 f2) ∧ (a0 ≠ b2) ∧ (n0 ≤ b2) ∧ (¬ (30 : Int32) < z2) ∧ (∀ j : Int32, ¬ j < 0 → (if j < z2 then f2 j else 0) = if j = p1 then p2 else if j < z1 then f1 j else 0)
set_option maxRecDepth 65536 in
set_option maxHeartbeats 40000000 in
theorem rm4 (l : Launch) (Z : State) (aZ : Array Value) (hw : ∀ d ∈ tables_1, d.before aZ Z = true) (ws : List Jvm.Cond) (a0 : Addr) (p1 : Int32) (p2 : Int32) (b1 : Addr) (z1 : Int32) (f1 : Int32 → Int32) (w1 : Int32) (wc : Int64) (h0 : Heap) (n0 : Nat) (Z0 : n0 ≤ h0.size) (E_0 : Exa Z h0 a0 "com/example/steward/steward/timeordered/SequenceTable") (F_1 : Fld Z h0 a0 "com/example/steward/steward/timeordered/SequenceTable" "hours" "[I" (.ref b1)) (F_2 : Fld Z h0 a0 "com/example/steward/steward/timeordered/SequenceTable" "size" "I" (.int w1)) (F_3 : Fld Z h0 a0 "com/example/steward/steward/timeordered/SequenceTable" "copied" "J" (.long wc)) (A_4 : Ai Z h0 b1 .int z1 f1) (ne_5 : a0 ≠ b1) (g_6 : n0 ≤ a0) (g_7 : n0 ≤ b1) (hq0 : ¬ p1 < 0) (h15 : ¬ (15 : Int32) < p1) (h30 : ¬ (30 : Int32) < z1) :
    MetFree l (⟨"com/example/steward/steward/timeordered/SequenceTable", "set", "(II)V"⟩ : MethodName) (head1 (Jvm.Cond.code (⟨"com/example/steward/steward/timeordered/SequenceTable", "set", "(II)V"⟩ : MethodName) prog_83_method_4_code 3 none :: ws) ({ frames := 2, cells := 1, slots := 30, locals := 33 } : Room)) (fun a U => a = #[(.ref a0), (.int p1), (.int p2)] ∧ Z.Warmed39 U.vm ∧ U.heap = h0) (fun _ _ _ _ _ => True) (fun _ U o U' => ∃ v L, o = .returned v ∧ Q4 Z a0 p1 p2 b1 z1 f1 w1 wc h0 n0 v U'.heap L ∧ FrameEnd U o U' L ({ frames := 2, cells := 1, slots := 30, locals := 33 } : Room).cells ({ frames := 2, cells := 1, slots := 30, locals := 33 } : Room).slots) := by
  refine MetFree.of_bodySF (plainFor_of_name pn_7) hisR ?_
  intro p e s m args below meth c s₁ Bd hml0 hP hK
  obtain ⟨rfl, hZ, hh⟩ := hP
  have hx := Bd.exec
  have hby := Bd.bytes
  have hml : c.maxLocals = 3 := hml0
  have hown : s.vm.findClass "com/example/steward/steward/timeordered/SequenceTable" = some m.cls := findClass_of_methodNamed Bd.named
  have hnm := (name_of_methodNamed Bd.named Bd.method).1
  have hlk : meth.locks = false := BodyLoose.notSynchronized Bd
  have X0 : Stand p l e ({ frames := 2, cells := 1, slots := 30, locals := 33 } : Room) s m #[(.ref a0), (.int p1), (.int p2)] below meth c s₁ [] 0 0 := Stand.of_body Bd
  have e0 : s₁.heap = h0 := by rw [← hh, Bd.state]; rfl
  have N0 := Fr.nil n0
  have sq0 : h0.size ≤ h0.size := Nat.le_refl _
  have k0 : Keep h0 h0 [a0, b1] := Keep.refl _ _
  change Go p e below s ({ frames := 2, cells := 1, slots := 30, locals := 33 } : Room).cells ({ frames := 2, cells := 1, slots := 30, locals := 33 } : Room).slots (Q4 Z a0 p1 p2 b1 z1 f1 w1 wc h0 n0) (s₁.setTop (entryFrame m #[(.ref a0), (.int p1), (.int p2)] 3))
  rw [ef_4 m a0 p1 p2]
  show Go _ _ _ _ _ _ _ (s₁.setTop (mkF m 0 #[.val (.ref a0), .val (.int p1), .val (.int p2)] []))
  refine Go.step (fun _ k => XS.iloadN X0.here hx rfl (hb hby d4_0) rfl  k) ?_
  show Go _ _ _ _ _ _ _ (s₁.setTop (mkF m 1 #[.val (.ref a0), .val (.int p1), .val (.int p2)] [(.int p1)]))
  refine Go.step (fun _ k => XS.aloadN X0.here hx rfl (hb hby d4_1) rfl rfl  k) ?_
  show Go _ _ _ _ _ _ _ (s₁.setTop (mkF m 2 #[.val (.ref a0), .val (.int p1), .val (.int p2)] [(.ref a0), (.int p1)]))
  obtain ⟨T1, X1, e1, st1⟩ := getF X0 hx hZ hown (host := "") (Or.inl (hw _ (List.mem_of_getElem? (i := 14) rfl))) Via.refl e0 F_1 (g := (mkF m 2 #[.val (.ref a0), .val (.int p1), .val (.int p2)] [(.ref a0), (.int p1)])) rfl rfl (hb hby d4_2)
  refine Go.step st1 ?_
  show Go _ _ _ _ _ _ _ (T1.setTop (mkF m 5 #[.val (.ref a0), .val (.int p1), .val (.int p2)] [(.ref b1), (.int p1)]))
  refine Go.step (Ai.len X1 hx hZ e1 A_4 (g := (mkF m 5 #[.val (.ref a0), .val (.int p1), .val (.int p2)] [(.ref b1), (.int p1)])) rfl rfl (hb hby d4_5)) ?_
  show Go _ _ _ _ _ _ _ (T1.setTop (mkF m 6 #[.val (.ref a0), .val (.int p1), .val (.int p2)] [(.int z1), (.int p1)]))
  by_cases hc6 : p1 < z1
  · skip
    refine Go.step (fun _ k => XS.icmpYes X1.here hx rfl (pc0 := 6) (pc' := 33) rfl (hb hby d4_6) rfl (tlt hc6).1 (by decide) (by decide) k) ?_
    show Go _ _ _ _ _ _ _ (T1.setTop (mkF m 33 #[.val (.ref a0), .val (.int p1), .val (.int p2)] []))
    refine Go.step (fun _ k => XS.aloadN X1.here hx rfl (hb hby d4_33) rfl rfl  k) ?_
    show Go _ _ _ _ _ _ _ (T1.setTop (mkF m 34 #[.val (.ref a0), .val (.int p1), .val (.int p2)] [(.ref a0)]))
    refine Go.step (fun _ k => XS.aloadN X1.here hx rfl (hb hby d4_34) rfl rfl  k) ?_
    show Go _ _ _ _ _ _ _ (T1.setTop (mkF m 35 #[.val (.ref a0), .val (.int p1), .val (.int p2)] [(.ref a0), (.ref a0)]))
    obtain ⟨T2, X2, e2, st2⟩ := getF X1 hx hZ hown (host := "") (Or.inl (hw _ (List.mem_of_getElem? (i := 16) rfl))) Via.refl e1 F_2 (g := (mkF m 35 #[.val (.ref a0), .val (.int p1), .val (.int p2)] [(.ref a0), (.ref a0)])) rfl rfl (hb hby d4_35)
    refine Go.step st2 ?_
    show Go _ _ _ _ _ _ _ (T2.setTop (mkF m 38 #[.val (.ref a0), .val (.int p1), .val (.int p2)] [(.int w1), (.ref a0)]))
    refine Go.step (fun _ k => XS.iloadN X2.here hx rfl (hb hby d4_38) rfl  k) ?_
    show Go _ _ _ _ _ _ _ (T2.setTop (mkF m 39 #[.val (.ref a0), .val (.int p1), .val (.int p2)] [(.int p1), (.int w1), (.ref a0)]))
    refine Go.step (fun _ k => XS.iconst X2.here hx rfl (hb hby d4_39) k) ?_
    show Go _ _ _ _ _ _ _ (T2.setTop (mkF m 40 #[.val (.ref a0), .val (.int p1), .val (.int p2)] [(.int (1 : Int32)), (.int p1), (.int w1), (.ref a0)]))
    refine Go.step (fun _ k => XS.iadd X2.here hx rfl (hb hby d4_40) rfl k) ?_
    show Go _ _ _ _ _ _ _ (T2.setTop (mkF m 41 #[.val (.ref a0), .val (.int p1), .val (.int p2)] [(.int (p1 + (1 : Int32))), (.int w1), (.ref a0)]))
    obtain ⟨_, _, ⟨T3, L3, k3, n3⟩, -, X3, ⟨Lc3, hQ3, l3, y3, z3⟩, st3⟩ := Jvm.LawKit.callS X2 hx (y := (⟨"java/lang/Math", "max", "(II)I"⟩ : MethodName)) hown (mvT hZ (hw _ (List.mem_of_getElem? (i := 28) rfl))) (mvT hZ (hw _ (List.mem_of_getElem? (i := 29) rfl))) (mvT hZ (hw _ (List.mem_of_getElem? (i := 30) rfl))) (mvT hZ (hw _ (List.mem_of_getElem? (i := 31) rfl))) (by decide) (backOf (W := 1) (rm5 l Z aZ hw [] w1 (p1 + (1 : Int32)) h0 n0 Z0 ) hZ (hw _ (List.mem_of_getElem? (i := 31) rfl)) (hw _ (List.mem_of_getElem? (i := 30) rfl)) (by decide) (by decide)) (g := (mkF m 41 #[.val (.ref a0), .val (.int p1), .val (.int p2)] [(.int (p1 + (1 : Int32))), (.int w1), (.ref a0)])) rfl (by rw [hml]; rfl) (argsL := [(.int w1), (.int (p1 + (1 : Int32)))]) (rest := [(.ref a0)]) (lenOf pd_0 rfl) rfl (by show 2 * 0 + _ ≤ _; exact Nat.le_of_eq rfl) (hb hby d4_41) (fun _ _ => ⟨rfl, e2, (by decide : 0 + 0 ≤ _), (by decide : 0 + 0 ≤ _)⟩)
    dsimp only [Pt.U, Pt.locs, Pt.cells, Pt.slots] at X3 l3 y3 z3 st3 hQ3
    subst l3 y3 z3
    obtain ⟨rfl, Nq3, e3⟩ := hQ3
    have N3 := Fr.app N0 Nq3
    refine Go.step st3 ?_
    show Go _ _ _ _ _ _ _ (T3.setTop (mkF m 44 #[.val (.ref a0), .val (.int p1), .val (.int p2)] [(.int (if w1 < (p1 + (1 : Int32)) then (p1 + (1 : Int32)) else w1)), (.ref a0)]))
    obtain ⟨T4, h4, X4, e4, W4, st4⟩ := putF X3 hx hZ hown (host := "") (Or.inl (hw _ (List.mem_of_getElem? (i := 16) rfl))) Via.refl e3 F_2 E_0 (Or.inl (hw _ (List.mem_of_getElem? (i := 17) rfl))) (hw _ (List.mem_of_getElem? (i := 2) rfl)) (ty := .int) (v := (.int (if w1 < (p1 + (1 : Int32)) then (p1 + (1 : Int32)) else w1))) (by decide) rfl rfl (g := (mkF m 44 #[.val (.ref a0), .val (.int p1), .val (.int p2)] [(.int (if w1 < (p1 + (1 : Int32)) then (p1 + (1 : Int32)) else w1)), (.ref a0)])) rfl rfl (hb hby d4_44)
    refine Go.step st4 ?_
    have N4 := Fr.snoc X4 N3 g_6
    have z5 : n0 ≤ h4.size := Nat.le_trans Z0 (Keep.of_wr W4).1
    have sqz5 : h0.size ≤ h4.size := Nat.le_trans sq0 (Keep.of_wr W4).1
    have k6 : Keep h0 h4 [a0, b1] := k0.wr W4 (Or.inl (List.mem_of_getElem? (i := 0) rfl))
    have f7 : Fld Z h4 a0 "com/example/steward/steward/timeordered/SequenceTable" "size" "I" (.int (if w1 < (p1 + (1 : Int32)) then (p1 + (1 : Int32)) else w1)) := F_2.same W4
    show Go _ _ _ _ _ _ _ (T4.setTop (mkF m 47 #[.val (.ref a0), .val (.int p1), .val (.int p2)] []))
    refine Go.step (fun _ k => XS.aloadN X4.here hx rfl (hb hby d4_47) rfl rfl  k) ?_
    show Go _ _ _ _ _ _ _ (T4.setTop (mkF m 48 #[.val (.ref a0), .val (.int p1), .val (.int p2)] [(.ref a0)]))
    have f8 : Fld Z h4 a0 "com/example/steward/steward/timeordered/SequenceTable" "hours" "[I" (.ref b1) := (F_1.other W4 (Or.inr (slot_ne (Or.inl (hw _ (List.mem_of_getElem? (i := 15) rfl))) (Or.inl (hw _ (List.mem_of_getElem? (i := 17) rfl))) (by decide) (t := (.array .int)) (t' := .int) (by decide) (by decide))))
    obtain ⟨T9, X9, e9, st9⟩ := getF X4 hx hZ hown (host := "") (Or.inl (hw _ (List.mem_of_getElem? (i := 14) rfl))) Via.refl e4 f8 (g := (mkF m 48 #[.val (.ref a0), .val (.int p1), .val (.int p2)] [(.ref a0)])) rfl rfl (hb hby d4_48)
    refine Go.step st9 ?_
    show Go _ _ _ _ _ _ _ (T9.setTop (mkF m 51 #[.val (.ref a0), .val (.int p1), .val (.int p2)] [(.ref b1)]))
    refine Go.step (fun _ k => XS.iloadN X9.here hx rfl (hb hby d4_51) rfl  k) ?_
    show Go _ _ _ _ _ _ _ (T9.setTop (mkF m 52 #[.val (.ref a0), .val (.int p1), .val (.int p2)] [(.int p1), (.ref b1)]))
    have f10 : Ai Z h4 b1 .int z1 f1 := (A_4.other W4 (Ne.symm ne_5))
    have lo11 : ¬ p1 < 0 := hq0
    have hi11 : p1 < z1 := hc6
    refine Go.step (Ai.iaload X9 hx hZ e9 f10 (j := p1) lo11 hi11 (g := (mkF m 52 #[.val (.ref a0), .val (.int p1), .val (.int p2)] [(.int p1), (.ref b1)])) rfl rfl (hb hby d4_52)) ?_
    show Go _ _ _ _ _ _ _ (T9.setTop (mkF m 53 #[.val (.ref a0), .val (.int p1), .val (.int p2)] [(.int (f1 p1))]))
    refine Go.step (fun _ k => XS.iloadN X9.here hx rfl (hb hby d4_53) rfl  k) ?_
    show Go _ _ _ _ _ _ _ (T9.setTop (mkF m 54 #[.val (.ref a0), .val (.int p1), .val (.int p2)] [(.int p2), (.int (f1 p1))]))
    by_cases hc54 : (f1 p1) = p2
    · skip
      refine Go.step (fun _ k => XS.icmpYes X9.here hx rfl (pc0 := 54) (pc' := 71) rfl (hb hby d4_54) rfl (teq hc54).1 (by decide) (by decide) k) ?_
      show Go _ _ _ _ _ _ _ (T9.setTop (mkF m 71 #[.val (.ref a0), .val (.int p1), .val (.int p2)] []))
      have f12 : Exa Z h4 a0 "com/example/steward/steward/timeordered/SequenceTable" := (E_0.wr W4)
      have f13 : Fld Z h4 a0 "com/example/steward/steward/timeordered/SequenceTable" "copied" "J" (.long wc) := (F_3.other W4 (Or.inr (slot_ne (Or.inl (hw _ (List.mem_of_getElem? (i := 12) rfl))) (Or.inl (hw _ (List.mem_of_getElem? (i := 17) rfl))) (by decide) (t := .long) (t' := .int) (by decide) (by decide))))
      refine Go.retV X9 hx Bd.returns hlk (hb hby d4_71) ?_ (by decide) (by decide)
      rw [e9]
      exact ⟨b1, z1, f1, (if w1 < (p1 + (1 : Int32)) then (p1 + (1 : Int32)) else w1), wc, (rfl), N4, k6, f12, f8, f7, f13, f10, ne_5, g_7, h30, own_pf_ne hq0 hc6 hc54⟩
    · skip
      refine Go.step (fun _ k => XS.icmpNo X9.here hx rfl (hb hby d4_54) rfl (feq hc54).1 k) ?_
      show Go _ _ _ _ _ _ _ (T9.setTop (mkF m 57 #[.val (.ref a0), .val (.int p1), .val (.int p2)] []))
      refine Go.step (fun _ k => XS.aloadN X9.here hx rfl (hb hby d4_57) rfl rfl  k) ?_
      show Go _ _ _ _ _ _ _ (T9.setTop (mkF m 58 #[.val (.ref a0), .val (.int p1), .val (.int p2)] [(.ref a0)]))
      obtain ⟨T14, X14, e14, st14⟩ := getF X9 hx hZ hown (host := "") (Or.inl (hw _ (List.mem_of_getElem? (i := 14) rfl))) Via.refl e9 f8 (g := (mkF m 58 #[.val (.ref a0), .val (.int p1), .val (.int p2)] [(.ref a0)])) rfl rfl (hb hby d4_58)
      refine Go.step st14 ?_
      show Go _ _ _ _ _ _ _ (T14.setTop (mkF m 61 #[.val (.ref a0), .val (.int p1), .val (.int p2)] [(.ref b1)]))
      refine Go.step (fun _ k => XS.iloadN X14.here hx rfl (hb hby d4_61) rfl  k) ?_
      show Go _ _ _ _ _ _ _ (T14.setTop (mkF m 62 #[.val (.ref a0), .val (.int p1), .val (.int p2)] [(.int p1), (.ref b1)]))
      refine Go.step (fun _ k => XS.iloadN X14.here hx rfl (hb hby d4_62) rfl  k) ?_
      show Go _ _ _ _ _ _ _ (T14.setTop (mkF m 63 #[.val (.ref a0), .val (.int p1), .val (.int p2)] [(.int p2), (.int p1), (.ref b1)]))
      have lo15 : ¬ p1 < 0 := hq0
      have hi15 : p1 < z1 := hc6
      obtain ⟨T16, h16, X16, e16, W16, f16, st16⟩ := Ai.stI X14 hx hZ e14 f10 (j := p1) (x := p2) lo15 hi15 (g := (mkF m 63 #[.val (.ref a0), .val (.int p1), .val (.int p2)] [(.int p2), (.int p1), (.ref b1)])) rfl rfl (hb hby d4_63)
      refine Go.step st16 ?_
      have N16 := Fr.snoc X16 N4 g_7
      have z17 : n0 ≤ h16.size := Nat.le_trans z5 (Keep.of_wr W16).1
      have sqz17 : h0.size ≤ h16.size := Nat.le_trans sqz5 (Keep.of_wr W16).1
      have k18 : Keep h0 h16 [a0, b1] := k6.wr W16 (Or.inl (List.mem_of_getElem? (i := 1) rfl))
      obtain ⟨f19c, qf19c⟩ : ∃ fz, fz = (fun jj => if jj = p1 then p2 else f1 jj) := ⟨_, rfl⟩
      rw [← qf19c] at f16
      show Go _ _ _ _ _ _ _ (T16.setTop (mkF m 64 #[.val (.ref a0), .val (.int p1), .val (.int p2)] []))
      refine Go.step (fun _ k => XS.aloadN X16.here hx rfl (hb hby d4_64) rfl rfl  k) ?_
      show Go _ _ _ _ _ _ _ (T16.setTop (mkF m 65 #[.val (.ref a0), .val (.int p1), .val (.int p2)] [(.ref a0)]))
      refine Go.step (X16.ldc2Long hx hown (mvT hZ (hw _ (List.mem_of_getElem? (i := 10) rfl))) (g := (mkF m 65 #[.val (.ref a0), .val (.int p1), .val (.int p2)] [(.ref a0)])) rfl (hb hby d4_65)) ?_
      show Go _ _ _ _ _ _ _ (T16.setTop (mkF m 68 #[.val (.ref a0), .val (.int p1), .val (.int p2)] [(.long (-1 : Int64)), (.ref a0)]))
      have f20 : Exa Z h16 a0 "com/example/steward/steward/timeordered/SequenceTable" := ((E_0.wr W4).wr W16)
      have f21 : Fld Z h16 a0 "com/example/steward/steward/timeordered/SequenceTable" "copied" "J" (.long wc) := ((F_3.other W4 (Or.inr (slot_ne (Or.inl (hw _ (List.mem_of_getElem? (i := 12) rfl))) (Or.inl (hw _ (List.mem_of_getElem? (i := 17) rfl))) (by decide) (t := .long) (t' := .int) (by decide) (by decide)))).other W16 (Or.inl ne_5))
      obtain ⟨T22, h22, X22, e22, W22, st22⟩ := putF X16 hx hZ hown (host := "") (Or.inl (hw _ (List.mem_of_getElem? (i := 11) rfl))) Via.refl e16 f21 f20 (Or.inl (hw _ (List.mem_of_getElem? (i := 12) rfl))) (hw _ (List.mem_of_getElem? (i := 2) rfl)) (ty := .long) (v := (.long (-1 : Int64))) (by decide) rfl rfl (g := (mkF m 68 #[.val (.ref a0), .val (.int p1), .val (.int p2)] [(.long (-1 : Int64)), (.ref a0)])) rfl rfl (hb hby d4_68)
      refine Go.step st22 ?_
      have N22 := Fr.snoc X22 N16 g_6
      have z23 : n0 ≤ h22.size := Nat.le_trans z17 (Keep.of_wr W22).1
      have sqz23 : h0.size ≤ h22.size := Nat.le_trans sqz17 (Keep.of_wr W22).1
      have k24 : Keep h0 h22 [a0, b1] := k18.wr W22 (Or.inl (List.mem_of_getElem? (i := 0) rfl))
      have f25 : Fld Z h22 a0 "com/example/steward/steward/timeordered/SequenceTable" "copied" "J" (.long (-1 : Int64)) := f21.same W22
      show Go _ _ _ _ _ _ _ (T22.setTop (mkF m 71 #[.val (.ref a0), .val (.int p1), .val (.int p2)] []))
      have f26 : Exa Z h22 a0 "com/example/steward/steward/timeordered/SequenceTable" := (f20.wr W22)
      have f27 : Fld Z h22 a0 "com/example/steward/steward/timeordered/SequenceTable" "hours" "[I" (.ref b1) := ((f8.other W16 (Or.inl ne_5)).other W22 (Or.inr (slot_ne (Or.inl (hw _ (List.mem_of_getElem? (i := 15) rfl))) (Or.inl (hw _ (List.mem_of_getElem? (i := 12) rfl))) (by decide) (t := (.array .int)) (t' := .long) (by decide) (by decide))))
      have f28 : Fld Z h22 a0 "com/example/steward/steward/timeordered/SequenceTable" "size" "I" (.int (if w1 < (p1 + (1 : Int32)) then (p1 + (1 : Int32)) else w1)) := ((f7.other W16 (Or.inl ne_5)).other W22 (Or.inr (slot_ne (Or.inl (hw _ (List.mem_of_getElem? (i := 17) rfl))) (Or.inl (hw _ (List.mem_of_getElem? (i := 12) rfl))) (by decide) (t := .int) (t' := .long) (by decide) (by decide))))
      have f29 : Ai Z h22 b1 .int z1 f19c := (f16.other W22 (Ne.symm ne_5))
      refine Go.retV X22 hx Bd.returns hlk (hb hby d4_71) ?_ (by decide) (by decide)
      rw [e22]
      exact ⟨b1, z1, f19c, (if w1 < (p1 + (1 : Int32)) then (p1 + (1 : Int32)) else w1), (-1 : Int64), (rfl), N22, k24, f26, f27, f28, f25, f29, ne_5, g_7, h30, own_pf_ns hq0 hc6 hc54 (by assumption)⟩
  · skip
    refine Go.step (fun _ k => XS.icmpNo X1.here hx rfl (hb hby d4_6) rfl (flt hc6).1 k) ?_
    show Go _ _ _ _ _ _ _ (T1.setTop (mkF m 9 #[.val (.ref a0), .val (.int p1), .val (.int p2)] []))
    refine Go.step (fun _ k => XS.aloadN X1.here hx rfl (hb hby d4_9) rfl rfl  k) ?_
    show Go _ _ _ _ _ _ _ (T1.setTop (mkF m 10 #[.val (.ref a0), .val (.int p1), .val (.int p2)] [(.ref a0)]))
    refine Go.step (fun _ k => XS.aloadN X1.here hx rfl (hb hby d4_10) rfl rfl  k) ?_
    show Go _ _ _ _ _ _ _ (T1.setTop (mkF m 11 #[.val (.ref a0), .val (.int p1), .val (.int p2)] [(.ref a0), (.ref a0)]))
    obtain ⟨T30, X30, e30, st30⟩ := getF X1 hx hZ hown (host := "") (Or.inl (hw _ (List.mem_of_getElem? (i := 14) rfl))) Via.refl e1 F_1 (g := (mkF m 11 #[.val (.ref a0), .val (.int p1), .val (.int p2)] [(.ref a0), (.ref a0)])) rfl rfl (hb hby d4_11)
    refine Go.step st30 ?_
    show Go _ _ _ _ _ _ _ (T30.setTop (mkF m 14 #[.val (.ref a0), .val (.int p1), .val (.int p2)] [(.ref b1), (.ref a0)]))
    refine Go.step (fun _ k => XS.iloadN X30.here hx rfl (hb hby d4_14) rfl  k) ?_
    show Go _ _ _ _ _ _ _ (T30.setTop (mkF m 15 #[.val (.ref a0), .val (.int p1), .val (.int p2)] [(.int p1), (.ref b1), (.ref a0)]))
    refine Go.step (fun _ k => XS.iconst X30.here hx rfl (hb hby d4_15) k) ?_
    show Go _ _ _ _ _ _ _ (T30.setTop (mkF m 16 #[.val (.ref a0), .val (.int p1), .val (.int p2)] [(.int (1 : Int32)), (.int p1), (.ref b1), (.ref a0)]))
    refine Go.step (fun _ k => XS.iadd X30.here hx rfl (hb hby d4_16) rfl k) ?_
    show Go _ _ _ _ _ _ _ (T30.setTop (mkF m 17 #[.val (.ref a0), .val (.int p1), .val (.int p2)] [(.int (p1 + (1 : Int32))), (.ref b1), (.ref a0)]))
    refine Go.step (fun _ k => XS.iconst X30.here hx rfl (hb hby d4_17) k) ?_
    show Go _ _ _ _ _ _ _ (T30.setTop (mkF m 18 #[.val (.ref a0), .val (.int p1), .val (.int p2)] [(.int (2 : Int32)), (.int (p1 + (1 : Int32))), (.ref b1), (.ref a0)]))
    refine Go.step (fun _ k => XS.aloadN X30.here hx rfl (hb hby d4_18) rfl rfl  k) ?_
    show Go _ _ _ _ _ _ _ (T30.setTop (mkF m 19 #[.val (.ref a0), .val (.int p1), .val (.int p2)] [(.ref a0), (.int (2 : Int32)), (.int (p1 + (1 : Int32))), (.ref b1), (.ref a0)]))
    obtain ⟨T31, X31, e31, st31⟩ := getF X30 hx hZ hown (host := "") (Or.inl (hw _ (List.mem_of_getElem? (i := 14) rfl))) Via.refl e30 F_1 (g := (mkF m 19 #[.val (.ref a0), .val (.int p1), .val (.int p2)] [(.ref a0), (.int (2 : Int32)), (.int (p1 + (1 : Int32))), (.ref b1), (.ref a0)])) rfl rfl (hb hby d4_19)
    refine Go.step st31 ?_
    show Go _ _ _ _ _ _ _ (T31.setTop (mkF m 22 #[.val (.ref a0), .val (.int p1), .val (.int p2)] [(.ref b1), (.int (2 : Int32)), (.int (p1 + (1 : Int32))), (.ref b1), (.ref a0)]))
    refine Go.step (Ai.len X31 hx hZ e31 A_4 (g := (mkF m 22 #[.val (.ref a0), .val (.int p1), .val (.int p2)] [(.ref b1), (.int (2 : Int32)), (.int (p1 + (1 : Int32))), (.ref b1), (.ref a0)])) rfl rfl (hb hby d4_22)) ?_
    show Go _ _ _ _ _ _ _ (T31.setTop (mkF m 23 #[.val (.ref a0), .val (.int p1), .val (.int p2)] [(.int z1), (.int (2 : Int32)), (.int (p1 + (1 : Int32))), (.ref b1), (.ref a0)]))
    refine Go.step (fun _ k => XS.imul X31.here hx rfl (hb hby d4_23) rfl k) ?_
    show Go _ _ _ _ _ _ _ (T31.setTop (mkF m 24 #[.val (.ref a0), .val (.int p1), .val (.int p2)] [(.int ((2 : Int32) * z1)), (.int (p1 + (1 : Int32))), (.ref b1), (.ref a0)]))
    obtain ⟨_, _, ⟨T32, L32, k32, n32⟩, -, X32, ⟨Lc32, hQ32, l32, y32, z32⟩, st32⟩ := Jvm.LawKit.callS X31 hx (y := (⟨"java/lang/Math", "max", "(II)I"⟩ : MethodName)) hown (mvT hZ (hw _ (List.mem_of_getElem? (i := 28) rfl))) (mvT hZ (hw _ (List.mem_of_getElem? (i := 29) rfl))) (mvT hZ (hw _ (List.mem_of_getElem? (i := 30) rfl))) (mvT hZ (hw _ (List.mem_of_getElem? (i := 31) rfl))) (by decide) (backOf (W := 2) (rm5 l Z aZ hw [] (p1 + (1 : Int32)) ((2 : Int32) * z1) h0 n0 Z0 ) hZ (hw _ (List.mem_of_getElem? (i := 31) rfl)) (hw _ (List.mem_of_getElem? (i := 30) rfl)) (by decide) (by decide)) (g := (mkF m 24 #[.val (.ref a0), .val (.int p1), .val (.int p2)] [(.int ((2 : Int32) * z1)), (.int (p1 + (1 : Int32))), (.ref b1), (.ref a0)])) rfl (by rw [hml]; rfl) (argsL := [(.int (p1 + (1 : Int32))), (.int ((2 : Int32) * z1))]) (rest := [(.ref b1), (.ref a0)]) (lenOf pd_0 rfl) rfl (by show 2 * 0 + _ ≤ _; exact Nat.le_of_eq rfl) (hb hby d4_24) (fun _ _ => ⟨rfl, e31, (by decide : 0 + 0 ≤ _), (by decide : 0 + 0 ≤ _)⟩)
    dsimp only [Pt.U, Pt.locs, Pt.cells, Pt.slots] at X32 l32 y32 z32 st32 hQ32
    subst l32 y32 z32
    obtain ⟨rfl, Nq32, e32⟩ := hQ32
    have N32 := Fr.app N0 Nq32
    refine Go.step st32 ?_
    show Go _ _ _ _ _ _ _ (T32.setTop (mkF m 27 #[.val (.ref a0), .val (.int p1), .val (.int p2)] [(.int (if (p1 + (1 : Int32)) < ((2 : Int32) * z1) then ((2 : Int32) * z1) else (p1 + (1 : Int32)))), (.ref b1), (.ref a0)]))
    obtain ⟨nl, q_nl⟩ : ∃ z : Int32, z = (if (p1 + (1 : Int32)) < ((2 : Int32) * z1) then ((2 : Int32) * z1) else (p1 + (1 : Int32))) := ⟨_, rfl⟩
    rw [← q_nl]
    have hnl : p1 < nl ∧ z1 < nl ∧ nl.toNatClampNeg ≤ 30 ∧ ¬ (30 : Int32) < nl := by rw [q_nl]; exact own_grow hq0 h15 A_4.nn hc6
    show Go _ _ _ _ _ _ _ (T32.setTop (mkF m 27 #[.val (.ref a0), .val (.int p1), .val (.int p2)] [(.int nl), (.ref b1), (.ref a0)]))
    have pq33 : z1 < nl := hnl.2.1
    have pq34 : nl.toNatClampNeg ≤ 30 := hnl.2.2.1
    obtain ⟨_, _, ⟨T35, L35, k35, n35⟩, -, X35, ⟨Lc35, hQ35, l35, y35, z35⟩, st35⟩ := Jvm.LawKit.callS X32 hx (y := (⟨"java/util/Arrays", "copyOf", "([II)[I"⟩ : MethodName)) hown (mvT hZ (hw _ (List.mem_of_getElem? (i := 32) rfl))) (mvT hZ (hw _ (List.mem_of_getElem? (i := 33) rfl))) (mvT hZ (hw _ (List.mem_of_getElem? (i := 34) rfl))) (mvT hZ (hw _ (List.mem_of_getElem? (i := 35) rfl))) (by decide) (backOf (W := 1) (rm6 l Z aZ hw [] b1 nl z1 f1 h0 n0 Z0 A_4 pq33 pq34) hZ (hw _ (List.mem_of_getElem? (i := 35) rfl)) (hw _ (List.mem_of_getElem? (i := 34) rfl)) (by decide) (by decide)) (g := (mkF m 27 #[.val (.ref a0), .val (.int p1), .val (.int p2)] [(.int nl), (.ref b1), (.ref a0)])) rfl (by rw [hml]; rfl) (argsL := [(.ref b1), (.int nl)]) (rest := [(.ref a0)]) (lenOf pd_1 rfl) rfl (by show 2 * 0 + _ ≤ _; exact Nat.le_of_eq rfl) (hb hby d4_27) (fun _ _ => ⟨rfl, e32, (by decide : 0 + 1 ≤ _), (by decide : 0 + 30 ≤ _)⟩)
    dsimp only [Pt.U, Pt.locs, Pt.cells, Pt.slots] at X35 l35 y35 z35 st35 hQ35
    subst l35 y35 z35
    obtain ⟨b_35, rfl, Nq35, K35, c35_0, c35_1⟩ := hQ35
    have N35 := Fr.app N32 Nq35
    refine Go.step st35 ?_
    have ne36 : a0 ≠ b_35 := Nat.ne_of_lt (Nat.lt_of_lt_of_le E_0.lt c35_0)
    have ne37 : b1 ≠ b_35 := Nat.ne_of_lt (Nat.lt_of_lt_of_le A_4.lt c35_0)
    have gn35_0 : n0 ≤ b_35 := Nat.le_trans Z0 c35_0
    have sz35_0 : h0.size ≤ b_35 := Nat.le_trans sq0 c35_0
    have z38 : n0 ≤ T35.heap.size := Nat.le_trans Z0 K35.1
    have sqz38 : h0.size ≤ T35.heap.size := Nat.le_trans sq0 K35.1
    have k39 : Keep h0 T35.heap [a0, b1] := k0.trans K35 all0
    show Go _ _ _ _ _ _ _ (T35.setTop (mkF m 30 #[.val (.ref a0), .val (.int p1), .val (.int p2)] [(.ref b_35), (.ref a0)]))
    have f40 : Exa Z T35.heap a0 "com/example/steward/steward/timeordered/SequenceTable" := (E_0.keep K35)
    have f41 : Fld Z T35.heap a0 "com/example/steward/steward/timeordered/SequenceTable" "hours" "[I" (.ref b1) := (F_1.keep K35 nin0)
    obtain ⟨T42, h42, X42, e42, W42, st42⟩ := putF X35 hx hZ hown (host := "") (Or.inl (hw _ (List.mem_of_getElem? (i := 14) rfl))) Via.refl rfl f41 f40 (Or.inl (hw _ (List.mem_of_getElem? (i := 15) rfl))) (hw _ (List.mem_of_getElem? (i := 2) rfl)) (ty := (.array .int)) (v := (.ref b_35)) (by decide) rfl rfl (g := (mkF m 30 #[.val (.ref a0), .val (.int p1), .val (.int p2)] [(.ref b_35), (.ref a0)])) rfl rfl (hb hby d4_30)
    refine Go.step st42 ?_
    have N42 := Fr.snoc X42 N35 g_6
    have z43 : n0 ≤ h42.size := Nat.le_trans z38 (Keep.of_wr W42).1
    have sqz43 : h0.size ≤ h42.size := Nat.le_trans sqz38 (Keep.of_wr W42).1
    have k44 : Keep h0 h42 [a0, b1] := k39.wr W42 (Or.inl (List.mem_of_getElem? (i := 0) rfl))
    have f45 : Fld Z h42 a0 "com/example/steward/steward/timeordered/SequenceTable" "hours" "[I" (.ref b_35) := f41.same W42
    show Go _ _ _ _ _ _ _ (T42.setTop (mkF m 33 #[.val (.ref a0), .val (.int p1), .val (.int p2)] []))
    refine Go.step (fun _ k => XS.aloadN X42.here hx rfl (hb hby d4_33) rfl rfl  k) ?_
    show Go _ _ _ _ _ _ _ (T42.setTop (mkF m 34 #[.val (.ref a0), .val (.int p1), .val (.int p2)] [(.ref a0)]))
    refine Go.step (fun _ k => XS.aloadN X42.here hx rfl (hb hby d4_34) rfl rfl  k) ?_
    show Go _ _ _ _ _ _ _ (T42.setTop (mkF m 35 #[.val (.ref a0), .val (.int p1), .val (.int p2)] [(.ref a0), (.ref a0)]))
    have f46 : Fld Z h42 a0 "com/example/steward/steward/timeordered/SequenceTable" "size" "I" (.int w1) := ((F_2.keep K35 nin0).other W42 (Or.inr (slot_ne (Or.inl (hw _ (List.mem_of_getElem? (i := 17) rfl))) (Or.inl (hw _ (List.mem_of_getElem? (i := 15) rfl))) (by decide) (t := .int) (t' := (.array .int)) (by decide) (by decide))))
    obtain ⟨T47, X47, e47, st47⟩ := getF X42 hx hZ hown (host := "") (Or.inl (hw _ (List.mem_of_getElem? (i := 16) rfl))) Via.refl e42 f46 (g := (mkF m 35 #[.val (.ref a0), .val (.int p1), .val (.int p2)] [(.ref a0), (.ref a0)])) rfl rfl (hb hby d4_35)
    refine Go.step st47 ?_
    show Go _ _ _ _ _ _ _ (T47.setTop (mkF m 38 #[.val (.ref a0), .val (.int p1), .val (.int p2)] [(.int w1), (.ref a0)]))
    refine Go.step (fun _ k => XS.iloadN X47.here hx rfl (hb hby d4_38) rfl  k) ?_
    show Go _ _ _ _ _ _ _ (T47.setTop (mkF m 39 #[.val (.ref a0), .val (.int p1), .val (.int p2)] [(.int p1), (.int w1), (.ref a0)]))
    refine Go.step (fun _ k => XS.iconst X47.here hx rfl (hb hby d4_39) k) ?_
    show Go _ _ _ _ _ _ _ (T47.setTop (mkF m 40 #[.val (.ref a0), .val (.int p1), .val (.int p2)] [(.int (1 : Int32)), (.int p1), (.int w1), (.ref a0)]))
    refine Go.step (fun _ k => XS.iadd X47.here hx rfl (hb hby d4_40) rfl k) ?_
    show Go _ _ _ _ _ _ _ (T47.setTop (mkF m 41 #[.val (.ref a0), .val (.int p1), .val (.int p2)] [(.int (p1 + (1 : Int32))), (.int w1), (.ref a0)]))
    obtain ⟨_, _, ⟨T48, L48, k48, n48⟩, -, X48, ⟨Lc48, hQ48, l48, y48, z48⟩, st48⟩ := Jvm.LawKit.callS X47 hx (y := (⟨"java/lang/Math", "max", "(II)I"⟩ : MethodName)) hown (mvT hZ (hw _ (List.mem_of_getElem? (i := 28) rfl))) (mvT hZ (hw _ (List.mem_of_getElem? (i := 29) rfl))) (mvT hZ (hw _ (List.mem_of_getElem? (i := 30) rfl))) (mvT hZ (hw _ (List.mem_of_getElem? (i := 31) rfl))) (by decide) (backOf (W := 1) (rm5 l Z aZ hw [] w1 (p1 + (1 : Int32)) h42 n0 z43 ) hZ (hw _ (List.mem_of_getElem? (i := 31) rfl)) (hw _ (List.mem_of_getElem? (i := 30) rfl)) (by decide) (by decide)) (g := (mkF m 41 #[.val (.ref a0), .val (.int p1), .val (.int p2)] [(.int (p1 + (1 : Int32))), (.int w1), (.ref a0)])) rfl (by rw [hml]; rfl) (argsL := [(.int w1), (.int (p1 + (1 : Int32)))]) (rest := [(.ref a0)]) (lenOf pd_0 rfl) rfl (by show 2 * 0 + _ ≤ _; exact Nat.le_of_eq rfl) (hb hby d4_41) (fun _ _ => ⟨rfl, e47, (by decide : 1 + 0 ≤ _), (by decide : 30 + 0 ≤ _)⟩)
    dsimp only [Pt.U, Pt.locs, Pt.cells, Pt.slots] at X48 l48 y48 z48 st48 hQ48
    subst l48 y48 z48
    obtain ⟨rfl, Nq48, e48⟩ := hQ48
    have N48 := Fr.app N42 Nq48
    refine Go.step st48 ?_
    show Go _ _ _ _ _ _ _ (T48.setTop (mkF m 44 #[.val (.ref a0), .val (.int p1), .val (.int p2)] [(.int (if w1 < (p1 + (1 : Int32)) then (p1 + (1 : Int32)) else w1)), (.ref a0)]))
    have f49 : Exa Z h42 a0 "com/example/steward/steward/timeordered/SequenceTable" := (f40.wr W42)
    obtain ⟨T50, h50, X50, e50, W50, st50⟩ := putF X48 hx hZ hown (host := "") (Or.inl (hw _ (List.mem_of_getElem? (i := 16) rfl))) Via.refl e48 f46 f49 (Or.inl (hw _ (List.mem_of_getElem? (i := 17) rfl))) (hw _ (List.mem_of_getElem? (i := 2) rfl)) (ty := .int) (v := (.int (if w1 < (p1 + (1 : Int32)) then (p1 + (1 : Int32)) else w1))) (by decide) rfl rfl (g := (mkF m 44 #[.val (.ref a0), .val (.int p1), .val (.int p2)] [(.int (if w1 < (p1 + (1 : Int32)) then (p1 + (1 : Int32)) else w1)), (.ref a0)])) rfl rfl (hb hby d4_44)
    refine Go.step st50 ?_
    have N50 := Fr.snoc X50 N48 g_6
    have z51 : n0 ≤ h50.size := Nat.le_trans z43 (Keep.of_wr W50).1
    have sqz51 : h0.size ≤ h50.size := Nat.le_trans sqz43 (Keep.of_wr W50).1
    have k52 : Keep h0 h50 [a0, b1] := k44.wr W50 (Or.inl (List.mem_of_getElem? (i := 0) rfl))
    have f53 : Fld Z h50 a0 "com/example/steward/steward/timeordered/SequenceTable" "size" "I" (.int (if w1 < (p1 + (1 : Int32)) then (p1 + (1 : Int32)) else w1)) := f46.same W50
    show Go _ _ _ _ _ _ _ (T50.setTop (mkF m 47 #[.val (.ref a0), .val (.int p1), .val (.int p2)] []))
    refine Go.step (fun _ k => XS.aloadN X50.here hx rfl (hb hby d4_47) rfl rfl  k) ?_
    show Go _ _ _ _ _ _ _ (T50.setTop (mkF m 48 #[.val (.ref a0), .val (.int p1), .val (.int p2)] [(.ref a0)]))
    have f54 : Fld Z h50 a0 "com/example/steward/steward/timeordered/SequenceTable" "hours" "[I" (.ref b_35) := (f45.other W50 (Or.inr (slot_ne (Or.inl (hw _ (List.mem_of_getElem? (i := 15) rfl))) (Or.inl (hw _ (List.mem_of_getElem? (i := 17) rfl))) (by decide) (t := (.array .int)) (t' := .int) (by decide) (by decide))))
    obtain ⟨T55, X55, e55, st55⟩ := getF X50 hx hZ hown (host := "") (Or.inl (hw _ (List.mem_of_getElem? (i := 14) rfl))) Via.refl e50 f54 (g := (mkF m 48 #[.val (.ref a0), .val (.int p1), .val (.int p2)] [(.ref a0)])) rfl rfl (hb hby d4_48)
    refine Go.step st55 ?_
    show Go _ _ _ _ _ _ _ (T55.setTop (mkF m 51 #[.val (.ref a0), .val (.int p1), .val (.int p2)] [(.ref b_35)]))
    refine Go.step (fun _ k => XS.iloadN X55.here hx rfl (hb hby d4_51) rfl  k) ?_
    show Go _ _ _ _ _ _ _ (T55.setTop (mkF m 52 #[.val (.ref a0), .val (.int p1), .val (.int p2)] [(.int p1), (.ref b_35)]))
    have f56 : Ai Z h50 b_35 .int nl (fun j => if j < z1 then f1 j else 0) := ((c35_1.other W42 (Ne.symm ne36)).other W50 (Ne.symm ne36))
    have lo57 : ¬ p1 < 0 := hq0
    have hi57 : p1 < nl := hnl.1
    refine Go.step (Ai.iaload X55 hx hZ e55 f56 (j := p1) lo57 hi57 (g := (mkF m 52 #[.val (.ref a0), .val (.int p1), .val (.int p2)] [(.int p1), (.ref b_35)])) rfl rfl (hb hby d4_52)) ?_
    show Go _ _ _ _ _ _ _ (T55.setTop (mkF m 53 #[.val (.ref a0), .val (.int p1), .val (.int p2)] [(.int ((fun j => if j < z1 then f1 j else 0) p1))]))
    refine Go.step (fun _ k => XS.iloadN X55.here hx rfl (hb hby d4_53) rfl  k) ?_
    show Go _ _ _ _ _ _ _ (T55.setTop (mkF m 54 #[.val (.ref a0), .val (.int p1), .val (.int p2)] [(.int p2), (.int ((fun j => if j < z1 then f1 j else 0) p1))]))
    by_cases hc54 : ((fun j => if j < z1 then f1 j else 0) p1) = p2
    · skip
      refine Go.step (fun _ k => XS.icmpYes X55.here hx rfl (pc0 := 54) (pc' := 71) rfl (hb hby d4_54) rfl (teq hc54).1 (by decide) (by decide) k) ?_
      show Go _ _ _ _ _ _ _ (T55.setTop (mkF m 71 #[.val (.ref a0), .val (.int p1), .val (.int p2)] []))
      have f58 : Exa Z h50 a0 "com/example/steward/steward/timeordered/SequenceTable" := (f49.wr W50)
      have f59 : Fld Z h50 a0 "com/example/steward/steward/timeordered/SequenceTable" "copied" "J" (.long wc) := (((F_3.keep K35 nin0).other W42 (Or.inr (slot_ne (Or.inl (hw _ (List.mem_of_getElem? (i := 12) rfl))) (Or.inl (hw _ (List.mem_of_getElem? (i := 15) rfl))) (by decide) (t := .long) (t' := (.array .int)) (by decide) (by decide)))).other W50 (Or.inr (slot_ne (Or.inl (hw _ (List.mem_of_getElem? (i := 12) rfl))) (Or.inl (hw _ (List.mem_of_getElem? (i := 17) rfl))) (by decide) (t := .long) (t' := .int) (by decide) (by decide))))
      refine Go.retV X55 hx Bd.returns hlk (hb hby d4_71) ?_ (by decide) (by decide)
      rw [e55]
      exact ⟨b_35, nl, (fun j => if j < z1 then f1 j else 0), (if w1 < (p1 + (1 : Int32)) then (p1 + (1 : Int32)) else w1), wc, (rfl), N50, k52, f58, f54, f53, f59, f56, ne36, gn35_0, hnl.2.2.2, own_pf_ge hq0 hc6 hc54 hnl.1 hnl.2.1⟩
    · skip
      refine Go.step (fun _ k => XS.icmpNo X55.here hx rfl (hb hby d4_54) rfl (feq hc54).1 k) ?_
      show Go _ _ _ _ _ _ _ (T55.setTop (mkF m 57 #[.val (.ref a0), .val (.int p1), .val (.int p2)] []))
      refine Go.step (fun _ k => XS.aloadN X55.here hx rfl (hb hby d4_57) rfl rfl  k) ?_
      show Go _ _ _ _ _ _ _ (T55.setTop (mkF m 58 #[.val (.ref a0), .val (.int p1), .val (.int p2)] [(.ref a0)]))
      obtain ⟨T60, X60, e60, st60⟩ := getF X55 hx hZ hown (host := "") (Or.inl (hw _ (List.mem_of_getElem? (i := 14) rfl))) Via.refl e55 f54 (g := (mkF m 58 #[.val (.ref a0), .val (.int p1), .val (.int p2)] [(.ref a0)])) rfl rfl (hb hby d4_58)
      refine Go.step st60 ?_
      show Go _ _ _ _ _ _ _ (T60.setTop (mkF m 61 #[.val (.ref a0), .val (.int p1), .val (.int p2)] [(.ref b_35)]))
      refine Go.step (fun _ k => XS.iloadN X60.here hx rfl (hb hby d4_61) rfl  k) ?_
      show Go _ _ _ _ _ _ _ (T60.setTop (mkF m 62 #[.val (.ref a0), .val (.int p1), .val (.int p2)] [(.int p1), (.ref b_35)]))
      refine Go.step (fun _ k => XS.iloadN X60.here hx rfl (hb hby d4_62) rfl  k) ?_
      show Go _ _ _ _ _ _ _ (T60.setTop (mkF m 63 #[.val (.ref a0), .val (.int p1), .val (.int p2)] [(.int p2), (.int p1), (.ref b_35)]))
      have lo61 : ¬ p1 < 0 := hq0
      have hi61 : p1 < nl := hnl.1
      obtain ⟨T62, h62, X62, e62, W62, f62, st62⟩ := Ai.stI X60 hx hZ e60 f56 (j := p1) (x := p2) lo61 hi61 (g := (mkF m 63 #[.val (.ref a0), .val (.int p1), .val (.int p2)] [(.int p2), (.int p1), (.ref b_35)])) rfl rfl (hb hby d4_63)
      refine Go.step st62 ?_
      have N62 := Fr.snoc X62 N50 gn35_0
      have z63 : n0 ≤ h62.size := Nat.le_trans z51 (Keep.of_wr W62).1
      have sqz63 : h0.size ≤ h62.size := Nat.le_trans sqz51 (Keep.of_wr W62).1
      have k64 : Keep h0 h62 [a0, b1] := k52.wr W62 (Or.inr sz35_0)
      obtain ⟨f65c, qf65c⟩ : ∃ fz, fz = (fun jj => if jj = p1 then p2 else (fun j => if j < z1 then f1 j else 0) jj) := ⟨_, rfl⟩
      rw [← qf65c] at f62
      show Go _ _ _ _ _ _ _ (T62.setTop (mkF m 64 #[.val (.ref a0), .val (.int p1), .val (.int p2)] []))
      refine Go.step (fun _ k => XS.aloadN X62.here hx rfl (hb hby d4_64) rfl rfl  k) ?_
      show Go _ _ _ _ _ _ _ (T62.setTop (mkF m 65 #[.val (.ref a0), .val (.int p1), .val (.int p2)] [(.ref a0)]))
      refine Go.step (X62.ldc2Long hx hown (mvT hZ (hw _ (List.mem_of_getElem? (i := 10) rfl))) (g := (mkF m 65 #[.val (.ref a0), .val (.int p1), .val (.int p2)] [(.ref a0)])) rfl (hb hby d4_65)) ?_
      show Go _ _ _ _ _ _ _ (T62.setTop (mkF m 68 #[.val (.ref a0), .val (.int p1), .val (.int p2)] [(.long (-1 : Int64)), (.ref a0)]))
      have f66 : Exa Z h62 a0 "com/example/steward/steward/timeordered/SequenceTable" := ((f49.wr W50).wr W62)
      have f67 : Fld Z h62 a0 "com/example/steward/steward/timeordered/SequenceTable" "copied" "J" (.long wc) := ((((F_3.keep K35 nin0).other W42 (Or.inr (slot_ne (Or.inl (hw _ (List.mem_of_getElem? (i := 12) rfl))) (Or.inl (hw _ (List.mem_of_getElem? (i := 15) rfl))) (by decide) (t := .long) (t' := (.array .int)) (by decide) (by decide)))).other W50 (Or.inr (slot_ne (Or.inl (hw _ (List.mem_of_getElem? (i := 12) rfl))) (Or.inl (hw _ (List.mem_of_getElem? (i := 17) rfl))) (by decide) (t := .long) (t' := .int) (by decide) (by decide)))).other W62 (Or.inl ne36))
      obtain ⟨T68, h68, X68, e68, W68, st68⟩ := putF X62 hx hZ hown (host := "") (Or.inl (hw _ (List.mem_of_getElem? (i := 11) rfl))) Via.refl e62 f67 f66 (Or.inl (hw _ (List.mem_of_getElem? (i := 12) rfl))) (hw _ (List.mem_of_getElem? (i := 2) rfl)) (ty := .long) (v := (.long (-1 : Int64))) (by decide) rfl rfl (g := (mkF m 68 #[.val (.ref a0), .val (.int p1), .val (.int p2)] [(.long (-1 : Int64)), (.ref a0)])) rfl rfl (hb hby d4_68)
      refine Go.step st68 ?_
      have N68 := Fr.snoc X68 N62 g_6
      have z69 : n0 ≤ h68.size := Nat.le_trans z63 (Keep.of_wr W68).1
      have sqz69 : h0.size ≤ h68.size := Nat.le_trans sqz63 (Keep.of_wr W68).1
      have k70 : Keep h0 h68 [a0, b1] := k64.wr W68 (Or.inl (List.mem_of_getElem? (i := 0) rfl))
      have f71 : Fld Z h68 a0 "com/example/steward/steward/timeordered/SequenceTable" "copied" "J" (.long (-1 : Int64)) := f67.same W68
      show Go _ _ _ _ _ _ _ (T68.setTop (mkF m 71 #[.val (.ref a0), .val (.int p1), .val (.int p2)] []))
      have f72 : Exa Z h68 a0 "com/example/steward/steward/timeordered/SequenceTable" := (f66.wr W68)
      have f73 : Fld Z h68 a0 "com/example/steward/steward/timeordered/SequenceTable" "hours" "[I" (.ref b_35) := ((f54.other W62 (Or.inl ne36)).other W68 (Or.inr (slot_ne (Or.inl (hw _ (List.mem_of_getElem? (i := 15) rfl))) (Or.inl (hw _ (List.mem_of_getElem? (i := 12) rfl))) (by decide) (t := (.array .int)) (t' := .long) (by decide) (by decide))))
      have f74 : Fld Z h68 a0 "com/example/steward/steward/timeordered/SequenceTable" "size" "I" (.int (if w1 < (p1 + (1 : Int32)) then (p1 + (1 : Int32)) else w1)) := ((f53.other W62 (Or.inl ne36)).other W68 (Or.inr (slot_ne (Or.inl (hw _ (List.mem_of_getElem? (i := 17) rfl))) (Or.inl (hw _ (List.mem_of_getElem? (i := 12) rfl))) (by decide) (t := .int) (t' := .long) (by decide) (by decide))))
      have f75 : Ai Z h68 b_35 .int nl f65c := (f62.other W68 (Ne.symm ne36))
      refine Go.retV X68 hx Bd.returns hlk (hb hby d4_71) ?_ (by decide) (by decide)
      rw [e68]
      exact ⟨b_35, nl, f65c, (if w1 < (p1 + (1 : Int32)) then (p1 + (1 : Int32)) else w1), (-1 : Int64), (rfl), N68, k70, f72, f73, f74, f71, f75, ne36, gn35_0, hnl.2.2.2, own_pf_gs hq0 hc6 hc54 hnl.1 hnl.2.1 (by assumption)⟩
theorem pn_8 : plainName "com/example/steward/steward/timeordered/SequenceTableHourPinLaw" = true := by first | (simp [plainName, overriddenIn]; done) | decide +kernel
theorem pd_2 : parseMethodDescriptor "(I)V" = some ⟨[.int], none⟩ := by decide +kernel
theorem pd_3 : parseMethodDescriptor "(I)I" = some ⟨[.int], some .int⟩ := by decide +kernel
theorem pd_4 : parseMethodDescriptor "(II)V" = some ⟨[.int, .int], none⟩ := by decide +kernel
theorem ef_0 (m : MethodId) (qn : Int32) (qs : Int32) (qh : Int32) (qt : Int32) (qg : Int32) (qq0 : Int32) : entryFrame m #[(.int qn), (.int qs), (.int qh), (.int qt), (.int qg), (.int qq0)] maxLocals = mkF m 0 #[.val (.int qn), .val (.int qs), .val (.int qh), .val (.int qt), .val (.int qg), .val (.int qq0), .unset, .unset, .unset, .unset, .unset, .unset, .unset, .unset] [] := by first | (simp [entryFrame, mkF, argsToLocals, Value.category, maxLocals]; done) | rfl
def Q0 (Z : State) (qn : Int32) (qs : Int32) (qh : Int32) (qt : Int32) (qg : Int32) (qq0 : Int32) (h0 : Heap) (n0 : Nat) (v : Option Value) (h : Heap) (L : List Loc) : Prop := (v = some (.int 1)) ∧ (Fr n0 L)
set_option maxRecDepth 65536 in
set_option maxHeartbeats 40000000 in
theorem rm0 (l : Launch) (Z : State) (aZ : Array Value) (hw : ∀ d ∈ tables_1, d.before aZ Z = true) (ws : List Jvm.Cond) (qn : Int32) (qs : Int32) (qh : Int32) (qt : Int32) (qg : Int32) (qq0 : Int32) (h0 : Heap) (n0 : Nat) (Z0 : n0 ≤ h0.size)  :
    MetFree l x (head1 (Jvm.Cond.code x code maxLocals ret :: ws) room_1) (fun a U => a = #[(.int qn), (.int qs), (.int qh), (.int qt), (.int qg), (.int qq0)] ∧ Z.Warmed39 U.vm ∧ U.heap = h0) (fun _ _ _ _ _ => True) (fun _ U o U' => ∃ v L, o = .returned v ∧ Q0 Z qn qs qh qt qg qq0 h0 n0 v U'.heap L ∧ FrameEnd U o U' L 4 70) := by
  refine MetFree.of_bodySF (plainFor_of_name pn_8) hisR ?_
  intro p e s m args below meth c s₁ Bd hml0 hP hK
  obtain ⟨rfl, hZ, hh⟩ := hP
  have hx := Bd.exec
  have hby := Bd.bytes
  have hml : c.maxLocals = 14 := hml0
  have hown : s.vm.findClass "com/example/steward/steward/timeordered/SequenceTableHourPinLaw" = some m.cls := findClass_of_methodNamed Bd.named
  have hnm := (name_of_methodNamed Bd.named Bd.method).1
  have hlk : meth.locks = false := BodyLoose.notSynchronized Bd
  have X0 : Stand p l e room_1 s m #[(.int qn), (.int qs), (.int qh), (.int qt), (.int qg), (.int qq0)] below meth c s₁ [] 0 0 := Stand.of_body Bd
  have e0 : s₁.heap = h0 := by rw [← hh, Bd.state]; rfl
  have N0 := Fr.nil n0
  have sq0 : h0.size ≤ h0.size := Nat.le_refl _
  change Go p e below s 4 70 (Q0 Z qn qs qh qt qg qq0 h0 n0) (s₁.setTop (entryFrame m #[(.int qn), (.int qs), (.int qh), (.int qt), (.int qg), (.int qq0)] maxLocals))
  rw [ef_0 m qn qs qh qt qg qq0]
  show Go _ _ _ _ _ _ _ (s₁.setTop (mkF m 0 #[.val (.int qn), .val (.int qs), .val (.int qh), .val (.int qt), .val (.int qg), .val (.int qq0), .unset, .unset, .unset, .unset, .unset, .unset, .unset, .unset] []))
  refine Go.step (fun _ k => XS.iloadN X0.here hx rfl (hb hby at_0) rfl  k) ?_
  show Go _ _ _ _ _ _ _ (s₁.setTop (mkF m 1 #[.val (.int qn), .val (.int qs), .val (.int qh), .val (.int qt), .val (.int qg), .val (.int qq0), .unset, .unset, .unset, .unset, .unset, .unset, .unset, .unset] [(.int qn)]))
  refine Go.step (fun _ k => XS.bipush X0.here hx rfl (hb hby at_1) k) ?_
  show Go _ _ _ _ _ _ _ (s₁.setTop (mkF m 3 #[.val (.int qn), .val (.int qs), .val (.int qh), .val (.int qt), .val (.int qg), .val (.int qq0), .unset, .unset, .unset, .unset, .unset, .unset, .unset, .unset] [(.int (7 : Int32)), (.int qn)]))
  refine Go.step (fun _ k => XS.iand X0.here hx rfl (hb hby at_3) rfl k) ?_
  show Go _ _ _ _ _ _ _ (s₁.setTop (mkF m 4 #[.val (.int qn), .val (.int qs), .val (.int qh), .val (.int qt), .val (.int qg), .val (.int qq0), .unset, .unset, .unset, .unset, .unset, .unset, .unset, .unset] [(.int (qn &&& (7 : Int32)))]))
  refine Go.step (fun _ k => XS.istore X0.here hx rfl (hb hby at_4) rfl (l' := #[.val (.int qn), .val (.int qs), .val (.int qh), .val (.int qt), .val (.int qg), .val (.int qq0), .val (.int (qn &&& (7 : Int32))), .unset, .unset, .unset, .unset, .unset, .unset, .unset]) rfl k) ?_
  have J19_1 : ∀ (nr : Int32) (TJ1 : State) (locs1 : List Loc) (X1 : Stand p l e room_1 s m #[(.int qn), (.int qs), (.int qh), (.int qt), (.int qg), (.int qq0)] below meth c TJ1 locs1 0 0) (e1 : TJ1.heap = h0) (N1 : Fr n0 locs1), Go p e below s 4 70 (Q0 Z qn qs qh qt qg qq0 h0 n0) (TJ1.setTop (mkF m 19 #[.val (.int qn), .val (.int qs), .val (.int qh), .val (.int qt), .val (.int qg), .val (.int qq0), .val (.int (qn &&& (7 : Int32))), .unset, .unset, .unset, .unset, .unset, .unset, .unset] [(.int nr)])) := by
    intro nr TJ1 locs1 X1 e1 N1
    show Go _ _ _ _ _ _ _ (TJ1.setTop (mkF m 19 #[.val (.int qn), .val (.int qs), .val (.int qh), .val (.int qt), .val (.int qg), .val (.int qq0), .val (.int (qn &&& (7 : Int32))), .unset, .unset, .unset, .unset, .unset, .unset, .unset] [(.int nr)]))
    refine Go.step (fun _ k => XS.istore X1.here hx rfl (hb hby at_19) rfl (l' := #[.val (.int qn), .val (.int qs), .val (.int qh), .val (.int qt), .val (.int qg), .val (.int qq0), .val (.int (qn &&& (7 : Int32))), .val (.int nr), .unset, .unset, .unset, .unset, .unset, .unset]) rfl k) ?_
    show Go _ _ _ _ _ _ _ (TJ1.setTop (mkF m 21 #[.val (.int qn), .val (.int qs), .val (.int qh), .val (.int qt), .val (.int qg), .val (.int qq0), .val (.int (qn &&& (7 : Int32))), .val (.int nr), .unset, .unset, .unset, .unset, .unset, .unset] []))
    refine Go.step (fun _ k => XS.iloadN X1.here hx rfl (hb hby at_21) rfl  k) ?_
    show Go _ _ _ _ _ _ _ (TJ1.setTop (mkF m 22 #[.val (.int qn), .val (.int qs), .val (.int qh), .val (.int qt), .val (.int qg), .val (.int qq0), .val (.int (qn &&& (7 : Int32))), .val (.int nr), .unset, .unset, .unset, .unset, .unset, .unset] [(.int qn)]))
    refine Go.step (fun _ k => XS.iconst X1.here hx rfl (hb hby at_22) k) ?_
    show Go _ _ _ _ _ _ _ (TJ1.setTop (mkF m 23 #[.val (.int qn), .val (.int qs), .val (.int qh), .val (.int qt), .val (.int qg), .val (.int qq0), .val (.int (qn &&& (7 : Int32))), .val (.int nr), .unset, .unset, .unset, .unset, .unset, .unset] [(.int (4 : Int32)), (.int qn)]))
    refine Go.step (fun _ k => XS.ishr X1.here hx rfl (hb hby at_23) rfl k) ?_
    show Go _ _ _ _ _ _ _ (TJ1.setTop (mkF m 24 #[.val (.int qn), .val (.int qs), .val (.int qh), .val (.int qt), .val (.int qg), .val (.int qq0), .val (.int (qn &&& (7 : Int32))), .val (.int nr), .unset, .unset, .unset, .unset, .unset, .unset] [(.int (qn >>> ((4 : Int32) &&& 31)))]))
    refine Go.step (fun _ k => XS.iconst X1.here hx rfl (hb hby at_24) k) ?_
    show Go _ _ _ _ _ _ _ (TJ1.setTop (mkF m 25 #[.val (.int qn), .val (.int qs), .val (.int qh), .val (.int qt), .val (.int qg), .val (.int qq0), .val (.int (qn &&& (7 : Int32))), .val (.int nr), .unset, .unset, .unset, .unset, .unset, .unset] [(.int (3 : Int32)), (.int (qn >>> ((4 : Int32) &&& 31)))]))
    refine Go.step (fun _ k => XS.iand X1.here hx rfl (hb hby at_25) rfl k) ?_
    show Go _ _ _ _ _ _ _ (TJ1.setTop (mkF m 26 #[.val (.int qn), .val (.int qs), .val (.int qh), .val (.int qt), .val (.int qg), .val (.int qq0), .val (.int (qn &&& (7 : Int32))), .val (.int nr), .unset, .unset, .unset, .unset, .unset, .unset] [(.int ((qn >>> ((4 : Int32) &&& 31)) &&& (3 : Int32)))]))
    refine Go.step (fun _ k => XS.istore X1.here hx rfl (hb hby at_26) rfl (l' := #[.val (.int qn), .val (.int qs), .val (.int qh), .val (.int qt), .val (.int qg), .val (.int qq0), .val (.int (qn &&& (7 : Int32))), .val (.int nr), .val (.int ((qn >>> ((4 : Int32) &&& 31)) &&& (3 : Int32))), .unset, .unset, .unset, .unset, .unset]) rfl k) ?_
    show Go _ _ _ _ _ _ _ (TJ1.setTop (mkF m 28 #[.val (.int qn), .val (.int qs), .val (.int qh), .val (.int qt), .val (.int qg), .val (.int qq0), .val (.int (qn &&& (7 : Int32))), .val (.int nr), .val (.int ((qn >>> ((4 : Int32) &&& 31)) &&& (3 : Int32))), .unset, .unset, .unset, .unset, .unset] []))
    refine Go.step (fun _ k => XS.iloadN X1.here hx rfl (hb hby at_28) rfl  k) ?_
    show Go _ _ _ _ _ _ _ (TJ1.setTop (mkF m 29 #[.val (.int qn), .val (.int qs), .val (.int qh), .val (.int qt), .val (.int qg), .val (.int qq0), .val (.int (qn &&& (7 : Int32))), .val (.int nr), .val (.int ((qn >>> ((4 : Int32) &&& 31)) &&& (3 : Int32))), .unset, .unset, .unset, .unset, .unset] [(.int qs)]))
    refine Go.step (fun _ k => XS.bipush X1.here hx rfl (hb hby at_29) k) ?_
    show Go _ _ _ _ _ _ _ (TJ1.setTop (mkF m 31 #[.val (.int qn), .val (.int qs), .val (.int qh), .val (.int qt), .val (.int qg), .val (.int qq0), .val (.int (qn &&& (7 : Int32))), .val (.int nr), .val (.int ((qn >>> ((4 : Int32) &&& 31)) &&& (3 : Int32))), .unset, .unset, .unset, .unset, .unset] [(.int (15 : Int32)), (.int qs)]))
    refine Go.step (fun _ k => XS.iand X1.here hx rfl (hb hby at_31) rfl k) ?_
    show Go _ _ _ _ _ _ _ (TJ1.setTop (mkF m 32 #[.val (.int qn), .val (.int qs), .val (.int qh), .val (.int qt), .val (.int qg), .val (.int qq0), .val (.int (qn &&& (7 : Int32))), .val (.int nr), .val (.int ((qn >>> ((4 : Int32) &&& 31)) &&& (3 : Int32))), .unset, .unset, .unset, .unset, .unset] [(.int (qs &&& (15 : Int32)))]))
    refine Go.step (fun _ k => XS.istore X1.here hx rfl (hb hby at_32) rfl (l' := #[.val (.int qn), .val (.int qs), .val (.int qh), .val (.int qt), .val (.int qg), .val (.int qq0), .val (.int (qn &&& (7 : Int32))), .val (.int nr), .val (.int ((qn >>> ((4 : Int32) &&& 31)) &&& (3 : Int32))), .val (.int (qs &&& (15 : Int32))), .unset, .unset, .unset, .unset]) rfl k) ?_
    show Go _ _ _ _ _ _ _ (TJ1.setTop (mkF m 34 #[.val (.int qn), .val (.int qs), .val (.int qh), .val (.int qt), .val (.int qg), .val (.int qq0), .val (.int (qn &&& (7 : Int32))), .val (.int nr), .val (.int ((qn >>> ((4 : Int32) &&& 31)) &&& (3 : Int32))), .val (.int (qs &&& (15 : Int32))), .unset, .unset, .unset, .unset] []))
    refine Go.step (fun _ k => XS.iloadN X1.here hx rfl (hb hby at_34) rfl  k) ?_
    show Go _ _ _ _ _ _ _ (TJ1.setTop (mkF m 35 #[.val (.int qn), .val (.int qs), .val (.int qh), .val (.int qt), .val (.int qg), .val (.int qq0), .val (.int (qn &&& (7 : Int32))), .val (.int nr), .val (.int ((qn >>> ((4 : Int32) &&& 31)) &&& (3 : Int32))), .val (.int (qs &&& (15 : Int32))), .unset, .unset, .unset, .unset] [(.int qt)]))
    refine Go.step (fun _ k => XS.bipush X1.here hx rfl (hb hby at_35) k) ?_
    show Go _ _ _ _ _ _ _ (TJ1.setTop (mkF m 37 #[.val (.int qn), .val (.int qs), .val (.int qh), .val (.int qt), .val (.int qg), .val (.int qq0), .val (.int (qn &&& (7 : Int32))), .val (.int nr), .val (.int ((qn >>> ((4 : Int32) &&& 31)) &&& (3 : Int32))), .val (.int (qs &&& (15 : Int32))), .unset, .unset, .unset, .unset] [(.int (15 : Int32)), (.int qt)]))
    refine Go.step (fun _ k => XS.iand X1.here hx rfl (hb hby at_37) rfl k) ?_
    show Go _ _ _ _ _ _ _ (TJ1.setTop (mkF m 38 #[.val (.int qn), .val (.int qs), .val (.int qh), .val (.int qt), .val (.int qg), .val (.int qq0), .val (.int (qn &&& (7 : Int32))), .val (.int nr), .val (.int ((qn >>> ((4 : Int32) &&& 31)) &&& (3 : Int32))), .val (.int (qs &&& (15 : Int32))), .unset, .unset, .unset, .unset] [(.int (qt &&& (15 : Int32)))]))
    refine Go.step (fun _ k => XS.istore X1.here hx rfl (hb hby at_38) rfl (l' := #[.val (.int qn), .val (.int qs), .val (.int qh), .val (.int qt), .val (.int qg), .val (.int qq0), .val (.int (qn &&& (7 : Int32))), .val (.int nr), .val (.int ((qn >>> ((4 : Int32) &&& 31)) &&& (3 : Int32))), .val (.int (qs &&& (15 : Int32))), .val (.int (qt &&& (15 : Int32))), .unset, .unset, .unset]) rfl k) ?_
    have J58_2 : ∀ (qq : Int32) (TJ2 : State) (locs2 : List Loc) (X2 : Stand p l e room_1 s m #[(.int qn), (.int qs), (.int qh), (.int qt), (.int qg), (.int qq0)] below meth c TJ2 locs2 0 0) (e2 : TJ2.heap = h0) (N2 : Fr n0 locs2) (hqq : ¬ qq < 0), Go p e below s 4 70 (Q0 Z qn qs qh qt qg qq0 h0 n0) (TJ2.setTop (mkF m 58 #[.val (.int qn), .val (.int qs), .val (.int qh), .val (.int qt), .val (.int qg), .val (.int qq0), .val (.int (qn &&& (7 : Int32))), .val (.int nr), .val (.int ((qn >>> ((4 : Int32) &&& 31)) &&& (3 : Int32))), .val (.int (qs &&& (15 : Int32))), .val (.int (qt &&& (15 : Int32))), .unset, .unset, .unset] [(.int qq)])) := by
      intro qq TJ2 locs2 X2 e2 N2 hqq
      show Go _ _ _ _ _ _ _ (TJ2.setTop (mkF m 58 #[.val (.int qn), .val (.int qs), .val (.int qh), .val (.int qt), .val (.int qg), .val (.int qq0), .val (.int (qn &&& (7 : Int32))), .val (.int nr), .val (.int ((qn >>> ((4 : Int32) &&& 31)) &&& (3 : Int32))), .val (.int (qs &&& (15 : Int32))), .val (.int (qt &&& (15 : Int32))), .unset, .unset, .unset] [(.int qq)]))
      refine Go.step (fun _ k => XS.istore X2.here hx rfl (hb hby at_58) rfl (l' := #[.val (.int qn), .val (.int qs), .val (.int qh), .val (.int qt), .val (.int qg), .val (.int qq0), .val (.int (qn &&& (7 : Int32))), .val (.int nr), .val (.int ((qn >>> ((4 : Int32) &&& 31)) &&& (3 : Int32))), .val (.int (qs &&& (15 : Int32))), .val (.int (qt &&& (15 : Int32))), .val (.int qq), .unset, .unset]) rfl k) ?_
      show Go _ _ _ _ _ _ _ (TJ2.setTop (mkF m 60 #[.val (.int qn), .val (.int qs), .val (.int qh), .val (.int qt), .val (.int qg), .val (.int qq0), .val (.int (qn &&& (7 : Int32))), .val (.int nr), .val (.int ((qn >>> ((4 : Int32) &&& 31)) &&& (3 : Int32))), .val (.int (qs &&& (15 : Int32))), .val (.int (qt &&& (15 : Int32))), .val (.int qq), .unset, .unset] []))
      obtain ⟨T3, h3, X3, e3, E3, A3, D3, -, st3⟩ := newO X2 hx hZ hown (hw _ (List.mem_of_getElem? (i := 1) rfl)) (hw _ (List.mem_of_getElem? (i := 2) rfl)) (hw _ (List.mem_of_getElem? (i := 3) rfl)) e2 (g := (mkF m 60 #[.val (.int qn), .val (.int qs), .val (.int qh), .val (.int qt), .val (.int qg), .val (.int qq0), .val (.int (qn &&& (7 : Int32))), .val (.int nr), .val (.int ((qn >>> ((4 : Int32) &&& 31)) &&& (3 : Int32))), .val (.int (qs &&& (15 : Int32))), .val (.int (qt &&& (15 : Int32))), .val (.int qq), .unset, .unset] [])) rfl (hb hby at_60) (by decide) (by decide)
      obtain ⟨b3, g3⟩ : ∃ z, z = h0.size := ⟨_, rfl⟩
      rw [← g3] at A3 D3 st3
      refine Go.step st3 ?_
      have gn3 : n0 ≤ b3 := Nat.le_trans Z0 (Nat.le_of_eq g3.symm)
      have sz3 : h0.size ≤ b3 := Nat.le_trans sq0 (Nat.le_of_eq g3.symm)
      have z4 : n0 ≤ h3.size := Nat.le_trans Z0 E3.1
      have sqz4 : h0.size ≤ h3.size := Nat.le_trans sq0 E3.1
      have f6 : Fld Z h3 b3 "com/example/steward/steward/timeordered/SequenceTable" "copied" "J" (.long (0 : Int64)) := D3 (Or.inl (hw _ (List.mem_of_getElem? (i := 12) rfl))) (ty := .long) (by decide)
      have f7 : Fld Z h3 b3 "com/example/steward/steward/timeordered/SequenceTable" "hours" "[I" .null := D3 (Or.inl (hw _ (List.mem_of_getElem? (i := 15) rfl))) (ty := (.array .int)) (by decide)
      have f8 : Fld Z h3 b3 "com/example/steward/steward/timeordered/SequenceTable" "size" "I" (.int (0 : Int32)) := D3 (Or.inl (hw _ (List.mem_of_getElem? (i := 17) rfl))) (ty := .int) (by decide)
      show Go _ _ _ _ _ _ _ (T3.setTop (mkF m 63 #[.val (.int qn), .val (.int qs), .val (.int qh), .val (.int qt), .val (.int qg), .val (.int qq0), .val (.int (qn &&& (7 : Int32))), .val (.int nr), .val (.int ((qn >>> ((4 : Int32) &&& 31)) &&& (3 : Int32))), .val (.int (qs &&& (15 : Int32))), .val (.int (qt &&& (15 : Int32))), .val (.int qq), .unset, .unset] [(.ref b3)]))
      refine Go.step (fun _ k => XS.dup X3.here hx rfl (hb hby at_63) rfl rfl k) ?_
      show Go _ _ _ _ _ _ _ (T3.setTop (mkF m 64 #[.val (.int qn), .val (.int qs), .val (.int qh), .val (.int qt), .val (.int qg), .val (.int qq0), .val (.int (qn &&& (7 : Int32))), .val (.int nr), .val (.int ((qn >>> ((4 : Int32) &&& 31)) &&& (3 : Int32))), .val (.int (qs &&& (15 : Int32))), .val (.int (qt &&& (15 : Int32))), .val (.int qq), .unset, .unset] [(.ref b3), (.ref b3)]))
      refine Go.step (fun _ k => XS.iload X3.here hx rfl (hb hby at_64) rfl  k) ?_
      show Go _ _ _ _ _ _ _ (T3.setTop (mkF m 66 #[.val (.int qn), .val (.int qs), .val (.int qh), .val (.int qt), .val (.int qg), .val (.int qq0), .val (.int (qn &&& (7 : Int32))), .val (.int nr), .val (.int ((qn >>> ((4 : Int32) &&& 31)) &&& (3 : Int32))), .val (.int (qs &&& (15 : Int32))), .val (.int (qt &&& (15 : Int32))), .val (.int qq), .unset, .unset] [(.int (qn &&& (7 : Int32))), (.ref b3), (.ref b3)]))
      have pq9 : ¬ (qn &&& (7 : Int32)) < 0 := (own_m7 _).1
      have pq10 : (qn &&& (7 : Int32)).toNatClampNeg ≤ 7 := (own_m7 _).2.1
      obtain ⟨_, _, ⟨T11, L11, k11, n11⟩, -, X11, ⟨Lc11, hQ11, l11, y11, z11⟩, st11⟩ := X3.specialBack hx (y := (⟨"com/example/steward/steward/timeordered/SequenceTable", "<init>", "(I)V"⟩ : MethodName)) rfl hown (mvT hZ (hw _ (List.mem_of_getElem? (i := 4) rfl))) (mvT hZ (hw _ (List.mem_of_getElem? (i := 5) rfl))) (mvT hZ (hw _ (List.mem_of_getElem? (i := 6) rfl))) (by decide) (backOf (W := 1) (rm1 l Z aZ hw [] b3 (qn &&& (7 : Int32)) h3 n0 z4 A3 f6 f7 f8 gn3 pq9 pq10) hZ (hw _ (List.mem_of_getElem? (i := 6) rfl)) (hw _ (List.mem_of_getElem? (i := 3) rfl)) (by decide) (by decide)) (g := (mkF m 66 #[.val (.int qn), .val (.int qs), .val (.int qh), .val (.int qt), .val (.int qg), .val (.int qq0), .val (.int (qn &&& (7 : Int32))), .val (.int nr), .val (.int ((qn >>> ((4 : Int32) &&& 31)) &&& (3 : Int32))), .val (.int (qs &&& (15 : Int32))), .val (.int (qt &&& (15 : Int32))), .val (.int qq), .unset, .unset] [(.int (qn &&& (7 : Int32))), (.ref b3), (.ref b3)])) rfl (by rw [hml]; rfl) (Steps.refl _) (a := b3) (argsL := [(.int (qn &&& (7 : Int32)))]) (rest := [(.ref b3)]) (lenOf pd_2 rfl) rfl (by show 2 * 0 + _ ≤ _; exact Nat.le_of_eq rfl) (hb hby at_66) (fun _ _ => ⟨rfl, e3, (by decide : 1 + 1 ≤ _), (by decide : 3 + 7 ≤ _)⟩)
      dsimp only [Pt.U, Pt.locs, Pt.cells, Pt.slots] at X11 l11 y11 z11 st11 hQ11
      subst l11 y11 z11
      obtain ⟨b1_11, rfl, Nq11, K11, c11_0, c11_1, c11_2, c11_3, c11_4, c11_5, c11_6⟩ := hQ11
      have N11 := Fr.app N2 Nq11
      refine Go.tr st11 ?_
      have ne12 : b3 ≠ b1_11 := Nat.ne_of_lt (Nat.lt_of_lt_of_le A3.lt c11_0)
      have gn11_0 : n0 ≤ b1_11 := Nat.le_trans z4 c11_0
      have sz11_0 : h0.size ≤ b1_11 := Nat.le_trans sqz4 c11_0
      have z13 : n0 ≤ T11.heap.size := Nat.le_trans z4 K11.1
      have sqz13 : h0.size ≤ T11.heap.size := Nat.le_trans sqz4 K11.1
      show Go _ _ _ _ _ _ _ (T11.setTop (mkF m 69 #[.val (.int qn), .val (.int qs), .val (.int qh), .val (.int qt), .val (.int qg), .val (.int qq0), .val (.int (qn &&& (7 : Int32))), .val (.int nr), .val (.int ((qn >>> ((4 : Int32) &&& 31)) &&& (3 : Int32))), .val (.int (qs &&& (15 : Int32))), .val (.int (qt &&& (15 : Int32))), .val (.int qq), .unset, .unset] [(.ref b3)]))
      refine Go.step (fun _ k => XS.astore X11.here hx rfl (hb hby at_69) rfl rfl (l' := #[.val (.int qn), .val (.int qs), .val (.int qh), .val (.int qt), .val (.int qg), .val (.int qq0), .val (.int (qn &&& (7 : Int32))), .val (.int nr), .val (.int ((qn >>> ((4 : Int32) &&& 31)) &&& (3 : Int32))), .val (.int (qs &&& (15 : Int32))), .val (.int (qt &&& (15 : Int32))), .val (.int qq), .val (.ref b3), .unset]) rfl k) ?_
      show Go _ _ _ _ _ _ _ (T11.setTop (mkF m 71 #[.val (.int qn), .val (.int qs), .val (.int qh), .val (.int qt), .val (.int qg), .val (.int qq0), .val (.int (qn &&& (7 : Int32))), .val (.int nr), .val (.int ((qn >>> ((4 : Int32) &&& 31)) &&& (3 : Int32))), .val (.int (qs &&& (15 : Int32))), .val (.int (qt &&& (15 : Int32))), .val (.int qq), .val (.ref b3), .unset] []))
      refine Go.step (fun _ k => XS.iload X11.here hx rfl (hb hby at_71) rfl  k) ?_
      show Go _ _ _ _ _ _ _ (T11.setTop (mkF m 73 #[.val (.int qn), .val (.int qs), .val (.int qh), .val (.int qt), .val (.int qg), .val (.int qq0), .val (.int (qn &&& (7 : Int32))), .val (.int nr), .val (.int ((qn >>> ((4 : Int32) &&& 31)) &&& (3 : Int32))), .val (.int (qs &&& (15 : Int32))), .val (.int (qt &&& (15 : Int32))), .val (.int qq), .val (.ref b3), .unset] [(.int ((qn >>> ((4 : Int32) &&& 31)) &&& (3 : Int32)))]))
      refine Go.step (fun _ k => XS.iconst X11.here hx rfl (hb hby at_73) k) ?_
      show Go _ _ _ _ _ _ _ (T11.setTop (mkF m 74 #[.val (.int qn), .val (.int qs), .val (.int qh), .val (.int qt), .val (.int qg), .val (.int qq0), .val (.int (qn &&& (7 : Int32))), .val (.int nr), .val (.int ((qn >>> ((4 : Int32) &&& 31)) &&& (3 : Int32))), .val (.int (qs &&& (15 : Int32))), .val (.int (qt &&& (15 : Int32))), .val (.int qq), .val (.ref b3), .unset] [(.int (1 : Int32)), (.int ((qn >>> ((4 : Int32) &&& 31)) &&& (3 : Int32)))]))
      by_cases hc74 : ((qn >>> ((4 : Int32) &&& 31)) &&& (3 : Int32)) < (1 : Int32)
      · skip
        refine Go.step (fun _ k => XS.icmpYes X11.here hx rfl (pc0 := 74) (pc' := 85) rfl (hb hby at_74) rfl (tlt hc74).1 (by decide) (by decide) k) ?_
        show Go _ _ _ _ _ _ _ (T11.setTop (mkF m 85 #[.val (.int qn), .val (.int qs), .val (.int qh), .val (.int qt), .val (.int qg), .val (.int qq0), .val (.int (qn &&& (7 : Int32))), .val (.int nr), .val (.int ((qn >>> ((4 : Int32) &&& 31)) &&& (3 : Int32))), .val (.int (qs &&& (15 : Int32))), .val (.int (qt &&& (15 : Int32))), .val (.int qq), .val (.ref b3), .unset] []))
        refine Go.step (fun _ k => XS.iload X11.here hx rfl (hb hby at_85) rfl  k) ?_
        show Go _ _ _ _ _ _ _ (T11.setTop (mkF m 87 #[.val (.int qn), .val (.int qs), .val (.int qh), .val (.int qt), .val (.int qg), .val (.int qq0), .val (.int (qn &&& (7 : Int32))), .val (.int nr), .val (.int ((qn >>> ((4 : Int32) &&& 31)) &&& (3 : Int32))), .val (.int (qs &&& (15 : Int32))), .val (.int (qt &&& (15 : Int32))), .val (.int qq), .val (.ref b3), .unset] [(.int ((qn >>> ((4 : Int32) &&& 31)) &&& (3 : Int32)))]))
        refine Go.step (fun _ k => XS.iconst X11.here hx rfl (hb hby at_87) k) ?_
        show Go _ _ _ _ _ _ _ (T11.setTop (mkF m 88 #[.val (.int qn), .val (.int qs), .val (.int qh), .val (.int qt), .val (.int qg), .val (.int qq0), .val (.int (qn &&& (7 : Int32))), .val (.int nr), .val (.int ((qn >>> ((4 : Int32) &&& 31)) &&& (3 : Int32))), .val (.int (qs &&& (15 : Int32))), .val (.int (qt &&& (15 : Int32))), .val (.int qq), .val (.ref b3), .unset] [(.int (2 : Int32)), (.int ((qn >>> ((4 : Int32) &&& 31)) &&& (3 : Int32)))]))
        by_cases hc88 : ((qn >>> ((4 : Int32) &&& 31)) &&& (3 : Int32)) < (2 : Int32)
        · skip
          refine Go.step (fun _ k => XS.icmpYes X11.here hx rfl (pc0 := 88) (pc' := 100) rfl (hb hby at_88) rfl (tlt hc88).1 (by decide) (by decide) k) ?_
          show Go _ _ _ _ _ _ _ (T11.setTop (mkF m 100 #[.val (.int qn), .val (.int qs), .val (.int qh), .val (.int qt), .val (.int qg), .val (.int qq0), .val (.int (qn &&& (7 : Int32))), .val (.int nr), .val (.int ((qn >>> ((4 : Int32) &&& 31)) &&& (3 : Int32))), .val (.int (qs &&& (15 : Int32))), .val (.int (qt &&& (15 : Int32))), .val (.int qq), .val (.ref b3), .unset] []))
          refine Go.step (fun _ k => XS.iconst X11.here hx rfl (hb hby at_100) k) ?_
          show Go _ _ _ _ _ _ _ (T11.setTop (mkF m 101 #[.val (.int qn), .val (.int qs), .val (.int qh), .val (.int qt), .val (.int qg), .val (.int qq0), .val (.int (qn &&& (7 : Int32))), .val (.int nr), .val (.int ((qn >>> ((4 : Int32) &&& 31)) &&& (3 : Int32))), .val (.int (qs &&& (15 : Int32))), .val (.int (qt &&& (15 : Int32))), .val (.int qq), .val (.ref b3), .unset] [(.int (0 : Int32))]))
          refine Go.step (fun _ k => XS.istore X11.here hx rfl (hb hby at_101) rfl (l' := #[.val (.int qn), .val (.int qs), .val (.int qh), .val (.int qt), .val (.int qg), .val (.int qq0), .val (.int (qn &&& (7 : Int32))), .val (.int nr), .val (.int ((qn >>> ((4 : Int32) &&& 31)) &&& (3 : Int32))), .val (.int (qs &&& (15 : Int32))), .val (.int (qt &&& (15 : Int32))), .val (.int qq), .val (.ref b3), .val (.int (0 : Int32))]) rfl k) ?_
          show Go _ _ _ _ _ _ _ (T11.setTop (mkF m 103 #[.val (.int qn), .val (.int qs), .val (.int qh), .val (.int qt), .val (.int qg), .val (.int qq0), .val (.int (qn &&& (7 : Int32))), .val (.int nr), .val (.int ((qn >>> ((4 : Int32) &&& 31)) &&& (3 : Int32))), .val (.int (qs &&& (15 : Int32))), .val (.int (qt &&& (15 : Int32))), .val (.int qq), .val (.ref b3), .val (.int (0 : Int32))] []))
          refine Go.step (fun _ k => XS.iload X11.here hx rfl (hb hby at_103) rfl  k) ?_
          show Go _ _ _ _ _ _ _ (T11.setTop (mkF m 105 #[.val (.int qn), .val (.int qs), .val (.int qh), .val (.int qt), .val (.int qg), .val (.int qq0), .val (.int (qn &&& (7 : Int32))), .val (.int nr), .val (.int ((qn >>> ((4 : Int32) &&& 31)) &&& (3 : Int32))), .val (.int (qs &&& (15 : Int32))), .val (.int (qt &&& (15 : Int32))), .val (.int qq), .val (.ref b3), .val (.int (0 : Int32))] [(.int ((qn >>> ((4 : Int32) &&& 31)) &&& (3 : Int32)))]))
          refine Go.step (fun _ k => XS.iconst X11.here hx rfl (hb hby at_105) k) ?_
          show Go _ _ _ _ _ _ _ (T11.setTop (mkF m 106 #[.val (.int qn), .val (.int qs), .val (.int qh), .val (.int qt), .val (.int qg), .val (.int qq0), .val (.int (qn &&& (7 : Int32))), .val (.int nr), .val (.int ((qn >>> ((4 : Int32) &&& 31)) &&& (3 : Int32))), .val (.int (qs &&& (15 : Int32))), .val (.int (qt &&& (15 : Int32))), .val (.int qq), .val (.ref b3), .val (.int (0 : Int32))] [(.int (1 : Int32)), (.int ((qn >>> ((4 : Int32) &&& 31)) &&& (3 : Int32)))]))
          have hc106 : ((qn >>> ((4 : Int32) &&& 31)) &&& (3 : Int32)) < (1 : Int32) := hc74
          refine Go.step (fun _ k => XS.icmpYes X11.here hx rfl (pc0 := 106) (pc' := 119) rfl (hb hby at_106) rfl (tlt hc106).1 (by decide) (by decide) k) ?_
          show Go _ _ _ _ _ _ _ (T11.setTop (mkF m 119 #[.val (.int qn), .val (.int qs), .val (.int qh), .val (.int qt), .val (.int qg), .val (.int qq0), .val (.int (qn &&& (7 : Int32))), .val (.int nr), .val (.int ((qn >>> ((4 : Int32) &&& 31)) &&& (3 : Int32))), .val (.int (qs &&& (15 : Int32))), .val (.int (qt &&& (15 : Int32))), .val (.int qq), .val (.ref b3), .val (.int (0 : Int32))] []))
          refine Go.step (fun _ k => XS.iload X11.here hx rfl (hb hby at_119) rfl  k) ?_
          show Go _ _ _ _ _ _ _ (T11.setTop (mkF m 121 #[.val (.int qn), .val (.int qs), .val (.int qh), .val (.int qt), .val (.int qg), .val (.int qq0), .val (.int (qn &&& (7 : Int32))), .val (.int nr), .val (.int ((qn >>> ((4 : Int32) &&& 31)) &&& (3 : Int32))), .val (.int (qs &&& (15 : Int32))), .val (.int (qt &&& (15 : Int32))), .val (.int qq), .val (.ref b3), .val (.int (0 : Int32))] [(.int ((qn >>> ((4 : Int32) &&& 31)) &&& (3 : Int32)))]))
          refine Go.step (fun _ k => XS.iconst X11.here hx rfl (hb hby at_121) k) ?_
          show Go _ _ _ _ _ _ _ (T11.setTop (mkF m 122 #[.val (.int qn), .val (.int qs), .val (.int qh), .val (.int qt), .val (.int qg), .val (.int qq0), .val (.int (qn &&& (7 : Int32))), .val (.int nr), .val (.int ((qn >>> ((4 : Int32) &&& 31)) &&& (3 : Int32))), .val (.int (qs &&& (15 : Int32))), .val (.int (qt &&& (15 : Int32))), .val (.int qq), .val (.ref b3), .val (.int (0 : Int32))] [(.int (2 : Int32)), (.int ((qn >>> ((4 : Int32) &&& 31)) &&& (3 : Int32)))]))
          have hc122 : ((qn >>> ((4 : Int32) &&& 31)) &&& (3 : Int32)) < (2 : Int32) := hc88
          refine Go.step (fun _ k => XS.icmpYes X11.here hx rfl (pc0 := 122) (pc' := 136) rfl (hb hby at_122) rfl (tlt hc122).1 (by decide) (by decide) k) ?_
          show Go _ _ _ _ _ _ _ (T11.setTop (mkF m 136 #[.val (.int qn), .val (.int qs), .val (.int qh), .val (.int qt), .val (.int qg), .val (.int qq0), .val (.int (qn &&& (7 : Int32))), .val (.int nr), .val (.int ((qn >>> ((4 : Int32) &&& 31)) &&& (3 : Int32))), .val (.int (qs &&& (15 : Int32))), .val (.int (qt &&& (15 : Int32))), .val (.int qq), .val (.ref b3), .val (.int (0 : Int32))] []))
          refine Go.step (fun _ k => XS.aload X11.here hx rfl (hb hby at_136) rfl rfl  k) ?_
          show Go _ _ _ _ _ _ _ (T11.setTop (mkF m 138 #[.val (.int qn), .val (.int qs), .val (.int qh), .val (.int qt), .val (.int qg), .val (.int qq0), .val (.int (qn &&& (7 : Int32))), .val (.int nr), .val (.int ((qn >>> ((4 : Int32) &&& 31)) &&& (3 : Int32))), .val (.int (qs &&& (15 : Int32))), .val (.int (qt &&& (15 : Int32))), .val (.int qq), .val (.ref b3), .val (.int (0 : Int32))] [(.ref b3)]))
          refine Go.step (fun _ k => XS.iload X11.here hx rfl (hb hby at_138) rfl  k) ?_
          show Go _ _ _ _ _ _ _ (T11.setTop (mkF m 140 #[.val (.int qn), .val (.int qs), .val (.int qh), .val (.int qt), .val (.int qg), .val (.int qq0), .val (.int (qn &&& (7 : Int32))), .val (.int nr), .val (.int ((qn >>> ((4 : Int32) &&& 31)) &&& (3 : Int32))), .val (.int (qs &&& (15 : Int32))), .val (.int (qt &&& (15 : Int32))), .val (.int qq), .val (.ref b3), .val (.int (0 : Int32))] [(.int qq), (.ref b3)]))
          have pq15 : ¬ qq < 0 := hqq
          obtain ⟨cq16, kq16, q16a, q16b, q16c⟩ := isOf hZ rfl c11_1
          obtain ⟨_, _, ⟨T16, L16, k16, n16⟩, -, X16, ⟨Lc16, hQ16, l16, y16, z16⟩, st16⟩ := X11.virtualBack hx (y := (⟨"com/example/steward/steward/timeordered/SequenceTable", "hour", "(I)I"⟩ : MethodName)) (z := (⟨"com/example/steward/steward/timeordered/SequenceTable", "hour", "(I)I"⟩ : MethodName)) hown (mvT hZ (hw _ (List.mem_of_getElem? (i := 18) rfl))) (mvT hZ (hw _ (List.mem_of_getElem? (i := 19) rfl))) (notFace_of_selects (args := #[]) (mvT hZ (hw _ (List.mem_of_getElem? (i := 21) rfl)))) (mvT hZ (hw _ (List.mem_of_getElem? (i := 21) rfl))) (mvT hZ (hw _ (List.mem_of_getElem? (i := 20) rfl))) (by decide) (backOf (W := 0) (rm3 l Z aZ hw [] b3 qq b1_11 (qn &&& (7 : Int32)) (fun _ => 0) T11.heap n0 z13 c11_2 c11_5 pq15) hZ (hw _ (List.mem_of_getElem? (i := 22) rfl)) (hw _ (List.mem_of_getElem? (i := 3) rfl)) (by decide) (by decide)) q16a q16c (g := (mkF m 140 #[.val (.int qn), .val (.int qs), .val (.int qh), .val (.int qt), .val (.int qg), .val (.int qq0), .val (.int (qn &&& (7 : Int32))), .val (.int nr), .val (.int ((qn >>> ((4 : Int32) &&& 31)) &&& (3 : Int32))), .val (.int (qs &&& (15 : Int32))), .val (.int (qt &&& (15 : Int32))), .val (.int qq), .val (.ref b3), .val (.int (0 : Int32))] [(.int qq), (.ref b3)])) rfl (by rw [hml]; rfl) (Steps.refl _) (argsL := [(.int qq)]) (rest := []) (lenOf pd_3 rfl) rfl (by show 2 * 0 + _ ≤ _; exact Nat.le_of_eq rfl) (hb hby at_140) (fun _ _ => ⟨rfl, rfl, (by decide : 2 + 0 ≤ _), (by decide : 10 + 0 ≤ _)⟩)
          dsimp only [Pt.U, Pt.locs, Pt.cells, Pt.slots] at X16 l16 y16 z16 st16 hQ16
          subst l16 y16 z16
          obtain ⟨rfl, Nq16, e16⟩ := hQ16
          have N16 := Fr.app N11 Nq16
          refine Go.tr st16 ?_
          show Go _ _ _ _ _ _ _ (T16.setTop (mkF m 143 #[.val (.int qn), .val (.int qs), .val (.int qh), .val (.int qt), .val (.int qg), .val (.int qq0), .val (.int (qn &&& (7 : Int32))), .val (.int nr), .val (.int ((qn >>> ((4 : Int32) &&& 31)) &&& (3 : Int32))), .val (.int (qs &&& (15 : Int32))), .val (.int (qt &&& (15 : Int32))), .val (.int qq), .val (.ref b3), .val (.int (0 : Int32))] [(.int (if qq < (qn &&& (7 : Int32)) then ((fun _ => 0) qq) else (0 : Int32)))]))
          refine Go.step (fun _ k => XS.iload X16.here hx rfl (hb hby at_143) rfl  k) ?_
          show Go _ _ _ _ _ _ _ (T16.setTop (mkF m 145 #[.val (.int qn), .val (.int qs), .val (.int qh), .val (.int qt), .val (.int qg), .val (.int qq0), .val (.int (qn &&& (7 : Int32))), .val (.int nr), .val (.int ((qn >>> ((4 : Int32) &&& 31)) &&& (3 : Int32))), .val (.int (qs &&& (15 : Int32))), .val (.int (qt &&& (15 : Int32))), .val (.int qq), .val (.ref b3), .val (.int (0 : Int32))] [(.int (0 : Int32)), (.int (if qq < (qn &&& (7 : Int32)) then ((fun _ => 0) qq) else (0 : Int32)))]))
          have hc145 : (if qq < (qn &&& (7 : Int32)) then ((fun _ => 0) qq) else (0 : Int32)) = (0 : Int32) := by
            exact ite_self _
          refine Go.step (fun _ k => XS.icmpNo X16.here hx rfl (hb hby at_145) rfl (teq hc145).2 k) ?_
          show Go _ _ _ _ _ _ _ (T16.setTop (mkF m 148 #[.val (.int qn), .val (.int qs), .val (.int qh), .val (.int qt), .val (.int qg), .val (.int qq0), .val (.int (qn &&& (7 : Int32))), .val (.int nr), .val (.int ((qn >>> ((4 : Int32) &&& 31)) &&& (3 : Int32))), .val (.int (qs &&& (15 : Int32))), .val (.int (qt &&& (15 : Int32))), .val (.int qq), .val (.ref b3), .val (.int (0 : Int32))] []))
          refine Go.step (fun _ k => XS.iconst X16.here hx rfl (hb hby at_148) k) ?_
          show Go _ _ _ _ _ _ _ (T16.setTop (mkF m 149 #[.val (.int qn), .val (.int qs), .val (.int qh), .val (.int qt), .val (.int qg), .val (.int qq0), .val (.int (qn &&& (7 : Int32))), .val (.int nr), .val (.int ((qn >>> ((4 : Int32) &&& 31)) &&& (3 : Int32))), .val (.int (qs &&& (15 : Int32))), .val (.int (qt &&& (15 : Int32))), .val (.int qq), .val (.ref b3), .val (.int (0 : Int32))] [(.int (1 : Int32))]))
          refine Go.step (fun _ k => XS.goto X16.here hx rfl (pc0 := 149) (pc' := 153) rfl (hb hby at_149) (by decide) (by decide) k) ?_
          show Go _ _ _ _ _ _ _ (T16.setTop (mkF m 153 #[.val (.int qn), .val (.int qs), .val (.int qh), .val (.int qt), .val (.int qg), .val (.int qq0), .val (.int (qn &&& (7 : Int32))), .val (.int nr), .val (.int ((qn >>> ((4 : Int32) &&& 31)) &&& (3 : Int32))), .val (.int (qs &&& (15 : Int32))), .val (.int (qt &&& (15 : Int32))), .val (.int qq), .val (.ref b3), .val (.int (0 : Int32))] [(.int (1 : Int32))]))
          refine Go.retN X16 hx (t := .boolean) Bd.returns (by simp) hlk (hb hby at_153) ?_ (by decide) (by decide)
          rw [e16]
          exact ⟨(by first | rfl | (simp_all [own_nb1, own_nb0]; done)), N16⟩
        · skip
          refine Go.step (fun _ k => XS.icmpNo X11.here hx rfl (hb hby at_88) rfl (flt hc88).1 k) ?_
          show Go _ _ _ _ _ _ _ (T11.setTop (mkF m 91 #[.val (.int qn), .val (.int qs), .val (.int qh), .val (.int qt), .val (.int qg), .val (.int qq0), .val (.int (qn &&& (7 : Int32))), .val (.int nr), .val (.int ((qn >>> ((4 : Int32) &&& 31)) &&& (3 : Int32))), .val (.int (qs &&& (15 : Int32))), .val (.int (qt &&& (15 : Int32))), .val (.int qq), .val (.ref b3), .unset] []))
          refine Go.step (fun _ k => XS.aload X11.here hx rfl (hb hby at_91) rfl rfl  k) ?_
          show Go _ _ _ _ _ _ _ (T11.setTop (mkF m 93 #[.val (.int qn), .val (.int qs), .val (.int qh), .val (.int qt), .val (.int qg), .val (.int qq0), .val (.int (qn &&& (7 : Int32))), .val (.int nr), .val (.int ((qn >>> ((4 : Int32) &&& 31)) &&& (3 : Int32))), .val (.int (qs &&& (15 : Int32))), .val (.int (qt &&& (15 : Int32))), .val (.int qq), .val (.ref b3), .unset] [(.ref b3)]))
          refine Go.step (fun _ k => XS.iload X11.here hx rfl (hb hby at_93) rfl  k) ?_
          show Go _ _ _ _ _ _ _ (T11.setTop (mkF m 95 #[.val (.int qn), .val (.int qs), .val (.int qh), .val (.int qt), .val (.int qg), .val (.int qq0), .val (.int (qn &&& (7 : Int32))), .val (.int nr), .val (.int ((qn >>> ((4 : Int32) &&& 31)) &&& (3 : Int32))), .val (.int (qs &&& (15 : Int32))), .val (.int (qt &&& (15 : Int32))), .val (.int qq), .val (.ref b3), .unset] [(.int (qt &&& (15 : Int32))), (.ref b3)]))
          refine Go.step (fun _ k => XS.iload X11.here hx rfl (hb hby at_95) rfl  k) ?_
          show Go _ _ _ _ _ _ _ (T11.setTop (mkF m 97 #[.val (.int qn), .val (.int qs), .val (.int qh), .val (.int qt), .val (.int qg), .val (.int qq0), .val (.int (qn &&& (7 : Int32))), .val (.int nr), .val (.int ((qn >>> ((4 : Int32) &&& 31)) &&& (3 : Int32))), .val (.int (qs &&& (15 : Int32))), .val (.int (qt &&& (15 : Int32))), .val (.int qq), .val (.ref b3), .unset] [(.int qg), (.int (qt &&& (15 : Int32))), (.ref b3)]))
          have pq17 : ¬ (qt &&& (15 : Int32)) < 0 := (own_m15 _).1
          have pq18 : ¬ (15 : Int32) < (qt &&& (15 : Int32)) := (own_m15 _).2
          have pq19 : ¬ (30 : Int32) < (qn &&& (7 : Int32)) := (own_m7 _).2.2
          obtain ⟨cq20, kq20, q20a, q20b, q20c⟩ := isOf hZ rfl c11_1
          obtain ⟨_, _, ⟨T20, L20, k20, n20⟩, -, X20, ⟨Lc20, hQ20, l20, y20, z20⟩, st20⟩ := X11.virtualBack hx (y := (⟨"com/example/steward/steward/timeordered/SequenceTable", "set", "(II)V"⟩ : MethodName)) (z := (⟨"com/example/steward/steward/timeordered/SequenceTable", "set", "(II)V"⟩ : MethodName)) hown (mvT hZ (hw _ (List.mem_of_getElem? (i := 23) rfl))) (mvT hZ (hw _ (List.mem_of_getElem? (i := 24) rfl))) (notFace_of_selects (args := #[]) (mvT hZ (hw _ (List.mem_of_getElem? (i := 26) rfl)))) (mvT hZ (hw _ (List.mem_of_getElem? (i := 26) rfl))) (mvT hZ (hw _ (List.mem_of_getElem? (i := 25) rfl))) (by decide) (backOf (W := 0) (rm4 l Z aZ hw [] b3 (qt &&& (15 : Int32)) qg b1_11 (qn &&& (7 : Int32)) (fun _ => 0) (qn &&& (7 : Int32)) (-1 : Int64) T11.heap n0 z13 c11_1 c11_2 c11_3 c11_4 c11_5 c11_6 gn3 gn11_0 pq17 pq18 pq19) hZ (hw _ (List.mem_of_getElem? (i := 27) rfl)) (hw _ (List.mem_of_getElem? (i := 3) rfl)) (by decide) (by decide)) q20a q20c (g := (mkF m 97 #[.val (.int qn), .val (.int qs), .val (.int qh), .val (.int qt), .val (.int qg), .val (.int qq0), .val (.int (qn &&& (7 : Int32))), .val (.int nr), .val (.int ((qn >>> ((4 : Int32) &&& 31)) &&& (3 : Int32))), .val (.int (qs &&& (15 : Int32))), .val (.int (qt &&& (15 : Int32))), .val (.int qq), .val (.ref b3), .unset] [(.int qg), (.int (qt &&& (15 : Int32))), (.ref b3)])) rfl (by rw [hml]; rfl) (Steps.refl _) (argsL := [(.int (qt &&& (15 : Int32))), (.int qg)]) (rest := []) (lenOf pd_4 rfl) rfl (by show 2 * 0 + _ ≤ _; exact Nat.le_of_eq rfl) (hb hby at_97) (fun _ _ => ⟨rfl, rfl, (by decide : 2 + 1 ≤ _), (by decide : 10 + 30 ≤ _)⟩)
          dsimp only [Pt.U, Pt.locs, Pt.cells, Pt.slots] at X20 l20 y20 z20 st20 hQ20
          subst l20 y20 z20
          obtain ⟨b2_20, z2_20, f2_20, w2_20, wc2_20, rfl, Nq20, K20, c20_0, c20_1, c20_2, c20_3, c20_4, c20_5, c20_6, u20_0, u20_1⟩ := hQ20
          have N20 := Fr.app N11 Nq20
          refine Go.tr st20 ?_
          have z21 : n0 ≤ T20.heap.size := Nat.le_trans z13 K20.1
          have sqz21 : h0.size ≤ T20.heap.size := Nat.le_trans sqz13 K20.1
          show Go _ _ _ _ _ _ _ (T20.setTop (mkF m 100 #[.val (.int qn), .val (.int qs), .val (.int qh), .val (.int qt), .val (.int qg), .val (.int qq0), .val (.int (qn &&& (7 : Int32))), .val (.int nr), .val (.int ((qn >>> ((4 : Int32) &&& 31)) &&& (3 : Int32))), .val (.int (qs &&& (15 : Int32))), .val (.int (qt &&& (15 : Int32))), .val (.int qq), .val (.ref b3), .unset] []))
          refine Go.step (fun _ k => XS.iconst X20.here hx rfl (hb hby at_100) k) ?_
          show Go _ _ _ _ _ _ _ (T20.setTop (mkF m 101 #[.val (.int qn), .val (.int qs), .val (.int qh), .val (.int qt), .val (.int qg), .val (.int qq0), .val (.int (qn &&& (7 : Int32))), .val (.int nr), .val (.int ((qn >>> ((4 : Int32) &&& 31)) &&& (3 : Int32))), .val (.int (qs &&& (15 : Int32))), .val (.int (qt &&& (15 : Int32))), .val (.int qq), .val (.ref b3), .unset] [(.int (0 : Int32))]))
          refine Go.step (fun _ k => XS.istore X20.here hx rfl (hb hby at_101) rfl (l' := #[.val (.int qn), .val (.int qs), .val (.int qh), .val (.int qt), .val (.int qg), .val (.int qq0), .val (.int (qn &&& (7 : Int32))), .val (.int nr), .val (.int ((qn >>> ((4 : Int32) &&& 31)) &&& (3 : Int32))), .val (.int (qs &&& (15 : Int32))), .val (.int (qt &&& (15 : Int32))), .val (.int qq), .val (.ref b3), .val (.int (0 : Int32))]) rfl k) ?_
          show Go _ _ _ _ _ _ _ (T20.setTop (mkF m 103 #[.val (.int qn), .val (.int qs), .val (.int qh), .val (.int qt), .val (.int qg), .val (.int qq0), .val (.int (qn &&& (7 : Int32))), .val (.int nr), .val (.int ((qn >>> ((4 : Int32) &&& 31)) &&& (3 : Int32))), .val (.int (qs &&& (15 : Int32))), .val (.int (qt &&& (15 : Int32))), .val (.int qq), .val (.ref b3), .val (.int (0 : Int32))] []))
          refine Go.step (fun _ k => XS.iload X20.here hx rfl (hb hby at_103) rfl  k) ?_
          show Go _ _ _ _ _ _ _ (T20.setTop (mkF m 105 #[.val (.int qn), .val (.int qs), .val (.int qh), .val (.int qt), .val (.int qg), .val (.int qq0), .val (.int (qn &&& (7 : Int32))), .val (.int nr), .val (.int ((qn >>> ((4 : Int32) &&& 31)) &&& (3 : Int32))), .val (.int (qs &&& (15 : Int32))), .val (.int (qt &&& (15 : Int32))), .val (.int qq), .val (.ref b3), .val (.int (0 : Int32))] [(.int ((qn >>> ((4 : Int32) &&& 31)) &&& (3 : Int32)))]))
          refine Go.step (fun _ k => XS.iconst X20.here hx rfl (hb hby at_105) k) ?_
          show Go _ _ _ _ _ _ _ (T20.setTop (mkF m 106 #[.val (.int qn), .val (.int qs), .val (.int qh), .val (.int qt), .val (.int qg), .val (.int qq0), .val (.int (qn &&& (7 : Int32))), .val (.int nr), .val (.int ((qn >>> ((4 : Int32) &&& 31)) &&& (3 : Int32))), .val (.int (qs &&& (15 : Int32))), .val (.int (qt &&& (15 : Int32))), .val (.int qq), .val (.ref b3), .val (.int (0 : Int32))] [(.int (1 : Int32)), (.int ((qn >>> ((4 : Int32) &&& 31)) &&& (3 : Int32)))]))
          have hc106 : ((qn >>> ((4 : Int32) &&& 31)) &&& (3 : Int32)) < (1 : Int32) := hc74
          refine Go.step (fun _ k => XS.icmpYes X20.here hx rfl (pc0 := 106) (pc' := 119) rfl (hb hby at_106) rfl (tlt hc106).1 (by decide) (by decide) k) ?_
          show Go _ _ _ _ _ _ _ (T20.setTop (mkF m 119 #[.val (.int qn), .val (.int qs), .val (.int qh), .val (.int qt), .val (.int qg), .val (.int qq0), .val (.int (qn &&& (7 : Int32))), .val (.int nr), .val (.int ((qn >>> ((4 : Int32) &&& 31)) &&& (3 : Int32))), .val (.int (qs &&& (15 : Int32))), .val (.int (qt &&& (15 : Int32))), .val (.int qq), .val (.ref b3), .val (.int (0 : Int32))] []))
          refine Go.step (fun _ k => XS.iload X20.here hx rfl (hb hby at_119) rfl  k) ?_
          show Go _ _ _ _ _ _ _ (T20.setTop (mkF m 121 #[.val (.int qn), .val (.int qs), .val (.int qh), .val (.int qt), .val (.int qg), .val (.int qq0), .val (.int (qn &&& (7 : Int32))), .val (.int nr), .val (.int ((qn >>> ((4 : Int32) &&& 31)) &&& (3 : Int32))), .val (.int (qs &&& (15 : Int32))), .val (.int (qt &&& (15 : Int32))), .val (.int qq), .val (.ref b3), .val (.int (0 : Int32))] [(.int ((qn >>> ((4 : Int32) &&& 31)) &&& (3 : Int32)))]))
          refine Go.step (fun _ k => XS.iconst X20.here hx rfl (hb hby at_121) k) ?_
          show Go _ _ _ _ _ _ _ (T20.setTop (mkF m 122 #[.val (.int qn), .val (.int qs), .val (.int qh), .val (.int qt), .val (.int qg), .val (.int qq0), .val (.int (qn &&& (7 : Int32))), .val (.int nr), .val (.int ((qn >>> ((4 : Int32) &&& 31)) &&& (3 : Int32))), .val (.int (qs &&& (15 : Int32))), .val (.int (qt &&& (15 : Int32))), .val (.int qq), .val (.ref b3), .val (.int (0 : Int32))] [(.int (2 : Int32)), (.int ((qn >>> ((4 : Int32) &&& 31)) &&& (3 : Int32)))]))
          have hc122 : ¬ (((qn >>> ((4 : Int32) &&& 31)) &&& (3 : Int32)) < (2 : Int32)) := hc88
          refine Go.step (fun _ k => XS.icmpNo X20.here hx rfl (hb hby at_122) rfl (flt hc122).1 k) ?_
          show Go _ _ _ _ _ _ _ (T20.setTop (mkF m 125 #[.val (.int qn), .val (.int qs), .val (.int qh), .val (.int qt), .val (.int qg), .val (.int qq0), .val (.int (qn &&& (7 : Int32))), .val (.int nr), .val (.int ((qn >>> ((4 : Int32) &&& 31)) &&& (3 : Int32))), .val (.int (qs &&& (15 : Int32))), .val (.int (qt &&& (15 : Int32))), .val (.int qq), .val (.ref b3), .val (.int (0 : Int32))] []))
          refine Go.step (fun _ k => XS.iload X20.here hx rfl (hb hby at_125) rfl  k) ?_
          show Go _ _ _ _ _ _ _ (T20.setTop (mkF m 127 #[.val (.int qn), .val (.int qs), .val (.int qh), .val (.int qt), .val (.int qg), .val (.int qq0), .val (.int (qn &&& (7 : Int32))), .val (.int nr), .val (.int ((qn >>> ((4 : Int32) &&& 31)) &&& (3 : Int32))), .val (.int (qs &&& (15 : Int32))), .val (.int (qt &&& (15 : Int32))), .val (.int qq), .val (.ref b3), .val (.int (0 : Int32))] [(.int qq)]))
          refine Go.step (fun _ k => XS.iload X20.here hx rfl (hb hby at_127) rfl  k) ?_
          show Go _ _ _ _ _ _ _ (T20.setTop (mkF m 129 #[.val (.int qn), .val (.int qs), .val (.int qh), .val (.int qt), .val (.int qg), .val (.int qq0), .val (.int (qn &&& (7 : Int32))), .val (.int nr), .val (.int ((qn >>> ((4 : Int32) &&& 31)) &&& (3 : Int32))), .val (.int (qs &&& (15 : Int32))), .val (.int (qt &&& (15 : Int32))), .val (.int qq), .val (.ref b3), .val (.int (0 : Int32))] [(.int (qt &&& (15 : Int32))), (.int qq)]))
          by_cases hc129 : qq = (qt &&& (15 : Int32))
          · skip
            refine Go.step (fun _ k => XS.icmpNo X20.here hx rfl (hb hby at_129) rfl (teq hc129).2 k) ?_
            show Go _ _ _ _ _ _ _ (T20.setTop (mkF m 132 #[.val (.int qn), .val (.int qs), .val (.int qh), .val (.int qt), .val (.int qg), .val (.int qq0), .val (.int (qn &&& (7 : Int32))), .val (.int nr), .val (.int ((qn >>> ((4 : Int32) &&& 31)) &&& (3 : Int32))), .val (.int (qs &&& (15 : Int32))), .val (.int (qt &&& (15 : Int32))), .val (.int qq), .val (.ref b3), .val (.int (0 : Int32))] []))
            refine Go.step (fun _ k => XS.iload X20.here hx rfl (hb hby at_132) rfl  k) ?_
            show Go _ _ _ _ _ _ _ (T20.setTop (mkF m 134 #[.val (.int qn), .val (.int qs), .val (.int qh), .val (.int qt), .val (.int qg), .val (.int qq0), .val (.int (qn &&& (7 : Int32))), .val (.int nr), .val (.int ((qn >>> ((4 : Int32) &&& 31)) &&& (3 : Int32))), .val (.int (qs &&& (15 : Int32))), .val (.int (qt &&& (15 : Int32))), .val (.int qq), .val (.ref b3), .val (.int (0 : Int32))] [(.int qg)]))
            refine Go.step (fun _ k => XS.istore X20.here hx rfl (hb hby at_134) rfl (l' := #[.val (.int qn), .val (.int qs), .val (.int qh), .val (.int qt), .val (.int qg), .val (.int qq0), .val (.int (qn &&& (7 : Int32))), .val (.int nr), .val (.int ((qn >>> ((4 : Int32) &&& 31)) &&& (3 : Int32))), .val (.int (qs &&& (15 : Int32))), .val (.int (qt &&& (15 : Int32))), .val (.int qq), .val (.ref b3), .val (.int qg)]) rfl k) ?_
            show Go _ _ _ _ _ _ _ (T20.setTop (mkF m 136 #[.val (.int qn), .val (.int qs), .val (.int qh), .val (.int qt), .val (.int qg), .val (.int qq0), .val (.int (qn &&& (7 : Int32))), .val (.int nr), .val (.int ((qn >>> ((4 : Int32) &&& 31)) &&& (3 : Int32))), .val (.int (qs &&& (15 : Int32))), .val (.int (qt &&& (15 : Int32))), .val (.int qq), .val (.ref b3), .val (.int qg)] []))
            refine Go.step (fun _ k => XS.aload X20.here hx rfl (hb hby at_136) rfl rfl  k) ?_
            show Go _ _ _ _ _ _ _ (T20.setTop (mkF m 138 #[.val (.int qn), .val (.int qs), .val (.int qh), .val (.int qt), .val (.int qg), .val (.int qq0), .val (.int (qn &&& (7 : Int32))), .val (.int nr), .val (.int ((qn >>> ((4 : Int32) &&& 31)) &&& (3 : Int32))), .val (.int (qs &&& (15 : Int32))), .val (.int (qt &&& (15 : Int32))), .val (.int qq), .val (.ref b3), .val (.int qg)] [(.ref b3)]))
            refine Go.step (fun _ k => XS.iload X20.here hx rfl (hb hby at_138) rfl  k) ?_
            show Go _ _ _ _ _ _ _ (T20.setTop (mkF m 140 #[.val (.int qn), .val (.int qs), .val (.int qh), .val (.int qt), .val (.int qg), .val (.int qq0), .val (.int (qn &&& (7 : Int32))), .val (.int nr), .val (.int ((qn >>> ((4 : Int32) &&& 31)) &&& (3 : Int32))), .val (.int (qs &&& (15 : Int32))), .val (.int (qt &&& (15 : Int32))), .val (.int qq), .val (.ref b3), .val (.int qg)] [(.int qq), (.ref b3)]))
            have pq23 : ¬ qq < 0 := hqq
            obtain ⟨cq24, kq24, q24a, q24b, q24c⟩ := isOf hZ rfl c20_0
            obtain ⟨_, _, ⟨T24, L24, k24, n24⟩, -, X24, ⟨Lc24, hQ24, l24, y24, z24⟩, st24⟩ := X20.virtualBack hx (y := (⟨"com/example/steward/steward/timeordered/SequenceTable", "hour", "(I)I"⟩ : MethodName)) (z := (⟨"com/example/steward/steward/timeordered/SequenceTable", "hour", "(I)I"⟩ : MethodName)) hown (mvT hZ (hw _ (List.mem_of_getElem? (i := 18) rfl))) (mvT hZ (hw _ (List.mem_of_getElem? (i := 19) rfl))) (notFace_of_selects (args := #[]) (mvT hZ (hw _ (List.mem_of_getElem? (i := 21) rfl)))) (mvT hZ (hw _ (List.mem_of_getElem? (i := 21) rfl))) (mvT hZ (hw _ (List.mem_of_getElem? (i := 20) rfl))) (by decide) (backOf (W := 0) (rm3 l Z aZ hw [] b3 qq b2_20 z2_20 f2_20 T20.heap n0 z21 c20_1 c20_4 pq23) hZ (hw _ (List.mem_of_getElem? (i := 22) rfl)) (hw _ (List.mem_of_getElem? (i := 3) rfl)) (by decide) (by decide)) q24a q24c (g := (mkF m 140 #[.val (.int qn), .val (.int qs), .val (.int qh), .val (.int qt), .val (.int qg), .val (.int qq0), .val (.int (qn &&& (7 : Int32))), .val (.int nr), .val (.int ((qn >>> ((4 : Int32) &&& 31)) &&& (3 : Int32))), .val (.int (qs &&& (15 : Int32))), .val (.int (qt &&& (15 : Int32))), .val (.int qq), .val (.ref b3), .val (.int qg)] [(.int qq), (.ref b3)])) rfl (by rw [hml]; rfl) (Steps.refl _) (argsL := [(.int qq)]) (rest := []) (lenOf pd_3 rfl) rfl (by show 2 * 0 + _ ≤ _; exact Nat.le_of_eq rfl) (hb hby at_140) (fun _ _ => ⟨rfl, rfl, (by decide : 3 + 0 ≤ _), (by decide : 40 + 0 ≤ _)⟩)
            dsimp only [Pt.U, Pt.locs, Pt.cells, Pt.slots] at X24 l24 y24 z24 st24 hQ24
            subst l24 y24 z24
            obtain ⟨rfl, Nq24, e24⟩ := hQ24
            have N24 := Fr.app N20 Nq24
            refine Go.tr st24 ?_
            show Go _ _ _ _ _ _ _ (T24.setTop (mkF m 143 #[.val (.int qn), .val (.int qs), .val (.int qh), .val (.int qt), .val (.int qg), .val (.int qq0), .val (.int (qn &&& (7 : Int32))), .val (.int nr), .val (.int ((qn >>> ((4 : Int32) &&& 31)) &&& (3 : Int32))), .val (.int (qs &&& (15 : Int32))), .val (.int (qt &&& (15 : Int32))), .val (.int qq), .val (.ref b3), .val (.int qg)] [(.int (if qq < z2_20 then (f2_20 qq) else (0 : Int32)))]))
            refine Go.step (fun _ k => XS.iload X24.here hx rfl (hb hby at_143) rfl  k) ?_
            show Go _ _ _ _ _ _ _ (T24.setTop (mkF m 145 #[.val (.int qn), .val (.int qs), .val (.int qh), .val (.int qt), .val (.int qg), .val (.int qq0), .val (.int (qn &&& (7 : Int32))), .val (.int nr), .val (.int ((qn >>> ((4 : Int32) &&& 31)) &&& (3 : Int32))), .val (.int (qs &&& (15 : Int32))), .val (.int (qt &&& (15 : Int32))), .val (.int qq), .val (.ref b3), .val (.int qg)] [(.int qg), (.int (if qq < z2_20 then (f2_20 qq) else (0 : Int32)))]))
            have hc145 : (if qq < z2_20 then (f2_20 qq) else (0 : Int32)) = qg := by
              rw [u20_1 qq hqq, if_pos hc129]
              
            refine Go.step (fun _ k => XS.icmpNo X24.here hx rfl (hb hby at_145) rfl (teq hc145).2 k) ?_
            show Go _ _ _ _ _ _ _ (T24.setTop (mkF m 148 #[.val (.int qn), .val (.int qs), .val (.int qh), .val (.int qt), .val (.int qg), .val (.int qq0), .val (.int (qn &&& (7 : Int32))), .val (.int nr), .val (.int ((qn >>> ((4 : Int32) &&& 31)) &&& (3 : Int32))), .val (.int (qs &&& (15 : Int32))), .val (.int (qt &&& (15 : Int32))), .val (.int qq), .val (.ref b3), .val (.int qg)] []))
            refine Go.step (fun _ k => XS.iconst X24.here hx rfl (hb hby at_148) k) ?_
            show Go _ _ _ _ _ _ _ (T24.setTop (mkF m 149 #[.val (.int qn), .val (.int qs), .val (.int qh), .val (.int qt), .val (.int qg), .val (.int qq0), .val (.int (qn &&& (7 : Int32))), .val (.int nr), .val (.int ((qn >>> ((4 : Int32) &&& 31)) &&& (3 : Int32))), .val (.int (qs &&& (15 : Int32))), .val (.int (qt &&& (15 : Int32))), .val (.int qq), .val (.ref b3), .val (.int qg)] [(.int (1 : Int32))]))
            refine Go.step (fun _ k => XS.goto X24.here hx rfl (pc0 := 149) (pc' := 153) rfl (hb hby at_149) (by decide) (by decide) k) ?_
            show Go _ _ _ _ _ _ _ (T24.setTop (mkF m 153 #[.val (.int qn), .val (.int qs), .val (.int qh), .val (.int qt), .val (.int qg), .val (.int qq0), .val (.int (qn &&& (7 : Int32))), .val (.int nr), .val (.int ((qn >>> ((4 : Int32) &&& 31)) &&& (3 : Int32))), .val (.int (qs &&& (15 : Int32))), .val (.int (qt &&& (15 : Int32))), .val (.int qq), .val (.ref b3), .val (.int qg)] [(.int (1 : Int32))]))
            refine Go.retN X24 hx (t := .boolean) Bd.returns (by simp) hlk (hb hby at_153) ?_ (by decide) (by decide)
            rw [e24]
            exact ⟨(by first | rfl | (simp_all [own_nb1, own_nb0]; done)), N24⟩
          · skip
            refine Go.step (fun _ k => XS.icmpYes X20.here hx rfl (pc0 := 129) (pc' := 136) rfl (hb hby at_129) rfl (feq hc129).2 (by decide) (by decide) k) ?_
            show Go _ _ _ _ _ _ _ (T20.setTop (mkF m 136 #[.val (.int qn), .val (.int qs), .val (.int qh), .val (.int qt), .val (.int qg), .val (.int qq0), .val (.int (qn &&& (7 : Int32))), .val (.int nr), .val (.int ((qn >>> ((4 : Int32) &&& 31)) &&& (3 : Int32))), .val (.int (qs &&& (15 : Int32))), .val (.int (qt &&& (15 : Int32))), .val (.int qq), .val (.ref b3), .val (.int (0 : Int32))] []))
            refine Go.step (fun _ k => XS.aload X20.here hx rfl (hb hby at_136) rfl rfl  k) ?_
            show Go _ _ _ _ _ _ _ (T20.setTop (mkF m 138 #[.val (.int qn), .val (.int qs), .val (.int qh), .val (.int qt), .val (.int qg), .val (.int qq0), .val (.int (qn &&& (7 : Int32))), .val (.int nr), .val (.int ((qn >>> ((4 : Int32) &&& 31)) &&& (3 : Int32))), .val (.int (qs &&& (15 : Int32))), .val (.int (qt &&& (15 : Int32))), .val (.int qq), .val (.ref b3), .val (.int (0 : Int32))] [(.ref b3)]))
            refine Go.step (fun _ k => XS.iload X20.here hx rfl (hb hby at_138) rfl  k) ?_
            show Go _ _ _ _ _ _ _ (T20.setTop (mkF m 140 #[.val (.int qn), .val (.int qs), .val (.int qh), .val (.int qt), .val (.int qg), .val (.int qq0), .val (.int (qn &&& (7 : Int32))), .val (.int nr), .val (.int ((qn >>> ((4 : Int32) &&& 31)) &&& (3 : Int32))), .val (.int (qs &&& (15 : Int32))), .val (.int (qt &&& (15 : Int32))), .val (.int qq), .val (.ref b3), .val (.int (0 : Int32))] [(.int qq), (.ref b3)]))
            have pq25 : ¬ qq < 0 := hqq
            obtain ⟨cq26, kq26, q26a, q26b, q26c⟩ := isOf hZ rfl c20_0
            obtain ⟨_, _, ⟨T26, L26, k26, n26⟩, -, X26, ⟨Lc26, hQ26, l26, y26, z26⟩, st26⟩ := X20.virtualBack hx (y := (⟨"com/example/steward/steward/timeordered/SequenceTable", "hour", "(I)I"⟩ : MethodName)) (z := (⟨"com/example/steward/steward/timeordered/SequenceTable", "hour", "(I)I"⟩ : MethodName)) hown (mvT hZ (hw _ (List.mem_of_getElem? (i := 18) rfl))) (mvT hZ (hw _ (List.mem_of_getElem? (i := 19) rfl))) (notFace_of_selects (args := #[]) (mvT hZ (hw _ (List.mem_of_getElem? (i := 21) rfl)))) (mvT hZ (hw _ (List.mem_of_getElem? (i := 21) rfl))) (mvT hZ (hw _ (List.mem_of_getElem? (i := 20) rfl))) (by decide) (backOf (W := 0) (rm3 l Z aZ hw [] b3 qq b2_20 z2_20 f2_20 T20.heap n0 z21 c20_1 c20_4 pq25) hZ (hw _ (List.mem_of_getElem? (i := 22) rfl)) (hw _ (List.mem_of_getElem? (i := 3) rfl)) (by decide) (by decide)) q26a q26c (g := (mkF m 140 #[.val (.int qn), .val (.int qs), .val (.int qh), .val (.int qt), .val (.int qg), .val (.int qq0), .val (.int (qn &&& (7 : Int32))), .val (.int nr), .val (.int ((qn >>> ((4 : Int32) &&& 31)) &&& (3 : Int32))), .val (.int (qs &&& (15 : Int32))), .val (.int (qt &&& (15 : Int32))), .val (.int qq), .val (.ref b3), .val (.int (0 : Int32))] [(.int qq), (.ref b3)])) rfl (by rw [hml]; rfl) (Steps.refl _) (argsL := [(.int qq)]) (rest := []) (lenOf pd_3 rfl) rfl (by show 2 * 0 + _ ≤ _; exact Nat.le_of_eq rfl) (hb hby at_140) (fun _ _ => ⟨rfl, rfl, (by decide : 3 + 0 ≤ _), (by decide : 40 + 0 ≤ _)⟩)
            dsimp only [Pt.U, Pt.locs, Pt.cells, Pt.slots] at X26 l26 y26 z26 st26 hQ26
            subst l26 y26 z26
            obtain ⟨rfl, Nq26, e26⟩ := hQ26
            have N26 := Fr.app N20 Nq26
            refine Go.tr st26 ?_
            show Go _ _ _ _ _ _ _ (T26.setTop (mkF m 143 #[.val (.int qn), .val (.int qs), .val (.int qh), .val (.int qt), .val (.int qg), .val (.int qq0), .val (.int (qn &&& (7 : Int32))), .val (.int nr), .val (.int ((qn >>> ((4 : Int32) &&& 31)) &&& (3 : Int32))), .val (.int (qs &&& (15 : Int32))), .val (.int (qt &&& (15 : Int32))), .val (.int qq), .val (.ref b3), .val (.int (0 : Int32))] [(.int (if qq < z2_20 then (f2_20 qq) else (0 : Int32)))]))
            refine Go.step (fun _ k => XS.iload X26.here hx rfl (hb hby at_143) rfl  k) ?_
            show Go _ _ _ _ _ _ _ (T26.setTop (mkF m 145 #[.val (.int qn), .val (.int qs), .val (.int qh), .val (.int qt), .val (.int qg), .val (.int qq0), .val (.int (qn &&& (7 : Int32))), .val (.int nr), .val (.int ((qn >>> ((4 : Int32) &&& 31)) &&& (3 : Int32))), .val (.int (qs &&& (15 : Int32))), .val (.int (qt &&& (15 : Int32))), .val (.int qq), .val (.ref b3), .val (.int (0 : Int32))] [(.int (0 : Int32)), (.int (if qq < z2_20 then (f2_20 qq) else (0 : Int32)))]))
            have hc145 : (if qq < z2_20 then (f2_20 qq) else (0 : Int32)) = (0 : Int32) := by
              rw [u20_1 qq hqq, if_neg hc129]
              exact ite_self _
            refine Go.step (fun _ k => XS.icmpNo X26.here hx rfl (hb hby at_145) rfl (teq hc145).2 k) ?_
            show Go _ _ _ _ _ _ _ (T26.setTop (mkF m 148 #[.val (.int qn), .val (.int qs), .val (.int qh), .val (.int qt), .val (.int qg), .val (.int qq0), .val (.int (qn &&& (7 : Int32))), .val (.int nr), .val (.int ((qn >>> ((4 : Int32) &&& 31)) &&& (3 : Int32))), .val (.int (qs &&& (15 : Int32))), .val (.int (qt &&& (15 : Int32))), .val (.int qq), .val (.ref b3), .val (.int (0 : Int32))] []))
            refine Go.step (fun _ k => XS.iconst X26.here hx rfl (hb hby at_148) k) ?_
            show Go _ _ _ _ _ _ _ (T26.setTop (mkF m 149 #[.val (.int qn), .val (.int qs), .val (.int qh), .val (.int qt), .val (.int qg), .val (.int qq0), .val (.int (qn &&& (7 : Int32))), .val (.int nr), .val (.int ((qn >>> ((4 : Int32) &&& 31)) &&& (3 : Int32))), .val (.int (qs &&& (15 : Int32))), .val (.int (qt &&& (15 : Int32))), .val (.int qq), .val (.ref b3), .val (.int (0 : Int32))] [(.int (1 : Int32))]))
            refine Go.step (fun _ k => XS.goto X26.here hx rfl (pc0 := 149) (pc' := 153) rfl (hb hby at_149) (by decide) (by decide) k) ?_
            show Go _ _ _ _ _ _ _ (T26.setTop (mkF m 153 #[.val (.int qn), .val (.int qs), .val (.int qh), .val (.int qt), .val (.int qg), .val (.int qq0), .val (.int (qn &&& (7 : Int32))), .val (.int nr), .val (.int ((qn >>> ((4 : Int32) &&& 31)) &&& (3 : Int32))), .val (.int (qs &&& (15 : Int32))), .val (.int (qt &&& (15 : Int32))), .val (.int qq), .val (.ref b3), .val (.int (0 : Int32))] [(.int (1 : Int32))]))
            refine Go.retN X26 hx (t := .boolean) Bd.returns (by simp) hlk (hb hby at_153) ?_ (by decide) (by decide)
            rw [e26]
            exact ⟨(by first | rfl | (simp_all [own_nb1, own_nb0]; done)), N26⟩
      · skip
        refine Go.step (fun _ k => XS.icmpNo X11.here hx rfl (hb hby at_74) rfl (flt hc74).1 k) ?_
        show Go _ _ _ _ _ _ _ (T11.setTop (mkF m 77 #[.val (.int qn), .val (.int qs), .val (.int qh), .val (.int qt), .val (.int qg), .val (.int qq0), .val (.int (qn &&& (7 : Int32))), .val (.int nr), .val (.int ((qn >>> ((4 : Int32) &&& 31)) &&& (3 : Int32))), .val (.int (qs &&& (15 : Int32))), .val (.int (qt &&& (15 : Int32))), .val (.int qq), .val (.ref b3), .unset] []))
        refine Go.step (fun _ k => XS.aload X11.here hx rfl (hb hby at_77) rfl rfl  k) ?_
        show Go _ _ _ _ _ _ _ (T11.setTop (mkF m 79 #[.val (.int qn), .val (.int qs), .val (.int qh), .val (.int qt), .val (.int qg), .val (.int qq0), .val (.int (qn &&& (7 : Int32))), .val (.int nr), .val (.int ((qn >>> ((4 : Int32) &&& 31)) &&& (3 : Int32))), .val (.int (qs &&& (15 : Int32))), .val (.int (qt &&& (15 : Int32))), .val (.int qq), .val (.ref b3), .unset] [(.ref b3)]))
        refine Go.step (fun _ k => XS.iload X11.here hx rfl (hb hby at_79) rfl  k) ?_
        show Go _ _ _ _ _ _ _ (T11.setTop (mkF m 81 #[.val (.int qn), .val (.int qs), .val (.int qh), .val (.int qt), .val (.int qg), .val (.int qq0), .val (.int (qn &&& (7 : Int32))), .val (.int nr), .val (.int ((qn >>> ((4 : Int32) &&& 31)) &&& (3 : Int32))), .val (.int (qs &&& (15 : Int32))), .val (.int (qt &&& (15 : Int32))), .val (.int qq), .val (.ref b3), .unset] [(.int (qs &&& (15 : Int32))), (.ref b3)]))
        refine Go.step (fun _ k => XS.iloadN X11.here hx rfl (hb hby at_81) rfl  k) ?_
        show Go _ _ _ _ _ _ _ (T11.setTop (mkF m 82 #[.val (.int qn), .val (.int qs), .val (.int qh), .val (.int qt), .val (.int qg), .val (.int qq0), .val (.int (qn &&& (7 : Int32))), .val (.int nr), .val (.int ((qn >>> ((4 : Int32) &&& 31)) &&& (3 : Int32))), .val (.int (qs &&& (15 : Int32))), .val (.int (qt &&& (15 : Int32))), .val (.int qq), .val (.ref b3), .unset] [(.int qh), (.int (qs &&& (15 : Int32))), (.ref b3)]))
        have pq27 : ¬ (qs &&& (15 : Int32)) < 0 := (own_m15 _).1
        have pq28 : ¬ (15 : Int32) < (qs &&& (15 : Int32)) := (own_m15 _).2
        have pq29 : ¬ (30 : Int32) < (qn &&& (7 : Int32)) := (own_m7 _).2.2
        obtain ⟨cq30, kq30, q30a, q30b, q30c⟩ := isOf hZ rfl c11_1
        obtain ⟨_, _, ⟨T30, L30, k30, n30⟩, -, X30, ⟨Lc30, hQ30, l30, y30, z30⟩, st30⟩ := X11.virtualBack hx (y := (⟨"com/example/steward/steward/timeordered/SequenceTable", "set", "(II)V"⟩ : MethodName)) (z := (⟨"com/example/steward/steward/timeordered/SequenceTable", "set", "(II)V"⟩ : MethodName)) hown (mvT hZ (hw _ (List.mem_of_getElem? (i := 23) rfl))) (mvT hZ (hw _ (List.mem_of_getElem? (i := 24) rfl))) (notFace_of_selects (args := #[]) (mvT hZ (hw _ (List.mem_of_getElem? (i := 26) rfl)))) (mvT hZ (hw _ (List.mem_of_getElem? (i := 26) rfl))) (mvT hZ (hw _ (List.mem_of_getElem? (i := 25) rfl))) (by decide) (backOf (W := 0) (rm4 l Z aZ hw [] b3 (qs &&& (15 : Int32)) qh b1_11 (qn &&& (7 : Int32)) (fun _ => 0) (qn &&& (7 : Int32)) (-1 : Int64) T11.heap n0 z13 c11_1 c11_2 c11_3 c11_4 c11_5 c11_6 gn3 gn11_0 pq27 pq28 pq29) hZ (hw _ (List.mem_of_getElem? (i := 27) rfl)) (hw _ (List.mem_of_getElem? (i := 3) rfl)) (by decide) (by decide)) q30a q30c (g := (mkF m 82 #[.val (.int qn), .val (.int qs), .val (.int qh), .val (.int qt), .val (.int qg), .val (.int qq0), .val (.int (qn &&& (7 : Int32))), .val (.int nr), .val (.int ((qn >>> ((4 : Int32) &&& 31)) &&& (3 : Int32))), .val (.int (qs &&& (15 : Int32))), .val (.int (qt &&& (15 : Int32))), .val (.int qq), .val (.ref b3), .unset] [(.int qh), (.int (qs &&& (15 : Int32))), (.ref b3)])) rfl (by rw [hml]; rfl) (Steps.refl _) (argsL := [(.int (qs &&& (15 : Int32))), (.int qh)]) (rest := []) (lenOf pd_4 rfl) rfl (by show 2 * 0 + _ ≤ _; exact Nat.le_of_eq rfl) (hb hby at_82) (fun _ _ => ⟨rfl, rfl, (by decide : 2 + 1 ≤ _), (by decide : 10 + 30 ≤ _)⟩)
        dsimp only [Pt.U, Pt.locs, Pt.cells, Pt.slots] at X30 l30 y30 z30 st30 hQ30
        subst l30 y30 z30
        obtain ⟨b2_30, z2_30, f2_30, w2_30, wc2_30, rfl, Nq30, K30, c30_0, c30_1, c30_2, c30_3, c30_4, c30_5, c30_6, u30_0, u30_1⟩ := hQ30
        have N30 := Fr.app N11 Nq30
        refine Go.tr st30 ?_
        have z31 : n0 ≤ T30.heap.size := Nat.le_trans z13 K30.1
        have sqz31 : h0.size ≤ T30.heap.size := Nat.le_trans sqz13 K30.1
        show Go _ _ _ _ _ _ _ (T30.setTop (mkF m 85 #[.val (.int qn), .val (.int qs), .val (.int qh), .val (.int qt), .val (.int qg), .val (.int qq0), .val (.int (qn &&& (7 : Int32))), .val (.int nr), .val (.int ((qn >>> ((4 : Int32) &&& 31)) &&& (3 : Int32))), .val (.int (qs &&& (15 : Int32))), .val (.int (qt &&& (15 : Int32))), .val (.int qq), .val (.ref b3), .unset] []))
        refine Go.step (fun _ k => XS.iload X30.here hx rfl (hb hby at_85) rfl  k) ?_
        show Go _ _ _ _ _ _ _ (T30.setTop (mkF m 87 #[.val (.int qn), .val (.int qs), .val (.int qh), .val (.int qt), .val (.int qg), .val (.int qq0), .val (.int (qn &&& (7 : Int32))), .val (.int nr), .val (.int ((qn >>> ((4 : Int32) &&& 31)) &&& (3 : Int32))), .val (.int (qs &&& (15 : Int32))), .val (.int (qt &&& (15 : Int32))), .val (.int qq), .val (.ref b3), .unset] [(.int ((qn >>> ((4 : Int32) &&& 31)) &&& (3 : Int32)))]))
        refine Go.step (fun _ k => XS.iconst X30.here hx rfl (hb hby at_87) k) ?_
        show Go _ _ _ _ _ _ _ (T30.setTop (mkF m 88 #[.val (.int qn), .val (.int qs), .val (.int qh), .val (.int qt), .val (.int qg), .val (.int qq0), .val (.int (qn &&& (7 : Int32))), .val (.int nr), .val (.int ((qn >>> ((4 : Int32) &&& 31)) &&& (3 : Int32))), .val (.int (qs &&& (15 : Int32))), .val (.int (qt &&& (15 : Int32))), .val (.int qq), .val (.ref b3), .unset] [(.int (2 : Int32)), (.int ((qn >>> ((4 : Int32) &&& 31)) &&& (3 : Int32)))]))
        by_cases hc88 : ((qn >>> ((4 : Int32) &&& 31)) &&& (3 : Int32)) < (2 : Int32)
        · skip
          refine Go.step (fun _ k => XS.icmpYes X30.here hx rfl (pc0 := 88) (pc' := 100) rfl (hb hby at_88) rfl (tlt hc88).1 (by decide) (by decide) k) ?_
          show Go _ _ _ _ _ _ _ (T30.setTop (mkF m 100 #[.val (.int qn), .val (.int qs), .val (.int qh), .val (.int qt), .val (.int qg), .val (.int qq0), .val (.int (qn &&& (7 : Int32))), .val (.int nr), .val (.int ((qn >>> ((4 : Int32) &&& 31)) &&& (3 : Int32))), .val (.int (qs &&& (15 : Int32))), .val (.int (qt &&& (15 : Int32))), .val (.int qq), .val (.ref b3), .unset] []))
          refine Go.step (fun _ k => XS.iconst X30.here hx rfl (hb hby at_100) k) ?_
          show Go _ _ _ _ _ _ _ (T30.setTop (mkF m 101 #[.val (.int qn), .val (.int qs), .val (.int qh), .val (.int qt), .val (.int qg), .val (.int qq0), .val (.int (qn &&& (7 : Int32))), .val (.int nr), .val (.int ((qn >>> ((4 : Int32) &&& 31)) &&& (3 : Int32))), .val (.int (qs &&& (15 : Int32))), .val (.int (qt &&& (15 : Int32))), .val (.int qq), .val (.ref b3), .unset] [(.int (0 : Int32))]))
          refine Go.step (fun _ k => XS.istore X30.here hx rfl (hb hby at_101) rfl (l' := #[.val (.int qn), .val (.int qs), .val (.int qh), .val (.int qt), .val (.int qg), .val (.int qq0), .val (.int (qn &&& (7 : Int32))), .val (.int nr), .val (.int ((qn >>> ((4 : Int32) &&& 31)) &&& (3 : Int32))), .val (.int (qs &&& (15 : Int32))), .val (.int (qt &&& (15 : Int32))), .val (.int qq), .val (.ref b3), .val (.int (0 : Int32))]) rfl k) ?_
          show Go _ _ _ _ _ _ _ (T30.setTop (mkF m 103 #[.val (.int qn), .val (.int qs), .val (.int qh), .val (.int qt), .val (.int qg), .val (.int qq0), .val (.int (qn &&& (7 : Int32))), .val (.int nr), .val (.int ((qn >>> ((4 : Int32) &&& 31)) &&& (3 : Int32))), .val (.int (qs &&& (15 : Int32))), .val (.int (qt &&& (15 : Int32))), .val (.int qq), .val (.ref b3), .val (.int (0 : Int32))] []))
          refine Go.step (fun _ k => XS.iload X30.here hx rfl (hb hby at_103) rfl  k) ?_
          show Go _ _ _ _ _ _ _ (T30.setTop (mkF m 105 #[.val (.int qn), .val (.int qs), .val (.int qh), .val (.int qt), .val (.int qg), .val (.int qq0), .val (.int (qn &&& (7 : Int32))), .val (.int nr), .val (.int ((qn >>> ((4 : Int32) &&& 31)) &&& (3 : Int32))), .val (.int (qs &&& (15 : Int32))), .val (.int (qt &&& (15 : Int32))), .val (.int qq), .val (.ref b3), .val (.int (0 : Int32))] [(.int ((qn >>> ((4 : Int32) &&& 31)) &&& (3 : Int32)))]))
          refine Go.step (fun _ k => XS.iconst X30.here hx rfl (hb hby at_105) k) ?_
          show Go _ _ _ _ _ _ _ (T30.setTop (mkF m 106 #[.val (.int qn), .val (.int qs), .val (.int qh), .val (.int qt), .val (.int qg), .val (.int qq0), .val (.int (qn &&& (7 : Int32))), .val (.int nr), .val (.int ((qn >>> ((4 : Int32) &&& 31)) &&& (3 : Int32))), .val (.int (qs &&& (15 : Int32))), .val (.int (qt &&& (15 : Int32))), .val (.int qq), .val (.ref b3), .val (.int (0 : Int32))] [(.int (1 : Int32)), (.int ((qn >>> ((4 : Int32) &&& 31)) &&& (3 : Int32)))]))
          have hc106 : ¬ (((qn >>> ((4 : Int32) &&& 31)) &&& (3 : Int32)) < (1 : Int32)) := hc74
          refine Go.step (fun _ k => XS.icmpNo X30.here hx rfl (hb hby at_106) rfl (flt hc106).1 k) ?_
          show Go _ _ _ _ _ _ _ (T30.setTop (mkF m 109 #[.val (.int qn), .val (.int qs), .val (.int qh), .val (.int qt), .val (.int qg), .val (.int qq0), .val (.int (qn &&& (7 : Int32))), .val (.int nr), .val (.int ((qn >>> ((4 : Int32) &&& 31)) &&& (3 : Int32))), .val (.int (qs &&& (15 : Int32))), .val (.int (qt &&& (15 : Int32))), .val (.int qq), .val (.ref b3), .val (.int (0 : Int32))] []))
          refine Go.step (fun _ k => XS.iload X30.here hx rfl (hb hby at_109) rfl  k) ?_
          show Go _ _ _ _ _ _ _ (T30.setTop (mkF m 111 #[.val (.int qn), .val (.int qs), .val (.int qh), .val (.int qt), .val (.int qg), .val (.int qq0), .val (.int (qn &&& (7 : Int32))), .val (.int nr), .val (.int ((qn >>> ((4 : Int32) &&& 31)) &&& (3 : Int32))), .val (.int (qs &&& (15 : Int32))), .val (.int (qt &&& (15 : Int32))), .val (.int qq), .val (.ref b3), .val (.int (0 : Int32))] [(.int qq)]))
          refine Go.step (fun _ k => XS.iload X30.here hx rfl (hb hby at_111) rfl  k) ?_
          show Go _ _ _ _ _ _ _ (T30.setTop (mkF m 113 #[.val (.int qn), .val (.int qs), .val (.int qh), .val (.int qt), .val (.int qg), .val (.int qq0), .val (.int (qn &&& (7 : Int32))), .val (.int nr), .val (.int ((qn >>> ((4 : Int32) &&& 31)) &&& (3 : Int32))), .val (.int (qs &&& (15 : Int32))), .val (.int (qt &&& (15 : Int32))), .val (.int qq), .val (.ref b3), .val (.int (0 : Int32))] [(.int (qs &&& (15 : Int32))), (.int qq)]))
          by_cases hc113 : qq = (qs &&& (15 : Int32))
          · skip
            refine Go.step (fun _ k => XS.icmpNo X30.here hx rfl (hb hby at_113) rfl (teq hc113).2 k) ?_
            show Go _ _ _ _ _ _ _ (T30.setTop (mkF m 116 #[.val (.int qn), .val (.int qs), .val (.int qh), .val (.int qt), .val (.int qg), .val (.int qq0), .val (.int (qn &&& (7 : Int32))), .val (.int nr), .val (.int ((qn >>> ((4 : Int32) &&& 31)) &&& (3 : Int32))), .val (.int (qs &&& (15 : Int32))), .val (.int (qt &&& (15 : Int32))), .val (.int qq), .val (.ref b3), .val (.int (0 : Int32))] []))
            refine Go.step (fun _ k => XS.iloadN X30.here hx rfl (hb hby at_116) rfl  k) ?_
            show Go _ _ _ _ _ _ _ (T30.setTop (mkF m 117 #[.val (.int qn), .val (.int qs), .val (.int qh), .val (.int qt), .val (.int qg), .val (.int qq0), .val (.int (qn &&& (7 : Int32))), .val (.int nr), .val (.int ((qn >>> ((4 : Int32) &&& 31)) &&& (3 : Int32))), .val (.int (qs &&& (15 : Int32))), .val (.int (qt &&& (15 : Int32))), .val (.int qq), .val (.ref b3), .val (.int (0 : Int32))] [(.int qh)]))
            refine Go.step (fun _ k => XS.istore X30.here hx rfl (hb hby at_117) rfl (l' := #[.val (.int qn), .val (.int qs), .val (.int qh), .val (.int qt), .val (.int qg), .val (.int qq0), .val (.int (qn &&& (7 : Int32))), .val (.int nr), .val (.int ((qn >>> ((4 : Int32) &&& 31)) &&& (3 : Int32))), .val (.int (qs &&& (15 : Int32))), .val (.int (qt &&& (15 : Int32))), .val (.int qq), .val (.ref b3), .val (.int qh)]) rfl k) ?_
            show Go _ _ _ _ _ _ _ (T30.setTop (mkF m 119 #[.val (.int qn), .val (.int qs), .val (.int qh), .val (.int qt), .val (.int qg), .val (.int qq0), .val (.int (qn &&& (7 : Int32))), .val (.int nr), .val (.int ((qn >>> ((4 : Int32) &&& 31)) &&& (3 : Int32))), .val (.int (qs &&& (15 : Int32))), .val (.int (qt &&& (15 : Int32))), .val (.int qq), .val (.ref b3), .val (.int qh)] []))
            refine Go.step (fun _ k => XS.iload X30.here hx rfl (hb hby at_119) rfl  k) ?_
            show Go _ _ _ _ _ _ _ (T30.setTop (mkF m 121 #[.val (.int qn), .val (.int qs), .val (.int qh), .val (.int qt), .val (.int qg), .val (.int qq0), .val (.int (qn &&& (7 : Int32))), .val (.int nr), .val (.int ((qn >>> ((4 : Int32) &&& 31)) &&& (3 : Int32))), .val (.int (qs &&& (15 : Int32))), .val (.int (qt &&& (15 : Int32))), .val (.int qq), .val (.ref b3), .val (.int qh)] [(.int ((qn >>> ((4 : Int32) &&& 31)) &&& (3 : Int32)))]))
            refine Go.step (fun _ k => XS.iconst X30.here hx rfl (hb hby at_121) k) ?_
            show Go _ _ _ _ _ _ _ (T30.setTop (mkF m 122 #[.val (.int qn), .val (.int qs), .val (.int qh), .val (.int qt), .val (.int qg), .val (.int qq0), .val (.int (qn &&& (7 : Int32))), .val (.int nr), .val (.int ((qn >>> ((4 : Int32) &&& 31)) &&& (3 : Int32))), .val (.int (qs &&& (15 : Int32))), .val (.int (qt &&& (15 : Int32))), .val (.int qq), .val (.ref b3), .val (.int qh)] [(.int (2 : Int32)), (.int ((qn >>> ((4 : Int32) &&& 31)) &&& (3 : Int32)))]))
            have hc122 : ((qn >>> ((4 : Int32) &&& 31)) &&& (3 : Int32)) < (2 : Int32) := hc88
            refine Go.step (fun _ k => XS.icmpYes X30.here hx rfl (pc0 := 122) (pc' := 136) rfl (hb hby at_122) rfl (tlt hc122).1 (by decide) (by decide) k) ?_
            show Go _ _ _ _ _ _ _ (T30.setTop (mkF m 136 #[.val (.int qn), .val (.int qs), .val (.int qh), .val (.int qt), .val (.int qg), .val (.int qq0), .val (.int (qn &&& (7 : Int32))), .val (.int nr), .val (.int ((qn >>> ((4 : Int32) &&& 31)) &&& (3 : Int32))), .val (.int (qs &&& (15 : Int32))), .val (.int (qt &&& (15 : Int32))), .val (.int qq), .val (.ref b3), .val (.int qh)] []))
            refine Go.step (fun _ k => XS.aload X30.here hx rfl (hb hby at_136) rfl rfl  k) ?_
            show Go _ _ _ _ _ _ _ (T30.setTop (mkF m 138 #[.val (.int qn), .val (.int qs), .val (.int qh), .val (.int qt), .val (.int qg), .val (.int qq0), .val (.int (qn &&& (7 : Int32))), .val (.int nr), .val (.int ((qn >>> ((4 : Int32) &&& 31)) &&& (3 : Int32))), .val (.int (qs &&& (15 : Int32))), .val (.int (qt &&& (15 : Int32))), .val (.int qq), .val (.ref b3), .val (.int qh)] [(.ref b3)]))
            refine Go.step (fun _ k => XS.iload X30.here hx rfl (hb hby at_138) rfl  k) ?_
            show Go _ _ _ _ _ _ _ (T30.setTop (mkF m 140 #[.val (.int qn), .val (.int qs), .val (.int qh), .val (.int qt), .val (.int qg), .val (.int qq0), .val (.int (qn &&& (7 : Int32))), .val (.int nr), .val (.int ((qn >>> ((4 : Int32) &&& 31)) &&& (3 : Int32))), .val (.int (qs &&& (15 : Int32))), .val (.int (qt &&& (15 : Int32))), .val (.int qq), .val (.ref b3), .val (.int qh)] [(.int qq), (.ref b3)]))
            have pq33 : ¬ qq < 0 := hqq
            obtain ⟨cq34, kq34, q34a, q34b, q34c⟩ := isOf hZ rfl c30_0
            obtain ⟨_, _, ⟨T34, L34, k34, n34⟩, -, X34, ⟨Lc34, hQ34, l34, y34, z34⟩, st34⟩ := X30.virtualBack hx (y := (⟨"com/example/steward/steward/timeordered/SequenceTable", "hour", "(I)I"⟩ : MethodName)) (z := (⟨"com/example/steward/steward/timeordered/SequenceTable", "hour", "(I)I"⟩ : MethodName)) hown (mvT hZ (hw _ (List.mem_of_getElem? (i := 18) rfl))) (mvT hZ (hw _ (List.mem_of_getElem? (i := 19) rfl))) (notFace_of_selects (args := #[]) (mvT hZ (hw _ (List.mem_of_getElem? (i := 21) rfl)))) (mvT hZ (hw _ (List.mem_of_getElem? (i := 21) rfl))) (mvT hZ (hw _ (List.mem_of_getElem? (i := 20) rfl))) (by decide) (backOf (W := 0) (rm3 l Z aZ hw [] b3 qq b2_30 z2_30 f2_30 T30.heap n0 z31 c30_1 c30_4 pq33) hZ (hw _ (List.mem_of_getElem? (i := 22) rfl)) (hw _ (List.mem_of_getElem? (i := 3) rfl)) (by decide) (by decide)) q34a q34c (g := (mkF m 140 #[.val (.int qn), .val (.int qs), .val (.int qh), .val (.int qt), .val (.int qg), .val (.int qq0), .val (.int (qn &&& (7 : Int32))), .val (.int nr), .val (.int ((qn >>> ((4 : Int32) &&& 31)) &&& (3 : Int32))), .val (.int (qs &&& (15 : Int32))), .val (.int (qt &&& (15 : Int32))), .val (.int qq), .val (.ref b3), .val (.int qh)] [(.int qq), (.ref b3)])) rfl (by rw [hml]; rfl) (Steps.refl _) (argsL := [(.int qq)]) (rest := []) (lenOf pd_3 rfl) rfl (by show 2 * 0 + _ ≤ _; exact Nat.le_of_eq rfl) (hb hby at_140) (fun _ _ => ⟨rfl, rfl, (by decide : 3 + 0 ≤ _), (by decide : 40 + 0 ≤ _)⟩)
            dsimp only [Pt.U, Pt.locs, Pt.cells, Pt.slots] at X34 l34 y34 z34 st34 hQ34
            subst l34 y34 z34
            obtain ⟨rfl, Nq34, e34⟩ := hQ34
            have N34 := Fr.app N30 Nq34
            refine Go.tr st34 ?_
            show Go _ _ _ _ _ _ _ (T34.setTop (mkF m 143 #[.val (.int qn), .val (.int qs), .val (.int qh), .val (.int qt), .val (.int qg), .val (.int qq0), .val (.int (qn &&& (7 : Int32))), .val (.int nr), .val (.int ((qn >>> ((4 : Int32) &&& 31)) &&& (3 : Int32))), .val (.int (qs &&& (15 : Int32))), .val (.int (qt &&& (15 : Int32))), .val (.int qq), .val (.ref b3), .val (.int qh)] [(.int (if qq < z2_30 then (f2_30 qq) else (0 : Int32)))]))
            refine Go.step (fun _ k => XS.iload X34.here hx rfl (hb hby at_143) rfl  k) ?_
            show Go _ _ _ _ _ _ _ (T34.setTop (mkF m 145 #[.val (.int qn), .val (.int qs), .val (.int qh), .val (.int qt), .val (.int qg), .val (.int qq0), .val (.int (qn &&& (7 : Int32))), .val (.int nr), .val (.int ((qn >>> ((4 : Int32) &&& 31)) &&& (3 : Int32))), .val (.int (qs &&& (15 : Int32))), .val (.int (qt &&& (15 : Int32))), .val (.int qq), .val (.ref b3), .val (.int qh)] [(.int qh), (.int (if qq < z2_30 then (f2_30 qq) else (0 : Int32)))]))
            have hc145 : (if qq < z2_30 then (f2_30 qq) else (0 : Int32)) = qh := by
              rw [u30_1 qq hqq, if_pos hc113]
              
            refine Go.step (fun _ k => XS.icmpNo X34.here hx rfl (hb hby at_145) rfl (teq hc145).2 k) ?_
            show Go _ _ _ _ _ _ _ (T34.setTop (mkF m 148 #[.val (.int qn), .val (.int qs), .val (.int qh), .val (.int qt), .val (.int qg), .val (.int qq0), .val (.int (qn &&& (7 : Int32))), .val (.int nr), .val (.int ((qn >>> ((4 : Int32) &&& 31)) &&& (3 : Int32))), .val (.int (qs &&& (15 : Int32))), .val (.int (qt &&& (15 : Int32))), .val (.int qq), .val (.ref b3), .val (.int qh)] []))
            refine Go.step (fun _ k => XS.iconst X34.here hx rfl (hb hby at_148) k) ?_
            show Go _ _ _ _ _ _ _ (T34.setTop (mkF m 149 #[.val (.int qn), .val (.int qs), .val (.int qh), .val (.int qt), .val (.int qg), .val (.int qq0), .val (.int (qn &&& (7 : Int32))), .val (.int nr), .val (.int ((qn >>> ((4 : Int32) &&& 31)) &&& (3 : Int32))), .val (.int (qs &&& (15 : Int32))), .val (.int (qt &&& (15 : Int32))), .val (.int qq), .val (.ref b3), .val (.int qh)] [(.int (1 : Int32))]))
            refine Go.step (fun _ k => XS.goto X34.here hx rfl (pc0 := 149) (pc' := 153) rfl (hb hby at_149) (by decide) (by decide) k) ?_
            show Go _ _ _ _ _ _ _ (T34.setTop (mkF m 153 #[.val (.int qn), .val (.int qs), .val (.int qh), .val (.int qt), .val (.int qg), .val (.int qq0), .val (.int (qn &&& (7 : Int32))), .val (.int nr), .val (.int ((qn >>> ((4 : Int32) &&& 31)) &&& (3 : Int32))), .val (.int (qs &&& (15 : Int32))), .val (.int (qt &&& (15 : Int32))), .val (.int qq), .val (.ref b3), .val (.int qh)] [(.int (1 : Int32))]))
            refine Go.retN X34 hx (t := .boolean) Bd.returns (by simp) hlk (hb hby at_153) ?_ (by decide) (by decide)
            rw [e34]
            exact ⟨(by first | rfl | (simp_all [own_nb1, own_nb0]; done)), N34⟩
          · skip
            refine Go.step (fun _ k => XS.icmpYes X30.here hx rfl (pc0 := 113) (pc' := 119) rfl (hb hby at_113) rfl (feq hc113).2 (by decide) (by decide) k) ?_
            show Go _ _ _ _ _ _ _ (T30.setTop (mkF m 119 #[.val (.int qn), .val (.int qs), .val (.int qh), .val (.int qt), .val (.int qg), .val (.int qq0), .val (.int (qn &&& (7 : Int32))), .val (.int nr), .val (.int ((qn >>> ((4 : Int32) &&& 31)) &&& (3 : Int32))), .val (.int (qs &&& (15 : Int32))), .val (.int (qt &&& (15 : Int32))), .val (.int qq), .val (.ref b3), .val (.int (0 : Int32))] []))
            refine Go.step (fun _ k => XS.iload X30.here hx rfl (hb hby at_119) rfl  k) ?_
            show Go _ _ _ _ _ _ _ (T30.setTop (mkF m 121 #[.val (.int qn), .val (.int qs), .val (.int qh), .val (.int qt), .val (.int qg), .val (.int qq0), .val (.int (qn &&& (7 : Int32))), .val (.int nr), .val (.int ((qn >>> ((4 : Int32) &&& 31)) &&& (3 : Int32))), .val (.int (qs &&& (15 : Int32))), .val (.int (qt &&& (15 : Int32))), .val (.int qq), .val (.ref b3), .val (.int (0 : Int32))] [(.int ((qn >>> ((4 : Int32) &&& 31)) &&& (3 : Int32)))]))
            refine Go.step (fun _ k => XS.iconst X30.here hx rfl (hb hby at_121) k) ?_
            show Go _ _ _ _ _ _ _ (T30.setTop (mkF m 122 #[.val (.int qn), .val (.int qs), .val (.int qh), .val (.int qt), .val (.int qg), .val (.int qq0), .val (.int (qn &&& (7 : Int32))), .val (.int nr), .val (.int ((qn >>> ((4 : Int32) &&& 31)) &&& (3 : Int32))), .val (.int (qs &&& (15 : Int32))), .val (.int (qt &&& (15 : Int32))), .val (.int qq), .val (.ref b3), .val (.int (0 : Int32))] [(.int (2 : Int32)), (.int ((qn >>> ((4 : Int32) &&& 31)) &&& (3 : Int32)))]))
            have hc122 : ((qn >>> ((4 : Int32) &&& 31)) &&& (3 : Int32)) < (2 : Int32) := hc88
            refine Go.step (fun _ k => XS.icmpYes X30.here hx rfl (pc0 := 122) (pc' := 136) rfl (hb hby at_122) rfl (tlt hc122).1 (by decide) (by decide) k) ?_
            show Go _ _ _ _ _ _ _ (T30.setTop (mkF m 136 #[.val (.int qn), .val (.int qs), .val (.int qh), .val (.int qt), .val (.int qg), .val (.int qq0), .val (.int (qn &&& (7 : Int32))), .val (.int nr), .val (.int ((qn >>> ((4 : Int32) &&& 31)) &&& (3 : Int32))), .val (.int (qs &&& (15 : Int32))), .val (.int (qt &&& (15 : Int32))), .val (.int qq), .val (.ref b3), .val (.int (0 : Int32))] []))
            refine Go.step (fun _ k => XS.aload X30.here hx rfl (hb hby at_136) rfl rfl  k) ?_
            show Go _ _ _ _ _ _ _ (T30.setTop (mkF m 138 #[.val (.int qn), .val (.int qs), .val (.int qh), .val (.int qt), .val (.int qg), .val (.int qq0), .val (.int (qn &&& (7 : Int32))), .val (.int nr), .val (.int ((qn >>> ((4 : Int32) &&& 31)) &&& (3 : Int32))), .val (.int (qs &&& (15 : Int32))), .val (.int (qt &&& (15 : Int32))), .val (.int qq), .val (.ref b3), .val (.int (0 : Int32))] [(.ref b3)]))
            refine Go.step (fun _ k => XS.iload X30.here hx rfl (hb hby at_138) rfl  k) ?_
            show Go _ _ _ _ _ _ _ (T30.setTop (mkF m 140 #[.val (.int qn), .val (.int qs), .val (.int qh), .val (.int qt), .val (.int qg), .val (.int qq0), .val (.int (qn &&& (7 : Int32))), .val (.int nr), .val (.int ((qn >>> ((4 : Int32) &&& 31)) &&& (3 : Int32))), .val (.int (qs &&& (15 : Int32))), .val (.int (qt &&& (15 : Int32))), .val (.int qq), .val (.ref b3), .val (.int (0 : Int32))] [(.int qq), (.ref b3)]))
            have pq35 : ¬ qq < 0 := hqq
            obtain ⟨cq36, kq36, q36a, q36b, q36c⟩ := isOf hZ rfl c30_0
            obtain ⟨_, _, ⟨T36, L36, k36, n36⟩, -, X36, ⟨Lc36, hQ36, l36, y36, z36⟩, st36⟩ := X30.virtualBack hx (y := (⟨"com/example/steward/steward/timeordered/SequenceTable", "hour", "(I)I"⟩ : MethodName)) (z := (⟨"com/example/steward/steward/timeordered/SequenceTable", "hour", "(I)I"⟩ : MethodName)) hown (mvT hZ (hw _ (List.mem_of_getElem? (i := 18) rfl))) (mvT hZ (hw _ (List.mem_of_getElem? (i := 19) rfl))) (notFace_of_selects (args := #[]) (mvT hZ (hw _ (List.mem_of_getElem? (i := 21) rfl)))) (mvT hZ (hw _ (List.mem_of_getElem? (i := 21) rfl))) (mvT hZ (hw _ (List.mem_of_getElem? (i := 20) rfl))) (by decide) (backOf (W := 0) (rm3 l Z aZ hw [] b3 qq b2_30 z2_30 f2_30 T30.heap n0 z31 c30_1 c30_4 pq35) hZ (hw _ (List.mem_of_getElem? (i := 22) rfl)) (hw _ (List.mem_of_getElem? (i := 3) rfl)) (by decide) (by decide)) q36a q36c (g := (mkF m 140 #[.val (.int qn), .val (.int qs), .val (.int qh), .val (.int qt), .val (.int qg), .val (.int qq0), .val (.int (qn &&& (7 : Int32))), .val (.int nr), .val (.int ((qn >>> ((4 : Int32) &&& 31)) &&& (3 : Int32))), .val (.int (qs &&& (15 : Int32))), .val (.int (qt &&& (15 : Int32))), .val (.int qq), .val (.ref b3), .val (.int (0 : Int32))] [(.int qq), (.ref b3)])) rfl (by rw [hml]; rfl) (Steps.refl _) (argsL := [(.int qq)]) (rest := []) (lenOf pd_3 rfl) rfl (by show 2 * 0 + _ ≤ _; exact Nat.le_of_eq rfl) (hb hby at_140) (fun _ _ => ⟨rfl, rfl, (by decide : 3 + 0 ≤ _), (by decide : 40 + 0 ≤ _)⟩)
            dsimp only [Pt.U, Pt.locs, Pt.cells, Pt.slots] at X36 l36 y36 z36 st36 hQ36
            subst l36 y36 z36
            obtain ⟨rfl, Nq36, e36⟩ := hQ36
            have N36 := Fr.app N30 Nq36
            refine Go.tr st36 ?_
            show Go _ _ _ _ _ _ _ (T36.setTop (mkF m 143 #[.val (.int qn), .val (.int qs), .val (.int qh), .val (.int qt), .val (.int qg), .val (.int qq0), .val (.int (qn &&& (7 : Int32))), .val (.int nr), .val (.int ((qn >>> ((4 : Int32) &&& 31)) &&& (3 : Int32))), .val (.int (qs &&& (15 : Int32))), .val (.int (qt &&& (15 : Int32))), .val (.int qq), .val (.ref b3), .val (.int (0 : Int32))] [(.int (if qq < z2_30 then (f2_30 qq) else (0 : Int32)))]))
            refine Go.step (fun _ k => XS.iload X36.here hx rfl (hb hby at_143) rfl  k) ?_
            show Go _ _ _ _ _ _ _ (T36.setTop (mkF m 145 #[.val (.int qn), .val (.int qs), .val (.int qh), .val (.int qt), .val (.int qg), .val (.int qq0), .val (.int (qn &&& (7 : Int32))), .val (.int nr), .val (.int ((qn >>> ((4 : Int32) &&& 31)) &&& (3 : Int32))), .val (.int (qs &&& (15 : Int32))), .val (.int (qt &&& (15 : Int32))), .val (.int qq), .val (.ref b3), .val (.int (0 : Int32))] [(.int (0 : Int32)), (.int (if qq < z2_30 then (f2_30 qq) else (0 : Int32)))]))
            have hc145 : (if qq < z2_30 then (f2_30 qq) else (0 : Int32)) = (0 : Int32) := by
              rw [u30_1 qq hqq, if_neg hc113]
              exact ite_self _
            refine Go.step (fun _ k => XS.icmpNo X36.here hx rfl (hb hby at_145) rfl (teq hc145).2 k) ?_
            show Go _ _ _ _ _ _ _ (T36.setTop (mkF m 148 #[.val (.int qn), .val (.int qs), .val (.int qh), .val (.int qt), .val (.int qg), .val (.int qq0), .val (.int (qn &&& (7 : Int32))), .val (.int nr), .val (.int ((qn >>> ((4 : Int32) &&& 31)) &&& (3 : Int32))), .val (.int (qs &&& (15 : Int32))), .val (.int (qt &&& (15 : Int32))), .val (.int qq), .val (.ref b3), .val (.int (0 : Int32))] []))
            refine Go.step (fun _ k => XS.iconst X36.here hx rfl (hb hby at_148) k) ?_
            show Go _ _ _ _ _ _ _ (T36.setTop (mkF m 149 #[.val (.int qn), .val (.int qs), .val (.int qh), .val (.int qt), .val (.int qg), .val (.int qq0), .val (.int (qn &&& (7 : Int32))), .val (.int nr), .val (.int ((qn >>> ((4 : Int32) &&& 31)) &&& (3 : Int32))), .val (.int (qs &&& (15 : Int32))), .val (.int (qt &&& (15 : Int32))), .val (.int qq), .val (.ref b3), .val (.int (0 : Int32))] [(.int (1 : Int32))]))
            refine Go.step (fun _ k => XS.goto X36.here hx rfl (pc0 := 149) (pc' := 153) rfl (hb hby at_149) (by decide) (by decide) k) ?_
            show Go _ _ _ _ _ _ _ (T36.setTop (mkF m 153 #[.val (.int qn), .val (.int qs), .val (.int qh), .val (.int qt), .val (.int qg), .val (.int qq0), .val (.int (qn &&& (7 : Int32))), .val (.int nr), .val (.int ((qn >>> ((4 : Int32) &&& 31)) &&& (3 : Int32))), .val (.int (qs &&& (15 : Int32))), .val (.int (qt &&& (15 : Int32))), .val (.int qq), .val (.ref b3), .val (.int (0 : Int32))] [(.int (1 : Int32))]))
            refine Go.retN X36 hx (t := .boolean) Bd.returns (by simp) hlk (hb hby at_153) ?_ (by decide) (by decide)
            rw [e36]
            exact ⟨(by first | rfl | (simp_all [own_nb1, own_nb0]; done)), N36⟩
        · skip
          refine Go.step (fun _ k => XS.icmpNo X30.here hx rfl (hb hby at_88) rfl (flt hc88).1 k) ?_
          show Go _ _ _ _ _ _ _ (T30.setTop (mkF m 91 #[.val (.int qn), .val (.int qs), .val (.int qh), .val (.int qt), .val (.int qg), .val (.int qq0), .val (.int (qn &&& (7 : Int32))), .val (.int nr), .val (.int ((qn >>> ((4 : Int32) &&& 31)) &&& (3 : Int32))), .val (.int (qs &&& (15 : Int32))), .val (.int (qt &&& (15 : Int32))), .val (.int qq), .val (.ref b3), .unset] []))
          refine Go.step (fun _ k => XS.aload X30.here hx rfl (hb hby at_91) rfl rfl  k) ?_
          show Go _ _ _ _ _ _ _ (T30.setTop (mkF m 93 #[.val (.int qn), .val (.int qs), .val (.int qh), .val (.int qt), .val (.int qg), .val (.int qq0), .val (.int (qn &&& (7 : Int32))), .val (.int nr), .val (.int ((qn >>> ((4 : Int32) &&& 31)) &&& (3 : Int32))), .val (.int (qs &&& (15 : Int32))), .val (.int (qt &&& (15 : Int32))), .val (.int qq), .val (.ref b3), .unset] [(.ref b3)]))
          refine Go.step (fun _ k => XS.iload X30.here hx rfl (hb hby at_93) rfl  k) ?_
          show Go _ _ _ _ _ _ _ (T30.setTop (mkF m 95 #[.val (.int qn), .val (.int qs), .val (.int qh), .val (.int qt), .val (.int qg), .val (.int qq0), .val (.int (qn &&& (7 : Int32))), .val (.int nr), .val (.int ((qn >>> ((4 : Int32) &&& 31)) &&& (3 : Int32))), .val (.int (qs &&& (15 : Int32))), .val (.int (qt &&& (15 : Int32))), .val (.int qq), .val (.ref b3), .unset] [(.int (qt &&& (15 : Int32))), (.ref b3)]))
          refine Go.step (fun _ k => XS.iload X30.here hx rfl (hb hby at_95) rfl  k) ?_
          show Go _ _ _ _ _ _ _ (T30.setTop (mkF m 97 #[.val (.int qn), .val (.int qs), .val (.int qh), .val (.int qt), .val (.int qg), .val (.int qq0), .val (.int (qn &&& (7 : Int32))), .val (.int nr), .val (.int ((qn >>> ((4 : Int32) &&& 31)) &&& (3 : Int32))), .val (.int (qs &&& (15 : Int32))), .val (.int (qt &&& (15 : Int32))), .val (.int qq), .val (.ref b3), .unset] [(.int qg), (.int (qt &&& (15 : Int32))), (.ref b3)]))
          have pq37 : ¬ (qt &&& (15 : Int32)) < 0 := (own_m15 _).1
          have pq38 : ¬ (15 : Int32) < (qt &&& (15 : Int32)) := (own_m15 _).2
          have pq39 : ¬ (30 : Int32) < z2_30 := u30_0
          obtain ⟨cq40, kq40, q40a, q40b, q40c⟩ := isOf hZ rfl c30_0
          obtain ⟨_, _, ⟨T40, L40, k40, n40⟩, -, X40, ⟨Lc40, hQ40, l40, y40, z40⟩, st40⟩ := X30.virtualBack hx (y := (⟨"com/example/steward/steward/timeordered/SequenceTable", "set", "(II)V"⟩ : MethodName)) (z := (⟨"com/example/steward/steward/timeordered/SequenceTable", "set", "(II)V"⟩ : MethodName)) hown (mvT hZ (hw _ (List.mem_of_getElem? (i := 23) rfl))) (mvT hZ (hw _ (List.mem_of_getElem? (i := 24) rfl))) (notFace_of_selects (args := #[]) (mvT hZ (hw _ (List.mem_of_getElem? (i := 26) rfl)))) (mvT hZ (hw _ (List.mem_of_getElem? (i := 26) rfl))) (mvT hZ (hw _ (List.mem_of_getElem? (i := 25) rfl))) (by decide) (backOf (W := 0) (rm4 l Z aZ hw [] b3 (qt &&& (15 : Int32)) qg b2_30 z2_30 f2_30 w2_30 wc2_30 T30.heap n0 z31 c30_0 c30_1 c30_2 c30_3 c30_4 c30_5 gn3 c30_6 pq37 pq38 pq39) hZ (hw _ (List.mem_of_getElem? (i := 27) rfl)) (hw _ (List.mem_of_getElem? (i := 3) rfl)) (by decide) (by decide)) q40a q40c (g := (mkF m 97 #[.val (.int qn), .val (.int qs), .val (.int qh), .val (.int qt), .val (.int qg), .val (.int qq0), .val (.int (qn &&& (7 : Int32))), .val (.int nr), .val (.int ((qn >>> ((4 : Int32) &&& 31)) &&& (3 : Int32))), .val (.int (qs &&& (15 : Int32))), .val (.int (qt &&& (15 : Int32))), .val (.int qq), .val (.ref b3), .unset] [(.int qg), (.int (qt &&& (15 : Int32))), (.ref b3)])) rfl (by rw [hml]; rfl) (Steps.refl _) (argsL := [(.int (qt &&& (15 : Int32))), (.int qg)]) (rest := []) (lenOf pd_4 rfl) rfl (by show 2 * 0 + _ ≤ _; exact Nat.le_of_eq rfl) (hb hby at_97) (fun _ _ => ⟨rfl, rfl, (by decide : 3 + 1 ≤ _), (by decide : 40 + 30 ≤ _)⟩)
          dsimp only [Pt.U, Pt.locs, Pt.cells, Pt.slots] at X40 l40 y40 z40 st40 hQ40
          subst l40 y40 z40
          obtain ⟨b2_40, z2_40, f2_40, w2_40, wc2_40, rfl, Nq40, K40, c40_0, c40_1, c40_2, c40_3, c40_4, c40_5, c40_6, u40_0, u40_1⟩ := hQ40
          have N40 := Fr.app N30 Nq40
          refine Go.tr st40 ?_
          have z41 : n0 ≤ T40.heap.size := Nat.le_trans z31 K40.1
          have sqz41 : h0.size ≤ T40.heap.size := Nat.le_trans sqz31 K40.1
          show Go _ _ _ _ _ _ _ (T40.setTop (mkF m 100 #[.val (.int qn), .val (.int qs), .val (.int qh), .val (.int qt), .val (.int qg), .val (.int qq0), .val (.int (qn &&& (7 : Int32))), .val (.int nr), .val (.int ((qn >>> ((4 : Int32) &&& 31)) &&& (3 : Int32))), .val (.int (qs &&& (15 : Int32))), .val (.int (qt &&& (15 : Int32))), .val (.int qq), .val (.ref b3), .unset] []))
          refine Go.step (fun _ k => XS.iconst X40.here hx rfl (hb hby at_100) k) ?_
          show Go _ _ _ _ _ _ _ (T40.setTop (mkF m 101 #[.val (.int qn), .val (.int qs), .val (.int qh), .val (.int qt), .val (.int qg), .val (.int qq0), .val (.int (qn &&& (7 : Int32))), .val (.int nr), .val (.int ((qn >>> ((4 : Int32) &&& 31)) &&& (3 : Int32))), .val (.int (qs &&& (15 : Int32))), .val (.int (qt &&& (15 : Int32))), .val (.int qq), .val (.ref b3), .unset] [(.int (0 : Int32))]))
          refine Go.step (fun _ k => XS.istore X40.here hx rfl (hb hby at_101) rfl (l' := #[.val (.int qn), .val (.int qs), .val (.int qh), .val (.int qt), .val (.int qg), .val (.int qq0), .val (.int (qn &&& (7 : Int32))), .val (.int nr), .val (.int ((qn >>> ((4 : Int32) &&& 31)) &&& (3 : Int32))), .val (.int (qs &&& (15 : Int32))), .val (.int (qt &&& (15 : Int32))), .val (.int qq), .val (.ref b3), .val (.int (0 : Int32))]) rfl k) ?_
          show Go _ _ _ _ _ _ _ (T40.setTop (mkF m 103 #[.val (.int qn), .val (.int qs), .val (.int qh), .val (.int qt), .val (.int qg), .val (.int qq0), .val (.int (qn &&& (7 : Int32))), .val (.int nr), .val (.int ((qn >>> ((4 : Int32) &&& 31)) &&& (3 : Int32))), .val (.int (qs &&& (15 : Int32))), .val (.int (qt &&& (15 : Int32))), .val (.int qq), .val (.ref b3), .val (.int (0 : Int32))] []))
          refine Go.step (fun _ k => XS.iload X40.here hx rfl (hb hby at_103) rfl  k) ?_
          show Go _ _ _ _ _ _ _ (T40.setTop (mkF m 105 #[.val (.int qn), .val (.int qs), .val (.int qh), .val (.int qt), .val (.int qg), .val (.int qq0), .val (.int (qn &&& (7 : Int32))), .val (.int nr), .val (.int ((qn >>> ((4 : Int32) &&& 31)) &&& (3 : Int32))), .val (.int (qs &&& (15 : Int32))), .val (.int (qt &&& (15 : Int32))), .val (.int qq), .val (.ref b3), .val (.int (0 : Int32))] [(.int ((qn >>> ((4 : Int32) &&& 31)) &&& (3 : Int32)))]))
          refine Go.step (fun _ k => XS.iconst X40.here hx rfl (hb hby at_105) k) ?_
          show Go _ _ _ _ _ _ _ (T40.setTop (mkF m 106 #[.val (.int qn), .val (.int qs), .val (.int qh), .val (.int qt), .val (.int qg), .val (.int qq0), .val (.int (qn &&& (7 : Int32))), .val (.int nr), .val (.int ((qn >>> ((4 : Int32) &&& 31)) &&& (3 : Int32))), .val (.int (qs &&& (15 : Int32))), .val (.int (qt &&& (15 : Int32))), .val (.int qq), .val (.ref b3), .val (.int (0 : Int32))] [(.int (1 : Int32)), (.int ((qn >>> ((4 : Int32) &&& 31)) &&& (3 : Int32)))]))
          have hc106 : ¬ (((qn >>> ((4 : Int32) &&& 31)) &&& (3 : Int32)) < (1 : Int32)) := hc74
          refine Go.step (fun _ k => XS.icmpNo X40.here hx rfl (hb hby at_106) rfl (flt hc106).1 k) ?_
          show Go _ _ _ _ _ _ _ (T40.setTop (mkF m 109 #[.val (.int qn), .val (.int qs), .val (.int qh), .val (.int qt), .val (.int qg), .val (.int qq0), .val (.int (qn &&& (7 : Int32))), .val (.int nr), .val (.int ((qn >>> ((4 : Int32) &&& 31)) &&& (3 : Int32))), .val (.int (qs &&& (15 : Int32))), .val (.int (qt &&& (15 : Int32))), .val (.int qq), .val (.ref b3), .val (.int (0 : Int32))] []))
          refine Go.step (fun _ k => XS.iload X40.here hx rfl (hb hby at_109) rfl  k) ?_
          show Go _ _ _ _ _ _ _ (T40.setTop (mkF m 111 #[.val (.int qn), .val (.int qs), .val (.int qh), .val (.int qt), .val (.int qg), .val (.int qq0), .val (.int (qn &&& (7 : Int32))), .val (.int nr), .val (.int ((qn >>> ((4 : Int32) &&& 31)) &&& (3 : Int32))), .val (.int (qs &&& (15 : Int32))), .val (.int (qt &&& (15 : Int32))), .val (.int qq), .val (.ref b3), .val (.int (0 : Int32))] [(.int qq)]))
          refine Go.step (fun _ k => XS.iload X40.here hx rfl (hb hby at_111) rfl  k) ?_
          show Go _ _ _ _ _ _ _ (T40.setTop (mkF m 113 #[.val (.int qn), .val (.int qs), .val (.int qh), .val (.int qt), .val (.int qg), .val (.int qq0), .val (.int (qn &&& (7 : Int32))), .val (.int nr), .val (.int ((qn >>> ((4 : Int32) &&& 31)) &&& (3 : Int32))), .val (.int (qs &&& (15 : Int32))), .val (.int (qt &&& (15 : Int32))), .val (.int qq), .val (.ref b3), .val (.int (0 : Int32))] [(.int (qs &&& (15 : Int32))), (.int qq)]))
          by_cases hc113 : qq = (qs &&& (15 : Int32))
          · skip
            refine Go.step (fun _ k => XS.icmpNo X40.here hx rfl (hb hby at_113) rfl (teq hc113).2 k) ?_
            show Go _ _ _ _ _ _ _ (T40.setTop (mkF m 116 #[.val (.int qn), .val (.int qs), .val (.int qh), .val (.int qt), .val (.int qg), .val (.int qq0), .val (.int (qn &&& (7 : Int32))), .val (.int nr), .val (.int ((qn >>> ((4 : Int32) &&& 31)) &&& (3 : Int32))), .val (.int (qs &&& (15 : Int32))), .val (.int (qt &&& (15 : Int32))), .val (.int qq), .val (.ref b3), .val (.int (0 : Int32))] []))
            refine Go.step (fun _ k => XS.iloadN X40.here hx rfl (hb hby at_116) rfl  k) ?_
            show Go _ _ _ _ _ _ _ (T40.setTop (mkF m 117 #[.val (.int qn), .val (.int qs), .val (.int qh), .val (.int qt), .val (.int qg), .val (.int qq0), .val (.int (qn &&& (7 : Int32))), .val (.int nr), .val (.int ((qn >>> ((4 : Int32) &&& 31)) &&& (3 : Int32))), .val (.int (qs &&& (15 : Int32))), .val (.int (qt &&& (15 : Int32))), .val (.int qq), .val (.ref b3), .val (.int (0 : Int32))] [(.int qh)]))
            refine Go.step (fun _ k => XS.istore X40.here hx rfl (hb hby at_117) rfl (l' := #[.val (.int qn), .val (.int qs), .val (.int qh), .val (.int qt), .val (.int qg), .val (.int qq0), .val (.int (qn &&& (7 : Int32))), .val (.int nr), .val (.int ((qn >>> ((4 : Int32) &&& 31)) &&& (3 : Int32))), .val (.int (qs &&& (15 : Int32))), .val (.int (qt &&& (15 : Int32))), .val (.int qq), .val (.ref b3), .val (.int qh)]) rfl k) ?_
            show Go _ _ _ _ _ _ _ (T40.setTop (mkF m 119 #[.val (.int qn), .val (.int qs), .val (.int qh), .val (.int qt), .val (.int qg), .val (.int qq0), .val (.int (qn &&& (7 : Int32))), .val (.int nr), .val (.int ((qn >>> ((4 : Int32) &&& 31)) &&& (3 : Int32))), .val (.int (qs &&& (15 : Int32))), .val (.int (qt &&& (15 : Int32))), .val (.int qq), .val (.ref b3), .val (.int qh)] []))
            refine Go.step (fun _ k => XS.iload X40.here hx rfl (hb hby at_119) rfl  k) ?_
            show Go _ _ _ _ _ _ _ (T40.setTop (mkF m 121 #[.val (.int qn), .val (.int qs), .val (.int qh), .val (.int qt), .val (.int qg), .val (.int qq0), .val (.int (qn &&& (7 : Int32))), .val (.int nr), .val (.int ((qn >>> ((4 : Int32) &&& 31)) &&& (3 : Int32))), .val (.int (qs &&& (15 : Int32))), .val (.int (qt &&& (15 : Int32))), .val (.int qq), .val (.ref b3), .val (.int qh)] [(.int ((qn >>> ((4 : Int32) &&& 31)) &&& (3 : Int32)))]))
            refine Go.step (fun _ k => XS.iconst X40.here hx rfl (hb hby at_121) k) ?_
            show Go _ _ _ _ _ _ _ (T40.setTop (mkF m 122 #[.val (.int qn), .val (.int qs), .val (.int qh), .val (.int qt), .val (.int qg), .val (.int qq0), .val (.int (qn &&& (7 : Int32))), .val (.int nr), .val (.int ((qn >>> ((4 : Int32) &&& 31)) &&& (3 : Int32))), .val (.int (qs &&& (15 : Int32))), .val (.int (qt &&& (15 : Int32))), .val (.int qq), .val (.ref b3), .val (.int qh)] [(.int (2 : Int32)), (.int ((qn >>> ((4 : Int32) &&& 31)) &&& (3 : Int32)))]))
            have hc122 : ¬ (((qn >>> ((4 : Int32) &&& 31)) &&& (3 : Int32)) < (2 : Int32)) := hc88
            refine Go.step (fun _ k => XS.icmpNo X40.here hx rfl (hb hby at_122) rfl (flt hc122).1 k) ?_
            show Go _ _ _ _ _ _ _ (T40.setTop (mkF m 125 #[.val (.int qn), .val (.int qs), .val (.int qh), .val (.int qt), .val (.int qg), .val (.int qq0), .val (.int (qn &&& (7 : Int32))), .val (.int nr), .val (.int ((qn >>> ((4 : Int32) &&& 31)) &&& (3 : Int32))), .val (.int (qs &&& (15 : Int32))), .val (.int (qt &&& (15 : Int32))), .val (.int qq), .val (.ref b3), .val (.int qh)] []))
            refine Go.step (fun _ k => XS.iload X40.here hx rfl (hb hby at_125) rfl  k) ?_
            show Go _ _ _ _ _ _ _ (T40.setTop (mkF m 127 #[.val (.int qn), .val (.int qs), .val (.int qh), .val (.int qt), .val (.int qg), .val (.int qq0), .val (.int (qn &&& (7 : Int32))), .val (.int nr), .val (.int ((qn >>> ((4 : Int32) &&& 31)) &&& (3 : Int32))), .val (.int (qs &&& (15 : Int32))), .val (.int (qt &&& (15 : Int32))), .val (.int qq), .val (.ref b3), .val (.int qh)] [(.int qq)]))
            refine Go.step (fun _ k => XS.iload X40.here hx rfl (hb hby at_127) rfl  k) ?_
            show Go _ _ _ _ _ _ _ (T40.setTop (mkF m 129 #[.val (.int qn), .val (.int qs), .val (.int qh), .val (.int qt), .val (.int qg), .val (.int qq0), .val (.int (qn &&& (7 : Int32))), .val (.int nr), .val (.int ((qn >>> ((4 : Int32) &&& 31)) &&& (3 : Int32))), .val (.int (qs &&& (15 : Int32))), .val (.int (qt &&& (15 : Int32))), .val (.int qq), .val (.ref b3), .val (.int qh)] [(.int (qt &&& (15 : Int32))), (.int qq)]))
            by_cases hc129 : qq = (qt &&& (15 : Int32))
            · skip
              refine Go.step (fun _ k => XS.icmpNo X40.here hx rfl (hb hby at_129) rfl (teq hc129).2 k) ?_
              show Go _ _ _ _ _ _ _ (T40.setTop (mkF m 132 #[.val (.int qn), .val (.int qs), .val (.int qh), .val (.int qt), .val (.int qg), .val (.int qq0), .val (.int (qn &&& (7 : Int32))), .val (.int nr), .val (.int ((qn >>> ((4 : Int32) &&& 31)) &&& (3 : Int32))), .val (.int (qs &&& (15 : Int32))), .val (.int (qt &&& (15 : Int32))), .val (.int qq), .val (.ref b3), .val (.int qh)] []))
              refine Go.step (fun _ k => XS.iload X40.here hx rfl (hb hby at_132) rfl  k) ?_
              show Go _ _ _ _ _ _ _ (T40.setTop (mkF m 134 #[.val (.int qn), .val (.int qs), .val (.int qh), .val (.int qt), .val (.int qg), .val (.int qq0), .val (.int (qn &&& (7 : Int32))), .val (.int nr), .val (.int ((qn >>> ((4 : Int32) &&& 31)) &&& (3 : Int32))), .val (.int (qs &&& (15 : Int32))), .val (.int (qt &&& (15 : Int32))), .val (.int qq), .val (.ref b3), .val (.int qh)] [(.int qg)]))
              refine Go.step (fun _ k => XS.istore X40.here hx rfl (hb hby at_134) rfl (l' := #[.val (.int qn), .val (.int qs), .val (.int qh), .val (.int qt), .val (.int qg), .val (.int qq0), .val (.int (qn &&& (7 : Int32))), .val (.int nr), .val (.int ((qn >>> ((4 : Int32) &&& 31)) &&& (3 : Int32))), .val (.int (qs &&& (15 : Int32))), .val (.int (qt &&& (15 : Int32))), .val (.int qq), .val (.ref b3), .val (.int qg)]) rfl k) ?_
              show Go _ _ _ _ _ _ _ (T40.setTop (mkF m 136 #[.val (.int qn), .val (.int qs), .val (.int qh), .val (.int qt), .val (.int qg), .val (.int qq0), .val (.int (qn &&& (7 : Int32))), .val (.int nr), .val (.int ((qn >>> ((4 : Int32) &&& 31)) &&& (3 : Int32))), .val (.int (qs &&& (15 : Int32))), .val (.int (qt &&& (15 : Int32))), .val (.int qq), .val (.ref b3), .val (.int qg)] []))
              refine Go.step (fun _ k => XS.aload X40.here hx rfl (hb hby at_136) rfl rfl  k) ?_
              show Go _ _ _ _ _ _ _ (T40.setTop (mkF m 138 #[.val (.int qn), .val (.int qs), .val (.int qh), .val (.int qt), .val (.int qg), .val (.int qq0), .val (.int (qn &&& (7 : Int32))), .val (.int nr), .val (.int ((qn >>> ((4 : Int32) &&& 31)) &&& (3 : Int32))), .val (.int (qs &&& (15 : Int32))), .val (.int (qt &&& (15 : Int32))), .val (.int qq), .val (.ref b3), .val (.int qg)] [(.ref b3)]))
              refine Go.step (fun _ k => XS.iload X40.here hx rfl (hb hby at_138) rfl  k) ?_
              show Go _ _ _ _ _ _ _ (T40.setTop (mkF m 140 #[.val (.int qn), .val (.int qs), .val (.int qh), .val (.int qt), .val (.int qg), .val (.int qq0), .val (.int (qn &&& (7 : Int32))), .val (.int nr), .val (.int ((qn >>> ((4 : Int32) &&& 31)) &&& (3 : Int32))), .val (.int (qs &&& (15 : Int32))), .val (.int (qt &&& (15 : Int32))), .val (.int qq), .val (.ref b3), .val (.int qg)] [(.int qq), (.ref b3)]))
              have pq43 : ¬ qq < 0 := hqq
              obtain ⟨cq44, kq44, q44a, q44b, q44c⟩ := isOf hZ rfl c40_0
              obtain ⟨_, _, ⟨T44, L44, k44, n44⟩, -, X44, ⟨Lc44, hQ44, l44, y44, z44⟩, st44⟩ := X40.virtualBack hx (y := (⟨"com/example/steward/steward/timeordered/SequenceTable", "hour", "(I)I"⟩ : MethodName)) (z := (⟨"com/example/steward/steward/timeordered/SequenceTable", "hour", "(I)I"⟩ : MethodName)) hown (mvT hZ (hw _ (List.mem_of_getElem? (i := 18) rfl))) (mvT hZ (hw _ (List.mem_of_getElem? (i := 19) rfl))) (notFace_of_selects (args := #[]) (mvT hZ (hw _ (List.mem_of_getElem? (i := 21) rfl)))) (mvT hZ (hw _ (List.mem_of_getElem? (i := 21) rfl))) (mvT hZ (hw _ (List.mem_of_getElem? (i := 20) rfl))) (by decide) (backOf (W := 0) (rm3 l Z aZ hw [] b3 qq b2_40 z2_40 f2_40 T40.heap n0 z41 c40_1 c40_4 pq43) hZ (hw _ (List.mem_of_getElem? (i := 22) rfl)) (hw _ (List.mem_of_getElem? (i := 3) rfl)) (by decide) (by decide)) q44a q44c (g := (mkF m 140 #[.val (.int qn), .val (.int qs), .val (.int qh), .val (.int qt), .val (.int qg), .val (.int qq0), .val (.int (qn &&& (7 : Int32))), .val (.int nr), .val (.int ((qn >>> ((4 : Int32) &&& 31)) &&& (3 : Int32))), .val (.int (qs &&& (15 : Int32))), .val (.int (qt &&& (15 : Int32))), .val (.int qq), .val (.ref b3), .val (.int qg)] [(.int qq), (.ref b3)])) rfl (by rw [hml]; rfl) (Steps.refl _) (argsL := [(.int qq)]) (rest := []) (lenOf pd_3 rfl) rfl (by show 2 * 0 + _ ≤ _; exact Nat.le_of_eq rfl) (hb hby at_140) (fun _ _ => ⟨rfl, rfl, (by decide : 4 + 0 ≤ _), (by decide : 70 + 0 ≤ _)⟩)
              dsimp only [Pt.U, Pt.locs, Pt.cells, Pt.slots] at X44 l44 y44 z44 st44 hQ44
              subst l44 y44 z44
              obtain ⟨rfl, Nq44, e44⟩ := hQ44
              have N44 := Fr.app N40 Nq44
              refine Go.tr st44 ?_
              show Go _ _ _ _ _ _ _ (T44.setTop (mkF m 143 #[.val (.int qn), .val (.int qs), .val (.int qh), .val (.int qt), .val (.int qg), .val (.int qq0), .val (.int (qn &&& (7 : Int32))), .val (.int nr), .val (.int ((qn >>> ((4 : Int32) &&& 31)) &&& (3 : Int32))), .val (.int (qs &&& (15 : Int32))), .val (.int (qt &&& (15 : Int32))), .val (.int qq), .val (.ref b3), .val (.int qg)] [(.int (if qq < z2_40 then (f2_40 qq) else (0 : Int32)))]))
              refine Go.step (fun _ k => XS.iload X44.here hx rfl (hb hby at_143) rfl  k) ?_
              show Go _ _ _ _ _ _ _ (T44.setTop (mkF m 145 #[.val (.int qn), .val (.int qs), .val (.int qh), .val (.int qt), .val (.int qg), .val (.int qq0), .val (.int (qn &&& (7 : Int32))), .val (.int nr), .val (.int ((qn >>> ((4 : Int32) &&& 31)) &&& (3 : Int32))), .val (.int (qs &&& (15 : Int32))), .val (.int (qt &&& (15 : Int32))), .val (.int qq), .val (.ref b3), .val (.int qg)] [(.int qg), (.int (if qq < z2_40 then (f2_40 qq) else (0 : Int32)))]))
              have hc145 : (if qq < z2_40 then (f2_40 qq) else (0 : Int32)) = qg := by
                rw [u40_1 qq hqq, u30_1 qq hqq, if_pos hc129]
                
              refine Go.step (fun _ k => XS.icmpNo X44.here hx rfl (hb hby at_145) rfl (teq hc145).2 k) ?_
              show Go _ _ _ _ _ _ _ (T44.setTop (mkF m 148 #[.val (.int qn), .val (.int qs), .val (.int qh), .val (.int qt), .val (.int qg), .val (.int qq0), .val (.int (qn &&& (7 : Int32))), .val (.int nr), .val (.int ((qn >>> ((4 : Int32) &&& 31)) &&& (3 : Int32))), .val (.int (qs &&& (15 : Int32))), .val (.int (qt &&& (15 : Int32))), .val (.int qq), .val (.ref b3), .val (.int qg)] []))
              refine Go.step (fun _ k => XS.iconst X44.here hx rfl (hb hby at_148) k) ?_
              show Go _ _ _ _ _ _ _ (T44.setTop (mkF m 149 #[.val (.int qn), .val (.int qs), .val (.int qh), .val (.int qt), .val (.int qg), .val (.int qq0), .val (.int (qn &&& (7 : Int32))), .val (.int nr), .val (.int ((qn >>> ((4 : Int32) &&& 31)) &&& (3 : Int32))), .val (.int (qs &&& (15 : Int32))), .val (.int (qt &&& (15 : Int32))), .val (.int qq), .val (.ref b3), .val (.int qg)] [(.int (1 : Int32))]))
              refine Go.step (fun _ k => XS.goto X44.here hx rfl (pc0 := 149) (pc' := 153) rfl (hb hby at_149) (by decide) (by decide) k) ?_
              show Go _ _ _ _ _ _ _ (T44.setTop (mkF m 153 #[.val (.int qn), .val (.int qs), .val (.int qh), .val (.int qt), .val (.int qg), .val (.int qq0), .val (.int (qn &&& (7 : Int32))), .val (.int nr), .val (.int ((qn >>> ((4 : Int32) &&& 31)) &&& (3 : Int32))), .val (.int (qs &&& (15 : Int32))), .val (.int (qt &&& (15 : Int32))), .val (.int qq), .val (.ref b3), .val (.int qg)] [(.int (1 : Int32))]))
              refine Go.retN X44 hx (t := .boolean) Bd.returns (by simp) hlk (hb hby at_153) ?_ (by decide) (by decide)
              rw [e44]
              exact ⟨(by first | rfl | (simp_all [own_nb1, own_nb0]; done)), N44⟩
            · skip
              refine Go.step (fun _ k => XS.icmpYes X40.here hx rfl (pc0 := 129) (pc' := 136) rfl (hb hby at_129) rfl (feq hc129).2 (by decide) (by decide) k) ?_
              show Go _ _ _ _ _ _ _ (T40.setTop (mkF m 136 #[.val (.int qn), .val (.int qs), .val (.int qh), .val (.int qt), .val (.int qg), .val (.int qq0), .val (.int (qn &&& (7 : Int32))), .val (.int nr), .val (.int ((qn >>> ((4 : Int32) &&& 31)) &&& (3 : Int32))), .val (.int (qs &&& (15 : Int32))), .val (.int (qt &&& (15 : Int32))), .val (.int qq), .val (.ref b3), .val (.int qh)] []))
              refine Go.step (fun _ k => XS.aload X40.here hx rfl (hb hby at_136) rfl rfl  k) ?_
              show Go _ _ _ _ _ _ _ (T40.setTop (mkF m 138 #[.val (.int qn), .val (.int qs), .val (.int qh), .val (.int qt), .val (.int qg), .val (.int qq0), .val (.int (qn &&& (7 : Int32))), .val (.int nr), .val (.int ((qn >>> ((4 : Int32) &&& 31)) &&& (3 : Int32))), .val (.int (qs &&& (15 : Int32))), .val (.int (qt &&& (15 : Int32))), .val (.int qq), .val (.ref b3), .val (.int qh)] [(.ref b3)]))
              refine Go.step (fun _ k => XS.iload X40.here hx rfl (hb hby at_138) rfl  k) ?_
              show Go _ _ _ _ _ _ _ (T40.setTop (mkF m 140 #[.val (.int qn), .val (.int qs), .val (.int qh), .val (.int qt), .val (.int qg), .val (.int qq0), .val (.int (qn &&& (7 : Int32))), .val (.int nr), .val (.int ((qn >>> ((4 : Int32) &&& 31)) &&& (3 : Int32))), .val (.int (qs &&& (15 : Int32))), .val (.int (qt &&& (15 : Int32))), .val (.int qq), .val (.ref b3), .val (.int qh)] [(.int qq), (.ref b3)]))
              have pq45 : ¬ qq < 0 := hqq
              obtain ⟨cq46, kq46, q46a, q46b, q46c⟩ := isOf hZ rfl c40_0
              obtain ⟨_, _, ⟨T46, L46, k46, n46⟩, -, X46, ⟨Lc46, hQ46, l46, y46, z46⟩, st46⟩ := X40.virtualBack hx (y := (⟨"com/example/steward/steward/timeordered/SequenceTable", "hour", "(I)I"⟩ : MethodName)) (z := (⟨"com/example/steward/steward/timeordered/SequenceTable", "hour", "(I)I"⟩ : MethodName)) hown (mvT hZ (hw _ (List.mem_of_getElem? (i := 18) rfl))) (mvT hZ (hw _ (List.mem_of_getElem? (i := 19) rfl))) (notFace_of_selects (args := #[]) (mvT hZ (hw _ (List.mem_of_getElem? (i := 21) rfl)))) (mvT hZ (hw _ (List.mem_of_getElem? (i := 21) rfl))) (mvT hZ (hw _ (List.mem_of_getElem? (i := 20) rfl))) (by decide) (backOf (W := 0) (rm3 l Z aZ hw [] b3 qq b2_40 z2_40 f2_40 T40.heap n0 z41 c40_1 c40_4 pq45) hZ (hw _ (List.mem_of_getElem? (i := 22) rfl)) (hw _ (List.mem_of_getElem? (i := 3) rfl)) (by decide) (by decide)) q46a q46c (g := (mkF m 140 #[.val (.int qn), .val (.int qs), .val (.int qh), .val (.int qt), .val (.int qg), .val (.int qq0), .val (.int (qn &&& (7 : Int32))), .val (.int nr), .val (.int ((qn >>> ((4 : Int32) &&& 31)) &&& (3 : Int32))), .val (.int (qs &&& (15 : Int32))), .val (.int (qt &&& (15 : Int32))), .val (.int qq), .val (.ref b3), .val (.int qh)] [(.int qq), (.ref b3)])) rfl (by rw [hml]; rfl) (Steps.refl _) (argsL := [(.int qq)]) (rest := []) (lenOf pd_3 rfl) rfl (by show 2 * 0 + _ ≤ _; exact Nat.le_of_eq rfl) (hb hby at_140) (fun _ _ => ⟨rfl, rfl, (by decide : 4 + 0 ≤ _), (by decide : 70 + 0 ≤ _)⟩)
              dsimp only [Pt.U, Pt.locs, Pt.cells, Pt.slots] at X46 l46 y46 z46 st46 hQ46
              subst l46 y46 z46
              obtain ⟨rfl, Nq46, e46⟩ := hQ46
              have N46 := Fr.app N40 Nq46
              refine Go.tr st46 ?_
              show Go _ _ _ _ _ _ _ (T46.setTop (mkF m 143 #[.val (.int qn), .val (.int qs), .val (.int qh), .val (.int qt), .val (.int qg), .val (.int qq0), .val (.int (qn &&& (7 : Int32))), .val (.int nr), .val (.int ((qn >>> ((4 : Int32) &&& 31)) &&& (3 : Int32))), .val (.int (qs &&& (15 : Int32))), .val (.int (qt &&& (15 : Int32))), .val (.int qq), .val (.ref b3), .val (.int qh)] [(.int (if qq < z2_40 then (f2_40 qq) else (0 : Int32)))]))
              refine Go.step (fun _ k => XS.iload X46.here hx rfl (hb hby at_143) rfl  k) ?_
              show Go _ _ _ _ _ _ _ (T46.setTop (mkF m 145 #[.val (.int qn), .val (.int qs), .val (.int qh), .val (.int qt), .val (.int qg), .val (.int qq0), .val (.int (qn &&& (7 : Int32))), .val (.int nr), .val (.int ((qn >>> ((4 : Int32) &&& 31)) &&& (3 : Int32))), .val (.int (qs &&& (15 : Int32))), .val (.int (qt &&& (15 : Int32))), .val (.int qq), .val (.ref b3), .val (.int qh)] [(.int qh), (.int (if qq < z2_40 then (f2_40 qq) else (0 : Int32)))]))
              have hc145 : (if qq < z2_40 then (f2_40 qq) else (0 : Int32)) = qh := by
                rw [u40_1 qq hqq, u30_1 qq hqq, if_neg hc129, if_pos hc113]
                
              refine Go.step (fun _ k => XS.icmpNo X46.here hx rfl (hb hby at_145) rfl (teq hc145).2 k) ?_
              show Go _ _ _ _ _ _ _ (T46.setTop (mkF m 148 #[.val (.int qn), .val (.int qs), .val (.int qh), .val (.int qt), .val (.int qg), .val (.int qq0), .val (.int (qn &&& (7 : Int32))), .val (.int nr), .val (.int ((qn >>> ((4 : Int32) &&& 31)) &&& (3 : Int32))), .val (.int (qs &&& (15 : Int32))), .val (.int (qt &&& (15 : Int32))), .val (.int qq), .val (.ref b3), .val (.int qh)] []))
              refine Go.step (fun _ k => XS.iconst X46.here hx rfl (hb hby at_148) k) ?_
              show Go _ _ _ _ _ _ _ (T46.setTop (mkF m 149 #[.val (.int qn), .val (.int qs), .val (.int qh), .val (.int qt), .val (.int qg), .val (.int qq0), .val (.int (qn &&& (7 : Int32))), .val (.int nr), .val (.int ((qn >>> ((4 : Int32) &&& 31)) &&& (3 : Int32))), .val (.int (qs &&& (15 : Int32))), .val (.int (qt &&& (15 : Int32))), .val (.int qq), .val (.ref b3), .val (.int qh)] [(.int (1 : Int32))]))
              refine Go.step (fun _ k => XS.goto X46.here hx rfl (pc0 := 149) (pc' := 153) rfl (hb hby at_149) (by decide) (by decide) k) ?_
              show Go _ _ _ _ _ _ _ (T46.setTop (mkF m 153 #[.val (.int qn), .val (.int qs), .val (.int qh), .val (.int qt), .val (.int qg), .val (.int qq0), .val (.int (qn &&& (7 : Int32))), .val (.int nr), .val (.int ((qn >>> ((4 : Int32) &&& 31)) &&& (3 : Int32))), .val (.int (qs &&& (15 : Int32))), .val (.int (qt &&& (15 : Int32))), .val (.int qq), .val (.ref b3), .val (.int qh)] [(.int (1 : Int32))]))
              refine Go.retN X46 hx (t := .boolean) Bd.returns (by simp) hlk (hb hby at_153) ?_ (by decide) (by decide)
              rw [e46]
              exact ⟨(by first | rfl | (simp_all [own_nb1, own_nb0]; done)), N46⟩
          · skip
            refine Go.step (fun _ k => XS.icmpYes X40.here hx rfl (pc0 := 113) (pc' := 119) rfl (hb hby at_113) rfl (feq hc113).2 (by decide) (by decide) k) ?_
            show Go _ _ _ _ _ _ _ (T40.setTop (mkF m 119 #[.val (.int qn), .val (.int qs), .val (.int qh), .val (.int qt), .val (.int qg), .val (.int qq0), .val (.int (qn &&& (7 : Int32))), .val (.int nr), .val (.int ((qn >>> ((4 : Int32) &&& 31)) &&& (3 : Int32))), .val (.int (qs &&& (15 : Int32))), .val (.int (qt &&& (15 : Int32))), .val (.int qq), .val (.ref b3), .val (.int (0 : Int32))] []))
            refine Go.step (fun _ k => XS.iload X40.here hx rfl (hb hby at_119) rfl  k) ?_
            show Go _ _ _ _ _ _ _ (T40.setTop (mkF m 121 #[.val (.int qn), .val (.int qs), .val (.int qh), .val (.int qt), .val (.int qg), .val (.int qq0), .val (.int (qn &&& (7 : Int32))), .val (.int nr), .val (.int ((qn >>> ((4 : Int32) &&& 31)) &&& (3 : Int32))), .val (.int (qs &&& (15 : Int32))), .val (.int (qt &&& (15 : Int32))), .val (.int qq), .val (.ref b3), .val (.int (0 : Int32))] [(.int ((qn >>> ((4 : Int32) &&& 31)) &&& (3 : Int32)))]))
            refine Go.step (fun _ k => XS.iconst X40.here hx rfl (hb hby at_121) k) ?_
            show Go _ _ _ _ _ _ _ (T40.setTop (mkF m 122 #[.val (.int qn), .val (.int qs), .val (.int qh), .val (.int qt), .val (.int qg), .val (.int qq0), .val (.int (qn &&& (7 : Int32))), .val (.int nr), .val (.int ((qn >>> ((4 : Int32) &&& 31)) &&& (3 : Int32))), .val (.int (qs &&& (15 : Int32))), .val (.int (qt &&& (15 : Int32))), .val (.int qq), .val (.ref b3), .val (.int (0 : Int32))] [(.int (2 : Int32)), (.int ((qn >>> ((4 : Int32) &&& 31)) &&& (3 : Int32)))]))
            have hc122 : ¬ (((qn >>> ((4 : Int32) &&& 31)) &&& (3 : Int32)) < (2 : Int32)) := hc88
            refine Go.step (fun _ k => XS.icmpNo X40.here hx rfl (hb hby at_122) rfl (flt hc122).1 k) ?_
            show Go _ _ _ _ _ _ _ (T40.setTop (mkF m 125 #[.val (.int qn), .val (.int qs), .val (.int qh), .val (.int qt), .val (.int qg), .val (.int qq0), .val (.int (qn &&& (7 : Int32))), .val (.int nr), .val (.int ((qn >>> ((4 : Int32) &&& 31)) &&& (3 : Int32))), .val (.int (qs &&& (15 : Int32))), .val (.int (qt &&& (15 : Int32))), .val (.int qq), .val (.ref b3), .val (.int (0 : Int32))] []))
            refine Go.step (fun _ k => XS.iload X40.here hx rfl (hb hby at_125) rfl  k) ?_
            show Go _ _ _ _ _ _ _ (T40.setTop (mkF m 127 #[.val (.int qn), .val (.int qs), .val (.int qh), .val (.int qt), .val (.int qg), .val (.int qq0), .val (.int (qn &&& (7 : Int32))), .val (.int nr), .val (.int ((qn >>> ((4 : Int32) &&& 31)) &&& (3 : Int32))), .val (.int (qs &&& (15 : Int32))), .val (.int (qt &&& (15 : Int32))), .val (.int qq), .val (.ref b3), .val (.int (0 : Int32))] [(.int qq)]))
            refine Go.step (fun _ k => XS.iload X40.here hx rfl (hb hby at_127) rfl  k) ?_
            show Go _ _ _ _ _ _ _ (T40.setTop (mkF m 129 #[.val (.int qn), .val (.int qs), .val (.int qh), .val (.int qt), .val (.int qg), .val (.int qq0), .val (.int (qn &&& (7 : Int32))), .val (.int nr), .val (.int ((qn >>> ((4 : Int32) &&& 31)) &&& (3 : Int32))), .val (.int (qs &&& (15 : Int32))), .val (.int (qt &&& (15 : Int32))), .val (.int qq), .val (.ref b3), .val (.int (0 : Int32))] [(.int (qt &&& (15 : Int32))), (.int qq)]))
            by_cases hc129 : qq = (qt &&& (15 : Int32))
            · skip
              refine Go.step (fun _ k => XS.icmpNo X40.here hx rfl (hb hby at_129) rfl (teq hc129).2 k) ?_
              show Go _ _ _ _ _ _ _ (T40.setTop (mkF m 132 #[.val (.int qn), .val (.int qs), .val (.int qh), .val (.int qt), .val (.int qg), .val (.int qq0), .val (.int (qn &&& (7 : Int32))), .val (.int nr), .val (.int ((qn >>> ((4 : Int32) &&& 31)) &&& (3 : Int32))), .val (.int (qs &&& (15 : Int32))), .val (.int (qt &&& (15 : Int32))), .val (.int qq), .val (.ref b3), .val (.int (0 : Int32))] []))
              refine Go.step (fun _ k => XS.iload X40.here hx rfl (hb hby at_132) rfl  k) ?_
              show Go _ _ _ _ _ _ _ (T40.setTop (mkF m 134 #[.val (.int qn), .val (.int qs), .val (.int qh), .val (.int qt), .val (.int qg), .val (.int qq0), .val (.int (qn &&& (7 : Int32))), .val (.int nr), .val (.int ((qn >>> ((4 : Int32) &&& 31)) &&& (3 : Int32))), .val (.int (qs &&& (15 : Int32))), .val (.int (qt &&& (15 : Int32))), .val (.int qq), .val (.ref b3), .val (.int (0 : Int32))] [(.int qg)]))
              refine Go.step (fun _ k => XS.istore X40.here hx rfl (hb hby at_134) rfl (l' := #[.val (.int qn), .val (.int qs), .val (.int qh), .val (.int qt), .val (.int qg), .val (.int qq0), .val (.int (qn &&& (7 : Int32))), .val (.int nr), .val (.int ((qn >>> ((4 : Int32) &&& 31)) &&& (3 : Int32))), .val (.int (qs &&& (15 : Int32))), .val (.int (qt &&& (15 : Int32))), .val (.int qq), .val (.ref b3), .val (.int qg)]) rfl k) ?_
              show Go _ _ _ _ _ _ _ (T40.setTop (mkF m 136 #[.val (.int qn), .val (.int qs), .val (.int qh), .val (.int qt), .val (.int qg), .val (.int qq0), .val (.int (qn &&& (7 : Int32))), .val (.int nr), .val (.int ((qn >>> ((4 : Int32) &&& 31)) &&& (3 : Int32))), .val (.int (qs &&& (15 : Int32))), .val (.int (qt &&& (15 : Int32))), .val (.int qq), .val (.ref b3), .val (.int qg)] []))
              refine Go.step (fun _ k => XS.aload X40.here hx rfl (hb hby at_136) rfl rfl  k) ?_
              show Go _ _ _ _ _ _ _ (T40.setTop (mkF m 138 #[.val (.int qn), .val (.int qs), .val (.int qh), .val (.int qt), .val (.int qg), .val (.int qq0), .val (.int (qn &&& (7 : Int32))), .val (.int nr), .val (.int ((qn >>> ((4 : Int32) &&& 31)) &&& (3 : Int32))), .val (.int (qs &&& (15 : Int32))), .val (.int (qt &&& (15 : Int32))), .val (.int qq), .val (.ref b3), .val (.int qg)] [(.ref b3)]))
              refine Go.step (fun _ k => XS.iload X40.here hx rfl (hb hby at_138) rfl  k) ?_
              show Go _ _ _ _ _ _ _ (T40.setTop (mkF m 140 #[.val (.int qn), .val (.int qs), .val (.int qh), .val (.int qt), .val (.int qg), .val (.int qq0), .val (.int (qn &&& (7 : Int32))), .val (.int nr), .val (.int ((qn >>> ((4 : Int32) &&& 31)) &&& (3 : Int32))), .val (.int (qs &&& (15 : Int32))), .val (.int (qt &&& (15 : Int32))), .val (.int qq), .val (.ref b3), .val (.int qg)] [(.int qq), (.ref b3)]))
              have pq47 : ¬ qq < 0 := hqq
              obtain ⟨cq48, kq48, q48a, q48b, q48c⟩ := isOf hZ rfl c40_0
              obtain ⟨_, _, ⟨T48, L48, k48, n48⟩, -, X48, ⟨Lc48, hQ48, l48, y48, z48⟩, st48⟩ := X40.virtualBack hx (y := (⟨"com/example/steward/steward/timeordered/SequenceTable", "hour", "(I)I"⟩ : MethodName)) (z := (⟨"com/example/steward/steward/timeordered/SequenceTable", "hour", "(I)I"⟩ : MethodName)) hown (mvT hZ (hw _ (List.mem_of_getElem? (i := 18) rfl))) (mvT hZ (hw _ (List.mem_of_getElem? (i := 19) rfl))) (notFace_of_selects (args := #[]) (mvT hZ (hw _ (List.mem_of_getElem? (i := 21) rfl)))) (mvT hZ (hw _ (List.mem_of_getElem? (i := 21) rfl))) (mvT hZ (hw _ (List.mem_of_getElem? (i := 20) rfl))) (by decide) (backOf (W := 0) (rm3 l Z aZ hw [] b3 qq b2_40 z2_40 f2_40 T40.heap n0 z41 c40_1 c40_4 pq47) hZ (hw _ (List.mem_of_getElem? (i := 22) rfl)) (hw _ (List.mem_of_getElem? (i := 3) rfl)) (by decide) (by decide)) q48a q48c (g := (mkF m 140 #[.val (.int qn), .val (.int qs), .val (.int qh), .val (.int qt), .val (.int qg), .val (.int qq0), .val (.int (qn &&& (7 : Int32))), .val (.int nr), .val (.int ((qn >>> ((4 : Int32) &&& 31)) &&& (3 : Int32))), .val (.int (qs &&& (15 : Int32))), .val (.int (qt &&& (15 : Int32))), .val (.int qq), .val (.ref b3), .val (.int qg)] [(.int qq), (.ref b3)])) rfl (by rw [hml]; rfl) (Steps.refl _) (argsL := [(.int qq)]) (rest := []) (lenOf pd_3 rfl) rfl (by show 2 * 0 + _ ≤ _; exact Nat.le_of_eq rfl) (hb hby at_140) (fun _ _ => ⟨rfl, rfl, (by decide : 4 + 0 ≤ _), (by decide : 70 + 0 ≤ _)⟩)
              dsimp only [Pt.U, Pt.locs, Pt.cells, Pt.slots] at X48 l48 y48 z48 st48 hQ48
              subst l48 y48 z48
              obtain ⟨rfl, Nq48, e48⟩ := hQ48
              have N48 := Fr.app N40 Nq48
              refine Go.tr st48 ?_
              show Go _ _ _ _ _ _ _ (T48.setTop (mkF m 143 #[.val (.int qn), .val (.int qs), .val (.int qh), .val (.int qt), .val (.int qg), .val (.int qq0), .val (.int (qn &&& (7 : Int32))), .val (.int nr), .val (.int ((qn >>> ((4 : Int32) &&& 31)) &&& (3 : Int32))), .val (.int (qs &&& (15 : Int32))), .val (.int (qt &&& (15 : Int32))), .val (.int qq), .val (.ref b3), .val (.int qg)] [(.int (if qq < z2_40 then (f2_40 qq) else (0 : Int32)))]))
              refine Go.step (fun _ k => XS.iload X48.here hx rfl (hb hby at_143) rfl  k) ?_
              show Go _ _ _ _ _ _ _ (T48.setTop (mkF m 145 #[.val (.int qn), .val (.int qs), .val (.int qh), .val (.int qt), .val (.int qg), .val (.int qq0), .val (.int (qn &&& (7 : Int32))), .val (.int nr), .val (.int ((qn >>> ((4 : Int32) &&& 31)) &&& (3 : Int32))), .val (.int (qs &&& (15 : Int32))), .val (.int (qt &&& (15 : Int32))), .val (.int qq), .val (.ref b3), .val (.int qg)] [(.int qg), (.int (if qq < z2_40 then (f2_40 qq) else (0 : Int32)))]))
              have hc145 : (if qq < z2_40 then (f2_40 qq) else (0 : Int32)) = qg := by
                rw [u40_1 qq hqq, u30_1 qq hqq, if_pos hc129]
                
              refine Go.step (fun _ k => XS.icmpNo X48.here hx rfl (hb hby at_145) rfl (teq hc145).2 k) ?_
              show Go _ _ _ _ _ _ _ (T48.setTop (mkF m 148 #[.val (.int qn), .val (.int qs), .val (.int qh), .val (.int qt), .val (.int qg), .val (.int qq0), .val (.int (qn &&& (7 : Int32))), .val (.int nr), .val (.int ((qn >>> ((4 : Int32) &&& 31)) &&& (3 : Int32))), .val (.int (qs &&& (15 : Int32))), .val (.int (qt &&& (15 : Int32))), .val (.int qq), .val (.ref b3), .val (.int qg)] []))
              refine Go.step (fun _ k => XS.iconst X48.here hx rfl (hb hby at_148) k) ?_
              show Go _ _ _ _ _ _ _ (T48.setTop (mkF m 149 #[.val (.int qn), .val (.int qs), .val (.int qh), .val (.int qt), .val (.int qg), .val (.int qq0), .val (.int (qn &&& (7 : Int32))), .val (.int nr), .val (.int ((qn >>> ((4 : Int32) &&& 31)) &&& (3 : Int32))), .val (.int (qs &&& (15 : Int32))), .val (.int (qt &&& (15 : Int32))), .val (.int qq), .val (.ref b3), .val (.int qg)] [(.int (1 : Int32))]))
              refine Go.step (fun _ k => XS.goto X48.here hx rfl (pc0 := 149) (pc' := 153) rfl (hb hby at_149) (by decide) (by decide) k) ?_
              show Go _ _ _ _ _ _ _ (T48.setTop (mkF m 153 #[.val (.int qn), .val (.int qs), .val (.int qh), .val (.int qt), .val (.int qg), .val (.int qq0), .val (.int (qn &&& (7 : Int32))), .val (.int nr), .val (.int ((qn >>> ((4 : Int32) &&& 31)) &&& (3 : Int32))), .val (.int (qs &&& (15 : Int32))), .val (.int (qt &&& (15 : Int32))), .val (.int qq), .val (.ref b3), .val (.int qg)] [(.int (1 : Int32))]))
              refine Go.retN X48 hx (t := .boolean) Bd.returns (by simp) hlk (hb hby at_153) ?_ (by decide) (by decide)
              rw [e48]
              exact ⟨(by first | rfl | (simp_all [own_nb1, own_nb0]; done)), N48⟩
            · skip
              refine Go.step (fun _ k => XS.icmpYes X40.here hx rfl (pc0 := 129) (pc' := 136) rfl (hb hby at_129) rfl (feq hc129).2 (by decide) (by decide) k) ?_
              show Go _ _ _ _ _ _ _ (T40.setTop (mkF m 136 #[.val (.int qn), .val (.int qs), .val (.int qh), .val (.int qt), .val (.int qg), .val (.int qq0), .val (.int (qn &&& (7 : Int32))), .val (.int nr), .val (.int ((qn >>> ((4 : Int32) &&& 31)) &&& (3 : Int32))), .val (.int (qs &&& (15 : Int32))), .val (.int (qt &&& (15 : Int32))), .val (.int qq), .val (.ref b3), .val (.int (0 : Int32))] []))
              refine Go.step (fun _ k => XS.aload X40.here hx rfl (hb hby at_136) rfl rfl  k) ?_
              show Go _ _ _ _ _ _ _ (T40.setTop (mkF m 138 #[.val (.int qn), .val (.int qs), .val (.int qh), .val (.int qt), .val (.int qg), .val (.int qq0), .val (.int (qn &&& (7 : Int32))), .val (.int nr), .val (.int ((qn >>> ((4 : Int32) &&& 31)) &&& (3 : Int32))), .val (.int (qs &&& (15 : Int32))), .val (.int (qt &&& (15 : Int32))), .val (.int qq), .val (.ref b3), .val (.int (0 : Int32))] [(.ref b3)]))
              refine Go.step (fun _ k => XS.iload X40.here hx rfl (hb hby at_138) rfl  k) ?_
              show Go _ _ _ _ _ _ _ (T40.setTop (mkF m 140 #[.val (.int qn), .val (.int qs), .val (.int qh), .val (.int qt), .val (.int qg), .val (.int qq0), .val (.int (qn &&& (7 : Int32))), .val (.int nr), .val (.int ((qn >>> ((4 : Int32) &&& 31)) &&& (3 : Int32))), .val (.int (qs &&& (15 : Int32))), .val (.int (qt &&& (15 : Int32))), .val (.int qq), .val (.ref b3), .val (.int (0 : Int32))] [(.int qq), (.ref b3)]))
              have pq49 : ¬ qq < 0 := hqq
              obtain ⟨cq50, kq50, q50a, q50b, q50c⟩ := isOf hZ rfl c40_0
              obtain ⟨_, _, ⟨T50, L50, k50, n50⟩, -, X50, ⟨Lc50, hQ50, l50, y50, z50⟩, st50⟩ := X40.virtualBack hx (y := (⟨"com/example/steward/steward/timeordered/SequenceTable", "hour", "(I)I"⟩ : MethodName)) (z := (⟨"com/example/steward/steward/timeordered/SequenceTable", "hour", "(I)I"⟩ : MethodName)) hown (mvT hZ (hw _ (List.mem_of_getElem? (i := 18) rfl))) (mvT hZ (hw _ (List.mem_of_getElem? (i := 19) rfl))) (notFace_of_selects (args := #[]) (mvT hZ (hw _ (List.mem_of_getElem? (i := 21) rfl)))) (mvT hZ (hw _ (List.mem_of_getElem? (i := 21) rfl))) (mvT hZ (hw _ (List.mem_of_getElem? (i := 20) rfl))) (by decide) (backOf (W := 0) (rm3 l Z aZ hw [] b3 qq b2_40 z2_40 f2_40 T40.heap n0 z41 c40_1 c40_4 pq49) hZ (hw _ (List.mem_of_getElem? (i := 22) rfl)) (hw _ (List.mem_of_getElem? (i := 3) rfl)) (by decide) (by decide)) q50a q50c (g := (mkF m 140 #[.val (.int qn), .val (.int qs), .val (.int qh), .val (.int qt), .val (.int qg), .val (.int qq0), .val (.int (qn &&& (7 : Int32))), .val (.int nr), .val (.int ((qn >>> ((4 : Int32) &&& 31)) &&& (3 : Int32))), .val (.int (qs &&& (15 : Int32))), .val (.int (qt &&& (15 : Int32))), .val (.int qq), .val (.ref b3), .val (.int (0 : Int32))] [(.int qq), (.ref b3)])) rfl (by rw [hml]; rfl) (Steps.refl _) (argsL := [(.int qq)]) (rest := []) (lenOf pd_3 rfl) rfl (by show 2 * 0 + _ ≤ _; exact Nat.le_of_eq rfl) (hb hby at_140) (fun _ _ => ⟨rfl, rfl, (by decide : 4 + 0 ≤ _), (by decide : 70 + 0 ≤ _)⟩)
              dsimp only [Pt.U, Pt.locs, Pt.cells, Pt.slots] at X50 l50 y50 z50 st50 hQ50
              subst l50 y50 z50
              obtain ⟨rfl, Nq50, e50⟩ := hQ50
              have N50 := Fr.app N40 Nq50
              refine Go.tr st50 ?_
              show Go _ _ _ _ _ _ _ (T50.setTop (mkF m 143 #[.val (.int qn), .val (.int qs), .val (.int qh), .val (.int qt), .val (.int qg), .val (.int qq0), .val (.int (qn &&& (7 : Int32))), .val (.int nr), .val (.int ((qn >>> ((4 : Int32) &&& 31)) &&& (3 : Int32))), .val (.int (qs &&& (15 : Int32))), .val (.int (qt &&& (15 : Int32))), .val (.int qq), .val (.ref b3), .val (.int (0 : Int32))] [(.int (if qq < z2_40 then (f2_40 qq) else (0 : Int32)))]))
              refine Go.step (fun _ k => XS.iload X50.here hx rfl (hb hby at_143) rfl  k) ?_
              show Go _ _ _ _ _ _ _ (T50.setTop (mkF m 145 #[.val (.int qn), .val (.int qs), .val (.int qh), .val (.int qt), .val (.int qg), .val (.int qq0), .val (.int (qn &&& (7 : Int32))), .val (.int nr), .val (.int ((qn >>> ((4 : Int32) &&& 31)) &&& (3 : Int32))), .val (.int (qs &&& (15 : Int32))), .val (.int (qt &&& (15 : Int32))), .val (.int qq), .val (.ref b3), .val (.int (0 : Int32))] [(.int (0 : Int32)), (.int (if qq < z2_40 then (f2_40 qq) else (0 : Int32)))]))
              have hc145 : (if qq < z2_40 then (f2_40 qq) else (0 : Int32)) = (0 : Int32) := by
                rw [u40_1 qq hqq, u30_1 qq hqq, if_neg hc129, if_neg hc113]
                exact ite_self _
              refine Go.step (fun _ k => XS.icmpNo X50.here hx rfl (hb hby at_145) rfl (teq hc145).2 k) ?_
              show Go _ _ _ _ _ _ _ (T50.setTop (mkF m 148 #[.val (.int qn), .val (.int qs), .val (.int qh), .val (.int qt), .val (.int qg), .val (.int qq0), .val (.int (qn &&& (7 : Int32))), .val (.int nr), .val (.int ((qn >>> ((4 : Int32) &&& 31)) &&& (3 : Int32))), .val (.int (qs &&& (15 : Int32))), .val (.int (qt &&& (15 : Int32))), .val (.int qq), .val (.ref b3), .val (.int (0 : Int32))] []))
              refine Go.step (fun _ k => XS.iconst X50.here hx rfl (hb hby at_148) k) ?_
              show Go _ _ _ _ _ _ _ (T50.setTop (mkF m 149 #[.val (.int qn), .val (.int qs), .val (.int qh), .val (.int qt), .val (.int qg), .val (.int qq0), .val (.int (qn &&& (7 : Int32))), .val (.int nr), .val (.int ((qn >>> ((4 : Int32) &&& 31)) &&& (3 : Int32))), .val (.int (qs &&& (15 : Int32))), .val (.int (qt &&& (15 : Int32))), .val (.int qq), .val (.ref b3), .val (.int (0 : Int32))] [(.int (1 : Int32))]))
              refine Go.step (fun _ k => XS.goto X50.here hx rfl (pc0 := 149) (pc' := 153) rfl (hb hby at_149) (by decide) (by decide) k) ?_
              show Go _ _ _ _ _ _ _ (T50.setTop (mkF m 153 #[.val (.int qn), .val (.int qs), .val (.int qh), .val (.int qt), .val (.int qg), .val (.int qq0), .val (.int (qn &&& (7 : Int32))), .val (.int nr), .val (.int ((qn >>> ((4 : Int32) &&& 31)) &&& (3 : Int32))), .val (.int (qs &&& (15 : Int32))), .val (.int (qt &&& (15 : Int32))), .val (.int qq), .val (.ref b3), .val (.int (0 : Int32))] [(.int (1 : Int32))]))
              refine Go.retN X50 hx (t := .boolean) Bd.returns (by simp) hlk (hb hby at_153) ?_ (by decide) (by decide)
              rw [e50]
              exact ⟨(by first | rfl | (simp_all [own_nb1, own_nb0]; done)), N50⟩
    show Go _ _ _ _ _ _ _ (TJ1.setTop (mkF m 40 #[.val (.int qn), .val (.int qs), .val (.int qh), .val (.int qt), .val (.int qg), .val (.int qq0), .val (.int (qn &&& (7 : Int32))), .val (.int nr), .val (.int ((qn >>> ((4 : Int32) &&& 31)) &&& (3 : Int32))), .val (.int (qs &&& (15 : Int32))), .val (.int (qt &&& (15 : Int32))), .unset, .unset, .unset] []))
    refine Go.step (fun _ k => XS.iload X1.here hx rfl (hb hby at_40) rfl  k) ?_
    show Go _ _ _ _ _ _ _ (TJ1.setTop (mkF m 42 #[.val (.int qn), .val (.int qs), .val (.int qh), .val (.int qt), .val (.int qg), .val (.int qq0), .val (.int (qn &&& (7 : Int32))), .val (.int nr), .val (.int ((qn >>> ((4 : Int32) &&& 31)) &&& (3 : Int32))), .val (.int (qs &&& (15 : Int32))), .val (.int (qt &&& (15 : Int32))), .unset, .unset, .unset] [(.int nr)]))
    by_cases hc42 : nr = (0 : Int32)
    · skip
      refine Go.step (fun _ k => XS.ifYes X1.here hx rfl (pc0 := 42) (pc' := 53) rfl (hb hby at_42) rfl ((if0 _ _).trans (teq hc42).1) (by decide) (by decide) k) ?_
      show Go _ _ _ _ _ _ _ (TJ1.setTop (mkF m 53 #[.val (.int qn), .val (.int qs), .val (.int qh), .val (.int qt), .val (.int qg), .val (.int qq0), .val (.int (qn &&& (7 : Int32))), .val (.int nr), .val (.int ((qn >>> ((4 : Int32) &&& 31)) &&& (3 : Int32))), .val (.int (qs &&& (15 : Int32))), .val (.int (qt &&& (15 : Int32))), .unset, .unset, .unset] []))
      refine Go.step (fun _ k => XS.iload X1.here hx rfl (hb hby at_53) rfl  k) ?_
      show Go _ _ _ _ _ _ _ (TJ1.setTop (mkF m 55 #[.val (.int qn), .val (.int qs), .val (.int qh), .val (.int qt), .val (.int qg), .val (.int qq0), .val (.int (qn &&& (7 : Int32))), .val (.int nr), .val (.int ((qn >>> ((4 : Int32) &&& 31)) &&& (3 : Int32))), .val (.int (qs &&& (15 : Int32))), .val (.int (qt &&& (15 : Int32))), .unset, .unset, .unset] [(.int qq0)]))
      refine Go.step (X1.ldcInt hx hown (mvT hZ (hw _ (List.mem_of_getElem? (i := 0) rfl))) (g := (mkF m 55 #[.val (.int qn), .val (.int qs), .val (.int qh), .val (.int qt), .val (.int qg), .val (.int qq0), .val (.int (qn &&& (7 : Int32))), .val (.int nr), .val (.int ((qn >>> ((4 : Int32) &&& 31)) &&& (3 : Int32))), .val (.int (qs &&& (15 : Int32))), .val (.int (qt &&& (15 : Int32))), .unset, .unset, .unset] [(.int qq0)])) rfl (hb hby at_55)) ?_
      show Go _ _ _ _ _ _ _ (TJ1.setTop (mkF m 57 #[.val (.int qn), .val (.int qs), .val (.int qh), .val (.int qt), .val (.int qg), .val (.int qq0), .val (.int (qn &&& (7 : Int32))), .val (.int nr), .val (.int ((qn >>> ((4 : Int32) &&& 31)) &&& (3 : Int32))), .val (.int (qs &&& (15 : Int32))), .val (.int (qt &&& (15 : Int32))), .unset, .unset, .unset] [(.int (2147483647 : Int32)), (.int qq0)]))
      refine Go.step (fun _ k => XS.iand X1.here hx rfl (hb hby at_57) rfl k) ?_
      exact J58_2 _ _ _ X1 e1 N1 (own_mM _)
    · skip
      refine Go.step (fun _ k => XS.ifNo X1.here hx rfl (hb hby at_42) rfl ((if0 _ _).trans (feq hc42).1) k) ?_
      show Go _ _ _ _ _ _ _ (TJ1.setTop (mkF m 45 #[.val (.int qn), .val (.int qs), .val (.int qh), .val (.int qt), .val (.int qg), .val (.int qq0), .val (.int (qn &&& (7 : Int32))), .val (.int nr), .val (.int ((qn >>> ((4 : Int32) &&& 31)) &&& (3 : Int32))), .val (.int (qs &&& (15 : Int32))), .val (.int (qt &&& (15 : Int32))), .unset, .unset, .unset] []))
      refine Go.step (fun _ k => XS.iload X1.here hx rfl (hb hby at_45) rfl  k) ?_
      show Go _ _ _ _ _ _ _ (TJ1.setTop (mkF m 47 #[.val (.int qn), .val (.int qs), .val (.int qh), .val (.int qt), .val (.int qg), .val (.int qq0), .val (.int (qn &&& (7 : Int32))), .val (.int nr), .val (.int ((qn >>> ((4 : Int32) &&& 31)) &&& (3 : Int32))), .val (.int (qs &&& (15 : Int32))), .val (.int (qt &&& (15 : Int32))), .unset, .unset, .unset] [(.int qq0)]))
      refine Go.step (fun _ k => XS.bipush X1.here hx rfl (hb hby at_47) k) ?_
      show Go _ _ _ _ _ _ _ (TJ1.setTop (mkF m 49 #[.val (.int qn), .val (.int qs), .val (.int qh), .val (.int qt), .val (.int qg), .val (.int qq0), .val (.int (qn &&& (7 : Int32))), .val (.int nr), .val (.int ((qn >>> ((4 : Int32) &&& 31)) &&& (3 : Int32))), .val (.int (qs &&& (15 : Int32))), .val (.int (qt &&& (15 : Int32))), .unset, .unset, .unset] [(.int (31 : Int32)), (.int qq0)]))
      refine Go.step (fun _ k => XS.iand X1.here hx rfl (hb hby at_49) rfl k) ?_
      show Go _ _ _ _ _ _ _ (TJ1.setTop (mkF m 50 #[.val (.int qn), .val (.int qs), .val (.int qh), .val (.int qt), .val (.int qg), .val (.int qq0), .val (.int (qn &&& (7 : Int32))), .val (.int nr), .val (.int ((qn >>> ((4 : Int32) &&& 31)) &&& (3 : Int32))), .val (.int (qs &&& (15 : Int32))), .val (.int (qt &&& (15 : Int32))), .unset, .unset, .unset] [(.int (qq0 &&& (31 : Int32)))]))
      refine Go.step (fun _ k => XS.goto X1.here hx rfl (pc0 := 50) (pc' := 58) rfl (hb hby at_50) (by decide) (by decide) k) ?_
      exact J58_2 _ _ _ X1 e1 N1 (own_m31 _)
  show Go _ _ _ _ _ _ _ (s₁.setTop (mkF m 6 #[.val (.int qn), .val (.int qs), .val (.int qh), .val (.int qt), .val (.int qg), .val (.int qq0), .val (.int (qn &&& (7 : Int32))), .unset, .unset, .unset, .unset, .unset, .unset, .unset] []))
  refine Go.step (fun _ k => XS.iloadN X0.here hx rfl (hb hby at_6) rfl  k) ?_
  show Go _ _ _ _ _ _ _ (s₁.setTop (mkF m 7 #[.val (.int qn), .val (.int qs), .val (.int qh), .val (.int qt), .val (.int qg), .val (.int qq0), .val (.int (qn &&& (7 : Int32))), .unset, .unset, .unset, .unset, .unset, .unset, .unset] [(.int qn)]))
  refine Go.step (fun _ k => XS.iconst X0.here hx rfl (hb hby at_7) k) ?_
  show Go _ _ _ _ _ _ _ (s₁.setTop (mkF m 8 #[.val (.int qn), .val (.int qs), .val (.int qh), .val (.int qt), .val (.int qg), .val (.int qq0), .val (.int (qn &&& (7 : Int32))), .unset, .unset, .unset, .unset, .unset, .unset, .unset] [(.int (3 : Int32)), (.int qn)]))
  refine Go.step (fun _ k => XS.ishr X0.here hx rfl (hb hby at_8) rfl k) ?_
  show Go _ _ _ _ _ _ _ (s₁.setTop (mkF m 9 #[.val (.int qn), .val (.int qs), .val (.int qh), .val (.int qt), .val (.int qg), .val (.int qq0), .val (.int (qn &&& (7 : Int32))), .unset, .unset, .unset, .unset, .unset, .unset, .unset] [(.int (qn >>> ((3 : Int32) &&& 31)))]))
  refine Go.step (fun _ k => XS.iconst X0.here hx rfl (hb hby at_9) k) ?_
  show Go _ _ _ _ _ _ _ (s₁.setTop (mkF m 10 #[.val (.int qn), .val (.int qs), .val (.int qh), .val (.int qt), .val (.int qg), .val (.int qq0), .val (.int (qn &&& (7 : Int32))), .unset, .unset, .unset, .unset, .unset, .unset, .unset] [(.int (1 : Int32)), (.int (qn >>> ((3 : Int32) &&& 31)))]))
  refine Go.step (fun _ k => XS.iand X0.here hx rfl (hb hby at_10) rfl k) ?_
  show Go _ _ _ _ _ _ _ (s₁.setTop (mkF m 11 #[.val (.int qn), .val (.int qs), .val (.int qh), .val (.int qt), .val (.int qg), .val (.int qq0), .val (.int (qn &&& (7 : Int32))), .unset, .unset, .unset, .unset, .unset, .unset, .unset] [(.int ((qn >>> ((3 : Int32) &&& 31)) &&& (1 : Int32)))]))
  by_cases hc11 : ((qn >>> ((3 : Int32) &&& 31)) &&& (1 : Int32)) = (0 : Int32)
  · skip
    refine Go.step (fun _ k => XS.ifYes X0.here hx rfl (pc0 := 11) (pc' := 18) rfl (hb hby at_11) rfl ((if0 _ _).trans (teq hc11).1) (by decide) (by decide) k) ?_
    show Go _ _ _ _ _ _ _ (s₁.setTop (mkF m 18 #[.val (.int qn), .val (.int qs), .val (.int qh), .val (.int qt), .val (.int qg), .val (.int qq0), .val (.int (qn &&& (7 : Int32))), .unset, .unset, .unset, .unset, .unset, .unset, .unset] []))
    refine Go.step (fun _ k => XS.iconst X0.here hx rfl (hb hby at_18) k) ?_
    exact J19_1 _ _ _ X0 e0 N0
  · skip
    refine Go.step (fun _ k => XS.ifNo X0.here hx rfl (hb hby at_11) rfl ((if0 _ _).trans (feq hc11).1) k) ?_
    show Go _ _ _ _ _ _ _ (s₁.setTop (mkF m 14 #[.val (.int qn), .val (.int qs), .val (.int qh), .val (.int qt), .val (.int qg), .val (.int qq0), .val (.int (qn &&& (7 : Int32))), .unset, .unset, .unset, .unset, .unset, .unset, .unset] []))
    refine Go.step (fun _ k => XS.iconst X0.here hx rfl (hb hby at_14) k) ?_
    show Go _ _ _ _ _ _ _ (s₁.setTop (mkF m 15 #[.val (.int qn), .val (.int qs), .val (.int qh), .val (.int qt), .val (.int qg), .val (.int qq0), .val (.int (qn &&& (7 : Int32))), .unset, .unset, .unset, .unset, .unset, .unset, .unset] [(.int (1 : Int32))]))
    refine Go.step (fun _ k => XS.goto X0.here hx rfl (pc0 := 15) (pc' := 19) rfl (hb hby at_15) (by decide) (by decide) k) ?_
    exact J19_1 _ _ _ X0 e0 N0
set_option maxRecDepth 65536 in
set_option maxHeartbeats 40000000 in
theorem comes_1 {Post : Tables → Env → Array Value → State → Outcome → State → Prop} (hpost : ∀ tb e args s v u, (limb_1_1.after args s (.returned v) u = true ∧ limb_1_2.after args s (.returned v) u = true ∧ True) → FrameEnd s (.returned v) u (Jvm.fieldLocs frame_1_writes args s ++ Jvm.arrayLocs frame_1_arrays args s ++ Jvm.staticLocs frame_1_statics s) 16 192 → Post tb e args s (.returned v) u) :
    ArmFor flags0 classFile x code maxLocals ret World_1 tables_1 room_1 Calls_1 rest_1 Pre_1 Post := by
  intro l hfl _ _ p e ha hc hk s m args below hf hA hF happ hP
  obtain ⟨hcalls, hrest, hpre⟩ := hP
  obtain ⟨-, -, -, hnamed, -, -, -, hat⟩ := (Spec.applies_iff hf).mp happ
  obtain ⟨hg, hn⟩ := and_e (Cond.before_iff.mp (show (Jvm.Cond.and given_1 narrow_1).before args s = true from hpre))
  obtain ⟨g0, r0⟩ := and_e hg
  obtain ⟨a0, r1⟩ := and_e r0
  obtain ⟨a1, r2⟩ := and_e r1
  obtain ⟨a2, r3⟩ := and_e r2
  obtain ⟨a3, r4⟩ := and_e r3
  obtain ⟨a4, r5⟩ := and_e r4
  have a5 := r5
  obtain ⟨w0, w1, w2, w3, w4, w5, rfl⟩ : ∃ w0 w1 w2 w3 w4 w5 : Value, args = #[w0, w1, w2, w3, w4, w5] := by
    have hs : args.size = 6 := by simpa [Cond.value, given_1] using g0
    obtain ⟨L⟩ := args
    match L, hs with
    | [w0, w1, w2, w3, w4, w5], _ => exact ⟨w0, w1, w2, w3, w4, w5, rfl⟩
  have hw := fun d (hd : d ∈ tables_1) => atoms_spec (ws := Jvm.Cond.code x code maxLocals ret :: tables_1) hat d (List.mem_cons_of_mem _ hd)
  have hfit : Fit s := fun {y c} hc i hi => by
    obtain ⟨ha, rfl⟩ := Array.getElem?_eq_some_iff.mp hc
    have q := List.all_eq_true.mp ((Array.all_eq_true_iff_forall_mem.mp hF) _ (Array.getElem_mem ha)) i (List.mem_range.mpr hi)
    simpa [Array.getElem?_eq_getElem hi] using q
  obtain ⟨i0, ei0⟩ := is_v a0
  obtain rfl : w0 = (.int i0) := Option.some.inj ei0
  obtain ⟨i1, ei1⟩ := is_v a1
  obtain rfl : w1 = (.int i1) := Option.some.inj ei1
  obtain ⟨i2, ei2⟩ := is_v a2
  obtain rfl : w2 = (.int i2) := Option.some.inj ei2
  obtain ⟨i3, ei3⟩ := is_v a3
  obtain rfl : w3 = (.int i3) := Option.some.inj ei3
  obtain ⟨i4, ei4⟩ := is_v a4
  obtain rfl : w4 = (.int i4) := Option.some.inj ei4
  obtain ⟨i5, ei5⟩ := is_v a5
  obtain rfl : w5 = (.int i5) := Option.some.inj ei5
  obtain ⟨n, o, h1, h2, h3, _, L, rfl, ⟨rfl, N⟩, hq⟩ := rm0 l s _ hw tables_1 i0 i1 i2 i3 i4 i5  s.heap s.heap.size (Nat.le_refl _)  p e ha hc hk s m _ below hf ((Spec.applies_iff_loose hf).mp happ).1 ⟨rfl, State.Warmed39.refl s, rfl⟩ trivial
  refine ⟨n, _, h1, h2, h3, hpost _ _ _ _ _ _ ⟨Cond.after_iff.mpr rfl, Cond.after_iff.mpr (eq_i res_at (Term.int_eval (1)) rfl), trivial⟩ ⟨hq.1, hq.2.1, (hq.2.2.sift fun y hy => Or.inr (N y hy)).mono (by decide) (by decide)⟩⟩
theorem main_1_1 : Claimed_1_1 := comes_1 fun _ _ _ _ _ _ h hF => ⟨h.1, hF⟩
theorem main_1_2 : Claimed_1_2 := comes_1 fun _ _ _ _ _ _ h hF => ⟨h.2.1, hF⟩
end Jvm.Pilot.@@N@@
namespace Jvm.Pilot.@@N@@
open Jvm Jvm.ClassFile Sem Op Lib Jvm.Free Jvm.Stand Jvm.Pilot.@@N@@.Jvm.D
/-! MADE BY PROGRAM (witnessworld.py) out of the Statement's table words and the real class files: 12 classes; the members and pool entries that the words name. The judged class is class 1, her method 1. -/
namespace start1
open Jvm.ClassFile
def u (s : String) : CpInfo := .utf8 (stringToUtf16 s)
/-- a pool by its gaps: so many unusable entries, then the entry; so many at the end -/
def gap : Nat → List CpInfo → List CpInfo
  | 0, r => r
  | n + 1, r => .unusable :: gap n r
def poolList (es : List (Nat × CpInfo)) (last : Nat) : List CpInfo := es.foldr (fun e r => gap e.1 (e.2 :: r)) (gap last [])
def pool (es : List (Nat × CpInfo)) (last : Nat) : Array CpInfo := ⟨poolList es last⟩
def fileOf (pool : Array CpInfo) (this : Nat) (attrs : Array Attribute := #[]) (ms : Array MethodInfo := #[]) (fl : Nat := 33) (sup : Nat := 0) (ifs : Array Nat := #[]) (fds : Array FieldInfo := #[]) : ClassFile where
  minorVersion := 0
  majorVersion := 65
  constantPool := pool
  accessFlags := fl
  thisClass := this
  superClass := sup
  interfaces := ifs
  fields := fds
  methods := ms
  attributes := attrs
def plain (name : String) (sup : Option ClassId) : Class where
  name := name
  kind := .ordinary
  loader := none
  accessFlags := 33
  super := sup
  interfaces := #[]
  cf := none
  fields := #[]
  methods := #[]
  instanceTypes := #[]
  staticTypes := #[]
  resolved := #[]
  callSites := []
  init := .initialized
  statics := none
  mirror := none

def pool0 : Array CpInfo := pool [(5, u "<init>"), (0, u "()V"), (1, .class_ 10), (1, u "java/lang/Object")] 113

def k0c0 : Code := { maxStack := 0, maxLocals := 1, code := object_method_1_code, exceptionTable := #[], attributes := #[] }
def k0m0 : Method := { name := "<init>", desc := "()V", sig := { parameters := [], returnType := none }, accessFlags := 1, code := some k0c0 }
/-- java/lang/Object -/
def k0 : Class := { plain "java/lang/Object" none with
  accessFlags := 33
  interfaces := #[]
  cf := some (fileOf pool0 8 #[] #[{ accessFlags := 1, nameIndex := 5, descriptorIndex := 6, attributes := #[] }] 33 0 #[] #[])
  fields := #[]
  methods := #[k0m0]
  instanceTypes := #[]
  staticTypes := #[]
  resolved := Array.replicate 124 none
  statics := none }

def pool1 : Array CpInfo := pool [(2, .class_ 4), (1, u "java/lang/Object"), (0, u "<init>"), (0, u "()V"), (0, .integer 2147483647), (0, .class_ 9), (0, u "com/example/steward/steward/timeordered/SequenceTable"), (0, .methodref 8 11), (0, .nameAndType 5 12), (0, u "(I)V"), (0, .methodref 8 14), (0, .nameAndType 15 16), (0, u "set"), (0, u "(II)V"), (0, .methodref 8 18), (0, .nameAndType 19 20), (0, u "hour"), (0, u "(I)I"), (0, .class_ 22), (0, u "com/example/steward/steward/timeordered/SequenceTableHourPinLaw"), (2, u "law"), (0, u "(IIIIII)Z")] 3

def k1m0 : Method := { name := "<init>", desc := "()V", sig := { parameters := [], returnType := none }, accessFlags := 1, code := none }
def k1c1 : Code := { maxStack := 3, maxLocals := 14, code := code, exceptionTable := #[], attributes := #[] }
def k1m1 : Method := { name := "law", desc := "(IIIIII)Z", sig := { parameters := [.int, .int, .int, .int, .int, .int], returnType := some .boolean }, accessFlags := 9, code := some k1c1 }
/-- com/example/steward/steward/timeordered/SequenceTableHourPinLaw -/
def k1 : Class := { plain "com/example/steward/steward/timeordered/SequenceTableHourPinLaw" (some 0) with
  accessFlags := 49
  interfaces := #[]
  cf := some (fileOf pool1 21 #[] #[{ accessFlags := 1, nameIndex := 5, descriptorIndex := 6, attributes := #[] }, { accessFlags := 9, nameIndex := 25, descriptorIndex := 26, attributes := #[] }] 49 2 #[] #[])
  fields := #[]
  methods := #[k1m0, k1m1]
  instanceTypes := #[]
  staticTypes := #[]
  resolved := Array.replicate 30 none
  statics := none }

def pool2 : Array CpInfo := pool [(1, .methodref 2 3), (0, .class_ 4), (0, .nameAndType 5 6), (0, u "java/lang/Object"), (0, u "<init>"), (0, u "()V"), (0, .long 18446744073709551615), (1, .fieldref 10 11), (0, .class_ 12), (0, .nameAndType 13 14), (0, u "com/example/steward/steward/timeordered/SequenceTable"), (0, u "copied"), (0, u "J"), (0, .fieldref 10 16), (0, .nameAndType 17 18), (0, u "hours"), (0, u "[I"), (0, .fieldref 10 20), (0, .nameAndType 21 22), (0, u "size"), (0, u "I"), (43, u "(I)I"), (11, u "(I)V"), (25, .methodref 105 106), (0, .class_ 107), (0, .nameAndType 108 109), (0, u "java/lang/Math"), (0, u "max"), (0, u "(II)I"), (0, .methodref 111 112), (0, .class_ 113), (0, .nameAndType 114 115), (0, u "java/util/Arrays"), (0, u "copyOf"), (0, u "([II)[I"), (22, u "NONE"), (2, u "MAGIC"), (0, u "FORMAT"), (1, u "HEADER"), (9, u "hour"), (0, u "set"), (0, u "(II)V")] 6

def k2c0 : Code := { maxStack := 3, maxLocals := 2, code := prog_83_method_1_code, exceptionTable := #[], attributes := #[] }
def k2m0 : Method := { name := "<init>", desc := "(I)V", sig := { parameters := [.int], returnType := none }, accessFlags := 0, code := some k2c0 }
def k2c1 : Code := { maxStack := 2, maxLocals := 2, code := prog_83_method_3_code, exceptionTable := #[], attributes := #[] }
def k2m1 : Method := { name := "hour", desc := "(I)I", sig := { parameters := [.int], returnType := some .int }, accessFlags := 0, code := some k2c1 }
def k2c2 : Code := { maxStack := 5, maxLocals := 3, code := prog_83_method_4_code, exceptionTable := #[], attributes := #[] }
def k2m2 : Method := { name := "set", desc := "(II)V", sig := { parameters := [.int, .int], returnType := none }, accessFlags := 0, code := some k2c2 }
/-- com/example/steward/steward/timeordered/SequenceTable -/
def k2 : Class := { plain "com/example/steward/steward/timeordered/SequenceTable" (some 0) with
  accessFlags := 48
  interfaces := #[]
  cf := some (fileOf pool2 10 #[] #[{ accessFlags := 0, nameIndex := 5, descriptorIndex := 78, attributes := #[] }, { accessFlags := 0, nameIndex := 154, descriptorIndex := 66, attributes := #[] }, { accessFlags := 0, nameIndex := 155, descriptorIndex := 156, attributes := #[] }] 48 2 #[] #[{ accessFlags := 24, nameIndex := 138, descriptorIndex := 22, attributes := #[] }, { accessFlags := 26, nameIndex := 141, descriptorIndex := 22, attributes := #[] }, { accessFlags := 26, nameIndex := 142, descriptorIndex := 22, attributes := #[] }, { accessFlags := 26, nameIndex := 144, descriptorIndex := 22, attributes := #[] }, { accessFlags := 2, nameIndex := 17, descriptorIndex := 18, attributes := #[] }, { accessFlags := 2, nameIndex := 21, descriptorIndex := 22, attributes := #[] }, { accessFlags := 2, nameIndex := 13, descriptorIndex := 14, attributes := #[] }])
  fields := #[{ name := "NONE", type := .int, accessFlags := 24, slot := 0, constantValue := 0 }, { name := "MAGIC", type := .int, accessFlags := 26, slot := 1, constantValue := 0 }, { name := "FORMAT", type := .int, accessFlags := 26, slot := 2, constantValue := 0 }, { name := "HEADER", type := .int, accessFlags := 26, slot := 3, constantValue := 0 }, { name := "hours", type := (.array .int), accessFlags := 2, slot := 0, constantValue := 0 }, { name := "size", type := .int, accessFlags := 2, slot := 1, constantValue := 0 }, { name := "copied", type := .long, accessFlags := 2, slot := 2, constantValue := 0 }]
  methods := #[k2m0, k2m1, k2m2]
  instanceTypes := #[(.array .int), .int, .long]
  staticTypes := #[.int, .int, .int, .int]
  resolved := Array.replicate 163 none
  statics := none }

def pool3 : Array CpInfo := pool [(1, .class_ 2), (0, u "java/lang/Math"), (1, .class_ 6), (1, u "java/lang/Object"), (0, u "<init>"), (0, u "()V"), (89, .class_ 100), (1, u "java/lang/Math$RandomNumberGeneratorHolder"), (71, u "negativeZeroFloatBits"), (0, u "J"), (2, u "negativeZeroDoubleBits"), (21, u "max"), (2, u "min"), (43, u "$assertionsDisabled"), (0, u "Z"), (88, u "(II)I"), (2, u "twoToTheDoubleScaleDown"), (0, u "D"), (4, u "twoToTheDoubleScaleUp"), (9, u "E"), (3, u "PI"), (2, u "TAU"), (2, u "DEGREES_TO_RADIANS"), (0, u "RADIANS_TO_DEGREES")] 94

def k3m0 : Method := { name := "<init>", desc := "()V", sig := { parameters := [], returnType := none }, accessFlags := 2, code := none }
def k3c1 : Code := { maxStack := 2, maxLocals := 2, code := jdk_29_method_65_code, exceptionTable := #[], attributes := #[] }
def k3m1 : Method := { name := "max", desc := "(II)I", sig := { parameters := [.int, .int], returnType := some .int }, accessFlags := 9, code := some k3c1 }
def k3c2 : Code := { maxStack := 2, maxLocals := 2, code := jdk_29_method_69_code, exceptionTable := #[], attributes := #[] }
def k3m2 : Method := { name := "min", desc := "(II)I", sig := { parameters := [.int, .int], returnType := some .int }, accessFlags := 9, code := some k3c2 }
/-- java/lang/Math -/
def k3 : Class := { plain "java/lang/Math" (some 0) with
  accessFlags := 49
  interfaces := #[]
  cf := some (fileOf pool3 1 #[.nestMembers #[98]] #[{ accessFlags := 2, nameIndex := 7, descriptorIndex := 8, attributes := #[] }, { accessFlags := 9, nameIndex := 198, descriptorIndex := 335, attributes := #[] }, { accessFlags := 9, nameIndex := 201, descriptorIndex := 335, attributes := #[] }] 49 4 #[] #[{ accessFlags := 25, nameIndex := 354, descriptorIndex := 339, attributes := #[] }, { accessFlags := 25, nameIndex := 358, descriptorIndex := 339, attributes := #[] }, { accessFlags := 25, nameIndex := 361, descriptorIndex := 339, attributes := #[] }, { accessFlags := 26, nameIndex := 364, descriptorIndex := 339, attributes := #[] }, { accessFlags := 26, nameIndex := 365, descriptorIndex := 339, attributes := #[] }, { accessFlags := 26, nameIndex := 172, descriptorIndex := 173, attributes := #[] }, { accessFlags := 26, nameIndex := 176, descriptorIndex := 173, attributes := #[] }, { accessFlags := 8, nameIndex := 344, descriptorIndex := 339, attributes := #[] }, { accessFlags := 8, nameIndex := 338, descriptorIndex := 339, attributes := #[] }, { accessFlags := 4120, nameIndex := 245, descriptorIndex := 246, attributes := #[] }])
  fields := #[{ name := "E", type := .double, accessFlags := 25, slot := 0, constantValue := 0 }, { name := "PI", type := .double, accessFlags := 25, slot := 1, constantValue := 0 }, { name := "TAU", type := .double, accessFlags := 25, slot := 2, constantValue := 0 }, { name := "DEGREES_TO_RADIANS", type := .double, accessFlags := 26, slot := 3, constantValue := 0 }, { name := "RADIANS_TO_DEGREES", type := .double, accessFlags := 26, slot := 4, constantValue := 0 }, { name := "negativeZeroFloatBits", type := .long, accessFlags := 26, slot := 5, constantValue := 0 }, { name := "negativeZeroDoubleBits", type := .long, accessFlags := 26, slot := 6, constantValue := 0 }, { name := "twoToTheDoubleScaleUp", type := .double, accessFlags := 8, slot := 7, constantValue := 0 }, { name := "twoToTheDoubleScaleDown", type := .double, accessFlags := 8, slot := 8, constantValue := 0 }, { name := "$assertionsDisabled", type := .boolean, accessFlags := 4120, slot := 9, constantValue := 0 }]
  methods := #[k3m0, k3m1, k3m2]
  instanceTypes := #[]
  staticTypes := #[.double, .double, .double, .double, .double, .long, .long, .double, .double, .boolean]
  resolved := Array.replicate 460 none
  statics := none }

def pool4 : Array CpInfo := pool [(2, .class_ 4), (1, u "java/lang/Object"), (0, u "<init>"), (0, u "()V"), (7, .class_ 16), (1, u "java/util/Arrays"), (57, .class_ 76), (1, u "java/util/Arrays$NaturalOrder"), (36, .class_ 115), (1, u "java/util/Arrays$LegacyMergeSort"), (1, u "Z"), (32, .methodref 151 152), (0, .class_ 153), (0, .nameAndType 154 155), (0, u "java/lang/System"), (0, u "arraycopy"), (0, u "(Ljava/lang/Object;ILjava/lang/Object;II)V"), (146, u "copyOf"), (1, .methodref 305 306), (0, .class_ 307), (0, .nameAndType 308 309), (0, u "java/lang/Math"), (0, u "min"), (0, u "(II)I"), (65, .class_ 376), (0, u "java/util/Arrays$ArrayList"), (68, u "$assertionsDisabled"), (269, u "MIN_ARRAY_SORT_GRAN"), (0, u "I"), (2, u "INSERTIONSORT_THRESHOLD"), (151, u "([II)[I"), (103, .class_ 976), (0, u "java/util/Arrays$ArrayItr")] 52

def k4m0 : Method := { name := "<init>", desc := "()V", sig := { parameters := [], returnType := none }, accessFlags := 2, code := none }
def k4c1 : Code := { maxStack := 6, maxLocals := 3, code := jdk_65_method_123_code, exceptionTable := #[], attributes := #[] }
def k4m1 : Method := { name := "copyOf", desc := "([II)[I", sig := { parameters := [(.array .int), .int], returnType := some (.array .int) }, accessFlags := 9, code := some k4c1 }
/-- java/util/Arrays -/
def k4 : Class := { plain "java/util/Arrays" (some 0) with
  accessFlags := 49
  interfaces := #[]
  cf := some (fileOf pool4 14 #[.nestMembers #[975, 375, 113, 74]] #[{ accessFlags := 2, nameIndex := 5, descriptorIndex := 6, attributes := #[] }, { accessFlags := 9, nameIndex := 302, descriptorIndex := 871, attributes := #[] }] 49 2 #[] #[{ accessFlags := 26, nameIndex := 715, descriptorIndex := 716, attributes := #[] }, { accessFlags := 26, nameIndex := 719, descriptorIndex := 716, attributes := #[] }, { accessFlags := 4120, nameIndex := 445, descriptorIndex := 117, attributes := #[] }])
  fields := #[{ name := "MIN_ARRAY_SORT_GRAN", type := .int, accessFlags := 26, slot := 0, constantValue := 0 }, { name := "INSERTIONSORT_THRESHOLD", type := .int, accessFlags := 26, slot := 1, constantValue := 0 }, { name := "$assertionsDisabled", type := .boolean, accessFlags := 4120, slot := 2, constantValue := 0 }]
  methods := #[k4m0, k4m1]
  instanceTypes := #[]
  staticTypes := #[.int, .int, .boolean]
  resolved := Array.replicate 1029 none
  statics := none }

def pool5 : Array CpInfo := pool [(2, .class_ 4), (1, u "java/lang/Object"), (0, u "<init>"), (0, u "()V"), (1, .class_ 10), (1, u "java/lang/System"), (0, u "allowSecurityManager"), (0, u "I"), (16, u "cons"), (0, u "Ljava/io/Console;"), (77, .class_ 110), (1, u "java/lang/System$CallersHolder"), (43, u "initialErrStream"), (0, u "Ljava/io/PrintStream;"), (19, u "security"), (0, u "Ljava/lang/SecurityManager;"), (31, .class_ 209), (0, u "java/lang/System$1"), (7, u "props"), (0, u "Ljava/util/Properties;"), (2, u "lineSeparator"), (0, u "Ljava/lang/String;"), (96, .class_ 321), (1, u "java/lang/System$LoggerFinder"), (5, .class_ 328), (0, u "java/lang/System$Logger"), (67, u "err"), (2, u "out"), (91, u "notSupportedJnuEncoding"), (15, u "in"), (17, u "initialIn"), (0, u "Ljava/io/InputStream;"), (35, u "bootLayer"), (0, u "Ljava/lang/ModuleLayer;"), (99, .class_ 664), (0, u "java/lang/System$2"), (9, u "NEVER"), (2, u "MAYBE"), (49, u "arraycopy"), (0, u "(Ljava/lang/Object;ILjava/lang/Object;II)V"), (72, .class_ 802), (0, u "java/lang/System$Logger$Level")] 31

def k5m0 : Method := { name := "<init>", desc := "()V", sig := { parameters := [], returnType := none }, accessFlags := 2, code := none }
def k5m1 : Method := { name := "arraycopy", desc := "(Ljava/lang/Object;ILjava/lang/Object;II)V", sig := { parameters := [(.object "java/lang/Object"), .int, (.object "java/lang/Object"), .int, .int], returnType := none }, accessFlags := 265, code := none }
/-- java/lang/System -/
def k5 : Class := { plain "java/lang/System" (some 0) with
  accessFlags := 49
  interfaces := #[]
  cf := some (fileOf pool5 8 #[.nestMembers #[319, 327, 801, 108, 663, 208]] #[{ accessFlags := 2, nameIndex := 5, descriptorIndex := 6, attributes := #[] }, { accessFlags := 265, nameIndex := 727, descriptorIndex := 728, attributes := #[] }] 49 2 #[] #[{ accessFlags := 25, nameIndex := 507, descriptorIndex := 526, attributes := #[] }, { accessFlags := 25, nameIndex := 399, descriptorIndex := 155, attributes := #[] }, { accessFlags := 25, nameIndex := 396, descriptorIndex := 155, attributes := #[] }, { accessFlags := 10, nameIndex := 525, descriptorIndex := 526, attributes := #[] }, { accessFlags := 26, nameIndex := 674, descriptorIndex := 12, attributes := #[] }, { accessFlags := 26, nameIndex := 677, descriptorIndex := 12, attributes := #[] }, { accessFlags := 10, nameIndex := 11, descriptorIndex := 12, attributes := #[] }, { accessFlags := 74, nameIndex := 175, descriptorIndex := 176, attributes := #[] }, { accessFlags := 10, nameIndex := 491, descriptorIndex := 222, attributes := #[] }, { accessFlags := 74, nameIndex := 29, descriptorIndex := 30, attributes := #[] }, { accessFlags := 74, nameIndex := 154, descriptorIndex := 155, attributes := #[] }, { accessFlags := 10, nameIndex := 217, descriptorIndex := 218, attributes := #[] }, { accessFlags := 10, nameIndex := 221, descriptorIndex := 222, attributes := #[] }, { accessFlags := 8, nameIndex := 562, descriptorIndex := 563, attributes := #[] }])
  fields := #[{ name := "in", type := (.object "java/io/InputStream"), accessFlags := 25, slot := 0, constantValue := 0 }, { name := "out", type := (.object "java/io/PrintStream"), accessFlags := 25, slot := 1, constantValue := 0 }, { name := "err", type := (.object "java/io/PrintStream"), accessFlags := 25, slot := 2, constantValue := 0 }, { name := "initialIn", type := (.object "java/io/InputStream"), accessFlags := 10, slot := 3, constantValue := 0 }, { name := "NEVER", type := .int, accessFlags := 26, slot := 4, constantValue := 0 }, { name := "MAYBE", type := .int, accessFlags := 26, slot := 5, constantValue := 0 }, { name := "allowSecurityManager", type := .int, accessFlags := 10, slot := 6, constantValue := 0 }, { name := "security", type := (.object "java/lang/SecurityManager"), accessFlags := 74, slot := 7, constantValue := 0 }, { name := "notSupportedJnuEncoding", type := (.object "java/lang/String"), accessFlags := 10, slot := 8, constantValue := 0 }, { name := "cons", type := (.object "java/io/Console"), accessFlags := 74, slot := 9, constantValue := 0 }, { name := "initialErrStream", type := (.object "java/io/PrintStream"), accessFlags := 74, slot := 10, constantValue := 0 }, { name := "props", type := (.object "java/util/Properties"), accessFlags := 10, slot := 11, constantValue := 0 }, { name := "lineSeparator", type := (.object "java/lang/String"), accessFlags := 10, slot := 12, constantValue := 0 }, { name := "bootLayer", type := (.object "java/lang/ModuleLayer"), accessFlags := 8, slot := 13, constantValue := 0 }]
  methods := #[k5m0, k5m1]
  instanceTypes := #[]
  staticTypes := #[(.object "java/io/InputStream"), (.object "java/io/PrintStream"), (.object "java/io/PrintStream"), (.object "java/io/InputStream"), .int, .int, .int, (.object "java/lang/SecurityManager"), (.object "java/lang/String"), (.object "java/io/Console"), (.object "java/io/PrintStream"), (.object "java/util/Properties"), (.object "java/lang/String"), (.object "java/lang/ModuleLayer")]
  resolved := Array.replicate 834 none
  statics := none }

def pool6 : Array CpInfo := pool [(1, u "java/lang/Cloneable"), (0, .class_ 1), (0, u "java/lang/Object"), (0, .class_ 3)] 3

/-- java/lang/Cloneable -/
def k6 : Class := { plain "java/lang/Cloneable" (some 0) with
  accessFlags := 1537
  interfaces := #[]
  cf := some (fileOf pool6 2 #[] #[] 1537 4 #[] #[])
  fields := #[]
  methods := #[]
  instanceTypes := #[]
  staticTypes := #[]
  resolved := Array.replicate 8 none
  statics := none }

def pool7 : Array CpInfo := pool [(1, u "java/io/Serializable"), (0, .class_ 1), (0, u "java/lang/Object"), (0, .class_ 3)] 3

/-- java/io/Serializable -/
def k7 : Class := { plain "java/io/Serializable" (some 0) with
  accessFlags := 1537
  interfaces := #[]
  cf := some (fileOf pool7 2 #[] #[] 1537 4 #[] #[])
  fields := #[]
  methods := #[]
  instanceTypes := #[]
  staticTypes := #[]
  resolved := Array.replicate 8 none
  statics := none }

/-- the primitive byte -/
def k8 : Class := { plain "byte" none with kind := .primitive 'B', accessFlags := 0x411 }
/-- [B -/
def k9 : Class := { plain "[B" (some 0) with kind := .array 8 .byte, interfaces := #[6, 7], accessFlags := 1041 }

/-- the primitive int -/
def k10 : Class := { plain "int" none with kind := .primitive 'I', accessFlags := 0x411 }
/-- [I -/
def k11 : Class := { plain "[I" (some 0) with kind := .array 10 .int, interfaces := #[6, 7], accessFlags := 1041 }

def heap : Heap := #[]
def classes : Array Class := #[k0, k1, k2, k3, k4, k5, k6, k7, k8, k9, k10, k11]
def interned : List (Array UInt16 × Addr) := []
def slotsUsed : Nat := 0
def theMethod : MethodId := ⟨1, 1⟩
def args0 : Array Value := #[.int 5, .int 3, .int 1, .int 1, .int 1, .int 1]
def aboutOver (below : List Frame) : State where
  vm := { classes := classes, interned := interned.toArray }
  heap := heap
  slotsUsed := slotsUsed
  threads := #[{ frames := .invoking theMethod args0 :: below }]
def below0 : List Frame := [.native { method := ⟨0, 0⟩, args := #[] }]
def about1 : State := aboutOver below0
def p0 : Program := .bare "" "" ""
def e0 : Env := launch0.env 0 0 0
theorem w_frames : about1.frames = Frame.invoking theMethod args0 :: below0 := rfl
set_option maxRecDepth 65536 in
theorem w_args : argsFit about1.vm theMethod args0 = true := by decide +kernel
set_option maxRecDepth 65536 in
theorem w_heap : heapFits about1 = true := by decide +kernel
set_option maxRecDepth 65536 in
theorem w_runnable : about1.curStatus? = some .runnable := by decide +kernel
set_option maxRecDepth 65536 in
theorem w_alone : about1.alone = true := by decide +kernel
set_option maxRecDepth 65536 in
theorem w_named : about1.methodNamed? x = some theMethod := by decide +kernel
set_option maxRecDepth 65536 in
theorem w_hears : about1.hears theMethod below0 = true := by decide +kernel
set_option maxRecDepth 65536 in
theorem w_ripe : about1.ripe theMethod args0 below0 = true := by decide +kernel
theorem w_running : about1.status = .running := rfl
set_option maxRecDepth 65536 in
theorem w_room : about1.hasRoom e0.platform room_1 = true :=
  launch0.hasRoom_least _ room_1 (by decide +kernel) (by decide +kernel) (by decide +kernel) (by decide +kernel) (by decide +kernel) (by decide +kernel)
theorem allAtoms_all (ts : List Jvm.Cond) (a : Array Jvm.Value) (st : Jvm.State) : (allAtoms ts).before a st = ts.all (fun c => c.before a st) := by
  induction ts with
  | nil => rfl
  | cons c t ih =>
    show (Jvm.Cond.and c (allAtoms t)).before a st = _
    rw [Jvm.Cond.before_and, ih, List.all_cons]
def words1 : List Jvm.Cond := Jvm.Cond.code x code maxLocals ret :: tables_1
/-- a 'code' word, met by the world's own term for the bytes: nothing is compared byte by byte -/
theorem code_word {y : MethodName} {bytes : ByteArray} {mx : Nat} {rt : Option FieldType} {a : Array Value} {s : State} {m : MethodId} {meth : Method} {c : Code} (h1 : s.methodNamed? y = some m) (h2 : s.vm.method? m = some meth) (h3 : meth.code = some c) (h4 : c.code = bytes)
    (h5 : (c.maxLocals == mx && c.exceptionTable.isEmpty && decide (c.maxStack ≤ mostOperands) && decide (meth.sig.returnType = rt) && !meth.locks && decide (parseMethodDescriptor y.desc = some meth.sig)) = true) : (Jvm.Cond.code y bytes mx rt).before a s = true := by
  simp only [Bool.and_eq_true, beq_iff_eq, Bool.not_eq_true', decide_eq_true_eq] at h5
  obtain ⟨⟨⟨⟨⟨g1, g2⟩, g3⟩, g4⟩, g5⟩, g6⟩ := h5
  simp [Cond.before, Cond.holds, Cond.value, h1, h2, h3, h4, g1, g2, g3, g4, g5, g6]
def isCode : Jvm.Cond → Bool
  | .code _ _ _ _ => true
  | _ => false
theorem all_split {L : List Jvm.Cond} {P : Jvm.Cond → Bool} (h1 : L.all (fun c => isCode c || P c) = true) (h2 : ∀ c ∈ L.filter isCode, P c = true) : L.all P = true := by
  refine List.all_eq_true.mpr fun c hc => ?_
  have h := List.all_eq_true.mp h1 c hc
  rcases Bool.eq_false_or_eq_true (isCode c) with hi | hi
  · exact h2 c (List.mem_filter.mpr ⟨hc, hi⟩)
  · simpa [hi] using h
set_option maxRecDepth 65536 in
theorem w_c0 : (Jvm.Cond.code x code maxLocals ret).before args0 about1 = true := code_word (m := ⟨1, 1⟩) (meth := k1m1) (c := k1c1) (by decide +kernel) rfl rfl rfl (by decide +kernel)
set_option maxRecDepth 65536 in
theorem w_c1 : (Jvm.Cond.code ({ cls := "com/example/steward/steward/timeordered/SequenceTable", name := "<init>", desc := "(I)V" } : Jvm.MethodName) prog_83_method_1_code (2 : Nat) (Option.none : Option Jvm.ClassFile.FieldType)).before args0 about1 = true := code_word (m := ⟨2, 0⟩) (meth := k2m0) (c := k2c0) (by decide +kernel) rfl rfl rfl (by decide +kernel)
set_option maxRecDepth 65536 in
theorem w_c2 : (Jvm.Cond.code ({ cls := "java/lang/Object", name := "<init>", desc := "()V" } : Jvm.MethodName) object_method_1_code (1 : Nat) (Option.none : Option Jvm.ClassFile.FieldType)).before args0 about1 = true := code_word (m := ⟨0, 0⟩) (meth := k0m0) (c := k0c0) (by decide +kernel) rfl rfl rfl (by decide +kernel)
set_option maxRecDepth 65536 in
theorem w_c3 : (Jvm.Cond.code ({ cls := "com/example/steward/steward/timeordered/SequenceTable", name := "hour", desc := "(I)I" } : Jvm.MethodName) prog_83_method_3_code (2 : Nat) (Option.some Jvm.ClassFile.FieldType.int)).before args0 about1 = true := code_word (m := ⟨2, 1⟩) (meth := k2m1) (c := k2c1) (by decide +kernel) rfl rfl rfl (by decide +kernel)
set_option maxRecDepth 65536 in
theorem w_c4 : (Jvm.Cond.code ({ cls := "com/example/steward/steward/timeordered/SequenceTable", name := "set", desc := "(II)V" } : Jvm.MethodName) prog_83_method_4_code (3 : Nat) (Option.none : Option Jvm.ClassFile.FieldType)).before args0 about1 = true := code_word (m := ⟨2, 2⟩) (meth := k2m2) (c := k2c2) (by decide +kernel) rfl rfl rfl (by decide +kernel)
set_option maxRecDepth 65536 in
theorem w_c5 : (Jvm.Cond.code ({ cls := "java/lang/Math", name := "max", desc := "(II)I" } : Jvm.MethodName) jdk_29_method_65_code (2 : Nat) (Option.some Jvm.ClassFile.FieldType.int)).before args0 about1 = true := code_word (m := ⟨3, 1⟩) (meth := k3m1) (c := k3c1) (by decide +kernel) rfl rfl rfl (by decide +kernel)
set_option maxRecDepth 65536 in
theorem w_c6 : (Jvm.Cond.code ({ cls := "java/util/Arrays", name := "copyOf", desc := "([II)[I" } : Jvm.MethodName) jdk_65_method_123_code (3 : Nat) (Option.some (Jvm.ClassFile.FieldType.array Jvm.ClassFile.FieldType.int))).before args0 about1 = true := code_word (m := ⟨4, 1⟩) (meth := k4m1) (c := k4c1) (by decide +kernel) rfl rfl rfl (by decide +kernel)
set_option maxRecDepth 65536 in
theorem w_c7 : (Jvm.Cond.code ({ cls := "java/lang/Math", name := "min", desc := "(II)I" } : Jvm.MethodName) jdk_29_method_69_code (2 : Nat) (Option.some Jvm.ClassFile.FieldType.int)).before args0 about1 = true := code_word (m := ⟨3, 2⟩) (meth := k3m2) (c := k3c2) (by decide +kernel) rfl rfl rfl (by decide +kernel)
def codes1 : List Jvm.Cond := [Jvm.Cond.code x code maxLocals ret, Jvm.Cond.code ({ cls := "com/example/steward/steward/timeordered/SequenceTable", name := "<init>", desc := "(I)V" } : Jvm.MethodName) prog_83_method_1_code (2 : Nat) (Option.none : Option Jvm.ClassFile.FieldType), Jvm.Cond.code ({ cls := "java/lang/Object", name := "<init>", desc := "()V" } : Jvm.MethodName) object_method_1_code (1 : Nat) (Option.none : Option Jvm.ClassFile.FieldType), Jvm.Cond.code ({ cls := "com/example/steward/steward/timeordered/SequenceTable", name := "hour", desc := "(I)I" } : Jvm.MethodName) prog_83_method_3_code (2 : Nat) (Option.some Jvm.ClassFile.FieldType.int), Jvm.Cond.code ({ cls := "com/example/steward/steward/timeordered/SequenceTable", name := "set", desc := "(II)V" } : Jvm.MethodName) prog_83_method_4_code (3 : Nat) (Option.none : Option Jvm.ClassFile.FieldType), Jvm.Cond.code ({ cls := "java/lang/Math", name := "max", desc := "(II)I" } : Jvm.MethodName) jdk_29_method_65_code (2 : Nat) (Option.some Jvm.ClassFile.FieldType.int), Jvm.Cond.code ({ cls := "java/util/Arrays", name := "copyOf", desc := "([II)[I" } : Jvm.MethodName) jdk_65_method_123_code (3 : Nat) (Option.some (Jvm.ClassFile.FieldType.array Jvm.ClassFile.FieldType.int)), Jvm.Cond.code ({ cls := "java/lang/Math", name := "min", desc := "(II)I" } : Jvm.MethodName) jdk_29_method_69_code (2 : Nat) (Option.some Jvm.ClassFile.FieldType.int)]
set_option maxRecDepth 65536 in
theorem codes_eq : words1.filter isCode = codes1 := rfl
theorem w_codes : ∀ c ∈ words1.filter isCode, c.before args0 about1 = true := by
  rw [codes_eq]
  intro c hc
  simp only [codes1, List.mem_cons, List.not_mem_nil, or_false] at hc
  rcases hc with rfl | rfl | rfl | rfl | rfl | rfl | rfl | rfl
  · exact w_c0
  · exact w_c1
  · exact w_c2
  · exact w_c3
  · exact w_c4
  · exact w_c5
  · exact w_c6
  · exact w_c7
set_option maxRecDepth 65536 in
theorem w_t1 : (words1.take 24).all (fun c => isCode c || c.before args0 about1) = true := by decide +kernel
set_option maxRecDepth 65536 in
theorem w_t2 : (words1.drop 24).all (fun c => isCode c || c.before args0 about1) = true := by decide +kernel
theorem w_tables : (allAtoms (Jvm.Cond.code x code maxLocals ret :: tables_1)).before args0 about1 = true := by
  rw [allAtoms_all]
  show words1.all (fun c => c.before args0 about1) = true
  refine all_split ?_ w_codes
  rw [← List.take_append_drop 24 words1, List.all_append, w_t1, w_t2]
  rfl
set_option maxRecDepth 65536 in
theorem w_case : (Jvm.Cond.and given_1 narrow_1).before args0 about1 = true := by decide +kernel
theorem w_applies : (headSpec (Jvm.Cond.code x code maxLocals ret :: tables_1) room_1).applies x e0.platform about1 = true :=
  (Spec.applies_iff w_frames).mpr ⟨w_running, w_runnable, w_alone, w_named, w_hears, w_ripe, w_room, w_tables⟩
theorem atStart : AtStart classFile x code maxLocals ret World_1 tables_1 room_1 Calls_1 rest_1 Pre_1 launch0 p0 e0 about1 theMethod args0 below0 :=
  ⟨lists_1, trivial, launch0.admits_env _ _ _, launch0.least_env, fairChoices_fair.cas, fairChoices_fair.clock, w_frames, w_args, w_heap, w_applies, trivial, trivial, w_case⟩
end start1
theorem witness_1 : WitnessClaimed_1 := ⟨start1.p0, start1.e0, start1.about1, start1.theMethod, start1.args0, start1.below0, start1.atStart⟩
end Jvm.Pilot.@@N@@
