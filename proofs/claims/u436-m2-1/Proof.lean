import JvmDerived
import JvmDerived.Pilot.@@N@@Statement
import JvmDerived.Pilot.@@N@@Code
set_option linter.unusedVariables false
set_option linter.unusedSimpArgs false
namespace Jvm.Pilot.@@N@@
open Jvm Jvm.ClassFile Sem Op Lib Jvm.Free Jvm.Stand Jvm.LawKit Jvm.RoadKit Bundle Jvm.Pilot.@@N@@.Jvm.D
section Own
variable {p : Program} {l : Launch} {e : Env} {R : Room} {s : State} {m : MethodId} {args : Array Value} {below : List Frame} {meth : Method} {c : Code} {T : State} {locs : List Loc} {cells slots : Nat} {C N : Nat} {Q : Option Value → Heap → List Loc → Prop} {S S' : State} {Z : State} {h h' : Heap}
/-- from the state S the invocation ends in a return, and Q holds there -/
def Go (p : Program) (e : Env) (below : List Frame) (s : State) (C N : Nat) (Q : Option Value → Heap → List Loc → Prop) (S : State) : Prop :=
  ∃ s₂ o, Steps p.tables e below S s₂ ∧ s₂.status = .running ∧ Ended s₂ below o ∧ ∃ v L, o = .returned v ∧ Q v s₂.heap L ∧ FrameEnd s o s₂ L C N
theorem Go.step (st : ∀ t, Steps p.tables e below S' t → Steps p.tables e below S t) (G : Go p e below s C N Q S') : Go p e below s C N Q S := by
  obtain ⟨s₂, o, h, r⟩ := G
  exact ⟨s₂, o, st _ h, r⟩
theorem Go.tr (st : Steps p.tables e below S S') (G : Go p e below s C N Q S') : Go p e below s C N Q S := by
  obtain ⟨s₂, o, h, r⟩ := G
  exact ⟨s₂, o, st.trans h, r⟩
theorem Go.out (X : Stand p l e R s m args below meth c T locs cells slots) {v : Option Value} {g : JFrame} (hv : meth.sig.returnType = none → v = none) (hlk : meth.locks = false)
    (hst : ∀ fs, (∀ (f : JFrame) (acts : List Action), f.method = m → f.locked = none → f.entered = [] → (doReturn e (T.setTop f) acts v).1 = T.setFrames fs) → Steps p.tables e below (T.setTop g) (T.setFrames fs))
    (hQ : Q v T.heap locs) (hc : cells ≤ C) (hn : slots ≤ N) : Go p e below s C N Q (T.setTop g) := by
  obtain ⟨fs, hr, hrun, hended, hW, hsame⟩ := X.leave (v := v) hv hlk
  exact ⟨_, _, hst fs hr, hrun, hended, _, _, rfl, hQ, ⟨_, rfl⟩, hW, hsame.mono hc hn⟩
theorem Go.retV (X : Stand p l e R s m args below meth c T locs cells slots) (hx : p.tables.exec = Jvm.exec) {pc : Nat} {Ls : Array Slot} (hret : meth.sig.returnType = none) (hlk : meth.locks = false) (hd : decode c.code pc = .ok (.return_, 1))
    (hQ : Q none T.heap locs) (hc : cells ≤ C) (hn : slots ≤ N) : Go p e below s C N Q (T.setTop (mkF m pc Ls [])) :=
  Go.out X (fun _ => rfl) hlk (fun fs hr => X.returnOut hx hret hd hr) hQ hc hn
theorem Go.retI (X : Stand p l e R s m args below meth c T locs cells slots) (hx : p.tables.exec = Jvm.exec) {pc : Nat} {Ls : Array Slot} {z : Int32} {rest : List Value} (hret : meth.sig.returnType = some .int) (hlk : meth.locks = false) (hd : decode c.code pc = .ok (.ireturn, 1))
    (hQ : Q (some (.int z)) T.heap locs) (hc : cells ≤ C) (hn : slots ≤ N) : Go p e below s C N Q (T.setTop (mkF m pc Ls (.int z :: rest))) :=
  Go.out X (fun h => by rw [hret] at h; cases h) hlk (fun fs hr => retOut X hx hret rfl (Or.inl ⟨rfl, Or.inl rfl, z, rfl⟩) hd hr) hQ hc hn
theorem Go.retN (X : Stand p l e R s m args below meth c T locs cells slots) (hx : p.tables.exec = Jvm.exec) {pc : Nat} {Ls : Array Slot} {z : Int32} {t : FieldType} {rest : List Value} (hret : meth.sig.returnType = some t) (ht : t = .boolean ∨ t = .byte ∨ t = .char ∨ t = .short) (hlk : meth.locks = false) (hd : decode c.code pc = .ok (.ireturn, 1))
    (hQ : Q (some (.int (nar t z))) T.heap locs) (hc : cells ≤ C) (hn : slots ≤ N) : Go p e below s C N Q (T.setTop (mkF m pc Ls (.int z :: rest))) :=
  Go.out X (fun h => by rw [hret] at h; cases h) hlk (fun fs hr => Jvm.RoadKit.retN X hx hret ht hd hr) hQ hc hn
theorem Go.retJ (X : Stand p l e R s m args below meth c T locs cells slots) (hx : p.tables.exec = Jvm.exec) {pc : Nat} {Ls : Array Slot} {z : Int64} {rest : List Value} (hret : meth.sig.returnType = some .long) (hlk : meth.locks = false) (hd : decode c.code pc = .ok (.lreturn, 1))
    (hQ : Q (some (.long z)) T.heap locs) (hc : cells ≤ C) (hn : slots ≤ N) : Go p e below s C N Q (T.setTop (mkF m pc Ls (.long z :: rest))) :=
  Go.out X (fun h => by rw [hret] at h; cases h) hlk (fun fs hr => retOut X hx hret rfl (Or.inr (Or.inl ⟨rfl, rfl, z, rfl⟩)) hd hr) hQ hc hn
theorem Go.retA (X : Stand p l e R s m args below meth c T locs cells slots) (hx : p.tables.exec = Jvm.exec) {pc : Nat} {Ls : Array Slot} {w : Value} {t : FieldType} {rest : List Value} (hret : meth.sig.returnType = some t) (ht : t.isReference = true) (hw : w.isRef = true) (hlk : meth.locks = false) (hd : decode c.code pc = .ok (.areturn, 1))
    (hQ : Q (some w) T.heap locs) (hc : cells ≤ C) (hn : slots ≤ N) : Go p e below s C N Q (T.setTop (mkF m pc Ls (w :: rest))) :=
  Go.out X (fun h => by rw [hret] at h; cases h) hlk (fun fs hr => retOut X hx hret (by rcases ref_cases hw with rfl | ⟨a, rfl⟩ <;> cases t <;> first | rfl | cases ht) (Or.inr (Or.inr (Or.inr (Or.inr ⟨rfl, ht, hw⟩)))) hd hr) hQ hc hn
/-- an array of ints, bytes ..: z places, the j-th holds f j -/
def Ai (Z : State) (h : Heap) (a : Addr) (ty : FieldType) (z : Int32) (f : Int32 → Int32) : Prop :=
  ∃ c : Cell, Arr Z h a c ty ∧ c.slots.size = z.toNatClampNeg ∧ ¬ z < 0 ∧ ∀ j : Int32, ¬ j < 0 → j < z → c.slots[j.toNatClampNeg]? = some (.int (f j))
theorem own_inb {cl : Cell} {z j : Int32} (S : cl.slots.size = z.toNatClampNeg) (h0 : ¬ j < 0) (h1 : j < z) : ¬ (j < 0 ∨ cl.slots.size ≤ j.toNatClampNeg) := inb_of S ⟨h0, h1⟩
theorem Ai.lt {a : Addr} {ty : FieldType} {z : Int32} {f : Int32 → Int32} (F : Ai Z h a ty z f) : a < h.size := by obtain ⟨c, A, -⟩ := F; exact A.lt
theorem Ai.nn {a : Addr} {ty : FieldType} {z : Int32} {f : Int32 → Int32} (F : Ai Z h a ty z f) : ¬ z < 0 := by obtain ⟨c, -, -, q, -⟩ := F; exact q
theorem Ai.ext {a : Addr} {ty : FieldType} {z : Int32} {f : Int32 → Int32} (F : Ai Z h a ty z f) (E : Ext h h') : Ai Z h' a ty z f := by obtain ⟨c, A, r⟩ := F; exact ⟨c, A.ext E, r⟩
theorem Ai.other {a b : Addr} {sl : Nat} {v : Value} {ty : FieldType} {z : Int32} {f : Int32 → Int32} (F : Ai Z h b ty z f) (W : Wr h h' a sl v) (q : b ≠ a) : Ai Z h' b ty z f := by obtain ⟨c, A, r⟩ := F; exact ⟨c, A.other W q, r⟩
theorem Ai.keep {a : Addr} {ws : List Addr} {ty : FieldType} {z : Int32} {f : Int32 → Int32} (F : Ai Z h a ty z f) (K : Keep h h' ws) (q : a ∉ ws) : Ai Z h' a ty z f := by obtain ⟨c, A, r⟩ := F; exact ⟨c, ⟨K.2.1 a c A.1 q, A.2⟩, r⟩
theorem Ai.new {a : Addr} {k : ClassId} {ty : FieldType} {z : Int32} (A : Arr Z h a (newA k ty z) ty) (q : ¬ z < 0) (hd : defaultValue ty = .int 0) : Ai Z h a ty z (fun _ => 0) :=
  ⟨_, A, sz_new _ _ _, q, fun j h0 h1 => by rw [get_new (sz_new k ty z ▸ own_inb (sz_new k ty z) h0 h1), hd]⟩
theorem Ai.eqf {a : Addr} {ty : FieldType} {z : Int32} {f g : Int32 → Int32} (F : Ai Z h a ty z f) (q : ∀ j : Int32, ¬ j < 0 → j < z → f j = g j) : Ai Z h a ty z g := by
  obtain ⟨c, A, S, n, H⟩ := F; exact ⟨c, A, S, n, fun j h0 h1 => by rw [← q j h0 h1]; exact H j h0 h1⟩
theorem Ai.set {a : Addr} {ty : FieldType} {z j x : Int32} {f : Int32 → Int32} (F : Ai Z h a ty z f) (h0 : ¬ j < 0) (h1 : j < z) (W : Wr h h' a j.toNatClampNeg (.int x)) : Ai Z h' a ty z (fun i => if i = j then x else f i) := by
  obtain ⟨c, A, S, n, H⟩ := F
  refine ⟨_, A.same W, by rw [sz_set]; exact S, n, fun i g0 g1 => ?_⟩
  by_cases e : i = j
  · rw [get_hit (own_inb S h0 h1) e]; simp [e]
  · rw [get_miss h0 g0 e, H i g0 g1]; simp [e]
theorem Ai.len (X : Stand p l e R s m args below meth c T locs cells slots) (hx : p.tables.exec = Jvm.exec) (hZ : Z.Warmed39 s.vm) (eT : T.heap = h) {a : Addr} {ty : FieldType} {z : Int32} {f : Int32 → Int32} (F : Ai Z h a ty z f)
    {g : JFrame} (hg : g.method = m) {rest : List Value} (hs : g.stack = .ref a :: rest) (hd : decode c.code g.pc = .ok (.arraylength, 1)) : ∀ target, Steps p.tables e below (T.setTop { g with pc := g.pc + 1, stack := .int z :: rest }) target → Steps p.tables e below (T.setTop g) target := by
  obtain ⟨cl, A, S, n, H⟩ := F
  intro t k
  refine X.arraylength hx (by rw [eT]; exact A.1) (State.isArrayOf_alike hZ.alike A.2.1) hg hs hd _ ?_
  rw [len_of S n]; exact k
theorem Ai.iaload (X : Stand p l e R s m args below meth c T locs cells slots) (hx : p.tables.exec = Jvm.exec) (hZ : Z.Warmed39 s.vm) (eT : T.heap = h) {a : Addr} {z j : Int32} {f : Int32 → Int32} (F : Ai Z h a .int z f) (h0 : ¬ j < 0) (h1 : j < z)
    {g : JFrame} (hg : g.method = m) {rest : List Value} (hs : g.stack = .int j :: .ref a :: rest) (hd : decode c.code g.pc = .ok (.iaload, 1)) : ∀ target, Steps p.tables e below (T.setTop { g with pc := g.pc + 1, stack := .int (f j) :: rest }) target → Steps p.tables e below (T.setTop g) target := by
  obtain ⟨cl, A, S, n, H⟩ := F
  exact X.iaload hx (by rw [eT]; exact A.1) (State.isArrayOf_alike hZ.alike A.2.1) A.2.2 (own_inb S h0 h1) (H j h0 h1) hg hs hd
theorem Ai.baload (X : Stand p l e R s m args below meth c T locs cells slots) (hx : p.tables.exec = Jvm.exec) (hZ : Z.Warmed39 s.vm) (eT : T.heap = h) {a : Addr} {z j : Int32} {f : Int32 → Int32} (F : Ai Z h a .byte z f) (h0 : ¬ j < 0) (h1 : j < z)
    {g : JFrame} (hg : g.method = m) {rest : List Value} (hs : g.stack = .int j :: .ref a :: rest) (hd : decode c.code g.pc = .ok (.baload, 1)) : ∀ target, Steps p.tables e below (T.setTop { g with pc := g.pc + 1, stack := .int (f j) :: rest }) target → Steps p.tables e below (T.setTop g) target := by
  obtain ⟨cl, A, S, n, H⟩ := F
  exact X.baloadBytes hx (by rw [eT]; exact A.1) (State.isArrayOf_alike hZ.alike A.2.1) A.2.2 (own_inb S h0 h1) (H j h0 h1) hg hs hd
theorem Ai.stI (X : Stand p l e R s m args below meth c T locs cells slots) (hx : p.tables.exec = Jvm.exec) (hZ : Z.Warmed39 s.vm) (eT : T.heap = h) {a : Addr} {z j x : Int32} {f : Int32 → Int32} (F : Ai Z h a .int z f) (h0 : ¬ j < 0) (h1 : j < z)
    {g : JFrame} (hg : g.method = m) {rest : List Value} (hs : g.stack = .int x :: .int j :: .ref a :: rest) (hd : decode c.code g.pc = .ok (.iastore, 1)) :
    ∃ T' h', Stand p l e R s m args below meth c T' (locs ++ [⟨a, j.toNatClampNeg⟩]) cells slots ∧ T'.heap = h' ∧ Wr h h' a j.toNatClampNeg (.int x) ∧ Ai Z h' a .int z (fun i => if i = j then x else f i) ∧ ∀ target, Steps p.tables e below (T'.setTop { g with pc := g.pc + 1, stack := rest }) target → Steps p.tables e below (T.setTop g) target := by
  obtain ⟨cl, A, S, n, H⟩ := F
  obtain ⟨T', h', X', e', W, st⟩ := Jvm.RoadKit.stI X hx hZ eT A (own_inb S h0 h1) hg hs hd
  exact ⟨T', h', X', e', W, Ai.set ⟨cl, A, S, n, H⟩ h0 h1 W, st⟩
theorem Ai.stB (X : Stand p l e R s m args below meth c T locs cells slots) (hx : p.tables.exec = Jvm.exec) (hZ : Z.Warmed39 s.vm) (eT : T.heap = h) {a : Addr} {z j x : Int32} {f : Int32 → Int32} (F : Ai Z h a .byte z f) (h0 : ¬ j < 0) (h1 : j < z)
    {g : JFrame} (hg : g.method = m) {rest : List Value} (hs : g.stack = .int x :: .int j :: .ref a :: rest) (hd : decode c.code g.pc = .ok (.bastore, 1)) :
    ∃ T' h', Stand p l e R s m args below meth c T' (locs ++ [⟨a, j.toNatClampNeg⟩]) cells slots ∧ T'.heap = h' ∧ Wr h h' a j.toNatClampNeg (.int (nar .byte x)) ∧ Ai Z h' a .byte z (fun i => if i = j then nar .byte x else f i) ∧ ∀ target, Steps p.tables e below (T'.setTop { g with pc := g.pc + 1, stack := rest }) target → Steps p.tables e below (T.setTop g) target := by
  obtain ⟨cl, A, S, n, H⟩ := F
  obtain ⟨T', h', X', e', W, st⟩ := Jvm.RoadKit.stB X hx hZ eT A (own_inb S h0 h1) hg hs hd
  exact ⟨T', h', X', e', W, Ai.set ⟨cl, A, S, n, H⟩ h0 h1 W, st⟩
end Own
theorem narrow_ref {t : FieldType} {v : Value} (hv : v.isRef = true) (ht : t.isReference = true) : narrow t v = v := by rcases ref_cases hv with rfl | ⟨a, rfl⟩ <;> cases t <;> first | rfl | cases ht
theorem fits_refV {t : FieldType} {v : Value} (hv : v.isRef = true) (ht : t.isReference = true) : fits t v = true := by rcases ref_cases hv with rfl | ⟨a, rfl⟩ <;> cases t <;> first | rfl | cases ht
theorem own_iincW {tb : Tables} [Ours tb] {e : Env} {below : List Frame} {T target : State} {m : MethodId} {c : Code} {g : JFrame} (h : At T m c below) (hx : tb.exec = Jvm.exec) (hg : g.method = m) {k : Nat} {cst : Int} {x : Int32} {l' : Array Slot} (hd : decode c.code g.pc = .ok (.iinc k cst, 6)) (hl : g.locals[k]? = some (.val (.int x))) (hl' : storeLocals g.locals k (.int (x + Int32.ofInt cst)) = some l')
    (hr : Steps tb e below (T.setTop { g with pc := g.pc + 6, locals := l' }) target) : Steps tb e below (T.setTop g) target := by
  subst hg
  jvm_step h [h.top, hx, hd, hl, hl']
  exact hr

theorem own_nb1 : nar .boolean 1 = 1 := by decide
theorem own_nb0 : nar .boolean 0 = 0 := by decide
theorem own_i_65536 : (65536 : Int32).toInt = 65536 := by decide
theorem own_i_160 : (160 : Int32).toInt = 160 := by decide
theorem own_i_55295 : (55295 : Int32).toInt = 55295 := by decide
theorem own_i_63744 : (63744 : Int32).toInt = 63744 := by decide
theorem own_i_64975 : (64975 : Int32).toInt = 64975 := by decide
theorem own_i_65008 : (65008 : Int32).toInt = 65008 := by decide
theorem own_i_65519 : (65519 : Int32).toInt = 65519 := by decide
theorem own_i_917504 : (917504 : Int32).toInt = 917504 := by decide
theorem own_i_921599 : (921599 : Int32).toInt = 921599 := by decide
theorem own_i_983039 : (983039 : Int32).toInt = 983039 := by decide
theorem own_i_65535 : (65535 : Int32).toInt = 65535 := by decide
theorem own_i_65533 : (65533 : Int32).toInt = 65533 := by decide
theorem own_i_917503 : (917503 : Int32).toInt = 917503 := by decide
theorem own_i_921600 : (921600 : Int32).toInt = 921600 := by decide
theorem own_i_983037 : (983037 : Int32).toInt = 983037 := by decide
def own_isU (c : Int) : Prop := (160 ≤ c ∧ c ≤ 55295) ∨ (63744 ≤ c ∧ c ≤ 64975) ∨ (65008 ≤ c ∧ c ≤ 65519) ∨ (65536 ≤ c ∧ c ≤ 983039 ∧ ¬ (917504 ≤ c ∧ c ≤ 921599) ∧ c % 65536 ≤ 65533)
instance (c : Int) : Decidable (own_isU c) := by unfold own_isU; infer_instance
def own_uc (c : Int32) : Int32 := if own_isU c.toInt then 1 else 0
theorem own_ucT {c : Int32} (h : own_isU c.toInt) : some (Value.int (nar .boolean 1)) = some (Value.int (own_uc c)) := by rw [own_nb1, own_uc, if_pos h]
theorem own_ucF {c : Int32} (h : ¬ own_isU c.toInt) : some (Value.int (nar .boolean 0)) = some (Value.int (own_uc c)) := by rw [own_nb0, own_uc, if_neg h]
theorem own_m16 (c : Int32) : (c &&& 65535).toInt = c.toInt % 65536 := c_mask c 65535 16 (by decide) (by decide)
theorem own_r16 (c : Int32) : (0 ≤ c.toInt → (c % 65536).toInt = c.toInt % 65536) ∧ (c.toInt < 0 → (c % 65536).toInt = -((-c.toInt) % 65536)) := c_irem c 65536 65536 (by decide)
theorem own_idx (k : Int32) : ¬ ((Int32.toUInt32 k >>> ((2 : Int32) &&& 31).toUInt32).toInt32 % (20 : Int32)) < 0 ∧ ((Int32.toUInt32 k >>> ((2 : Int32) &&& 31).toUInt32).toInt32 % (20 : Int32)) < 20 := by
  have h1 := c_iushr k 2 2 (by decide) (by decide)
  have h2 := rng32 k
  have h3 := (c_iremV ((Int32.toUInt32 k >>> ((2 : Int32) &&& 31).toUInt32).toInt32) 20).1 (by omega) (by decide)
  have e : (20 : Int32).toInt = 20 := by decide
  have e0 : (0 : Int32).toInt = 0 := by decide
  simp only [Int32.lt_iff_toInt_lt, e, e0] at *
  omega
theorem pn_15 : plainName "com/example/omniform/omniform/IriChars" = true := by first | (simp [plainName, overriddenIn]; done) | decide +kernel
theorem d1_0 : decode prog_14_method_14_code 0 = .ok (.iload_n 0, 1) := by decide +kernel
theorem d1_1 : decode prog_14_method_14_code 1 = .ok (.ldc 45, 2) := by decide +kernel
theorem d1_3 : decode prog_14_method_14_code 3 = .ok (.if_icmp .ge 46, 3) := by decide +kernel
theorem d1_6 : decode prog_14_method_14_code 6 = .ok (.iload_n 0, 1) := by decide +kernel
theorem d1_7 : decode prog_14_method_14_code 7 = .ok (.sipush 160, 3) := by decide +kernel
theorem d1_10 : decode prog_14_method_14_code 10 = .ok (.if_icmp .lt 9, 3) := by decide +kernel
theorem d1_13 : decode prog_14_method_14_code 13 = .ok (.iload_n 0, 1) := by decide +kernel
theorem d1_14 : decode prog_14_method_14_code 14 = .ok (.ldc 46, 2) := by decide +kernel
theorem d1_16 : decode prog_14_method_14_code 16 = .ok (.if_icmp .le 27, 3) := by decide +kernel
theorem d1_19 : decode prog_14_method_14_code 19 = .ok (.iload_n 0, 1) := by decide +kernel
theorem d1_20 : decode prog_14_method_14_code 20 = .ok (.ldc 47, 2) := by decide +kernel
theorem d1_22 : decode prog_14_method_14_code 22 = .ok (.if_icmp .lt 9, 3) := by decide +kernel
theorem d1_25 : decode prog_14_method_14_code 25 = .ok (.iload_n 0, 1) := by decide +kernel
theorem d1_26 : decode prog_14_method_14_code 26 = .ok (.ldc 48, 2) := by decide +kernel
theorem d1_28 : decode prog_14_method_14_code 28 = .ok (.if_icmp .le 15, 3) := by decide +kernel
theorem d1_31 : decode prog_14_method_14_code 31 = .ok (.iload_n 0, 1) := by decide +kernel
theorem d1_32 : decode prog_14_method_14_code 32 = .ok (.ldc 49, 2) := by decide +kernel
theorem d1_34 : decode prog_14_method_14_code 34 = .ok (.if_icmp .lt 13, 3) := by decide +kernel
theorem d1_37 : decode prog_14_method_14_code 37 = .ok (.iload_n 0, 1) := by decide +kernel
theorem d1_38 : decode prog_14_method_14_code 38 = .ok (.ldc 50, 2) := by decide +kernel
theorem d1_40 : decode prog_14_method_14_code 40 = .ok (.if_icmp .gt 7, 3) := by decide +kernel
theorem d1_43 : decode prog_14_method_14_code 43 = .ok (.iconst 1, 1) := by decide +kernel
theorem d1_44 : decode prog_14_method_14_code 44 = .ok (.goto 4, 3) := by decide +kernel
theorem d1_47 : decode prog_14_method_14_code 47 = .ok (.iconst 0, 1) := by decide +kernel
theorem d1_48 : decode prog_14_method_14_code 48 = .ok (.ireturn, 1) := by decide +kernel
theorem d1_49 : decode prog_14_method_14_code 49 = .ok (.iload_n 0, 1) := by decide +kernel
theorem d1_50 : decode prog_14_method_14_code 50 = .ok (.ldc 51, 2) := by decide +kernel
theorem d1_52 : decode prog_14_method_14_code 52 = .ok (.if_icmp .lt 11, 3) := by decide +kernel
theorem d1_55 : decode prog_14_method_14_code 55 = .ok (.iload_n 0, 1) := by decide +kernel
theorem d1_56 : decode prog_14_method_14_code 56 = .ok (.ldc 52, 2) := by decide +kernel
theorem d1_58 : decode prog_14_method_14_code 58 = .ok (.if_icmp .gt 5, 3) := by decide +kernel
theorem d1_61 : decode prog_14_method_14_code 61 = .ok (.iconst 0, 1) := by decide +kernel
theorem d1_62 : decode prog_14_method_14_code 62 = .ok (.ireturn, 1) := by decide +kernel
theorem d1_63 : decode prog_14_method_14_code 63 = .ok (.iload_n 0, 1) := by decide +kernel
theorem d1_64 : decode prog_14_method_14_code 64 = .ok (.ldc 53, 2) := by decide +kernel
theorem d1_66 : decode prog_14_method_14_code 66 = .ok (.if_icmp .gt 16, 3) := by decide +kernel
theorem d1_69 : decode prog_14_method_14_code 69 = .ok (.iload_n 0, 1) := by decide +kernel
theorem d1_70 : decode prog_14_method_14_code 70 = .ok (.ldc 54, 2) := by decide +kernel
theorem d1_72 : decode prog_14_method_14_code 72 = .ok (.iand, 1) := by decide +kernel
theorem d1_73 : decode prog_14_method_14_code 73 = .ok (.ldc 55, 2) := by decide +kernel
theorem d1_75 : decode prog_14_method_14_code 75 = .ok (.if_icmp .gt 7, 3) := by decide +kernel
theorem d1_78 : decode prog_14_method_14_code 78 = .ok (.iconst 1, 1) := by decide +kernel
theorem d1_79 : decode prog_14_method_14_code 79 = .ok (.goto 4, 3) := by decide +kernel
theorem d1_82 : decode prog_14_method_14_code 82 = .ok (.iconst 0, 1) := by decide +kernel
theorem d1_83 : decode prog_14_method_14_code 83 = .ok (.ireturn, 1) := by decide +kernel
theorem ef_1 (m : MethodId) (p0 : Int32) : entryFrame m #[(.int p0)] 1 = mkF m 0 #[.val (.int p0)] [] := by first | (simp [entryFrame, mkF, argsToLocals, Value.category]; done) | rfl
def Q1 (Z : State) (p0 : Int32) (h0 : Heap) (n0 : Nat) (v : Option Value) (h : Heap) (L : List Loc) : Prop := (v = some (.int (own_uc p0))) ∧ (Fr n0 L) ∧ (h = h0)
set_option maxRecDepth 65536 in
set_option maxHeartbeats 40000000 in
theorem rm1 (l : Launch) (Z : State) (aZ : Array Value) (hw : ∀ d ∈ tables_1, d.before aZ Z = true) (ws : List Jvm.Cond) (p0 : Int32) (h0 : Heap) (n0 : Nat) (Z0 : n0 ≤ h0.size)  :
    MetFree l (⟨"com/example/omniform/omniform/IriChars", "isUcschar", "(I)Z"⟩ : MethodName) (head1 (Jvm.Cond.code (⟨"com/example/omniform/omniform/IriChars", "isUcschar", "(I)Z"⟩ : MethodName) prog_14_method_14_code 1 (some .boolean) :: ws) ({ frames := 0, cells := 0, slots := 0, locals := 0 } : Room)) (fun a U => a = #[(.int p0)] ∧ Z.Warmed39 U.vm ∧ U.heap = h0) (fun _ _ _ _ _ => True) (fun _ U o U' => ∃ v L, o = .returned v ∧ Q1 Z p0 h0 n0 v U'.heap L ∧ FrameEnd U o U' L ({ frames := 0, cells := 0, slots := 0, locals := 0 } : Room).cells ({ frames := 0, cells := 0, slots := 0, locals := 0 } : Room).slots) := by
  refine MetFree.of_bodySF (plainFor_of_name pn_15) hisR ?_
  intro p e s m args below meth c s₁ Bd hml0 hP hK
  obtain ⟨rfl, hZ, hh⟩ := hP
  have hx := Bd.exec
  have hby := Bd.bytes
  have hml : c.maxLocals = 1 := hml0
  have hown : s.vm.findClass "com/example/omniform/omniform/IriChars" = some m.cls := findClass_of_methodNamed Bd.named
  have hnm := (name_of_methodNamed Bd.named Bd.method).1
  have hlk : meth.locks = false := BodyLoose.notSynchronized Bd
  have X0 : Stand p l e ({ frames := 0, cells := 0, slots := 0, locals := 0 } : Room) s m #[(.int p0)] below meth c s₁ [] 0 0 := Stand.of_body Bd
  have e0 : s₁.heap = h0 := by rw [← hh, Bd.state]; rfl
  have N0 := Fr.nil n0
  have sq0 : h0.size ≤ h0.size := Nat.le_refl _
  change Go p e below s ({ frames := 0, cells := 0, slots := 0, locals := 0 } : Room).cells ({ frames := 0, cells := 0, slots := 0, locals := 0 } : Room).slots (Q1 Z p0 h0 n0) (s₁.setTop (entryFrame m #[(.int p0)] 1))
  rw [ef_1 m p0]
  show Go _ _ _ _ _ _ _ (s₁.setTop (mkF m 0 #[.val (.int p0)] []))
  refine Go.step (fun _ k => XS.iloadN X0.here hx rfl (hb hby d1_0) rfl  k) ?_
  show Go _ _ _ _ _ _ _ (s₁.setTop (mkF m 1 #[.val (.int p0)] [(.int p0)]))
  refine Go.step (X0.ldcInt hx hown (mvT hZ (hw _ (List.mem_of_getElem? (i := 24) rfl))) (g := (mkF m 1 #[.val (.int p0)] [(.int p0)])) rfl (hb hby d1_1)) ?_
  show Go _ _ _ _ _ _ _ (s₁.setTop (mkF m 3 #[.val (.int p0)] [(.int (65536 : Int32)), (.int p0)]))
  by_cases hc3 : p0 < (65536 : Int32)
  · skip
    refine Go.step (fun _ k => XS.icmpNo X0.here hx rfl (hb hby d1_3) rfl (tlt hc3).2.1 k) ?_
    show Go _ _ _ _ _ _ _ (s₁.setTop (mkF m 6 #[.val (.int p0)] []))
    refine Go.step (fun _ k => XS.iloadN X0.here hx rfl (hb hby d1_6) rfl  k) ?_
    show Go _ _ _ _ _ _ _ (s₁.setTop (mkF m 7 #[.val (.int p0)] [(.int p0)]))
    refine Go.step (fun _ k => XS.sipush X0.here hx rfl (hb hby d1_7) k) ?_
    show Go _ _ _ _ _ _ _ (s₁.setTop (mkF m 10 #[.val (.int p0)] [(.int (160 : Int32)), (.int p0)]))
    by_cases hc10 : p0 < (160 : Int32)
    · skip
      refine Go.step (fun _ k => XS.icmpYes X0.here hx rfl (pc0 := 10) (pc' := 19) rfl (hb hby d1_10) rfl (tlt hc10).1 (by decide) (by decide) k) ?_
      show Go _ _ _ _ _ _ _ (s₁.setTop (mkF m 19 #[.val (.int p0)] []))
      refine Go.step (fun _ k => XS.iloadN X0.here hx rfl (hb hby d1_19) rfl  k) ?_
      show Go _ _ _ _ _ _ _ (s₁.setTop (mkF m 20 #[.val (.int p0)] [(.int p0)]))
      refine Go.step (X0.ldcInt hx hown (mvT hZ (hw _ (List.mem_of_getElem? (i := 26) rfl))) (g := (mkF m 20 #[.val (.int p0)] [(.int p0)])) rfl (hb hby d1_20)) ?_
      show Go _ _ _ _ _ _ _ (s₁.setTop (mkF m 22 #[.val (.int p0)] [(.int (63744 : Int32)), (.int p0)]))
      by_cases hc22 : p0 < (63744 : Int32)
      · skip
        refine Go.step (fun _ k => XS.icmpYes X0.here hx rfl (pc0 := 22) (pc' := 31) rfl (hb hby d1_22) rfl (tlt hc22).1 (by decide) (by decide) k) ?_
        show Go _ _ _ _ _ _ _ (s₁.setTop (mkF m 31 #[.val (.int p0)] []))
        refine Go.step (fun _ k => XS.iloadN X0.here hx rfl (hb hby d1_31) rfl  k) ?_
        show Go _ _ _ _ _ _ _ (s₁.setTop (mkF m 32 #[.val (.int p0)] [(.int p0)]))
        refine Go.step (X0.ldcInt hx hown (mvT hZ (hw _ (List.mem_of_getElem? (i := 28) rfl))) (g := (mkF m 32 #[.val (.int p0)] [(.int p0)])) rfl (hb hby d1_32)) ?_
        show Go _ _ _ _ _ _ _ (s₁.setTop (mkF m 34 #[.val (.int p0)] [(.int (65008 : Int32)), (.int p0)]))
        by_cases hc34 : p0 < (65008 : Int32)
        · skip
          refine Go.step (fun _ k => XS.icmpYes X0.here hx rfl (pc0 := 34) (pc' := 47) rfl (hb hby d1_34) rfl (tlt hc34).1 (by decide) (by decide) k) ?_
          show Go _ _ _ _ _ _ _ (s₁.setTop (mkF m 47 #[.val (.int p0)] []))
          refine Go.step (fun _ k => XS.iconst X0.here hx rfl (hb hby d1_47) k) ?_
          show Go _ _ _ _ _ _ _ (s₁.setTop (mkF m 48 #[.val (.int p0)] [(.int (0 : Int32))]))
          refine Go.retN X0 hx (t := .boolean) Bd.returns (by simp) hlk (hb hby d1_48) ?_ (by decide) (by decide)
          rw [e0]
          exact ⟨(by
              have hm := own_m16 p0
              have hr := own_r16 p0
              refine own_ucF ?_
              unfold own_isU
              simp only [Int32.lt_iff_toInt_lt, own_i_65536, own_i_160, own_i_55295, own_i_63744, own_i_64975, own_i_65008, own_i_65519, own_i_917504, own_i_921599, own_i_983039, own_i_65535, own_i_65533, own_i_917503, own_i_921600, own_i_983037] at hc3 hc10 hc22 hc34
              omega), N0, rfl⟩
        · skip
          refine Go.step (fun _ k => XS.icmpNo X0.here hx rfl (hb hby d1_34) rfl (flt hc34).1 k) ?_
          show Go _ _ _ _ _ _ _ (s₁.setTop (mkF m 37 #[.val (.int p0)] []))
          refine Go.step (fun _ k => XS.iloadN X0.here hx rfl (hb hby d1_37) rfl  k) ?_
          show Go _ _ _ _ _ _ _ (s₁.setTop (mkF m 38 #[.val (.int p0)] [(.int p0)]))
          refine Go.step (X0.ldcInt hx hown (mvT hZ (hw _ (List.mem_of_getElem? (i := 29) rfl))) (g := (mkF m 38 #[.val (.int p0)] [(.int p0)])) rfl (hb hby d1_38)) ?_
          show Go _ _ _ _ _ _ _ (s₁.setTop (mkF m 40 #[.val (.int p0)] [(.int (65519 : Int32)), (.int p0)]))
          by_cases hc40 : (65519 : Int32) < p0
          · skip
            refine Go.step (fun _ k => XS.icmpYes X0.here hx rfl (pc0 := 40) (pc' := 47) rfl (hb hby d1_40) rfl (tlt hc40).2.2.1 (by decide) (by decide) k) ?_
            show Go _ _ _ _ _ _ _ (s₁.setTop (mkF m 47 #[.val (.int p0)] []))
            refine Go.step (fun _ k => XS.iconst X0.here hx rfl (hb hby d1_47) k) ?_
            show Go _ _ _ _ _ _ _ (s₁.setTop (mkF m 48 #[.val (.int p0)] [(.int (0 : Int32))]))
            refine Go.retN X0 hx (t := .boolean) Bd.returns (by simp) hlk (hb hby d1_48) ?_ (by decide) (by decide)
            rw [e0]
            exact ⟨(by
                have hm := own_m16 p0
                have hr := own_r16 p0
                refine own_ucF ?_
                unfold own_isU
                simp only [Int32.lt_iff_toInt_lt, own_i_65536, own_i_160, own_i_55295, own_i_63744, own_i_64975, own_i_65008, own_i_65519, own_i_917504, own_i_921599, own_i_983039, own_i_65535, own_i_65533, own_i_917503, own_i_921600, own_i_983037] at hc3 hc10 hc22 hc34 hc40
                omega), N0, rfl⟩
          · skip
            refine Go.step (fun _ k => XS.icmpNo X0.here hx rfl (hb hby d1_40) rfl (flt hc40).2.2.1 k) ?_
            show Go _ _ _ _ _ _ _ (s₁.setTop (mkF m 43 #[.val (.int p0)] []))
            refine Go.step (fun _ k => XS.iconst X0.here hx rfl (hb hby d1_43) k) ?_
            show Go _ _ _ _ _ _ _ (s₁.setTop (mkF m 44 #[.val (.int p0)] [(.int (1 : Int32))]))
            refine Go.step (fun _ k => XS.goto X0.here hx rfl (pc0 := 44) (pc' := 48) rfl (hb hby d1_44) (by decide) (by decide) k) ?_
            show Go _ _ _ _ _ _ _ (s₁.setTop (mkF m 48 #[.val (.int p0)] [(.int (1 : Int32))]))
            refine Go.retN X0 hx (t := .boolean) Bd.returns (by simp) hlk (hb hby d1_48) ?_ (by decide) (by decide)
            rw [e0]
            exact ⟨(by
                have hm := own_m16 p0
                have hr := own_r16 p0
                refine own_ucT ?_
                unfold own_isU
                simp only [Int32.lt_iff_toInt_lt, own_i_65536, own_i_160, own_i_55295, own_i_63744, own_i_64975, own_i_65008, own_i_65519, own_i_917504, own_i_921599, own_i_983039, own_i_65535, own_i_65533, own_i_917503, own_i_921600, own_i_983037] at hc3 hc10 hc22 hc34 hc40
                omega), N0, rfl⟩
      · skip
        refine Go.step (fun _ k => XS.icmpNo X0.here hx rfl (hb hby d1_22) rfl (flt hc22).1 k) ?_
        show Go _ _ _ _ _ _ _ (s₁.setTop (mkF m 25 #[.val (.int p0)] []))
        refine Go.step (fun _ k => XS.iloadN X0.here hx rfl (hb hby d1_25) rfl  k) ?_
        show Go _ _ _ _ _ _ _ (s₁.setTop (mkF m 26 #[.val (.int p0)] [(.int p0)]))
        refine Go.step (X0.ldcInt hx hown (mvT hZ (hw _ (List.mem_of_getElem? (i := 27) rfl))) (g := (mkF m 26 #[.val (.int p0)] [(.int p0)])) rfl (hb hby d1_26)) ?_
        show Go _ _ _ _ _ _ _ (s₁.setTop (mkF m 28 #[.val (.int p0)] [(.int (64975 : Int32)), (.int p0)]))
        by_cases hc28 : (64975 : Int32) < p0
        · skip
          refine Go.step (fun _ k => XS.icmpNo X0.here hx rfl (hb hby d1_28) rfl (tlt hc28).2.2.2 k) ?_
          show Go _ _ _ _ _ _ _ (s₁.setTop (mkF m 31 #[.val (.int p0)] []))
          refine Go.step (fun _ k => XS.iloadN X0.here hx rfl (hb hby d1_31) rfl  k) ?_
          show Go _ _ _ _ _ _ _ (s₁.setTop (mkF m 32 #[.val (.int p0)] [(.int p0)]))
          refine Go.step (X0.ldcInt hx hown (mvT hZ (hw _ (List.mem_of_getElem? (i := 28) rfl))) (g := (mkF m 32 #[.val (.int p0)] [(.int p0)])) rfl (hb hby d1_32)) ?_
          show Go _ _ _ _ _ _ _ (s₁.setTop (mkF m 34 #[.val (.int p0)] [(.int (65008 : Int32)), (.int p0)]))
          by_cases hc34 : p0 < (65008 : Int32)
          · skip
            refine Go.step (fun _ k => XS.icmpYes X0.here hx rfl (pc0 := 34) (pc' := 47) rfl (hb hby d1_34) rfl (tlt hc34).1 (by decide) (by decide) k) ?_
            show Go _ _ _ _ _ _ _ (s₁.setTop (mkF m 47 #[.val (.int p0)] []))
            refine Go.step (fun _ k => XS.iconst X0.here hx rfl (hb hby d1_47) k) ?_
            show Go _ _ _ _ _ _ _ (s₁.setTop (mkF m 48 #[.val (.int p0)] [(.int (0 : Int32))]))
            refine Go.retN X0 hx (t := .boolean) Bd.returns (by simp) hlk (hb hby d1_48) ?_ (by decide) (by decide)
            rw [e0]
            exact ⟨(by
                have hm := own_m16 p0
                have hr := own_r16 p0
                refine own_ucF ?_
                unfold own_isU
                simp only [Int32.lt_iff_toInt_lt, own_i_65536, own_i_160, own_i_55295, own_i_63744, own_i_64975, own_i_65008, own_i_65519, own_i_917504, own_i_921599, own_i_983039, own_i_65535, own_i_65533, own_i_917503, own_i_921600, own_i_983037] at hc3 hc10 hc22 hc28 hc34
                omega), N0, rfl⟩
          · skip
            refine Go.step (fun _ k => XS.icmpNo X0.here hx rfl (hb hby d1_34) rfl (flt hc34).1 k) ?_
            show Go _ _ _ _ _ _ _ (s₁.setTop (mkF m 37 #[.val (.int p0)] []))
            refine Go.step (fun _ k => XS.iloadN X0.here hx rfl (hb hby d1_37) rfl  k) ?_
            show Go _ _ _ _ _ _ _ (s₁.setTop (mkF m 38 #[.val (.int p0)] [(.int p0)]))
            refine Go.step (X0.ldcInt hx hown (mvT hZ (hw _ (List.mem_of_getElem? (i := 29) rfl))) (g := (mkF m 38 #[.val (.int p0)] [(.int p0)])) rfl (hb hby d1_38)) ?_
            show Go _ _ _ _ _ _ _ (s₁.setTop (mkF m 40 #[.val (.int p0)] [(.int (65519 : Int32)), (.int p0)]))
            by_cases hc40 : (65519 : Int32) < p0
            · skip
              refine Go.step (fun _ k => XS.icmpYes X0.here hx rfl (pc0 := 40) (pc' := 47) rfl (hb hby d1_40) rfl (tlt hc40).2.2.1 (by decide) (by decide) k) ?_
              show Go _ _ _ _ _ _ _ (s₁.setTop (mkF m 47 #[.val (.int p0)] []))
              refine Go.step (fun _ k => XS.iconst X0.here hx rfl (hb hby d1_47) k) ?_
              show Go _ _ _ _ _ _ _ (s₁.setTop (mkF m 48 #[.val (.int p0)] [(.int (0 : Int32))]))
              refine Go.retN X0 hx (t := .boolean) Bd.returns (by simp) hlk (hb hby d1_48) ?_ (by decide) (by decide)
              rw [e0]
              exact ⟨(by
                  have hm := own_m16 p0
                  have hr := own_r16 p0
                  refine own_ucF ?_
                  unfold own_isU
                  simp only [Int32.lt_iff_toInt_lt, own_i_65536, own_i_160, own_i_55295, own_i_63744, own_i_64975, own_i_65008, own_i_65519, own_i_917504, own_i_921599, own_i_983039, own_i_65535, own_i_65533, own_i_917503, own_i_921600, own_i_983037] at hc3 hc10 hc22 hc28 hc34 hc40
                  omega), N0, rfl⟩
            · skip
              refine Go.step (fun _ k => XS.icmpNo X0.here hx rfl (hb hby d1_40) rfl (flt hc40).2.2.1 k) ?_
              show Go _ _ _ _ _ _ _ (s₁.setTop (mkF m 43 #[.val (.int p0)] []))
              refine Go.step (fun _ k => XS.iconst X0.here hx rfl (hb hby d1_43) k) ?_
              show Go _ _ _ _ _ _ _ (s₁.setTop (mkF m 44 #[.val (.int p0)] [(.int (1 : Int32))]))
              refine Go.step (fun _ k => XS.goto X0.here hx rfl (pc0 := 44) (pc' := 48) rfl (hb hby d1_44) (by decide) (by decide) k) ?_
              show Go _ _ _ _ _ _ _ (s₁.setTop (mkF m 48 #[.val (.int p0)] [(.int (1 : Int32))]))
              refine Go.retN X0 hx (t := .boolean) Bd.returns (by simp) hlk (hb hby d1_48) ?_ (by decide) (by decide)
              rw [e0]
              exact ⟨(by
                  have hm := own_m16 p0
                  have hr := own_r16 p0
                  refine own_ucT ?_
                  unfold own_isU
                  simp only [Int32.lt_iff_toInt_lt, own_i_65536, own_i_160, own_i_55295, own_i_63744, own_i_64975, own_i_65008, own_i_65519, own_i_917504, own_i_921599, own_i_983039, own_i_65535, own_i_65533, own_i_917503, own_i_921600, own_i_983037] at hc3 hc10 hc22 hc28 hc34 hc40
                  omega), N0, rfl⟩
        · skip
          refine Go.step (fun _ k => XS.icmpYes X0.here hx rfl (pc0 := 28) (pc' := 43) rfl (hb hby d1_28) rfl (flt hc28).2.2.2 (by decide) (by decide) k) ?_
          show Go _ _ _ _ _ _ _ (s₁.setTop (mkF m 43 #[.val (.int p0)] []))
          refine Go.step (fun _ k => XS.iconst X0.here hx rfl (hb hby d1_43) k) ?_
          show Go _ _ _ _ _ _ _ (s₁.setTop (mkF m 44 #[.val (.int p0)] [(.int (1 : Int32))]))
          refine Go.step (fun _ k => XS.goto X0.here hx rfl (pc0 := 44) (pc' := 48) rfl (hb hby d1_44) (by decide) (by decide) k) ?_
          show Go _ _ _ _ _ _ _ (s₁.setTop (mkF m 48 #[.val (.int p0)] [(.int (1 : Int32))]))
          refine Go.retN X0 hx (t := .boolean) Bd.returns (by simp) hlk (hb hby d1_48) ?_ (by decide) (by decide)
          rw [e0]
          exact ⟨(by
              have hm := own_m16 p0
              have hr := own_r16 p0
              refine own_ucT ?_
              unfold own_isU
              simp only [Int32.lt_iff_toInt_lt, own_i_65536, own_i_160, own_i_55295, own_i_63744, own_i_64975, own_i_65008, own_i_65519, own_i_917504, own_i_921599, own_i_983039, own_i_65535, own_i_65533, own_i_917503, own_i_921600, own_i_983037] at hc3 hc10 hc22 hc28
              omega), N0, rfl⟩
    · skip
      refine Go.step (fun _ k => XS.icmpNo X0.here hx rfl (hb hby d1_10) rfl (flt hc10).1 k) ?_
      show Go _ _ _ _ _ _ _ (s₁.setTop (mkF m 13 #[.val (.int p0)] []))
      refine Go.step (fun _ k => XS.iloadN X0.here hx rfl (hb hby d1_13) rfl  k) ?_
      show Go _ _ _ _ _ _ _ (s₁.setTop (mkF m 14 #[.val (.int p0)] [(.int p0)]))
      refine Go.step (X0.ldcInt hx hown (mvT hZ (hw _ (List.mem_of_getElem? (i := 25) rfl))) (g := (mkF m 14 #[.val (.int p0)] [(.int p0)])) rfl (hb hby d1_14)) ?_
      show Go _ _ _ _ _ _ _ (s₁.setTop (mkF m 16 #[.val (.int p0)] [(.int (55295 : Int32)), (.int p0)]))
      by_cases hc16 : (55295 : Int32) < p0
      · skip
        refine Go.step (fun _ k => XS.icmpNo X0.here hx rfl (hb hby d1_16) rfl (tlt hc16).2.2.2 k) ?_
        show Go _ _ _ _ _ _ _ (s₁.setTop (mkF m 19 #[.val (.int p0)] []))
        refine Go.step (fun _ k => XS.iloadN X0.here hx rfl (hb hby d1_19) rfl  k) ?_
        show Go _ _ _ _ _ _ _ (s₁.setTop (mkF m 20 #[.val (.int p0)] [(.int p0)]))
        refine Go.step (X0.ldcInt hx hown (mvT hZ (hw _ (List.mem_of_getElem? (i := 26) rfl))) (g := (mkF m 20 #[.val (.int p0)] [(.int p0)])) rfl (hb hby d1_20)) ?_
        show Go _ _ _ _ _ _ _ (s₁.setTop (mkF m 22 #[.val (.int p0)] [(.int (63744 : Int32)), (.int p0)]))
        by_cases hc22 : p0 < (63744 : Int32)
        · skip
          refine Go.step (fun _ k => XS.icmpYes X0.here hx rfl (pc0 := 22) (pc' := 31) rfl (hb hby d1_22) rfl (tlt hc22).1 (by decide) (by decide) k) ?_
          show Go _ _ _ _ _ _ _ (s₁.setTop (mkF m 31 #[.val (.int p0)] []))
          refine Go.step (fun _ k => XS.iloadN X0.here hx rfl (hb hby d1_31) rfl  k) ?_
          show Go _ _ _ _ _ _ _ (s₁.setTop (mkF m 32 #[.val (.int p0)] [(.int p0)]))
          refine Go.step (X0.ldcInt hx hown (mvT hZ (hw _ (List.mem_of_getElem? (i := 28) rfl))) (g := (mkF m 32 #[.val (.int p0)] [(.int p0)])) rfl (hb hby d1_32)) ?_
          show Go _ _ _ _ _ _ _ (s₁.setTop (mkF m 34 #[.val (.int p0)] [(.int (65008 : Int32)), (.int p0)]))
          by_cases hc34 : p0 < (65008 : Int32)
          · skip
            refine Go.step (fun _ k => XS.icmpYes X0.here hx rfl (pc0 := 34) (pc' := 47) rfl (hb hby d1_34) rfl (tlt hc34).1 (by decide) (by decide) k) ?_
            show Go _ _ _ _ _ _ _ (s₁.setTop (mkF m 47 #[.val (.int p0)] []))
            refine Go.step (fun _ k => XS.iconst X0.here hx rfl (hb hby d1_47) k) ?_
            show Go _ _ _ _ _ _ _ (s₁.setTop (mkF m 48 #[.val (.int p0)] [(.int (0 : Int32))]))
            refine Go.retN X0 hx (t := .boolean) Bd.returns (by simp) hlk (hb hby d1_48) ?_ (by decide) (by decide)
            rw [e0]
            exact ⟨(by
                have hm := own_m16 p0
                have hr := own_r16 p0
                refine own_ucF ?_
                unfold own_isU
                simp only [Int32.lt_iff_toInt_lt, own_i_65536, own_i_160, own_i_55295, own_i_63744, own_i_64975, own_i_65008, own_i_65519, own_i_917504, own_i_921599, own_i_983039, own_i_65535, own_i_65533, own_i_917503, own_i_921600, own_i_983037] at hc3 hc10 hc16 hc22 hc34
                omega), N0, rfl⟩
          · skip
            refine Go.step (fun _ k => XS.icmpNo X0.here hx rfl (hb hby d1_34) rfl (flt hc34).1 k) ?_
            show Go _ _ _ _ _ _ _ (s₁.setTop (mkF m 37 #[.val (.int p0)] []))
            refine Go.step (fun _ k => XS.iloadN X0.here hx rfl (hb hby d1_37) rfl  k) ?_
            show Go _ _ _ _ _ _ _ (s₁.setTop (mkF m 38 #[.val (.int p0)] [(.int p0)]))
            refine Go.step (X0.ldcInt hx hown (mvT hZ (hw _ (List.mem_of_getElem? (i := 29) rfl))) (g := (mkF m 38 #[.val (.int p0)] [(.int p0)])) rfl (hb hby d1_38)) ?_
            show Go _ _ _ _ _ _ _ (s₁.setTop (mkF m 40 #[.val (.int p0)] [(.int (65519 : Int32)), (.int p0)]))
            by_cases hc40 : (65519 : Int32) < p0
            · skip
              refine Go.step (fun _ k => XS.icmpYes X0.here hx rfl (pc0 := 40) (pc' := 47) rfl (hb hby d1_40) rfl (tlt hc40).2.2.1 (by decide) (by decide) k) ?_
              show Go _ _ _ _ _ _ _ (s₁.setTop (mkF m 47 #[.val (.int p0)] []))
              refine Go.step (fun _ k => XS.iconst X0.here hx rfl (hb hby d1_47) k) ?_
              show Go _ _ _ _ _ _ _ (s₁.setTop (mkF m 48 #[.val (.int p0)] [(.int (0 : Int32))]))
              refine Go.retN X0 hx (t := .boolean) Bd.returns (by simp) hlk (hb hby d1_48) ?_ (by decide) (by decide)
              rw [e0]
              exact ⟨(by
                  have hm := own_m16 p0
                  have hr := own_r16 p0
                  refine own_ucF ?_
                  unfold own_isU
                  simp only [Int32.lt_iff_toInt_lt, own_i_65536, own_i_160, own_i_55295, own_i_63744, own_i_64975, own_i_65008, own_i_65519, own_i_917504, own_i_921599, own_i_983039, own_i_65535, own_i_65533, own_i_917503, own_i_921600, own_i_983037] at hc3 hc10 hc16 hc22 hc34 hc40
                  omega), N0, rfl⟩
            · skip
              refine Go.step (fun _ k => XS.icmpNo X0.here hx rfl (hb hby d1_40) rfl (flt hc40).2.2.1 k) ?_
              show Go _ _ _ _ _ _ _ (s₁.setTop (mkF m 43 #[.val (.int p0)] []))
              refine Go.step (fun _ k => XS.iconst X0.here hx rfl (hb hby d1_43) k) ?_
              show Go _ _ _ _ _ _ _ (s₁.setTop (mkF m 44 #[.val (.int p0)] [(.int (1 : Int32))]))
              refine Go.step (fun _ k => XS.goto X0.here hx rfl (pc0 := 44) (pc' := 48) rfl (hb hby d1_44) (by decide) (by decide) k) ?_
              show Go _ _ _ _ _ _ _ (s₁.setTop (mkF m 48 #[.val (.int p0)] [(.int (1 : Int32))]))
              refine Go.retN X0 hx (t := .boolean) Bd.returns (by simp) hlk (hb hby d1_48) ?_ (by decide) (by decide)
              rw [e0]
              exact ⟨(by
                  have hm := own_m16 p0
                  have hr := own_r16 p0
                  refine own_ucT ?_
                  unfold own_isU
                  simp only [Int32.lt_iff_toInt_lt, own_i_65536, own_i_160, own_i_55295, own_i_63744, own_i_64975, own_i_65008, own_i_65519, own_i_917504, own_i_921599, own_i_983039, own_i_65535, own_i_65533, own_i_917503, own_i_921600, own_i_983037] at hc3 hc10 hc16 hc22 hc34 hc40
                  omega), N0, rfl⟩
        · skip
          refine Go.step (fun _ k => XS.icmpNo X0.here hx rfl (hb hby d1_22) rfl (flt hc22).1 k) ?_
          show Go _ _ _ _ _ _ _ (s₁.setTop (mkF m 25 #[.val (.int p0)] []))
          refine Go.step (fun _ k => XS.iloadN X0.here hx rfl (hb hby d1_25) rfl  k) ?_
          show Go _ _ _ _ _ _ _ (s₁.setTop (mkF m 26 #[.val (.int p0)] [(.int p0)]))
          refine Go.step (X0.ldcInt hx hown (mvT hZ (hw _ (List.mem_of_getElem? (i := 27) rfl))) (g := (mkF m 26 #[.val (.int p0)] [(.int p0)])) rfl (hb hby d1_26)) ?_
          show Go _ _ _ _ _ _ _ (s₁.setTop (mkF m 28 #[.val (.int p0)] [(.int (64975 : Int32)), (.int p0)]))
          by_cases hc28 : (64975 : Int32) < p0
          · skip
            refine Go.step (fun _ k => XS.icmpNo X0.here hx rfl (hb hby d1_28) rfl (tlt hc28).2.2.2 k) ?_
            show Go _ _ _ _ _ _ _ (s₁.setTop (mkF m 31 #[.val (.int p0)] []))
            refine Go.step (fun _ k => XS.iloadN X0.here hx rfl (hb hby d1_31) rfl  k) ?_
            show Go _ _ _ _ _ _ _ (s₁.setTop (mkF m 32 #[.val (.int p0)] [(.int p0)]))
            refine Go.step (X0.ldcInt hx hown (mvT hZ (hw _ (List.mem_of_getElem? (i := 28) rfl))) (g := (mkF m 32 #[.val (.int p0)] [(.int p0)])) rfl (hb hby d1_32)) ?_
            show Go _ _ _ _ _ _ _ (s₁.setTop (mkF m 34 #[.val (.int p0)] [(.int (65008 : Int32)), (.int p0)]))
            by_cases hc34 : p0 < (65008 : Int32)
            · skip
              refine Go.step (fun _ k => XS.icmpYes X0.here hx rfl (pc0 := 34) (pc' := 47) rfl (hb hby d1_34) rfl (tlt hc34).1 (by decide) (by decide) k) ?_
              show Go _ _ _ _ _ _ _ (s₁.setTop (mkF m 47 #[.val (.int p0)] []))
              refine Go.step (fun _ k => XS.iconst X0.here hx rfl (hb hby d1_47) k) ?_
              show Go _ _ _ _ _ _ _ (s₁.setTop (mkF m 48 #[.val (.int p0)] [(.int (0 : Int32))]))
              refine Go.retN X0 hx (t := .boolean) Bd.returns (by simp) hlk (hb hby d1_48) ?_ (by decide) (by decide)
              rw [e0]
              exact ⟨(by
                  have hm := own_m16 p0
                  have hr := own_r16 p0
                  refine own_ucF ?_
                  unfold own_isU
                  simp only [Int32.lt_iff_toInt_lt, own_i_65536, own_i_160, own_i_55295, own_i_63744, own_i_64975, own_i_65008, own_i_65519, own_i_917504, own_i_921599, own_i_983039, own_i_65535, own_i_65533, own_i_917503, own_i_921600, own_i_983037] at hc3 hc10 hc16 hc22 hc28 hc34
                  omega), N0, rfl⟩
            · skip
              refine Go.step (fun _ k => XS.icmpNo X0.here hx rfl (hb hby d1_34) rfl (flt hc34).1 k) ?_
              show Go _ _ _ _ _ _ _ (s₁.setTop (mkF m 37 #[.val (.int p0)] []))
              refine Go.step (fun _ k => XS.iloadN X0.here hx rfl (hb hby d1_37) rfl  k) ?_
              show Go _ _ _ _ _ _ _ (s₁.setTop (mkF m 38 #[.val (.int p0)] [(.int p0)]))
              refine Go.step (X0.ldcInt hx hown (mvT hZ (hw _ (List.mem_of_getElem? (i := 29) rfl))) (g := (mkF m 38 #[.val (.int p0)] [(.int p0)])) rfl (hb hby d1_38)) ?_
              show Go _ _ _ _ _ _ _ (s₁.setTop (mkF m 40 #[.val (.int p0)] [(.int (65519 : Int32)), (.int p0)]))
              by_cases hc40 : (65519 : Int32) < p0
              · skip
                refine Go.step (fun _ k => XS.icmpYes X0.here hx rfl (pc0 := 40) (pc' := 47) rfl (hb hby d1_40) rfl (tlt hc40).2.2.1 (by decide) (by decide) k) ?_
                show Go _ _ _ _ _ _ _ (s₁.setTop (mkF m 47 #[.val (.int p0)] []))
                refine Go.step (fun _ k => XS.iconst X0.here hx rfl (hb hby d1_47) k) ?_
                show Go _ _ _ _ _ _ _ (s₁.setTop (mkF m 48 #[.val (.int p0)] [(.int (0 : Int32))]))
                refine Go.retN X0 hx (t := .boolean) Bd.returns (by simp) hlk (hb hby d1_48) ?_ (by decide) (by decide)
                rw [e0]
                exact ⟨(by
                    have hm := own_m16 p0
                    have hr := own_r16 p0
                    refine own_ucF ?_
                    unfold own_isU
                    simp only [Int32.lt_iff_toInt_lt, own_i_65536, own_i_160, own_i_55295, own_i_63744, own_i_64975, own_i_65008, own_i_65519, own_i_917504, own_i_921599, own_i_983039, own_i_65535, own_i_65533, own_i_917503, own_i_921600, own_i_983037] at hc3 hc10 hc16 hc22 hc28 hc34 hc40
                    omega), N0, rfl⟩
              · skip
                refine Go.step (fun _ k => XS.icmpNo X0.here hx rfl (hb hby d1_40) rfl (flt hc40).2.2.1 k) ?_
                show Go _ _ _ _ _ _ _ (s₁.setTop (mkF m 43 #[.val (.int p0)] []))
                refine Go.step (fun _ k => XS.iconst X0.here hx rfl (hb hby d1_43) k) ?_
                show Go _ _ _ _ _ _ _ (s₁.setTop (mkF m 44 #[.val (.int p0)] [(.int (1 : Int32))]))
                refine Go.step (fun _ k => XS.goto X0.here hx rfl (pc0 := 44) (pc' := 48) rfl (hb hby d1_44) (by decide) (by decide) k) ?_
                show Go _ _ _ _ _ _ _ (s₁.setTop (mkF m 48 #[.val (.int p0)] [(.int (1 : Int32))]))
                refine Go.retN X0 hx (t := .boolean) Bd.returns (by simp) hlk (hb hby d1_48) ?_ (by decide) (by decide)
                rw [e0]
                exact ⟨(by
                    have hm := own_m16 p0
                    have hr := own_r16 p0
                    refine own_ucT ?_
                    unfold own_isU
                    simp only [Int32.lt_iff_toInt_lt, own_i_65536, own_i_160, own_i_55295, own_i_63744, own_i_64975, own_i_65008, own_i_65519, own_i_917504, own_i_921599, own_i_983039, own_i_65535, own_i_65533, own_i_917503, own_i_921600, own_i_983037] at hc3 hc10 hc16 hc22 hc28 hc34 hc40
                    omega), N0, rfl⟩
          · skip
            refine Go.step (fun _ k => XS.icmpYes X0.here hx rfl (pc0 := 28) (pc' := 43) rfl (hb hby d1_28) rfl (flt hc28).2.2.2 (by decide) (by decide) k) ?_
            show Go _ _ _ _ _ _ _ (s₁.setTop (mkF m 43 #[.val (.int p0)] []))
            refine Go.step (fun _ k => XS.iconst X0.here hx rfl (hb hby d1_43) k) ?_
            show Go _ _ _ _ _ _ _ (s₁.setTop (mkF m 44 #[.val (.int p0)] [(.int (1 : Int32))]))
            refine Go.step (fun _ k => XS.goto X0.here hx rfl (pc0 := 44) (pc' := 48) rfl (hb hby d1_44) (by decide) (by decide) k) ?_
            show Go _ _ _ _ _ _ _ (s₁.setTop (mkF m 48 #[.val (.int p0)] [(.int (1 : Int32))]))
            refine Go.retN X0 hx (t := .boolean) Bd.returns (by simp) hlk (hb hby d1_48) ?_ (by decide) (by decide)
            rw [e0]
            exact ⟨(by
                have hm := own_m16 p0
                have hr := own_r16 p0
                refine own_ucT ?_
                unfold own_isU
                simp only [Int32.lt_iff_toInt_lt, own_i_65536, own_i_160, own_i_55295, own_i_63744, own_i_64975, own_i_65008, own_i_65519, own_i_917504, own_i_921599, own_i_983039, own_i_65535, own_i_65533, own_i_917503, own_i_921600, own_i_983037] at hc3 hc10 hc16 hc22 hc28
                omega), N0, rfl⟩
      · skip
        refine Go.step (fun _ k => XS.icmpYes X0.here hx rfl (pc0 := 16) (pc' := 43) rfl (hb hby d1_16) rfl (flt hc16).2.2.2 (by decide) (by decide) k) ?_
        show Go _ _ _ _ _ _ _ (s₁.setTop (mkF m 43 #[.val (.int p0)] []))
        refine Go.step (fun _ k => XS.iconst X0.here hx rfl (hb hby d1_43) k) ?_
        show Go _ _ _ _ _ _ _ (s₁.setTop (mkF m 44 #[.val (.int p0)] [(.int (1 : Int32))]))
        refine Go.step (fun _ k => XS.goto X0.here hx rfl (pc0 := 44) (pc' := 48) rfl (hb hby d1_44) (by decide) (by decide) k) ?_
        show Go _ _ _ _ _ _ _ (s₁.setTop (mkF m 48 #[.val (.int p0)] [(.int (1 : Int32))]))
        refine Go.retN X0 hx (t := .boolean) Bd.returns (by simp) hlk (hb hby d1_48) ?_ (by decide) (by decide)
        rw [e0]
        exact ⟨(by
            have hm := own_m16 p0
            have hr := own_r16 p0
            refine own_ucT ?_
            unfold own_isU
            simp only [Int32.lt_iff_toInt_lt, own_i_65536, own_i_160, own_i_55295, own_i_63744, own_i_64975, own_i_65008, own_i_65519, own_i_917504, own_i_921599, own_i_983039, own_i_65535, own_i_65533, own_i_917503, own_i_921600, own_i_983037] at hc3 hc10 hc16
            omega), N0, rfl⟩
  · skip
    refine Go.step (fun _ k => XS.icmpYes X0.here hx rfl (pc0 := 3) (pc' := 49) rfl (hb hby d1_3) rfl (flt hc3).2.1 (by decide) (by decide) k) ?_
    show Go _ _ _ _ _ _ _ (s₁.setTop (mkF m 49 #[.val (.int p0)] []))
    refine Go.step (fun _ k => XS.iloadN X0.here hx rfl (hb hby d1_49) rfl  k) ?_
    show Go _ _ _ _ _ _ _ (s₁.setTop (mkF m 50 #[.val (.int p0)] [(.int p0)]))
    refine Go.step (X0.ldcInt hx hown (mvT hZ (hw _ (List.mem_of_getElem? (i := 34) rfl))) (g := (mkF m 50 #[.val (.int p0)] [(.int p0)])) rfl (hb hby d1_50)) ?_
    show Go _ _ _ _ _ _ _ (s₁.setTop (mkF m 52 #[.val (.int p0)] [(.int (917504 : Int32)), (.int p0)]))
    by_cases hc52 : p0 < (917504 : Int32)
    · skip
      refine Go.step (fun _ k => XS.icmpYes X0.here hx rfl (pc0 := 52) (pc' := 63) rfl (hb hby d1_52) rfl (tlt hc52).1 (by decide) (by decide) k) ?_
      show Go _ _ _ _ _ _ _ (s₁.setTop (mkF m 63 #[.val (.int p0)] []))
      refine Go.step (fun _ k => XS.iloadN X0.here hx rfl (hb hby d1_63) rfl  k) ?_
      show Go _ _ _ _ _ _ _ (s₁.setTop (mkF m 64 #[.val (.int p0)] [(.int p0)]))
      refine Go.step (X0.ldcInt hx hown (mvT hZ (hw _ (List.mem_of_getElem? (i := 35) rfl))) (g := (mkF m 64 #[.val (.int p0)] [(.int p0)])) rfl (hb hby d1_64)) ?_
      show Go _ _ _ _ _ _ _ (s₁.setTop (mkF m 66 #[.val (.int p0)] [(.int (983039 : Int32)), (.int p0)]))
      by_cases hc66 : (983039 : Int32) < p0
      · skip
        refine Go.step (fun _ k => XS.icmpYes X0.here hx rfl (pc0 := 66) (pc' := 82) rfl (hb hby d1_66) rfl (tlt hc66).2.2.1 (by decide) (by decide) k) ?_
        show Go _ _ _ _ _ _ _ (s₁.setTop (mkF m 82 #[.val (.int p0)] []))
        refine Go.step (fun _ k => XS.iconst X0.here hx rfl (hb hby d1_82) k) ?_
        show Go _ _ _ _ _ _ _ (s₁.setTop (mkF m 83 #[.val (.int p0)] [(.int (0 : Int32))]))
        refine Go.retN X0 hx (t := .boolean) Bd.returns (by simp) hlk (hb hby d1_83) ?_ (by decide) (by decide)
        rw [e0]
        exact ⟨(by
            have hm := own_m16 p0
            have hr := own_r16 p0
            refine own_ucF ?_
            unfold own_isU
            simp only [Int32.lt_iff_toInt_lt, own_i_65536, own_i_160, own_i_55295, own_i_63744, own_i_64975, own_i_65008, own_i_65519, own_i_917504, own_i_921599, own_i_983039, own_i_65535, own_i_65533, own_i_917503, own_i_921600, own_i_983037] at hc3 hc52 hc66
            omega), N0, rfl⟩
      · skip
        refine Go.step (fun _ k => XS.icmpNo X0.here hx rfl (hb hby d1_66) rfl (flt hc66).2.2.1 k) ?_
        show Go _ _ _ _ _ _ _ (s₁.setTop (mkF m 69 #[.val (.int p0)] []))
        refine Go.step (fun _ k => XS.iloadN X0.here hx rfl (hb hby d1_69) rfl  k) ?_
        show Go _ _ _ _ _ _ _ (s₁.setTop (mkF m 70 #[.val (.int p0)] [(.int p0)]))
        refine Go.step (X0.ldcInt hx hown (mvT hZ (hw _ (List.mem_of_getElem? (i := 36) rfl))) (g := (mkF m 70 #[.val (.int p0)] [(.int p0)])) rfl (hb hby d1_70)) ?_
        show Go _ _ _ _ _ _ _ (s₁.setTop (mkF m 72 #[.val (.int p0)] [(.int (65535 : Int32)), (.int p0)]))
        refine Go.step (fun _ k => XS.iand X0.here hx rfl (hb hby d1_72) rfl k) ?_
        show Go _ _ _ _ _ _ _ (s₁.setTop (mkF m 73 #[.val (.int p0)] [(.int (p0 &&& (65535 : Int32)))]))
        refine Go.step (X0.ldcInt hx hown (mvT hZ (hw _ (List.mem_of_getElem? (i := 37) rfl))) (g := (mkF m 73 #[.val (.int p0)] [(.int (p0 &&& (65535 : Int32)))])) rfl (hb hby d1_73)) ?_
        show Go _ _ _ _ _ _ _ (s₁.setTop (mkF m 75 #[.val (.int p0)] [(.int (65533 : Int32)), (.int (p0 &&& (65535 : Int32)))]))
        by_cases hc75 : (65533 : Int32) < (p0 &&& (65535 : Int32))
        · skip
          refine Go.step (fun _ k => XS.icmpYes X0.here hx rfl (pc0 := 75) (pc' := 82) rfl (hb hby d1_75) rfl (tlt hc75).2.2.1 (by decide) (by decide) k) ?_
          show Go _ _ _ _ _ _ _ (s₁.setTop (mkF m 82 #[.val (.int p0)] []))
          refine Go.step (fun _ k => XS.iconst X0.here hx rfl (hb hby d1_82) k) ?_
          show Go _ _ _ _ _ _ _ (s₁.setTop (mkF m 83 #[.val (.int p0)] [(.int (0 : Int32))]))
          refine Go.retN X0 hx (t := .boolean) Bd.returns (by simp) hlk (hb hby d1_83) ?_ (by decide) (by decide)
          rw [e0]
          exact ⟨(by
              have hm := own_m16 p0
              have hr := own_r16 p0
              refine own_ucF ?_
              unfold own_isU
              simp only [Int32.lt_iff_toInt_lt, own_i_65536, own_i_160, own_i_55295, own_i_63744, own_i_64975, own_i_65008, own_i_65519, own_i_917504, own_i_921599, own_i_983039, own_i_65535, own_i_65533, own_i_917503, own_i_921600, own_i_983037] at hc3 hc52 hc66 hc75
              omega), N0, rfl⟩
        · skip
          refine Go.step (fun _ k => XS.icmpNo X0.here hx rfl (hb hby d1_75) rfl (flt hc75).2.2.1 k) ?_
          show Go _ _ _ _ _ _ _ (s₁.setTop (mkF m 78 #[.val (.int p0)] []))
          refine Go.step (fun _ k => XS.iconst X0.here hx rfl (hb hby d1_78) k) ?_
          show Go _ _ _ _ _ _ _ (s₁.setTop (mkF m 79 #[.val (.int p0)] [(.int (1 : Int32))]))
          refine Go.step (fun _ k => XS.goto X0.here hx rfl (pc0 := 79) (pc' := 83) rfl (hb hby d1_79) (by decide) (by decide) k) ?_
          show Go _ _ _ _ _ _ _ (s₁.setTop (mkF m 83 #[.val (.int p0)] [(.int (1 : Int32))]))
          refine Go.retN X0 hx (t := .boolean) Bd.returns (by simp) hlk (hb hby d1_83) ?_ (by decide) (by decide)
          rw [e0]
          exact ⟨(by
              have hm := own_m16 p0
              have hr := own_r16 p0
              refine own_ucT ?_
              unfold own_isU
              simp only [Int32.lt_iff_toInt_lt, own_i_65536, own_i_160, own_i_55295, own_i_63744, own_i_64975, own_i_65008, own_i_65519, own_i_917504, own_i_921599, own_i_983039, own_i_65535, own_i_65533, own_i_917503, own_i_921600, own_i_983037] at hc3 hc52 hc66 hc75
              omega), N0, rfl⟩
    · skip
      refine Go.step (fun _ k => XS.icmpNo X0.here hx rfl (hb hby d1_52) rfl (flt hc52).1 k) ?_
      show Go _ _ _ _ _ _ _ (s₁.setTop (mkF m 55 #[.val (.int p0)] []))
      refine Go.step (fun _ k => XS.iloadN X0.here hx rfl (hb hby d1_55) rfl  k) ?_
      show Go _ _ _ _ _ _ _ (s₁.setTop (mkF m 56 #[.val (.int p0)] [(.int p0)]))
      refine Go.step (X0.ldcInt hx hown (mvT hZ (hw _ (List.mem_of_getElem? (i := 40) rfl))) (g := (mkF m 56 #[.val (.int p0)] [(.int p0)])) rfl (hb hby d1_56)) ?_
      show Go _ _ _ _ _ _ _ (s₁.setTop (mkF m 58 #[.val (.int p0)] [(.int (921599 : Int32)), (.int p0)]))
      by_cases hc58 : (921599 : Int32) < p0
      · skip
        refine Go.step (fun _ k => XS.icmpYes X0.here hx rfl (pc0 := 58) (pc' := 63) rfl (hb hby d1_58) rfl (tlt hc58).2.2.1 (by decide) (by decide) k) ?_
        show Go _ _ _ _ _ _ _ (s₁.setTop (mkF m 63 #[.val (.int p0)] []))
        refine Go.step (fun _ k => XS.iloadN X0.here hx rfl (hb hby d1_63) rfl  k) ?_
        show Go _ _ _ _ _ _ _ (s₁.setTop (mkF m 64 #[.val (.int p0)] [(.int p0)]))
        refine Go.step (X0.ldcInt hx hown (mvT hZ (hw _ (List.mem_of_getElem? (i := 35) rfl))) (g := (mkF m 64 #[.val (.int p0)] [(.int p0)])) rfl (hb hby d1_64)) ?_
        show Go _ _ _ _ _ _ _ (s₁.setTop (mkF m 66 #[.val (.int p0)] [(.int (983039 : Int32)), (.int p0)]))
        by_cases hc66 : (983039 : Int32) < p0
        · skip
          refine Go.step (fun _ k => XS.icmpYes X0.here hx rfl (pc0 := 66) (pc' := 82) rfl (hb hby d1_66) rfl (tlt hc66).2.2.1 (by decide) (by decide) k) ?_
          show Go _ _ _ _ _ _ _ (s₁.setTop (mkF m 82 #[.val (.int p0)] []))
          refine Go.step (fun _ k => XS.iconst X0.here hx rfl (hb hby d1_82) k) ?_
          show Go _ _ _ _ _ _ _ (s₁.setTop (mkF m 83 #[.val (.int p0)] [(.int (0 : Int32))]))
          refine Go.retN X0 hx (t := .boolean) Bd.returns (by simp) hlk (hb hby d1_83) ?_ (by decide) (by decide)
          rw [e0]
          exact ⟨(by
              have hm := own_m16 p0
              have hr := own_r16 p0
              refine own_ucF ?_
              unfold own_isU
              simp only [Int32.lt_iff_toInt_lt, own_i_65536, own_i_160, own_i_55295, own_i_63744, own_i_64975, own_i_65008, own_i_65519, own_i_917504, own_i_921599, own_i_983039, own_i_65535, own_i_65533, own_i_917503, own_i_921600, own_i_983037] at hc3 hc52 hc58 hc66
              omega), N0, rfl⟩
        · skip
          refine Go.step (fun _ k => XS.icmpNo X0.here hx rfl (hb hby d1_66) rfl (flt hc66).2.2.1 k) ?_
          show Go _ _ _ _ _ _ _ (s₁.setTop (mkF m 69 #[.val (.int p0)] []))
          refine Go.step (fun _ k => XS.iloadN X0.here hx rfl (hb hby d1_69) rfl  k) ?_
          show Go _ _ _ _ _ _ _ (s₁.setTop (mkF m 70 #[.val (.int p0)] [(.int p0)]))
          refine Go.step (X0.ldcInt hx hown (mvT hZ (hw _ (List.mem_of_getElem? (i := 36) rfl))) (g := (mkF m 70 #[.val (.int p0)] [(.int p0)])) rfl (hb hby d1_70)) ?_
          show Go _ _ _ _ _ _ _ (s₁.setTop (mkF m 72 #[.val (.int p0)] [(.int (65535 : Int32)), (.int p0)]))
          refine Go.step (fun _ k => XS.iand X0.here hx rfl (hb hby d1_72) rfl k) ?_
          show Go _ _ _ _ _ _ _ (s₁.setTop (mkF m 73 #[.val (.int p0)] [(.int (p0 &&& (65535 : Int32)))]))
          refine Go.step (X0.ldcInt hx hown (mvT hZ (hw _ (List.mem_of_getElem? (i := 37) rfl))) (g := (mkF m 73 #[.val (.int p0)] [(.int (p0 &&& (65535 : Int32)))])) rfl (hb hby d1_73)) ?_
          show Go _ _ _ _ _ _ _ (s₁.setTop (mkF m 75 #[.val (.int p0)] [(.int (65533 : Int32)), (.int (p0 &&& (65535 : Int32)))]))
          by_cases hc75 : (65533 : Int32) < (p0 &&& (65535 : Int32))
          · skip
            refine Go.step (fun _ k => XS.icmpYes X0.here hx rfl (pc0 := 75) (pc' := 82) rfl (hb hby d1_75) rfl (tlt hc75).2.2.1 (by decide) (by decide) k) ?_
            show Go _ _ _ _ _ _ _ (s₁.setTop (mkF m 82 #[.val (.int p0)] []))
            refine Go.step (fun _ k => XS.iconst X0.here hx rfl (hb hby d1_82) k) ?_
            show Go _ _ _ _ _ _ _ (s₁.setTop (mkF m 83 #[.val (.int p0)] [(.int (0 : Int32))]))
            refine Go.retN X0 hx (t := .boolean) Bd.returns (by simp) hlk (hb hby d1_83) ?_ (by decide) (by decide)
            rw [e0]
            exact ⟨(by
                have hm := own_m16 p0
                have hr := own_r16 p0
                refine own_ucF ?_
                unfold own_isU
                simp only [Int32.lt_iff_toInt_lt, own_i_65536, own_i_160, own_i_55295, own_i_63744, own_i_64975, own_i_65008, own_i_65519, own_i_917504, own_i_921599, own_i_983039, own_i_65535, own_i_65533, own_i_917503, own_i_921600, own_i_983037] at hc3 hc52 hc58 hc66 hc75
                omega), N0, rfl⟩
          · skip
            refine Go.step (fun _ k => XS.icmpNo X0.here hx rfl (hb hby d1_75) rfl (flt hc75).2.2.1 k) ?_
            show Go _ _ _ _ _ _ _ (s₁.setTop (mkF m 78 #[.val (.int p0)] []))
            refine Go.step (fun _ k => XS.iconst X0.here hx rfl (hb hby d1_78) k) ?_
            show Go _ _ _ _ _ _ _ (s₁.setTop (mkF m 79 #[.val (.int p0)] [(.int (1 : Int32))]))
            refine Go.step (fun _ k => XS.goto X0.here hx rfl (pc0 := 79) (pc' := 83) rfl (hb hby d1_79) (by decide) (by decide) k) ?_
            show Go _ _ _ _ _ _ _ (s₁.setTop (mkF m 83 #[.val (.int p0)] [(.int (1 : Int32))]))
            refine Go.retN X0 hx (t := .boolean) Bd.returns (by simp) hlk (hb hby d1_83) ?_ (by decide) (by decide)
            rw [e0]
            exact ⟨(by
                have hm := own_m16 p0
                have hr := own_r16 p0
                refine own_ucT ?_
                unfold own_isU
                simp only [Int32.lt_iff_toInt_lt, own_i_65536, own_i_160, own_i_55295, own_i_63744, own_i_64975, own_i_65008, own_i_65519, own_i_917504, own_i_921599, own_i_983039, own_i_65535, own_i_65533, own_i_917503, own_i_921600, own_i_983037] at hc3 hc52 hc58 hc66 hc75
                omega), N0, rfl⟩
      · skip
        refine Go.step (fun _ k => XS.icmpNo X0.here hx rfl (hb hby d1_58) rfl (flt hc58).2.2.1 k) ?_
        show Go _ _ _ _ _ _ _ (s₁.setTop (mkF m 61 #[.val (.int p0)] []))
        refine Go.step (fun _ k => XS.iconst X0.here hx rfl (hb hby d1_61) k) ?_
        show Go _ _ _ _ _ _ _ (s₁.setTop (mkF m 62 #[.val (.int p0)] [(.int (0 : Int32))]))
        refine Go.retN X0 hx (t := .boolean) Bd.returns (by simp) hlk (hb hby d1_62) ?_ (by decide) (by decide)
        rw [e0]
        exact ⟨(by
            have hm := own_m16 p0
            have hr := own_r16 p0
            refine own_ucF ?_
            unfold own_isU
            simp only [Int32.lt_iff_toInt_lt, own_i_65536, own_i_160, own_i_55295, own_i_63744, own_i_64975, own_i_65008, own_i_65519, own_i_917504, own_i_921599, own_i_983039, own_i_65535, own_i_65533, own_i_917503, own_i_921600, own_i_983037] at hc3 hc52 hc58
            omega), N0, rfl⟩
theorem pn_16 : plainName "com/example/omniform/omniform/IriCharsIsUcscharPinLaw" = true := by first | (simp [plainName, overriddenIn]; done) | decide +kernel
theorem d2_0 : decode method_2_code 0 = .ok (.iload_n 0, 1) := by decide +kernel
theorem d2_1 : decode method_2_code 1 = .ok (.sipush 160, 3) := by decide +kernel
theorem d2_4 : decode method_2_code 4 = .ok (.if_icmp .lt 11, 3) := by decide +kernel
theorem d2_7 : decode method_2_code 7 = .ok (.iload_n 0, 1) := by decide +kernel
theorem d2_8 : decode method_2_code 8 = .ok (.ldc 7, 2) := by decide +kernel
theorem d2_10 : decode method_2_code 10 = .ok (.if_icmp .gt 5, 3) := by decide +kernel
theorem d2_13 : decode method_2_code 13 = .ok (.iconst 1, 1) := by decide +kernel
theorem d2_14 : decode method_2_code 14 = .ok (.ireturn, 1) := by decide +kernel
theorem d2_15 : decode method_2_code 15 = .ok (.iload_n 0, 1) := by decide +kernel
theorem d2_16 : decode method_2_code 16 = .ok (.ldc 8, 2) := by decide +kernel
theorem d2_18 : decode method_2_code 18 = .ok (.if_icmp .lt 11, 3) := by decide +kernel
theorem d2_21 : decode method_2_code 21 = .ok (.iload_n 0, 1) := by decide +kernel
theorem d2_22 : decode method_2_code 22 = .ok (.ldc 9, 2) := by decide +kernel
theorem d2_24 : decode method_2_code 24 = .ok (.if_icmp .gt 5, 3) := by decide +kernel
theorem d2_27 : decode method_2_code 27 = .ok (.iconst 1, 1) := by decide +kernel
theorem d2_28 : decode method_2_code 28 = .ok (.ireturn, 1) := by decide +kernel
theorem d2_29 : decode method_2_code 29 = .ok (.iload_n 0, 1) := by decide +kernel
theorem d2_30 : decode method_2_code 30 = .ok (.ldc 10, 2) := by decide +kernel
theorem d2_32 : decode method_2_code 32 = .ok (.if_icmp .lt 11, 3) := by decide +kernel
theorem d2_35 : decode method_2_code 35 = .ok (.iload_n 0, 1) := by decide +kernel
theorem d2_36 : decode method_2_code 36 = .ok (.ldc 11, 2) := by decide +kernel
theorem d2_38 : decode method_2_code 38 = .ok (.if_icmp .gt 5, 3) := by decide +kernel
theorem d2_41 : decode method_2_code 41 = .ok (.iconst 1, 1) := by decide +kernel
theorem d2_42 : decode method_2_code 42 = .ok (.ireturn, 1) := by decide +kernel
theorem d2_43 : decode method_2_code 43 = .ok (.iload_n 0, 1) := by decide +kernel
theorem d2_44 : decode method_2_code 44 = .ok (.ldc 12, 2) := by decide +kernel
theorem d2_46 : decode method_2_code 46 = .ok (.if_icmp .lt 26, 3) := by decide +kernel
theorem d2_49 : decode method_2_code 49 = .ok (.iload_n 0, 1) := by decide +kernel
theorem d2_50 : decode method_2_code 50 = .ok (.ldc 13, 2) := by decide +kernel
theorem d2_52 : decode method_2_code 52 = .ok (.if_icmp .gt 20, 3) := by decide +kernel
theorem d2_55 : decode method_2_code 55 = .ok (.iload_n 0, 1) := by decide +kernel
theorem d2_56 : decode method_2_code 56 = .ok (.ldc 12, 2) := by decide +kernel
theorem d2_58 : decode method_2_code 58 = .ok (.irem, 1) := by decide +kernel
theorem d2_59 : decode method_2_code 59 = .ok (.istore_n 1, 1) := by decide +kernel
theorem d2_60 : decode method_2_code 60 = .ok (.iload_n 1, 1) := by decide +kernel
theorem d2_61 : decode method_2_code 61 = .ok (.ldc 14, 2) := by decide +kernel
theorem d2_63 : decode method_2_code 63 = .ok (.if_icmp .gt 7, 3) := by decide +kernel
theorem d2_66 : decode method_2_code 66 = .ok (.iconst 1, 1) := by decide +kernel
theorem d2_67 : decode method_2_code 67 = .ok (.goto 4, 3) := by decide +kernel
theorem d2_70 : decode method_2_code 70 = .ok (.iconst 0, 1) := by decide +kernel
theorem d2_71 : decode method_2_code 71 = .ok (.ireturn, 1) := by decide +kernel
theorem d2_72 : decode method_2_code 72 = .ok (.iload_n 0, 1) := by decide +kernel
theorem d2_73 : decode method_2_code 73 = .ok (.ldc 15, 2) := by decide +kernel
theorem d2_75 : decode method_2_code 75 = .ok (.if_icmp .lt 11, 3) := by decide +kernel
theorem d2_78 : decode method_2_code 78 = .ok (.iload_n 0, 1) := by decide +kernel
theorem d2_79 : decode method_2_code 79 = .ok (.ldc 16, 2) := by decide +kernel
theorem d2_81 : decode method_2_code 81 = .ok (.if_icmp .gt 5, 3) := by decide +kernel
theorem d2_84 : decode method_2_code 84 = .ok (.iconst 1, 1) := by decide +kernel
theorem d2_85 : decode method_2_code 85 = .ok (.ireturn, 1) := by decide +kernel
theorem d2_86 : decode method_2_code 86 = .ok (.iconst 0, 1) := by decide +kernel
theorem d2_87 : decode method_2_code 87 = .ok (.ireturn, 1) := by decide +kernel
theorem ef_2 (m : MethodId) (p0 : Int32) : entryFrame m #[(.int p0)] 2 = mkF m 0 #[.val (.int p0), .unset] [] := by first | (simp [entryFrame, mkF, argsToLocals, Value.category]; done) | rfl
def Q2 (Z : State) (p0 : Int32) (h0 : Heap) (n0 : Nat) (v : Option Value) (h : Heap) (L : List Loc) : Prop := (v = some (.int (own_uc p0))) ∧ (Fr n0 L) ∧ (h = h0)
set_option maxRecDepth 65536 in
set_option maxHeartbeats 40000000 in
theorem rm2 (l : Launch) (Z : State) (aZ : Array Value) (hw : ∀ d ∈ tables_1, d.before aZ Z = true) (ws : List Jvm.Cond) (p0 : Int32) (h0 : Heap) (n0 : Nat) (Z0 : n0 ≤ h0.size)  :
    MetFree l (⟨"com/example/omniform/omniform/IriCharsIsUcscharPinLaw", "ref", "(I)Z"⟩ : MethodName) (head1 (Jvm.Cond.code (⟨"com/example/omniform/omniform/IriCharsIsUcscharPinLaw", "ref", "(I)Z"⟩ : MethodName) method_2_code 2 (some .boolean) :: ws) ({ frames := 0, cells := 0, slots := 0, locals := 0 } : Room)) (fun a U => a = #[(.int p0)] ∧ Z.Warmed39 U.vm ∧ U.heap = h0) (fun _ _ _ _ _ => True) (fun _ U o U' => ∃ v L, o = .returned v ∧ Q2 Z p0 h0 n0 v U'.heap L ∧ FrameEnd U o U' L ({ frames := 0, cells := 0, slots := 0, locals := 0 } : Room).cells ({ frames := 0, cells := 0, slots := 0, locals := 0 } : Room).slots) := by
  refine MetFree.of_bodySF (plainFor_of_name pn_16) hisR ?_
  intro p e s m args below meth c s₁ Bd hml0 hP hK
  obtain ⟨rfl, hZ, hh⟩ := hP
  have hx := Bd.exec
  have hby := Bd.bytes
  have hml : c.maxLocals = 2 := hml0
  have hown : s.vm.findClass "com/example/omniform/omniform/IriCharsIsUcscharPinLaw" = some m.cls := findClass_of_methodNamed Bd.named
  have hnm := (name_of_methodNamed Bd.named Bd.method).1
  have hlk : meth.locks = false := BodyLoose.notSynchronized Bd
  have X0 : Stand p l e ({ frames := 0, cells := 0, slots := 0, locals := 0 } : Room) s m #[(.int p0)] below meth c s₁ [] 0 0 := Stand.of_body Bd
  have e0 : s₁.heap = h0 := by rw [← hh, Bd.state]; rfl
  have N0 := Fr.nil n0
  have sq0 : h0.size ≤ h0.size := Nat.le_refl _
  change Go p e below s ({ frames := 0, cells := 0, slots := 0, locals := 0 } : Room).cells ({ frames := 0, cells := 0, slots := 0, locals := 0 } : Room).slots (Q2 Z p0 h0 n0) (s₁.setTop (entryFrame m #[(.int p0)] 2))
  rw [ef_2 m p0]
  show Go _ _ _ _ _ _ _ (s₁.setTop (mkF m 0 #[.val (.int p0), .unset] []))
  refine Go.step (fun _ k => XS.iloadN X0.here hx rfl (hb hby d2_0) rfl  k) ?_
  show Go _ _ _ _ _ _ _ (s₁.setTop (mkF m 1 #[.val (.int p0), .unset] [(.int p0)]))
  refine Go.step (fun _ k => XS.sipush X0.here hx rfl (hb hby d2_1) k) ?_
  show Go _ _ _ _ _ _ _ (s₁.setTop (mkF m 4 #[.val (.int p0), .unset] [(.int (160 : Int32)), (.int p0)]))
  by_cases hc4 : p0 < (160 : Int32)
  · skip
    refine Go.step (fun _ k => XS.icmpYes X0.here hx rfl (pc0 := 4) (pc' := 15) rfl (hb hby d2_4) rfl (tlt hc4).1 (by decide) (by decide) k) ?_
    show Go _ _ _ _ _ _ _ (s₁.setTop (mkF m 15 #[.val (.int p0), .unset] []))
    refine Go.step (fun _ k => XS.iloadN X0.here hx rfl (hb hby d2_15) rfl  k) ?_
    show Go _ _ _ _ _ _ _ (s₁.setTop (mkF m 16 #[.val (.int p0), .unset] [(.int p0)]))
    refine Go.step (X0.ldcInt hx hown (mvT hZ (hw _ (List.mem_of_getElem? (i := 2) rfl))) (g := (mkF m 16 #[.val (.int p0), .unset] [(.int p0)])) rfl (hb hby d2_16)) ?_
    show Go _ _ _ _ _ _ _ (s₁.setTop (mkF m 18 #[.val (.int p0), .unset] [(.int (63744 : Int32)), (.int p0)]))
    by_cases hc18 : p0 < (63744 : Int32)
    · skip
      refine Go.step (fun _ k => XS.icmpYes X0.here hx rfl (pc0 := 18) (pc' := 29) rfl (hb hby d2_18) rfl (tlt hc18).1 (by decide) (by decide) k) ?_
      show Go _ _ _ _ _ _ _ (s₁.setTop (mkF m 29 #[.val (.int p0), .unset] []))
      refine Go.step (fun _ k => XS.iloadN X0.here hx rfl (hb hby d2_29) rfl  k) ?_
      show Go _ _ _ _ _ _ _ (s₁.setTop (mkF m 30 #[.val (.int p0), .unset] [(.int p0)]))
      refine Go.step (X0.ldcInt hx hown (mvT hZ (hw _ (List.mem_of_getElem? (i := 4) rfl))) (g := (mkF m 30 #[.val (.int p0), .unset] [(.int p0)])) rfl (hb hby d2_30)) ?_
      show Go _ _ _ _ _ _ _ (s₁.setTop (mkF m 32 #[.val (.int p0), .unset] [(.int (65008 : Int32)), (.int p0)]))
      by_cases hc32 : p0 < (65008 : Int32)
      · skip
        refine Go.step (fun _ k => XS.icmpYes X0.here hx rfl (pc0 := 32) (pc' := 43) rfl (hb hby d2_32) rfl (tlt hc32).1 (by decide) (by decide) k) ?_
        show Go _ _ _ _ _ _ _ (s₁.setTop (mkF m 43 #[.val (.int p0), .unset] []))
        refine Go.step (fun _ k => XS.iloadN X0.here hx rfl (hb hby d2_43) rfl  k) ?_
        show Go _ _ _ _ _ _ _ (s₁.setTop (mkF m 44 #[.val (.int p0), .unset] [(.int p0)]))
        refine Go.step (X0.ldcInt hx hown (mvT hZ (hw _ (List.mem_of_getElem? (i := 6) rfl))) (g := (mkF m 44 #[.val (.int p0), .unset] [(.int p0)])) rfl (hb hby d2_44)) ?_
        show Go _ _ _ _ _ _ _ (s₁.setTop (mkF m 46 #[.val (.int p0), .unset] [(.int (65536 : Int32)), (.int p0)]))
        by_cases hc46 : p0 < (65536 : Int32)
        · skip
          refine Go.step (fun _ k => XS.icmpYes X0.here hx rfl (pc0 := 46) (pc' := 72) rfl (hb hby d2_46) rfl (tlt hc46).1 (by decide) (by decide) k) ?_
          show Go _ _ _ _ _ _ _ (s₁.setTop (mkF m 72 #[.val (.int p0), .unset] []))
          refine Go.step (fun _ k => XS.iloadN X0.here hx rfl (hb hby d2_72) rfl  k) ?_
          show Go _ _ _ _ _ _ _ (s₁.setTop (mkF m 73 #[.val (.int p0), .unset] [(.int p0)]))
          refine Go.step (X0.ldcInt hx hown (mvT hZ (hw _ (List.mem_of_getElem? (i := 12) rfl))) (g := (mkF m 73 #[.val (.int p0), .unset] [(.int p0)])) rfl (hb hby d2_73)) ?_
          show Go _ _ _ _ _ _ _ (s₁.setTop (mkF m 75 #[.val (.int p0), .unset] [(.int (921600 : Int32)), (.int p0)]))
          by_cases hc75 : p0 < (921600 : Int32)
          · skip
            refine Go.step (fun _ k => XS.icmpYes X0.here hx rfl (pc0 := 75) (pc' := 86) rfl (hb hby d2_75) rfl (tlt hc75).1 (by decide) (by decide) k) ?_
            show Go _ _ _ _ _ _ _ (s₁.setTop (mkF m 86 #[.val (.int p0), .unset] []))
            refine Go.step (fun _ k => XS.iconst X0.here hx rfl (hb hby d2_86) k) ?_
            show Go _ _ _ _ _ _ _ (s₁.setTop (mkF m 87 #[.val (.int p0), .unset] [(.int (0 : Int32))]))
            refine Go.retN X0 hx (t := .boolean) Bd.returns (by simp) hlk (hb hby d2_87) ?_ (by decide) (by decide)
            rw [e0]
            exact ⟨(by
                have hm := own_m16 p0
                have hr := own_r16 p0
                refine own_ucF ?_
                unfold own_isU
                simp only [Int32.lt_iff_toInt_lt, own_i_65536, own_i_160, own_i_55295, own_i_63744, own_i_64975, own_i_65008, own_i_65519, own_i_917504, own_i_921599, own_i_983039, own_i_65535, own_i_65533, own_i_917503, own_i_921600, own_i_983037] at hc4 hc18 hc32 hc46 hc75
                omega), N0, rfl⟩
          · skip
            refine Go.step (fun _ k => XS.icmpNo X0.here hx rfl (hb hby d2_75) rfl (flt hc75).1 k) ?_
            show Go _ _ _ _ _ _ _ (s₁.setTop (mkF m 78 #[.val (.int p0), .unset] []))
            refine Go.step (fun _ k => XS.iloadN X0.here hx rfl (hb hby d2_78) rfl  k) ?_
            show Go _ _ _ _ _ _ _ (s₁.setTop (mkF m 79 #[.val (.int p0), .unset] [(.int p0)]))
            refine Go.step (X0.ldcInt hx hown (mvT hZ (hw _ (List.mem_of_getElem? (i := 13) rfl))) (g := (mkF m 79 #[.val (.int p0), .unset] [(.int p0)])) rfl (hb hby d2_79)) ?_
            show Go _ _ _ _ _ _ _ (s₁.setTop (mkF m 81 #[.val (.int p0), .unset] [(.int (983037 : Int32)), (.int p0)]))
            by_cases hc81 : (983037 : Int32) < p0
            · skip
              refine Go.step (fun _ k => XS.icmpYes X0.here hx rfl (pc0 := 81) (pc' := 86) rfl (hb hby d2_81) rfl (tlt hc81).2.2.1 (by decide) (by decide) k) ?_
              show Go _ _ _ _ _ _ _ (s₁.setTop (mkF m 86 #[.val (.int p0), .unset] []))
              refine Go.step (fun _ k => XS.iconst X0.here hx rfl (hb hby d2_86) k) ?_
              show Go _ _ _ _ _ _ _ (s₁.setTop (mkF m 87 #[.val (.int p0), .unset] [(.int (0 : Int32))]))
              refine Go.retN X0 hx (t := .boolean) Bd.returns (by simp) hlk (hb hby d2_87) ?_ (by decide) (by decide)
              rw [e0]
              exact ⟨(by
                  have hm := own_m16 p0
                  have hr := own_r16 p0
                  refine own_ucF ?_
                  unfold own_isU
                  simp only [Int32.lt_iff_toInt_lt, own_i_65536, own_i_160, own_i_55295, own_i_63744, own_i_64975, own_i_65008, own_i_65519, own_i_917504, own_i_921599, own_i_983039, own_i_65535, own_i_65533, own_i_917503, own_i_921600, own_i_983037] at hc4 hc18 hc32 hc46 hc75 hc81
                  omega), N0, rfl⟩
            · skip
              refine Go.step (fun _ k => XS.icmpNo X0.here hx rfl (hb hby d2_81) rfl (flt hc81).2.2.1 k) ?_
              show Go _ _ _ _ _ _ _ (s₁.setTop (mkF m 84 #[.val (.int p0), .unset] []))
              refine Go.step (fun _ k => XS.iconst X0.here hx rfl (hb hby d2_84) k) ?_
              show Go _ _ _ _ _ _ _ (s₁.setTop (mkF m 85 #[.val (.int p0), .unset] [(.int (1 : Int32))]))
              refine Go.retN X0 hx (t := .boolean) Bd.returns (by simp) hlk (hb hby d2_85) ?_ (by decide) (by decide)
              rw [e0]
              exact ⟨(by
                  have hm := own_m16 p0
                  have hr := own_r16 p0
                  refine own_ucT ?_
                  unfold own_isU
                  simp only [Int32.lt_iff_toInt_lt, own_i_65536, own_i_160, own_i_55295, own_i_63744, own_i_64975, own_i_65008, own_i_65519, own_i_917504, own_i_921599, own_i_983039, own_i_65535, own_i_65533, own_i_917503, own_i_921600, own_i_983037] at hc4 hc18 hc32 hc46 hc75 hc81
                  omega), N0, rfl⟩
        · skip
          refine Go.step (fun _ k => XS.icmpNo X0.here hx rfl (hb hby d2_46) rfl (flt hc46).1 k) ?_
          show Go _ _ _ _ _ _ _ (s₁.setTop (mkF m 49 #[.val (.int p0), .unset] []))
          refine Go.step (fun _ k => XS.iloadN X0.here hx rfl (hb hby d2_49) rfl  k) ?_
          show Go _ _ _ _ _ _ _ (s₁.setTop (mkF m 50 #[.val (.int p0), .unset] [(.int p0)]))
          refine Go.step (X0.ldcInt hx hown (mvT hZ (hw _ (List.mem_of_getElem? (i := 38) rfl))) (g := (mkF m 50 #[.val (.int p0), .unset] [(.int p0)])) rfl (hb hby d2_50)) ?_
          show Go _ _ _ _ _ _ _ (s₁.setTop (mkF m 52 #[.val (.int p0), .unset] [(.int (917503 : Int32)), (.int p0)]))
          by_cases hc52 : (917503 : Int32) < p0
          · skip
            refine Go.step (fun _ k => XS.icmpYes X0.here hx rfl (pc0 := 52) (pc' := 72) rfl (hb hby d2_52) rfl (tlt hc52).2.2.1 (by decide) (by decide) k) ?_
            show Go _ _ _ _ _ _ _ (s₁.setTop (mkF m 72 #[.val (.int p0), .unset] []))
            refine Go.step (fun _ k => XS.iloadN X0.here hx rfl (hb hby d2_72) rfl  k) ?_
            show Go _ _ _ _ _ _ _ (s₁.setTop (mkF m 73 #[.val (.int p0), .unset] [(.int p0)]))
            refine Go.step (X0.ldcInt hx hown (mvT hZ (hw _ (List.mem_of_getElem? (i := 12) rfl))) (g := (mkF m 73 #[.val (.int p0), .unset] [(.int p0)])) rfl (hb hby d2_73)) ?_
            show Go _ _ _ _ _ _ _ (s₁.setTop (mkF m 75 #[.val (.int p0), .unset] [(.int (921600 : Int32)), (.int p0)]))
            by_cases hc75 : p0 < (921600 : Int32)
            · skip
              refine Go.step (fun _ k => XS.icmpYes X0.here hx rfl (pc0 := 75) (pc' := 86) rfl (hb hby d2_75) rfl (tlt hc75).1 (by decide) (by decide) k) ?_
              show Go _ _ _ _ _ _ _ (s₁.setTop (mkF m 86 #[.val (.int p0), .unset] []))
              refine Go.step (fun _ k => XS.iconst X0.here hx rfl (hb hby d2_86) k) ?_
              show Go _ _ _ _ _ _ _ (s₁.setTop (mkF m 87 #[.val (.int p0), .unset] [(.int (0 : Int32))]))
              refine Go.retN X0 hx (t := .boolean) Bd.returns (by simp) hlk (hb hby d2_87) ?_ (by decide) (by decide)
              rw [e0]
              exact ⟨(by
                  have hm := own_m16 p0
                  have hr := own_r16 p0
                  refine own_ucF ?_
                  unfold own_isU
                  simp only [Int32.lt_iff_toInt_lt, own_i_65536, own_i_160, own_i_55295, own_i_63744, own_i_64975, own_i_65008, own_i_65519, own_i_917504, own_i_921599, own_i_983039, own_i_65535, own_i_65533, own_i_917503, own_i_921600, own_i_983037] at hc4 hc18 hc32 hc46 hc52 hc75
                  omega), N0, rfl⟩
            · skip
              refine Go.step (fun _ k => XS.icmpNo X0.here hx rfl (hb hby d2_75) rfl (flt hc75).1 k) ?_
              show Go _ _ _ _ _ _ _ (s₁.setTop (mkF m 78 #[.val (.int p0), .unset] []))
              refine Go.step (fun _ k => XS.iloadN X0.here hx rfl (hb hby d2_78) rfl  k) ?_
              show Go _ _ _ _ _ _ _ (s₁.setTop (mkF m 79 #[.val (.int p0), .unset] [(.int p0)]))
              refine Go.step (X0.ldcInt hx hown (mvT hZ (hw _ (List.mem_of_getElem? (i := 13) rfl))) (g := (mkF m 79 #[.val (.int p0), .unset] [(.int p0)])) rfl (hb hby d2_79)) ?_
              show Go _ _ _ _ _ _ _ (s₁.setTop (mkF m 81 #[.val (.int p0), .unset] [(.int (983037 : Int32)), (.int p0)]))
              by_cases hc81 : (983037 : Int32) < p0
              · skip
                refine Go.step (fun _ k => XS.icmpYes X0.here hx rfl (pc0 := 81) (pc' := 86) rfl (hb hby d2_81) rfl (tlt hc81).2.2.1 (by decide) (by decide) k) ?_
                show Go _ _ _ _ _ _ _ (s₁.setTop (mkF m 86 #[.val (.int p0), .unset] []))
                refine Go.step (fun _ k => XS.iconst X0.here hx rfl (hb hby d2_86) k) ?_
                show Go _ _ _ _ _ _ _ (s₁.setTop (mkF m 87 #[.val (.int p0), .unset] [(.int (0 : Int32))]))
                refine Go.retN X0 hx (t := .boolean) Bd.returns (by simp) hlk (hb hby d2_87) ?_ (by decide) (by decide)
                rw [e0]
                exact ⟨(by
                    have hm := own_m16 p0
                    have hr := own_r16 p0
                    refine own_ucF ?_
                    unfold own_isU
                    simp only [Int32.lt_iff_toInt_lt, own_i_65536, own_i_160, own_i_55295, own_i_63744, own_i_64975, own_i_65008, own_i_65519, own_i_917504, own_i_921599, own_i_983039, own_i_65535, own_i_65533, own_i_917503, own_i_921600, own_i_983037] at hc4 hc18 hc32 hc46 hc52 hc75 hc81
                    omega), N0, rfl⟩
              · skip
                refine Go.step (fun _ k => XS.icmpNo X0.here hx rfl (hb hby d2_81) rfl (flt hc81).2.2.1 k) ?_
                show Go _ _ _ _ _ _ _ (s₁.setTop (mkF m 84 #[.val (.int p0), .unset] []))
                refine Go.step (fun _ k => XS.iconst X0.here hx rfl (hb hby d2_84) k) ?_
                show Go _ _ _ _ _ _ _ (s₁.setTop (mkF m 85 #[.val (.int p0), .unset] [(.int (1 : Int32))]))
                refine Go.retN X0 hx (t := .boolean) Bd.returns (by simp) hlk (hb hby d2_85) ?_ (by decide) (by decide)
                rw [e0]
                exact ⟨(by
                    have hm := own_m16 p0
                    have hr := own_r16 p0
                    refine own_ucT ?_
                    unfold own_isU
                    simp only [Int32.lt_iff_toInt_lt, own_i_65536, own_i_160, own_i_55295, own_i_63744, own_i_64975, own_i_65008, own_i_65519, own_i_917504, own_i_921599, own_i_983039, own_i_65535, own_i_65533, own_i_917503, own_i_921600, own_i_983037] at hc4 hc18 hc32 hc46 hc52 hc75 hc81
                    omega), N0, rfl⟩
          · skip
            refine Go.step (fun _ k => XS.icmpNo X0.here hx rfl (hb hby d2_52) rfl (flt hc52).2.2.1 k) ?_
            show Go _ _ _ _ _ _ _ (s₁.setTop (mkF m 55 #[.val (.int p0), .unset] []))
            refine Go.step (fun _ k => XS.iloadN X0.here hx rfl (hb hby d2_55) rfl  k) ?_
            show Go _ _ _ _ _ _ _ (s₁.setTop (mkF m 56 #[.val (.int p0), .unset] [(.int p0)]))
            refine Go.step (X0.ldcInt hx hown (mvT hZ (hw _ (List.mem_of_getElem? (i := 6) rfl))) (g := (mkF m 56 #[.val (.int p0), .unset] [(.int p0)])) rfl (hb hby d2_56)) ?_
            show Go _ _ _ _ _ _ _ (s₁.setTop (mkF m 58 #[.val (.int p0), .unset] [(.int (65536 : Int32)), (.int p0)]))
            have nz58 : (65536 : Int32) ≠ 0 := (by decide)
            refine Go.step (fun _ k => iremM X0 hx rfl (hb hby d2_58) rfl nz58 k) ?_
            show Go _ _ _ _ _ _ _ (s₁.setTop (mkF m 59 #[.val (.int p0), .unset] [(.int (p0 % (65536 : Int32)))]))
            refine Go.step (fun _ k => XS.istoreN X0.here hx rfl (hb hby d2_59) rfl (l' := #[.val (.int p0), .val (.int (p0 % (65536 : Int32)))]) rfl k) ?_
            show Go _ _ _ _ _ _ _ (s₁.setTop (mkF m 60 #[.val (.int p0), .val (.int (p0 % (65536 : Int32)))] []))
            refine Go.step (fun _ k => XS.iloadN X0.here hx rfl (hb hby d2_60) rfl  k) ?_
            show Go _ _ _ _ _ _ _ (s₁.setTop (mkF m 61 #[.val (.int p0), .val (.int (p0 % (65536 : Int32)))] [(.int (p0 % (65536 : Int32)))]))
            refine Go.step (X0.ldcInt hx hown (mvT hZ (hw _ (List.mem_of_getElem? (i := 39) rfl))) (g := (mkF m 61 #[.val (.int p0), .val (.int (p0 % (65536 : Int32)))] [(.int (p0 % (65536 : Int32)))])) rfl (hb hby d2_61)) ?_
            show Go _ _ _ _ _ _ _ (s₁.setTop (mkF m 63 #[.val (.int p0), .val (.int (p0 % (65536 : Int32)))] [(.int (65533 : Int32)), (.int (p0 % (65536 : Int32)))]))
            by_cases hc63 : (65533 : Int32) < (p0 % (65536 : Int32))
            · skip
              refine Go.step (fun _ k => XS.icmpYes X0.here hx rfl (pc0 := 63) (pc' := 70) rfl (hb hby d2_63) rfl (tlt hc63).2.2.1 (by decide) (by decide) k) ?_
              show Go _ _ _ _ _ _ _ (s₁.setTop (mkF m 70 #[.val (.int p0), .val (.int (p0 % (65536 : Int32)))] []))
              refine Go.step (fun _ k => XS.iconst X0.here hx rfl (hb hby d2_70) k) ?_
              show Go _ _ _ _ _ _ _ (s₁.setTop (mkF m 71 #[.val (.int p0), .val (.int (p0 % (65536 : Int32)))] [(.int (0 : Int32))]))
              refine Go.retN X0 hx (t := .boolean) Bd.returns (by simp) hlk (hb hby d2_71) ?_ (by decide) (by decide)
              rw [e0]
              exact ⟨(by
                  have hm := own_m16 p0
                  have hr := own_r16 p0
                  refine own_ucF ?_
                  unfold own_isU
                  simp only [Int32.lt_iff_toInt_lt, own_i_65536, own_i_160, own_i_55295, own_i_63744, own_i_64975, own_i_65008, own_i_65519, own_i_917504, own_i_921599, own_i_983039, own_i_65535, own_i_65533, own_i_917503, own_i_921600, own_i_983037] at hc4 hc18 hc32 hc46 hc52 hc63
                  omega), N0, rfl⟩
            · skip
              refine Go.step (fun _ k => XS.icmpNo X0.here hx rfl (hb hby d2_63) rfl (flt hc63).2.2.1 k) ?_
              show Go _ _ _ _ _ _ _ (s₁.setTop (mkF m 66 #[.val (.int p0), .val (.int (p0 % (65536 : Int32)))] []))
              refine Go.step (fun _ k => XS.iconst X0.here hx rfl (hb hby d2_66) k) ?_
              show Go _ _ _ _ _ _ _ (s₁.setTop (mkF m 67 #[.val (.int p0), .val (.int (p0 % (65536 : Int32)))] [(.int (1 : Int32))]))
              refine Go.step (fun _ k => XS.goto X0.here hx rfl (pc0 := 67) (pc' := 71) rfl (hb hby d2_67) (by decide) (by decide) k) ?_
              show Go _ _ _ _ _ _ _ (s₁.setTop (mkF m 71 #[.val (.int p0), .val (.int (p0 % (65536 : Int32)))] [(.int (1 : Int32))]))
              refine Go.retN X0 hx (t := .boolean) Bd.returns (by simp) hlk (hb hby d2_71) ?_ (by decide) (by decide)
              rw [e0]
              exact ⟨(by
                  have hm := own_m16 p0
                  have hr := own_r16 p0
                  refine own_ucT ?_
                  unfold own_isU
                  simp only [Int32.lt_iff_toInt_lt, own_i_65536, own_i_160, own_i_55295, own_i_63744, own_i_64975, own_i_65008, own_i_65519, own_i_917504, own_i_921599, own_i_983039, own_i_65535, own_i_65533, own_i_917503, own_i_921600, own_i_983037] at hc4 hc18 hc32 hc46 hc52 hc63
                  omega), N0, rfl⟩
      · skip
        refine Go.step (fun _ k => XS.icmpNo X0.here hx rfl (hb hby d2_32) rfl (flt hc32).1 k) ?_
        show Go _ _ _ _ _ _ _ (s₁.setTop (mkF m 35 #[.val (.int p0), .unset] []))
        refine Go.step (fun _ k => XS.iloadN X0.here hx rfl (hb hby d2_35) rfl  k) ?_
        show Go _ _ _ _ _ _ _ (s₁.setTop (mkF m 36 #[.val (.int p0), .unset] [(.int p0)]))
        refine Go.step (X0.ldcInt hx hown (mvT hZ (hw _ (List.mem_of_getElem? (i := 5) rfl))) (g := (mkF m 36 #[.val (.int p0), .unset] [(.int p0)])) rfl (hb hby d2_36)) ?_
        show Go _ _ _ _ _ _ _ (s₁.setTop (mkF m 38 #[.val (.int p0), .unset] [(.int (65519 : Int32)), (.int p0)]))
        by_cases hc38 : (65519 : Int32) < p0
        · skip
          refine Go.step (fun _ k => XS.icmpYes X0.here hx rfl (pc0 := 38) (pc' := 43) rfl (hb hby d2_38) rfl (tlt hc38).2.2.1 (by decide) (by decide) k) ?_
          show Go _ _ _ _ _ _ _ (s₁.setTop (mkF m 43 #[.val (.int p0), .unset] []))
          refine Go.step (fun _ k => XS.iloadN X0.here hx rfl (hb hby d2_43) rfl  k) ?_
          show Go _ _ _ _ _ _ _ (s₁.setTop (mkF m 44 #[.val (.int p0), .unset] [(.int p0)]))
          refine Go.step (X0.ldcInt hx hown (mvT hZ (hw _ (List.mem_of_getElem? (i := 6) rfl))) (g := (mkF m 44 #[.val (.int p0), .unset] [(.int p0)])) rfl (hb hby d2_44)) ?_
          show Go _ _ _ _ _ _ _ (s₁.setTop (mkF m 46 #[.val (.int p0), .unset] [(.int (65536 : Int32)), (.int p0)]))
          by_cases hc46 : p0 < (65536 : Int32)
          · skip
            refine Go.step (fun _ k => XS.icmpYes X0.here hx rfl (pc0 := 46) (pc' := 72) rfl (hb hby d2_46) rfl (tlt hc46).1 (by decide) (by decide) k) ?_
            show Go _ _ _ _ _ _ _ (s₁.setTop (mkF m 72 #[.val (.int p0), .unset] []))
            refine Go.step (fun _ k => XS.iloadN X0.here hx rfl (hb hby d2_72) rfl  k) ?_
            show Go _ _ _ _ _ _ _ (s₁.setTop (mkF m 73 #[.val (.int p0), .unset] [(.int p0)]))
            refine Go.step (X0.ldcInt hx hown (mvT hZ (hw _ (List.mem_of_getElem? (i := 12) rfl))) (g := (mkF m 73 #[.val (.int p0), .unset] [(.int p0)])) rfl (hb hby d2_73)) ?_
            show Go _ _ _ _ _ _ _ (s₁.setTop (mkF m 75 #[.val (.int p0), .unset] [(.int (921600 : Int32)), (.int p0)]))
            by_cases hc75 : p0 < (921600 : Int32)
            · skip
              refine Go.step (fun _ k => XS.icmpYes X0.here hx rfl (pc0 := 75) (pc' := 86) rfl (hb hby d2_75) rfl (tlt hc75).1 (by decide) (by decide) k) ?_
              show Go _ _ _ _ _ _ _ (s₁.setTop (mkF m 86 #[.val (.int p0), .unset] []))
              refine Go.step (fun _ k => XS.iconst X0.here hx rfl (hb hby d2_86) k) ?_
              show Go _ _ _ _ _ _ _ (s₁.setTop (mkF m 87 #[.val (.int p0), .unset] [(.int (0 : Int32))]))
              refine Go.retN X0 hx (t := .boolean) Bd.returns (by simp) hlk (hb hby d2_87) ?_ (by decide) (by decide)
              rw [e0]
              exact ⟨(by
                  have hm := own_m16 p0
                  have hr := own_r16 p0
                  refine own_ucF ?_
                  unfold own_isU
                  simp only [Int32.lt_iff_toInt_lt, own_i_65536, own_i_160, own_i_55295, own_i_63744, own_i_64975, own_i_65008, own_i_65519, own_i_917504, own_i_921599, own_i_983039, own_i_65535, own_i_65533, own_i_917503, own_i_921600, own_i_983037] at hc4 hc18 hc32 hc38 hc46 hc75
                  omega), N0, rfl⟩
            · skip
              refine Go.step (fun _ k => XS.icmpNo X0.here hx rfl (hb hby d2_75) rfl (flt hc75).1 k) ?_
              show Go _ _ _ _ _ _ _ (s₁.setTop (mkF m 78 #[.val (.int p0), .unset] []))
              refine Go.step (fun _ k => XS.iloadN X0.here hx rfl (hb hby d2_78) rfl  k) ?_
              show Go _ _ _ _ _ _ _ (s₁.setTop (mkF m 79 #[.val (.int p0), .unset] [(.int p0)]))
              refine Go.step (X0.ldcInt hx hown (mvT hZ (hw _ (List.mem_of_getElem? (i := 13) rfl))) (g := (mkF m 79 #[.val (.int p0), .unset] [(.int p0)])) rfl (hb hby d2_79)) ?_
              show Go _ _ _ _ _ _ _ (s₁.setTop (mkF m 81 #[.val (.int p0), .unset] [(.int (983037 : Int32)), (.int p0)]))
              by_cases hc81 : (983037 : Int32) < p0
              · skip
                refine Go.step (fun _ k => XS.icmpYes X0.here hx rfl (pc0 := 81) (pc' := 86) rfl (hb hby d2_81) rfl (tlt hc81).2.2.1 (by decide) (by decide) k) ?_
                show Go _ _ _ _ _ _ _ (s₁.setTop (mkF m 86 #[.val (.int p0), .unset] []))
                refine Go.step (fun _ k => XS.iconst X0.here hx rfl (hb hby d2_86) k) ?_
                show Go _ _ _ _ _ _ _ (s₁.setTop (mkF m 87 #[.val (.int p0), .unset] [(.int (0 : Int32))]))
                refine Go.retN X0 hx (t := .boolean) Bd.returns (by simp) hlk (hb hby d2_87) ?_ (by decide) (by decide)
                rw [e0]
                exact ⟨(by
                    have hm := own_m16 p0
                    have hr := own_r16 p0
                    refine own_ucF ?_
                    unfold own_isU
                    simp only [Int32.lt_iff_toInt_lt, own_i_65536, own_i_160, own_i_55295, own_i_63744, own_i_64975, own_i_65008, own_i_65519, own_i_917504, own_i_921599, own_i_983039, own_i_65535, own_i_65533, own_i_917503, own_i_921600, own_i_983037] at hc4 hc18 hc32 hc38 hc46 hc75 hc81
                    omega), N0, rfl⟩
              · skip
                refine Go.step (fun _ k => XS.icmpNo X0.here hx rfl (hb hby d2_81) rfl (flt hc81).2.2.1 k) ?_
                show Go _ _ _ _ _ _ _ (s₁.setTop (mkF m 84 #[.val (.int p0), .unset] []))
                refine Go.step (fun _ k => XS.iconst X0.here hx rfl (hb hby d2_84) k) ?_
                show Go _ _ _ _ _ _ _ (s₁.setTop (mkF m 85 #[.val (.int p0), .unset] [(.int (1 : Int32))]))
                refine Go.retN X0 hx (t := .boolean) Bd.returns (by simp) hlk (hb hby d2_85) ?_ (by decide) (by decide)
                rw [e0]
                exact ⟨(by
                    have hm := own_m16 p0
                    have hr := own_r16 p0
                    refine own_ucT ?_
                    unfold own_isU
                    simp only [Int32.lt_iff_toInt_lt, own_i_65536, own_i_160, own_i_55295, own_i_63744, own_i_64975, own_i_65008, own_i_65519, own_i_917504, own_i_921599, own_i_983039, own_i_65535, own_i_65533, own_i_917503, own_i_921600, own_i_983037] at hc4 hc18 hc32 hc38 hc46 hc75 hc81
                    omega), N0, rfl⟩
          · skip
            refine Go.step (fun _ k => XS.icmpNo X0.here hx rfl (hb hby d2_46) rfl (flt hc46).1 k) ?_
            show Go _ _ _ _ _ _ _ (s₁.setTop (mkF m 49 #[.val (.int p0), .unset] []))
            refine Go.step (fun _ k => XS.iloadN X0.here hx rfl (hb hby d2_49) rfl  k) ?_
            show Go _ _ _ _ _ _ _ (s₁.setTop (mkF m 50 #[.val (.int p0), .unset] [(.int p0)]))
            refine Go.step (X0.ldcInt hx hown (mvT hZ (hw _ (List.mem_of_getElem? (i := 38) rfl))) (g := (mkF m 50 #[.val (.int p0), .unset] [(.int p0)])) rfl (hb hby d2_50)) ?_
            show Go _ _ _ _ _ _ _ (s₁.setTop (mkF m 52 #[.val (.int p0), .unset] [(.int (917503 : Int32)), (.int p0)]))
            by_cases hc52 : (917503 : Int32) < p0
            · skip
              refine Go.step (fun _ k => XS.icmpYes X0.here hx rfl (pc0 := 52) (pc' := 72) rfl (hb hby d2_52) rfl (tlt hc52).2.2.1 (by decide) (by decide) k) ?_
              show Go _ _ _ _ _ _ _ (s₁.setTop (mkF m 72 #[.val (.int p0), .unset] []))
              refine Go.step (fun _ k => XS.iloadN X0.here hx rfl (hb hby d2_72) rfl  k) ?_
              show Go _ _ _ _ _ _ _ (s₁.setTop (mkF m 73 #[.val (.int p0), .unset] [(.int p0)]))
              refine Go.step (X0.ldcInt hx hown (mvT hZ (hw _ (List.mem_of_getElem? (i := 12) rfl))) (g := (mkF m 73 #[.val (.int p0), .unset] [(.int p0)])) rfl (hb hby d2_73)) ?_
              show Go _ _ _ _ _ _ _ (s₁.setTop (mkF m 75 #[.val (.int p0), .unset] [(.int (921600 : Int32)), (.int p0)]))
              by_cases hc75 : p0 < (921600 : Int32)
              · skip
                refine Go.step (fun _ k => XS.icmpYes X0.here hx rfl (pc0 := 75) (pc' := 86) rfl (hb hby d2_75) rfl (tlt hc75).1 (by decide) (by decide) k) ?_
                show Go _ _ _ _ _ _ _ (s₁.setTop (mkF m 86 #[.val (.int p0), .unset] []))
                refine Go.step (fun _ k => XS.iconst X0.here hx rfl (hb hby d2_86) k) ?_
                show Go _ _ _ _ _ _ _ (s₁.setTop (mkF m 87 #[.val (.int p0), .unset] [(.int (0 : Int32))]))
                refine Go.retN X0 hx (t := .boolean) Bd.returns (by simp) hlk (hb hby d2_87) ?_ (by decide) (by decide)
                rw [e0]
                exact ⟨(by
                    have hm := own_m16 p0
                    have hr := own_r16 p0
                    refine own_ucF ?_
                    unfold own_isU
                    simp only [Int32.lt_iff_toInt_lt, own_i_65536, own_i_160, own_i_55295, own_i_63744, own_i_64975, own_i_65008, own_i_65519, own_i_917504, own_i_921599, own_i_983039, own_i_65535, own_i_65533, own_i_917503, own_i_921600, own_i_983037] at hc4 hc18 hc32 hc38 hc46 hc52 hc75
                    omega), N0, rfl⟩
              · skip
                refine Go.step (fun _ k => XS.icmpNo X0.here hx rfl (hb hby d2_75) rfl (flt hc75).1 k) ?_
                show Go _ _ _ _ _ _ _ (s₁.setTop (mkF m 78 #[.val (.int p0), .unset] []))
                refine Go.step (fun _ k => XS.iloadN X0.here hx rfl (hb hby d2_78) rfl  k) ?_
                show Go _ _ _ _ _ _ _ (s₁.setTop (mkF m 79 #[.val (.int p0), .unset] [(.int p0)]))
                refine Go.step (X0.ldcInt hx hown (mvT hZ (hw _ (List.mem_of_getElem? (i := 13) rfl))) (g := (mkF m 79 #[.val (.int p0), .unset] [(.int p0)])) rfl (hb hby d2_79)) ?_
                show Go _ _ _ _ _ _ _ (s₁.setTop (mkF m 81 #[.val (.int p0), .unset] [(.int (983037 : Int32)), (.int p0)]))
                by_cases hc81 : (983037 : Int32) < p0
                · skip
                  refine Go.step (fun _ k => XS.icmpYes X0.here hx rfl (pc0 := 81) (pc' := 86) rfl (hb hby d2_81) rfl (tlt hc81).2.2.1 (by decide) (by decide) k) ?_
                  show Go _ _ _ _ _ _ _ (s₁.setTop (mkF m 86 #[.val (.int p0), .unset] []))
                  refine Go.step (fun _ k => XS.iconst X0.here hx rfl (hb hby d2_86) k) ?_
                  show Go _ _ _ _ _ _ _ (s₁.setTop (mkF m 87 #[.val (.int p0), .unset] [(.int (0 : Int32))]))
                  refine Go.retN X0 hx (t := .boolean) Bd.returns (by simp) hlk (hb hby d2_87) ?_ (by decide) (by decide)
                  rw [e0]
                  exact ⟨(by
                      have hm := own_m16 p0
                      have hr := own_r16 p0
                      refine own_ucF ?_
                      unfold own_isU
                      simp only [Int32.lt_iff_toInt_lt, own_i_65536, own_i_160, own_i_55295, own_i_63744, own_i_64975, own_i_65008, own_i_65519, own_i_917504, own_i_921599, own_i_983039, own_i_65535, own_i_65533, own_i_917503, own_i_921600, own_i_983037] at hc4 hc18 hc32 hc38 hc46 hc52 hc75 hc81
                      omega), N0, rfl⟩
                · skip
                  refine Go.step (fun _ k => XS.icmpNo X0.here hx rfl (hb hby d2_81) rfl (flt hc81).2.2.1 k) ?_
                  show Go _ _ _ _ _ _ _ (s₁.setTop (mkF m 84 #[.val (.int p0), .unset] []))
                  refine Go.step (fun _ k => XS.iconst X0.here hx rfl (hb hby d2_84) k) ?_
                  show Go _ _ _ _ _ _ _ (s₁.setTop (mkF m 85 #[.val (.int p0), .unset] [(.int (1 : Int32))]))
                  refine Go.retN X0 hx (t := .boolean) Bd.returns (by simp) hlk (hb hby d2_85) ?_ (by decide) (by decide)
                  rw [e0]
                  exact ⟨(by
                      have hm := own_m16 p0
                      have hr := own_r16 p0
                      refine own_ucT ?_
                      unfold own_isU
                      simp only [Int32.lt_iff_toInt_lt, own_i_65536, own_i_160, own_i_55295, own_i_63744, own_i_64975, own_i_65008, own_i_65519, own_i_917504, own_i_921599, own_i_983039, own_i_65535, own_i_65533, own_i_917503, own_i_921600, own_i_983037] at hc4 hc18 hc32 hc38 hc46 hc52 hc75 hc81
                      omega), N0, rfl⟩
            · skip
              refine Go.step (fun _ k => XS.icmpNo X0.here hx rfl (hb hby d2_52) rfl (flt hc52).2.2.1 k) ?_
              show Go _ _ _ _ _ _ _ (s₁.setTop (mkF m 55 #[.val (.int p0), .unset] []))
              refine Go.step (fun _ k => XS.iloadN X0.here hx rfl (hb hby d2_55) rfl  k) ?_
              show Go _ _ _ _ _ _ _ (s₁.setTop (mkF m 56 #[.val (.int p0), .unset] [(.int p0)]))
              refine Go.step (X0.ldcInt hx hown (mvT hZ (hw _ (List.mem_of_getElem? (i := 6) rfl))) (g := (mkF m 56 #[.val (.int p0), .unset] [(.int p0)])) rfl (hb hby d2_56)) ?_
              show Go _ _ _ _ _ _ _ (s₁.setTop (mkF m 58 #[.val (.int p0), .unset] [(.int (65536 : Int32)), (.int p0)]))
              have nz58 : (65536 : Int32) ≠ 0 := (by decide)
              refine Go.step (fun _ k => iremM X0 hx rfl (hb hby d2_58) rfl nz58 k) ?_
              show Go _ _ _ _ _ _ _ (s₁.setTop (mkF m 59 #[.val (.int p0), .unset] [(.int (p0 % (65536 : Int32)))]))
              refine Go.step (fun _ k => XS.istoreN X0.here hx rfl (hb hby d2_59) rfl (l' := #[.val (.int p0), .val (.int (p0 % (65536 : Int32)))]) rfl k) ?_
              show Go _ _ _ _ _ _ _ (s₁.setTop (mkF m 60 #[.val (.int p0), .val (.int (p0 % (65536 : Int32)))] []))
              refine Go.step (fun _ k => XS.iloadN X0.here hx rfl (hb hby d2_60) rfl  k) ?_
              show Go _ _ _ _ _ _ _ (s₁.setTop (mkF m 61 #[.val (.int p0), .val (.int (p0 % (65536 : Int32)))] [(.int (p0 % (65536 : Int32)))]))
              refine Go.step (X0.ldcInt hx hown (mvT hZ (hw _ (List.mem_of_getElem? (i := 39) rfl))) (g := (mkF m 61 #[.val (.int p0), .val (.int (p0 % (65536 : Int32)))] [(.int (p0 % (65536 : Int32)))])) rfl (hb hby d2_61)) ?_
              show Go _ _ _ _ _ _ _ (s₁.setTop (mkF m 63 #[.val (.int p0), .val (.int (p0 % (65536 : Int32)))] [(.int (65533 : Int32)), (.int (p0 % (65536 : Int32)))]))
              by_cases hc63 : (65533 : Int32) < (p0 % (65536 : Int32))
              · skip
                refine Go.step (fun _ k => XS.icmpYes X0.here hx rfl (pc0 := 63) (pc' := 70) rfl (hb hby d2_63) rfl (tlt hc63).2.2.1 (by decide) (by decide) k) ?_
                show Go _ _ _ _ _ _ _ (s₁.setTop (mkF m 70 #[.val (.int p0), .val (.int (p0 % (65536 : Int32)))] []))
                refine Go.step (fun _ k => XS.iconst X0.here hx rfl (hb hby d2_70) k) ?_
                show Go _ _ _ _ _ _ _ (s₁.setTop (mkF m 71 #[.val (.int p0), .val (.int (p0 % (65536 : Int32)))] [(.int (0 : Int32))]))
                refine Go.retN X0 hx (t := .boolean) Bd.returns (by simp) hlk (hb hby d2_71) ?_ (by decide) (by decide)
                rw [e0]
                exact ⟨(by
                    have hm := own_m16 p0
                    have hr := own_r16 p0
                    refine own_ucF ?_
                    unfold own_isU
                    simp only [Int32.lt_iff_toInt_lt, own_i_65536, own_i_160, own_i_55295, own_i_63744, own_i_64975, own_i_65008, own_i_65519, own_i_917504, own_i_921599, own_i_983039, own_i_65535, own_i_65533, own_i_917503, own_i_921600, own_i_983037] at hc4 hc18 hc32 hc38 hc46 hc52 hc63
                    omega), N0, rfl⟩
              · skip
                refine Go.step (fun _ k => XS.icmpNo X0.here hx rfl (hb hby d2_63) rfl (flt hc63).2.2.1 k) ?_
                show Go _ _ _ _ _ _ _ (s₁.setTop (mkF m 66 #[.val (.int p0), .val (.int (p0 % (65536 : Int32)))] []))
                refine Go.step (fun _ k => XS.iconst X0.here hx rfl (hb hby d2_66) k) ?_
                show Go _ _ _ _ _ _ _ (s₁.setTop (mkF m 67 #[.val (.int p0), .val (.int (p0 % (65536 : Int32)))] [(.int (1 : Int32))]))
                refine Go.step (fun _ k => XS.goto X0.here hx rfl (pc0 := 67) (pc' := 71) rfl (hb hby d2_67) (by decide) (by decide) k) ?_
                show Go _ _ _ _ _ _ _ (s₁.setTop (mkF m 71 #[.val (.int p0), .val (.int (p0 % (65536 : Int32)))] [(.int (1 : Int32))]))
                refine Go.retN X0 hx (t := .boolean) Bd.returns (by simp) hlk (hb hby d2_71) ?_ (by decide) (by decide)
                rw [e0]
                exact ⟨(by
                    have hm := own_m16 p0
                    have hr := own_r16 p0
                    refine own_ucT ?_
                    unfold own_isU
                    simp only [Int32.lt_iff_toInt_lt, own_i_65536, own_i_160, own_i_55295, own_i_63744, own_i_64975, own_i_65008, own_i_65519, own_i_917504, own_i_921599, own_i_983039, own_i_65535, own_i_65533, own_i_917503, own_i_921600, own_i_983037] at hc4 hc18 hc32 hc38 hc46 hc52 hc63
                    omega), N0, rfl⟩
        · skip
          refine Go.step (fun _ k => XS.icmpNo X0.here hx rfl (hb hby d2_38) rfl (flt hc38).2.2.1 k) ?_
          show Go _ _ _ _ _ _ _ (s₁.setTop (mkF m 41 #[.val (.int p0), .unset] []))
          refine Go.step (fun _ k => XS.iconst X0.here hx rfl (hb hby d2_41) k) ?_
          show Go _ _ _ _ _ _ _ (s₁.setTop (mkF m 42 #[.val (.int p0), .unset] [(.int (1 : Int32))]))
          refine Go.retN X0 hx (t := .boolean) Bd.returns (by simp) hlk (hb hby d2_42) ?_ (by decide) (by decide)
          rw [e0]
          exact ⟨(by
              have hm := own_m16 p0
              have hr := own_r16 p0
              refine own_ucT ?_
              unfold own_isU
              simp only [Int32.lt_iff_toInt_lt, own_i_65536, own_i_160, own_i_55295, own_i_63744, own_i_64975, own_i_65008, own_i_65519, own_i_917504, own_i_921599, own_i_983039, own_i_65535, own_i_65533, own_i_917503, own_i_921600, own_i_983037] at hc4 hc18 hc32 hc38
              omega), N0, rfl⟩
    · skip
      refine Go.step (fun _ k => XS.icmpNo X0.here hx rfl (hb hby d2_18) rfl (flt hc18).1 k) ?_
      show Go _ _ _ _ _ _ _ (s₁.setTop (mkF m 21 #[.val (.int p0), .unset] []))
      refine Go.step (fun _ k => XS.iloadN X0.here hx rfl (hb hby d2_21) rfl  k) ?_
      show Go _ _ _ _ _ _ _ (s₁.setTop (mkF m 22 #[.val (.int p0), .unset] [(.int p0)]))
      refine Go.step (X0.ldcInt hx hown (mvT hZ (hw _ (List.mem_of_getElem? (i := 3) rfl))) (g := (mkF m 22 #[.val (.int p0), .unset] [(.int p0)])) rfl (hb hby d2_22)) ?_
      show Go _ _ _ _ _ _ _ (s₁.setTop (mkF m 24 #[.val (.int p0), .unset] [(.int (64975 : Int32)), (.int p0)]))
      by_cases hc24 : (64975 : Int32) < p0
      · skip
        refine Go.step (fun _ k => XS.icmpYes X0.here hx rfl (pc0 := 24) (pc' := 29) rfl (hb hby d2_24) rfl (tlt hc24).2.2.1 (by decide) (by decide) k) ?_
        show Go _ _ _ _ _ _ _ (s₁.setTop (mkF m 29 #[.val (.int p0), .unset] []))
        refine Go.step (fun _ k => XS.iloadN X0.here hx rfl (hb hby d2_29) rfl  k) ?_
        show Go _ _ _ _ _ _ _ (s₁.setTop (mkF m 30 #[.val (.int p0), .unset] [(.int p0)]))
        refine Go.step (X0.ldcInt hx hown (mvT hZ (hw _ (List.mem_of_getElem? (i := 4) rfl))) (g := (mkF m 30 #[.val (.int p0), .unset] [(.int p0)])) rfl (hb hby d2_30)) ?_
        show Go _ _ _ _ _ _ _ (s₁.setTop (mkF m 32 #[.val (.int p0), .unset] [(.int (65008 : Int32)), (.int p0)]))
        by_cases hc32 : p0 < (65008 : Int32)
        · skip
          refine Go.step (fun _ k => XS.icmpYes X0.here hx rfl (pc0 := 32) (pc' := 43) rfl (hb hby d2_32) rfl (tlt hc32).1 (by decide) (by decide) k) ?_
          show Go _ _ _ _ _ _ _ (s₁.setTop (mkF m 43 #[.val (.int p0), .unset] []))
          refine Go.step (fun _ k => XS.iloadN X0.here hx rfl (hb hby d2_43) rfl  k) ?_
          show Go _ _ _ _ _ _ _ (s₁.setTop (mkF m 44 #[.val (.int p0), .unset] [(.int p0)]))
          refine Go.step (X0.ldcInt hx hown (mvT hZ (hw _ (List.mem_of_getElem? (i := 6) rfl))) (g := (mkF m 44 #[.val (.int p0), .unset] [(.int p0)])) rfl (hb hby d2_44)) ?_
          show Go _ _ _ _ _ _ _ (s₁.setTop (mkF m 46 #[.val (.int p0), .unset] [(.int (65536 : Int32)), (.int p0)]))
          by_cases hc46 : p0 < (65536 : Int32)
          · skip
            refine Go.step (fun _ k => XS.icmpYes X0.here hx rfl (pc0 := 46) (pc' := 72) rfl (hb hby d2_46) rfl (tlt hc46).1 (by decide) (by decide) k) ?_
            show Go _ _ _ _ _ _ _ (s₁.setTop (mkF m 72 #[.val (.int p0), .unset] []))
            refine Go.step (fun _ k => XS.iloadN X0.here hx rfl (hb hby d2_72) rfl  k) ?_
            show Go _ _ _ _ _ _ _ (s₁.setTop (mkF m 73 #[.val (.int p0), .unset] [(.int p0)]))
            refine Go.step (X0.ldcInt hx hown (mvT hZ (hw _ (List.mem_of_getElem? (i := 12) rfl))) (g := (mkF m 73 #[.val (.int p0), .unset] [(.int p0)])) rfl (hb hby d2_73)) ?_
            show Go _ _ _ _ _ _ _ (s₁.setTop (mkF m 75 #[.val (.int p0), .unset] [(.int (921600 : Int32)), (.int p0)]))
            by_cases hc75 : p0 < (921600 : Int32)
            · skip
              refine Go.step (fun _ k => XS.icmpYes X0.here hx rfl (pc0 := 75) (pc' := 86) rfl (hb hby d2_75) rfl (tlt hc75).1 (by decide) (by decide) k) ?_
              show Go _ _ _ _ _ _ _ (s₁.setTop (mkF m 86 #[.val (.int p0), .unset] []))
              refine Go.step (fun _ k => XS.iconst X0.here hx rfl (hb hby d2_86) k) ?_
              show Go _ _ _ _ _ _ _ (s₁.setTop (mkF m 87 #[.val (.int p0), .unset] [(.int (0 : Int32))]))
              refine Go.retN X0 hx (t := .boolean) Bd.returns (by simp) hlk (hb hby d2_87) ?_ (by decide) (by decide)
              rw [e0]
              exact ⟨(by
                  have hm := own_m16 p0
                  have hr := own_r16 p0
                  refine own_ucF ?_
                  unfold own_isU
                  simp only [Int32.lt_iff_toInt_lt, own_i_65536, own_i_160, own_i_55295, own_i_63744, own_i_64975, own_i_65008, own_i_65519, own_i_917504, own_i_921599, own_i_983039, own_i_65535, own_i_65533, own_i_917503, own_i_921600, own_i_983037] at hc4 hc18 hc24 hc32 hc46 hc75
                  omega), N0, rfl⟩
            · skip
              refine Go.step (fun _ k => XS.icmpNo X0.here hx rfl (hb hby d2_75) rfl (flt hc75).1 k) ?_
              show Go _ _ _ _ _ _ _ (s₁.setTop (mkF m 78 #[.val (.int p0), .unset] []))
              refine Go.step (fun _ k => XS.iloadN X0.here hx rfl (hb hby d2_78) rfl  k) ?_
              show Go _ _ _ _ _ _ _ (s₁.setTop (mkF m 79 #[.val (.int p0), .unset] [(.int p0)]))
              refine Go.step (X0.ldcInt hx hown (mvT hZ (hw _ (List.mem_of_getElem? (i := 13) rfl))) (g := (mkF m 79 #[.val (.int p0), .unset] [(.int p0)])) rfl (hb hby d2_79)) ?_
              show Go _ _ _ _ _ _ _ (s₁.setTop (mkF m 81 #[.val (.int p0), .unset] [(.int (983037 : Int32)), (.int p0)]))
              by_cases hc81 : (983037 : Int32) < p0
              · skip
                refine Go.step (fun _ k => XS.icmpYes X0.here hx rfl (pc0 := 81) (pc' := 86) rfl (hb hby d2_81) rfl (tlt hc81).2.2.1 (by decide) (by decide) k) ?_
                show Go _ _ _ _ _ _ _ (s₁.setTop (mkF m 86 #[.val (.int p0), .unset] []))
                refine Go.step (fun _ k => XS.iconst X0.here hx rfl (hb hby d2_86) k) ?_
                show Go _ _ _ _ _ _ _ (s₁.setTop (mkF m 87 #[.val (.int p0), .unset] [(.int (0 : Int32))]))
                refine Go.retN X0 hx (t := .boolean) Bd.returns (by simp) hlk (hb hby d2_87) ?_ (by decide) (by decide)
                rw [e0]
                exact ⟨(by
                    have hm := own_m16 p0
                    have hr := own_r16 p0
                    refine own_ucF ?_
                    unfold own_isU
                    simp only [Int32.lt_iff_toInt_lt, own_i_65536, own_i_160, own_i_55295, own_i_63744, own_i_64975, own_i_65008, own_i_65519, own_i_917504, own_i_921599, own_i_983039, own_i_65535, own_i_65533, own_i_917503, own_i_921600, own_i_983037] at hc4 hc18 hc24 hc32 hc46 hc75 hc81
                    omega), N0, rfl⟩
              · skip
                refine Go.step (fun _ k => XS.icmpNo X0.here hx rfl (hb hby d2_81) rfl (flt hc81).2.2.1 k) ?_
                show Go _ _ _ _ _ _ _ (s₁.setTop (mkF m 84 #[.val (.int p0), .unset] []))
                refine Go.step (fun _ k => XS.iconst X0.here hx rfl (hb hby d2_84) k) ?_
                show Go _ _ _ _ _ _ _ (s₁.setTop (mkF m 85 #[.val (.int p0), .unset] [(.int (1 : Int32))]))
                refine Go.retN X0 hx (t := .boolean) Bd.returns (by simp) hlk (hb hby d2_85) ?_ (by decide) (by decide)
                rw [e0]
                exact ⟨(by
                    have hm := own_m16 p0
                    have hr := own_r16 p0
                    refine own_ucT ?_
                    unfold own_isU
                    simp only [Int32.lt_iff_toInt_lt, own_i_65536, own_i_160, own_i_55295, own_i_63744, own_i_64975, own_i_65008, own_i_65519, own_i_917504, own_i_921599, own_i_983039, own_i_65535, own_i_65533, own_i_917503, own_i_921600, own_i_983037] at hc4 hc18 hc24 hc32 hc46 hc75 hc81
                    omega), N0, rfl⟩
          · skip
            refine Go.step (fun _ k => XS.icmpNo X0.here hx rfl (hb hby d2_46) rfl (flt hc46).1 k) ?_
            show Go _ _ _ _ _ _ _ (s₁.setTop (mkF m 49 #[.val (.int p0), .unset] []))
            refine Go.step (fun _ k => XS.iloadN X0.here hx rfl (hb hby d2_49) rfl  k) ?_
            show Go _ _ _ _ _ _ _ (s₁.setTop (mkF m 50 #[.val (.int p0), .unset] [(.int p0)]))
            refine Go.step (X0.ldcInt hx hown (mvT hZ (hw _ (List.mem_of_getElem? (i := 38) rfl))) (g := (mkF m 50 #[.val (.int p0), .unset] [(.int p0)])) rfl (hb hby d2_50)) ?_
            show Go _ _ _ _ _ _ _ (s₁.setTop (mkF m 52 #[.val (.int p0), .unset] [(.int (917503 : Int32)), (.int p0)]))
            by_cases hc52 : (917503 : Int32) < p0
            · skip
              refine Go.step (fun _ k => XS.icmpYes X0.here hx rfl (pc0 := 52) (pc' := 72) rfl (hb hby d2_52) rfl (tlt hc52).2.2.1 (by decide) (by decide) k) ?_
              show Go _ _ _ _ _ _ _ (s₁.setTop (mkF m 72 #[.val (.int p0), .unset] []))
              refine Go.step (fun _ k => XS.iloadN X0.here hx rfl (hb hby d2_72) rfl  k) ?_
              show Go _ _ _ _ _ _ _ (s₁.setTop (mkF m 73 #[.val (.int p0), .unset] [(.int p0)]))
              refine Go.step (X0.ldcInt hx hown (mvT hZ (hw _ (List.mem_of_getElem? (i := 12) rfl))) (g := (mkF m 73 #[.val (.int p0), .unset] [(.int p0)])) rfl (hb hby d2_73)) ?_
              show Go _ _ _ _ _ _ _ (s₁.setTop (mkF m 75 #[.val (.int p0), .unset] [(.int (921600 : Int32)), (.int p0)]))
              by_cases hc75 : p0 < (921600 : Int32)
              · skip
                refine Go.step (fun _ k => XS.icmpYes X0.here hx rfl (pc0 := 75) (pc' := 86) rfl (hb hby d2_75) rfl (tlt hc75).1 (by decide) (by decide) k) ?_
                show Go _ _ _ _ _ _ _ (s₁.setTop (mkF m 86 #[.val (.int p0), .unset] []))
                refine Go.step (fun _ k => XS.iconst X0.here hx rfl (hb hby d2_86) k) ?_
                show Go _ _ _ _ _ _ _ (s₁.setTop (mkF m 87 #[.val (.int p0), .unset] [(.int (0 : Int32))]))
                refine Go.retN X0 hx (t := .boolean) Bd.returns (by simp) hlk (hb hby d2_87) ?_ (by decide) (by decide)
                rw [e0]
                exact ⟨(by
                    have hm := own_m16 p0
                    have hr := own_r16 p0
                    refine own_ucF ?_
                    unfold own_isU
                    simp only [Int32.lt_iff_toInt_lt, own_i_65536, own_i_160, own_i_55295, own_i_63744, own_i_64975, own_i_65008, own_i_65519, own_i_917504, own_i_921599, own_i_983039, own_i_65535, own_i_65533, own_i_917503, own_i_921600, own_i_983037] at hc4 hc18 hc24 hc32 hc46 hc52 hc75
                    omega), N0, rfl⟩
              · skip
                refine Go.step (fun _ k => XS.icmpNo X0.here hx rfl (hb hby d2_75) rfl (flt hc75).1 k) ?_
                show Go _ _ _ _ _ _ _ (s₁.setTop (mkF m 78 #[.val (.int p0), .unset] []))
                refine Go.step (fun _ k => XS.iloadN X0.here hx rfl (hb hby d2_78) rfl  k) ?_
                show Go _ _ _ _ _ _ _ (s₁.setTop (mkF m 79 #[.val (.int p0), .unset] [(.int p0)]))
                refine Go.step (X0.ldcInt hx hown (mvT hZ (hw _ (List.mem_of_getElem? (i := 13) rfl))) (g := (mkF m 79 #[.val (.int p0), .unset] [(.int p0)])) rfl (hb hby d2_79)) ?_
                show Go _ _ _ _ _ _ _ (s₁.setTop (mkF m 81 #[.val (.int p0), .unset] [(.int (983037 : Int32)), (.int p0)]))
                by_cases hc81 : (983037 : Int32) < p0
                · skip
                  refine Go.step (fun _ k => XS.icmpYes X0.here hx rfl (pc0 := 81) (pc' := 86) rfl (hb hby d2_81) rfl (tlt hc81).2.2.1 (by decide) (by decide) k) ?_
                  show Go _ _ _ _ _ _ _ (s₁.setTop (mkF m 86 #[.val (.int p0), .unset] []))
                  refine Go.step (fun _ k => XS.iconst X0.here hx rfl (hb hby d2_86) k) ?_
                  show Go _ _ _ _ _ _ _ (s₁.setTop (mkF m 87 #[.val (.int p0), .unset] [(.int (0 : Int32))]))
                  refine Go.retN X0 hx (t := .boolean) Bd.returns (by simp) hlk (hb hby d2_87) ?_ (by decide) (by decide)
                  rw [e0]
                  exact ⟨(by
                      have hm := own_m16 p0
                      have hr := own_r16 p0
                      refine own_ucF ?_
                      unfold own_isU
                      simp only [Int32.lt_iff_toInt_lt, own_i_65536, own_i_160, own_i_55295, own_i_63744, own_i_64975, own_i_65008, own_i_65519, own_i_917504, own_i_921599, own_i_983039, own_i_65535, own_i_65533, own_i_917503, own_i_921600, own_i_983037] at hc4 hc18 hc24 hc32 hc46 hc52 hc75 hc81
                      omega), N0, rfl⟩
                · skip
                  refine Go.step (fun _ k => XS.icmpNo X0.here hx rfl (hb hby d2_81) rfl (flt hc81).2.2.1 k) ?_
                  show Go _ _ _ _ _ _ _ (s₁.setTop (mkF m 84 #[.val (.int p0), .unset] []))
                  refine Go.step (fun _ k => XS.iconst X0.here hx rfl (hb hby d2_84) k) ?_
                  show Go _ _ _ _ _ _ _ (s₁.setTop (mkF m 85 #[.val (.int p0), .unset] [(.int (1 : Int32))]))
                  refine Go.retN X0 hx (t := .boolean) Bd.returns (by simp) hlk (hb hby d2_85) ?_ (by decide) (by decide)
                  rw [e0]
                  exact ⟨(by
                      have hm := own_m16 p0
                      have hr := own_r16 p0
                      refine own_ucT ?_
                      unfold own_isU
                      simp only [Int32.lt_iff_toInt_lt, own_i_65536, own_i_160, own_i_55295, own_i_63744, own_i_64975, own_i_65008, own_i_65519, own_i_917504, own_i_921599, own_i_983039, own_i_65535, own_i_65533, own_i_917503, own_i_921600, own_i_983037] at hc4 hc18 hc24 hc32 hc46 hc52 hc75 hc81
                      omega), N0, rfl⟩
            · skip
              refine Go.step (fun _ k => XS.icmpNo X0.here hx rfl (hb hby d2_52) rfl (flt hc52).2.2.1 k) ?_
              show Go _ _ _ _ _ _ _ (s₁.setTop (mkF m 55 #[.val (.int p0), .unset] []))
              refine Go.step (fun _ k => XS.iloadN X0.here hx rfl (hb hby d2_55) rfl  k) ?_
              show Go _ _ _ _ _ _ _ (s₁.setTop (mkF m 56 #[.val (.int p0), .unset] [(.int p0)]))
              refine Go.step (X0.ldcInt hx hown (mvT hZ (hw _ (List.mem_of_getElem? (i := 6) rfl))) (g := (mkF m 56 #[.val (.int p0), .unset] [(.int p0)])) rfl (hb hby d2_56)) ?_
              show Go _ _ _ _ _ _ _ (s₁.setTop (mkF m 58 #[.val (.int p0), .unset] [(.int (65536 : Int32)), (.int p0)]))
              have nz58 : (65536 : Int32) ≠ 0 := (by decide)
              refine Go.step (fun _ k => iremM X0 hx rfl (hb hby d2_58) rfl nz58 k) ?_
              show Go _ _ _ _ _ _ _ (s₁.setTop (mkF m 59 #[.val (.int p0), .unset] [(.int (p0 % (65536 : Int32)))]))
              refine Go.step (fun _ k => XS.istoreN X0.here hx rfl (hb hby d2_59) rfl (l' := #[.val (.int p0), .val (.int (p0 % (65536 : Int32)))]) rfl k) ?_
              show Go _ _ _ _ _ _ _ (s₁.setTop (mkF m 60 #[.val (.int p0), .val (.int (p0 % (65536 : Int32)))] []))
              refine Go.step (fun _ k => XS.iloadN X0.here hx rfl (hb hby d2_60) rfl  k) ?_
              show Go _ _ _ _ _ _ _ (s₁.setTop (mkF m 61 #[.val (.int p0), .val (.int (p0 % (65536 : Int32)))] [(.int (p0 % (65536 : Int32)))]))
              refine Go.step (X0.ldcInt hx hown (mvT hZ (hw _ (List.mem_of_getElem? (i := 39) rfl))) (g := (mkF m 61 #[.val (.int p0), .val (.int (p0 % (65536 : Int32)))] [(.int (p0 % (65536 : Int32)))])) rfl (hb hby d2_61)) ?_
              show Go _ _ _ _ _ _ _ (s₁.setTop (mkF m 63 #[.val (.int p0), .val (.int (p0 % (65536 : Int32)))] [(.int (65533 : Int32)), (.int (p0 % (65536 : Int32)))]))
              by_cases hc63 : (65533 : Int32) < (p0 % (65536 : Int32))
              · skip
                refine Go.step (fun _ k => XS.icmpYes X0.here hx rfl (pc0 := 63) (pc' := 70) rfl (hb hby d2_63) rfl (tlt hc63).2.2.1 (by decide) (by decide) k) ?_
                show Go _ _ _ _ _ _ _ (s₁.setTop (mkF m 70 #[.val (.int p0), .val (.int (p0 % (65536 : Int32)))] []))
                refine Go.step (fun _ k => XS.iconst X0.here hx rfl (hb hby d2_70) k) ?_
                show Go _ _ _ _ _ _ _ (s₁.setTop (mkF m 71 #[.val (.int p0), .val (.int (p0 % (65536 : Int32)))] [(.int (0 : Int32))]))
                refine Go.retN X0 hx (t := .boolean) Bd.returns (by simp) hlk (hb hby d2_71) ?_ (by decide) (by decide)
                rw [e0]
                exact ⟨(by
                    have hm := own_m16 p0
                    have hr := own_r16 p0
                    refine own_ucF ?_
                    unfold own_isU
                    simp only [Int32.lt_iff_toInt_lt, own_i_65536, own_i_160, own_i_55295, own_i_63744, own_i_64975, own_i_65008, own_i_65519, own_i_917504, own_i_921599, own_i_983039, own_i_65535, own_i_65533, own_i_917503, own_i_921600, own_i_983037] at hc4 hc18 hc24 hc32 hc46 hc52 hc63
                    omega), N0, rfl⟩
              · skip
                refine Go.step (fun _ k => XS.icmpNo X0.here hx rfl (hb hby d2_63) rfl (flt hc63).2.2.1 k) ?_
                show Go _ _ _ _ _ _ _ (s₁.setTop (mkF m 66 #[.val (.int p0), .val (.int (p0 % (65536 : Int32)))] []))
                refine Go.step (fun _ k => XS.iconst X0.here hx rfl (hb hby d2_66) k) ?_
                show Go _ _ _ _ _ _ _ (s₁.setTop (mkF m 67 #[.val (.int p0), .val (.int (p0 % (65536 : Int32)))] [(.int (1 : Int32))]))
                refine Go.step (fun _ k => XS.goto X0.here hx rfl (pc0 := 67) (pc' := 71) rfl (hb hby d2_67) (by decide) (by decide) k) ?_
                show Go _ _ _ _ _ _ _ (s₁.setTop (mkF m 71 #[.val (.int p0), .val (.int (p0 % (65536 : Int32)))] [(.int (1 : Int32))]))
                refine Go.retN X0 hx (t := .boolean) Bd.returns (by simp) hlk (hb hby d2_71) ?_ (by decide) (by decide)
                rw [e0]
                exact ⟨(by
                    have hm := own_m16 p0
                    have hr := own_r16 p0
                    refine own_ucT ?_
                    unfold own_isU
                    simp only [Int32.lt_iff_toInt_lt, own_i_65536, own_i_160, own_i_55295, own_i_63744, own_i_64975, own_i_65008, own_i_65519, own_i_917504, own_i_921599, own_i_983039, own_i_65535, own_i_65533, own_i_917503, own_i_921600, own_i_983037] at hc4 hc18 hc24 hc32 hc46 hc52 hc63
                    omega), N0, rfl⟩
        · skip
          refine Go.step (fun _ k => XS.icmpNo X0.here hx rfl (hb hby d2_32) rfl (flt hc32).1 k) ?_
          show Go _ _ _ _ _ _ _ (s₁.setTop (mkF m 35 #[.val (.int p0), .unset] []))
          refine Go.step (fun _ k => XS.iloadN X0.here hx rfl (hb hby d2_35) rfl  k) ?_
          show Go _ _ _ _ _ _ _ (s₁.setTop (mkF m 36 #[.val (.int p0), .unset] [(.int p0)]))
          refine Go.step (X0.ldcInt hx hown (mvT hZ (hw _ (List.mem_of_getElem? (i := 5) rfl))) (g := (mkF m 36 #[.val (.int p0), .unset] [(.int p0)])) rfl (hb hby d2_36)) ?_
          show Go _ _ _ _ _ _ _ (s₁.setTop (mkF m 38 #[.val (.int p0), .unset] [(.int (65519 : Int32)), (.int p0)]))
          by_cases hc38 : (65519 : Int32) < p0
          · skip
            refine Go.step (fun _ k => XS.icmpYes X0.here hx rfl (pc0 := 38) (pc' := 43) rfl (hb hby d2_38) rfl (tlt hc38).2.2.1 (by decide) (by decide) k) ?_
            show Go _ _ _ _ _ _ _ (s₁.setTop (mkF m 43 #[.val (.int p0), .unset] []))
            refine Go.step (fun _ k => XS.iloadN X0.here hx rfl (hb hby d2_43) rfl  k) ?_
            show Go _ _ _ _ _ _ _ (s₁.setTop (mkF m 44 #[.val (.int p0), .unset] [(.int p0)]))
            refine Go.step (X0.ldcInt hx hown (mvT hZ (hw _ (List.mem_of_getElem? (i := 6) rfl))) (g := (mkF m 44 #[.val (.int p0), .unset] [(.int p0)])) rfl (hb hby d2_44)) ?_
            show Go _ _ _ _ _ _ _ (s₁.setTop (mkF m 46 #[.val (.int p0), .unset] [(.int (65536 : Int32)), (.int p0)]))
            by_cases hc46 : p0 < (65536 : Int32)
            · skip
              refine Go.step (fun _ k => XS.icmpYes X0.here hx rfl (pc0 := 46) (pc' := 72) rfl (hb hby d2_46) rfl (tlt hc46).1 (by decide) (by decide) k) ?_
              show Go _ _ _ _ _ _ _ (s₁.setTop (mkF m 72 #[.val (.int p0), .unset] []))
              refine Go.step (fun _ k => XS.iloadN X0.here hx rfl (hb hby d2_72) rfl  k) ?_
              show Go _ _ _ _ _ _ _ (s₁.setTop (mkF m 73 #[.val (.int p0), .unset] [(.int p0)]))
              refine Go.step (X0.ldcInt hx hown (mvT hZ (hw _ (List.mem_of_getElem? (i := 12) rfl))) (g := (mkF m 73 #[.val (.int p0), .unset] [(.int p0)])) rfl (hb hby d2_73)) ?_
              show Go _ _ _ _ _ _ _ (s₁.setTop (mkF m 75 #[.val (.int p0), .unset] [(.int (921600 : Int32)), (.int p0)]))
              by_cases hc75 : p0 < (921600 : Int32)
              · skip
                refine Go.step (fun _ k => XS.icmpYes X0.here hx rfl (pc0 := 75) (pc' := 86) rfl (hb hby d2_75) rfl (tlt hc75).1 (by decide) (by decide) k) ?_
                show Go _ _ _ _ _ _ _ (s₁.setTop (mkF m 86 #[.val (.int p0), .unset] []))
                refine Go.step (fun _ k => XS.iconst X0.here hx rfl (hb hby d2_86) k) ?_
                show Go _ _ _ _ _ _ _ (s₁.setTop (mkF m 87 #[.val (.int p0), .unset] [(.int (0 : Int32))]))
                refine Go.retN X0 hx (t := .boolean) Bd.returns (by simp) hlk (hb hby d2_87) ?_ (by decide) (by decide)
                rw [e0]
                exact ⟨(by
                    have hm := own_m16 p0
                    have hr := own_r16 p0
                    refine own_ucF ?_
                    unfold own_isU
                    simp only [Int32.lt_iff_toInt_lt, own_i_65536, own_i_160, own_i_55295, own_i_63744, own_i_64975, own_i_65008, own_i_65519, own_i_917504, own_i_921599, own_i_983039, own_i_65535, own_i_65533, own_i_917503, own_i_921600, own_i_983037] at hc4 hc18 hc24 hc32 hc38 hc46 hc75
                    omega), N0, rfl⟩
              · skip
                refine Go.step (fun _ k => XS.icmpNo X0.here hx rfl (hb hby d2_75) rfl (flt hc75).1 k) ?_
                show Go _ _ _ _ _ _ _ (s₁.setTop (mkF m 78 #[.val (.int p0), .unset] []))
                refine Go.step (fun _ k => XS.iloadN X0.here hx rfl (hb hby d2_78) rfl  k) ?_
                show Go _ _ _ _ _ _ _ (s₁.setTop (mkF m 79 #[.val (.int p0), .unset] [(.int p0)]))
                refine Go.step (X0.ldcInt hx hown (mvT hZ (hw _ (List.mem_of_getElem? (i := 13) rfl))) (g := (mkF m 79 #[.val (.int p0), .unset] [(.int p0)])) rfl (hb hby d2_79)) ?_
                show Go _ _ _ _ _ _ _ (s₁.setTop (mkF m 81 #[.val (.int p0), .unset] [(.int (983037 : Int32)), (.int p0)]))
                by_cases hc81 : (983037 : Int32) < p0
                · skip
                  refine Go.step (fun _ k => XS.icmpYes X0.here hx rfl (pc0 := 81) (pc' := 86) rfl (hb hby d2_81) rfl (tlt hc81).2.2.1 (by decide) (by decide) k) ?_
                  show Go _ _ _ _ _ _ _ (s₁.setTop (mkF m 86 #[.val (.int p0), .unset] []))
                  refine Go.step (fun _ k => XS.iconst X0.here hx rfl (hb hby d2_86) k) ?_
                  show Go _ _ _ _ _ _ _ (s₁.setTop (mkF m 87 #[.val (.int p0), .unset] [(.int (0 : Int32))]))
                  refine Go.retN X0 hx (t := .boolean) Bd.returns (by simp) hlk (hb hby d2_87) ?_ (by decide) (by decide)
                  rw [e0]
                  exact ⟨(by
                      have hm := own_m16 p0
                      have hr := own_r16 p0
                      refine own_ucF ?_
                      unfold own_isU
                      simp only [Int32.lt_iff_toInt_lt, own_i_65536, own_i_160, own_i_55295, own_i_63744, own_i_64975, own_i_65008, own_i_65519, own_i_917504, own_i_921599, own_i_983039, own_i_65535, own_i_65533, own_i_917503, own_i_921600, own_i_983037] at hc4 hc18 hc24 hc32 hc38 hc46 hc75 hc81
                      omega), N0, rfl⟩
                · skip
                  refine Go.step (fun _ k => XS.icmpNo X0.here hx rfl (hb hby d2_81) rfl (flt hc81).2.2.1 k) ?_
                  show Go _ _ _ _ _ _ _ (s₁.setTop (mkF m 84 #[.val (.int p0), .unset] []))
                  refine Go.step (fun _ k => XS.iconst X0.here hx rfl (hb hby d2_84) k) ?_
                  show Go _ _ _ _ _ _ _ (s₁.setTop (mkF m 85 #[.val (.int p0), .unset] [(.int (1 : Int32))]))
                  refine Go.retN X0 hx (t := .boolean) Bd.returns (by simp) hlk (hb hby d2_85) ?_ (by decide) (by decide)
                  rw [e0]
                  exact ⟨(by
                      have hm := own_m16 p0
                      have hr := own_r16 p0
                      refine own_ucT ?_
                      unfold own_isU
                      simp only [Int32.lt_iff_toInt_lt, own_i_65536, own_i_160, own_i_55295, own_i_63744, own_i_64975, own_i_65008, own_i_65519, own_i_917504, own_i_921599, own_i_983039, own_i_65535, own_i_65533, own_i_917503, own_i_921600, own_i_983037] at hc4 hc18 hc24 hc32 hc38 hc46 hc75 hc81
                      omega), N0, rfl⟩
            · skip
              refine Go.step (fun _ k => XS.icmpNo X0.here hx rfl (hb hby d2_46) rfl (flt hc46).1 k) ?_
              show Go _ _ _ _ _ _ _ (s₁.setTop (mkF m 49 #[.val (.int p0), .unset] []))
              refine Go.step (fun _ k => XS.iloadN X0.here hx rfl (hb hby d2_49) rfl  k) ?_
              show Go _ _ _ _ _ _ _ (s₁.setTop (mkF m 50 #[.val (.int p0), .unset] [(.int p0)]))
              refine Go.step (X0.ldcInt hx hown (mvT hZ (hw _ (List.mem_of_getElem? (i := 38) rfl))) (g := (mkF m 50 #[.val (.int p0), .unset] [(.int p0)])) rfl (hb hby d2_50)) ?_
              show Go _ _ _ _ _ _ _ (s₁.setTop (mkF m 52 #[.val (.int p0), .unset] [(.int (917503 : Int32)), (.int p0)]))
              by_cases hc52 : (917503 : Int32) < p0
              · skip
                refine Go.step (fun _ k => XS.icmpYes X0.here hx rfl (pc0 := 52) (pc' := 72) rfl (hb hby d2_52) rfl (tlt hc52).2.2.1 (by decide) (by decide) k) ?_
                show Go _ _ _ _ _ _ _ (s₁.setTop (mkF m 72 #[.val (.int p0), .unset] []))
                refine Go.step (fun _ k => XS.iloadN X0.here hx rfl (hb hby d2_72) rfl  k) ?_
                show Go _ _ _ _ _ _ _ (s₁.setTop (mkF m 73 #[.val (.int p0), .unset] [(.int p0)]))
                refine Go.step (X0.ldcInt hx hown (mvT hZ (hw _ (List.mem_of_getElem? (i := 12) rfl))) (g := (mkF m 73 #[.val (.int p0), .unset] [(.int p0)])) rfl (hb hby d2_73)) ?_
                show Go _ _ _ _ _ _ _ (s₁.setTop (mkF m 75 #[.val (.int p0), .unset] [(.int (921600 : Int32)), (.int p0)]))
                by_cases hc75 : p0 < (921600 : Int32)
                · skip
                  refine Go.step (fun _ k => XS.icmpYes X0.here hx rfl (pc0 := 75) (pc' := 86) rfl (hb hby d2_75) rfl (tlt hc75).1 (by decide) (by decide) k) ?_
                  show Go _ _ _ _ _ _ _ (s₁.setTop (mkF m 86 #[.val (.int p0), .unset] []))
                  refine Go.step (fun _ k => XS.iconst X0.here hx rfl (hb hby d2_86) k) ?_
                  show Go _ _ _ _ _ _ _ (s₁.setTop (mkF m 87 #[.val (.int p0), .unset] [(.int (0 : Int32))]))
                  refine Go.retN X0 hx (t := .boolean) Bd.returns (by simp) hlk (hb hby d2_87) ?_ (by decide) (by decide)
                  rw [e0]
                  exact ⟨(by
                      have hm := own_m16 p0
                      have hr := own_r16 p0
                      refine own_ucF ?_
                      unfold own_isU
                      simp only [Int32.lt_iff_toInt_lt, own_i_65536, own_i_160, own_i_55295, own_i_63744, own_i_64975, own_i_65008, own_i_65519, own_i_917504, own_i_921599, own_i_983039, own_i_65535, own_i_65533, own_i_917503, own_i_921600, own_i_983037] at hc4 hc18 hc24 hc32 hc38 hc46 hc52 hc75
                      omega), N0, rfl⟩
                · skip
                  refine Go.step (fun _ k => XS.icmpNo X0.here hx rfl (hb hby d2_75) rfl (flt hc75).1 k) ?_
                  show Go _ _ _ _ _ _ _ (s₁.setTop (mkF m 78 #[.val (.int p0), .unset] []))
                  refine Go.step (fun _ k => XS.iloadN X0.here hx rfl (hb hby d2_78) rfl  k) ?_
                  show Go _ _ _ _ _ _ _ (s₁.setTop (mkF m 79 #[.val (.int p0), .unset] [(.int p0)]))
                  refine Go.step (X0.ldcInt hx hown (mvT hZ (hw _ (List.mem_of_getElem? (i := 13) rfl))) (g := (mkF m 79 #[.val (.int p0), .unset] [(.int p0)])) rfl (hb hby d2_79)) ?_
                  show Go _ _ _ _ _ _ _ (s₁.setTop (mkF m 81 #[.val (.int p0), .unset] [(.int (983037 : Int32)), (.int p0)]))
                  by_cases hc81 : (983037 : Int32) < p0
                  · skip
                    refine Go.step (fun _ k => XS.icmpYes X0.here hx rfl (pc0 := 81) (pc' := 86) rfl (hb hby d2_81) rfl (tlt hc81).2.2.1 (by decide) (by decide) k) ?_
                    show Go _ _ _ _ _ _ _ (s₁.setTop (mkF m 86 #[.val (.int p0), .unset] []))
                    refine Go.step (fun _ k => XS.iconst X0.here hx rfl (hb hby d2_86) k) ?_
                    show Go _ _ _ _ _ _ _ (s₁.setTop (mkF m 87 #[.val (.int p0), .unset] [(.int (0 : Int32))]))
                    refine Go.retN X0 hx (t := .boolean) Bd.returns (by simp) hlk (hb hby d2_87) ?_ (by decide) (by decide)
                    rw [e0]
                    exact ⟨(by
                        have hm := own_m16 p0
                        have hr := own_r16 p0
                        refine own_ucF ?_
                        unfold own_isU
                        simp only [Int32.lt_iff_toInt_lt, own_i_65536, own_i_160, own_i_55295, own_i_63744, own_i_64975, own_i_65008, own_i_65519, own_i_917504, own_i_921599, own_i_983039, own_i_65535, own_i_65533, own_i_917503, own_i_921600, own_i_983037] at hc4 hc18 hc24 hc32 hc38 hc46 hc52 hc75 hc81
                        omega), N0, rfl⟩
                  · skip
                    refine Go.step (fun _ k => XS.icmpNo X0.here hx rfl (hb hby d2_81) rfl (flt hc81).2.2.1 k) ?_
                    show Go _ _ _ _ _ _ _ (s₁.setTop (mkF m 84 #[.val (.int p0), .unset] []))
                    refine Go.step (fun _ k => XS.iconst X0.here hx rfl (hb hby d2_84) k) ?_
                    show Go _ _ _ _ _ _ _ (s₁.setTop (mkF m 85 #[.val (.int p0), .unset] [(.int (1 : Int32))]))
                    refine Go.retN X0 hx (t := .boolean) Bd.returns (by simp) hlk (hb hby d2_85) ?_ (by decide) (by decide)
                    rw [e0]
                    exact ⟨(by
                        have hm := own_m16 p0
                        have hr := own_r16 p0
                        refine own_ucT ?_
                        unfold own_isU
                        simp only [Int32.lt_iff_toInt_lt, own_i_65536, own_i_160, own_i_55295, own_i_63744, own_i_64975, own_i_65008, own_i_65519, own_i_917504, own_i_921599, own_i_983039, own_i_65535, own_i_65533, own_i_917503, own_i_921600, own_i_983037] at hc4 hc18 hc24 hc32 hc38 hc46 hc52 hc75 hc81
                        omega), N0, rfl⟩
              · skip
                refine Go.step (fun _ k => XS.icmpNo X0.here hx rfl (hb hby d2_52) rfl (flt hc52).2.2.1 k) ?_
                show Go _ _ _ _ _ _ _ (s₁.setTop (mkF m 55 #[.val (.int p0), .unset] []))
                refine Go.step (fun _ k => XS.iloadN X0.here hx rfl (hb hby d2_55) rfl  k) ?_
                show Go _ _ _ _ _ _ _ (s₁.setTop (mkF m 56 #[.val (.int p0), .unset] [(.int p0)]))
                refine Go.step (X0.ldcInt hx hown (mvT hZ (hw _ (List.mem_of_getElem? (i := 6) rfl))) (g := (mkF m 56 #[.val (.int p0), .unset] [(.int p0)])) rfl (hb hby d2_56)) ?_
                show Go _ _ _ _ _ _ _ (s₁.setTop (mkF m 58 #[.val (.int p0), .unset] [(.int (65536 : Int32)), (.int p0)]))
                have nz58 : (65536 : Int32) ≠ 0 := (by decide)
                refine Go.step (fun _ k => iremM X0 hx rfl (hb hby d2_58) rfl nz58 k) ?_
                show Go _ _ _ _ _ _ _ (s₁.setTop (mkF m 59 #[.val (.int p0), .unset] [(.int (p0 % (65536 : Int32)))]))
                refine Go.step (fun _ k => XS.istoreN X0.here hx rfl (hb hby d2_59) rfl (l' := #[.val (.int p0), .val (.int (p0 % (65536 : Int32)))]) rfl k) ?_
                show Go _ _ _ _ _ _ _ (s₁.setTop (mkF m 60 #[.val (.int p0), .val (.int (p0 % (65536 : Int32)))] []))
                refine Go.step (fun _ k => XS.iloadN X0.here hx rfl (hb hby d2_60) rfl  k) ?_
                show Go _ _ _ _ _ _ _ (s₁.setTop (mkF m 61 #[.val (.int p0), .val (.int (p0 % (65536 : Int32)))] [(.int (p0 % (65536 : Int32)))]))
                refine Go.step (X0.ldcInt hx hown (mvT hZ (hw _ (List.mem_of_getElem? (i := 39) rfl))) (g := (mkF m 61 #[.val (.int p0), .val (.int (p0 % (65536 : Int32)))] [(.int (p0 % (65536 : Int32)))])) rfl (hb hby d2_61)) ?_
                show Go _ _ _ _ _ _ _ (s₁.setTop (mkF m 63 #[.val (.int p0), .val (.int (p0 % (65536 : Int32)))] [(.int (65533 : Int32)), (.int (p0 % (65536 : Int32)))]))
                by_cases hc63 : (65533 : Int32) < (p0 % (65536 : Int32))
                · skip
                  refine Go.step (fun _ k => XS.icmpYes X0.here hx rfl (pc0 := 63) (pc' := 70) rfl (hb hby d2_63) rfl (tlt hc63).2.2.1 (by decide) (by decide) k) ?_
                  show Go _ _ _ _ _ _ _ (s₁.setTop (mkF m 70 #[.val (.int p0), .val (.int (p0 % (65536 : Int32)))] []))
                  refine Go.step (fun _ k => XS.iconst X0.here hx rfl (hb hby d2_70) k) ?_
                  show Go _ _ _ _ _ _ _ (s₁.setTop (mkF m 71 #[.val (.int p0), .val (.int (p0 % (65536 : Int32)))] [(.int (0 : Int32))]))
                  refine Go.retN X0 hx (t := .boolean) Bd.returns (by simp) hlk (hb hby d2_71) ?_ (by decide) (by decide)
                  rw [e0]
                  exact ⟨(by
                      have hm := own_m16 p0
                      have hr := own_r16 p0
                      refine own_ucF ?_
                      unfold own_isU
                      simp only [Int32.lt_iff_toInt_lt, own_i_65536, own_i_160, own_i_55295, own_i_63744, own_i_64975, own_i_65008, own_i_65519, own_i_917504, own_i_921599, own_i_983039, own_i_65535, own_i_65533, own_i_917503, own_i_921600, own_i_983037] at hc4 hc18 hc24 hc32 hc38 hc46 hc52 hc63
                      omega), N0, rfl⟩
                · skip
                  refine Go.step (fun _ k => XS.icmpNo X0.here hx rfl (hb hby d2_63) rfl (flt hc63).2.2.1 k) ?_
                  show Go _ _ _ _ _ _ _ (s₁.setTop (mkF m 66 #[.val (.int p0), .val (.int (p0 % (65536 : Int32)))] []))
                  refine Go.step (fun _ k => XS.iconst X0.here hx rfl (hb hby d2_66) k) ?_
                  show Go _ _ _ _ _ _ _ (s₁.setTop (mkF m 67 #[.val (.int p0), .val (.int (p0 % (65536 : Int32)))] [(.int (1 : Int32))]))
                  refine Go.step (fun _ k => XS.goto X0.here hx rfl (pc0 := 67) (pc' := 71) rfl (hb hby d2_67) (by decide) (by decide) k) ?_
                  show Go _ _ _ _ _ _ _ (s₁.setTop (mkF m 71 #[.val (.int p0), .val (.int (p0 % (65536 : Int32)))] [(.int (1 : Int32))]))
                  refine Go.retN X0 hx (t := .boolean) Bd.returns (by simp) hlk (hb hby d2_71) ?_ (by decide) (by decide)
                  rw [e0]
                  exact ⟨(by
                      have hm := own_m16 p0
                      have hr := own_r16 p0
                      refine own_ucT ?_
                      unfold own_isU
                      simp only [Int32.lt_iff_toInt_lt, own_i_65536, own_i_160, own_i_55295, own_i_63744, own_i_64975, own_i_65008, own_i_65519, own_i_917504, own_i_921599, own_i_983039, own_i_65535, own_i_65533, own_i_917503, own_i_921600, own_i_983037] at hc4 hc18 hc24 hc32 hc38 hc46 hc52 hc63
                      omega), N0, rfl⟩
          · skip
            refine Go.step (fun _ k => XS.icmpNo X0.here hx rfl (hb hby d2_38) rfl (flt hc38).2.2.1 k) ?_
            show Go _ _ _ _ _ _ _ (s₁.setTop (mkF m 41 #[.val (.int p0), .unset] []))
            refine Go.step (fun _ k => XS.iconst X0.here hx rfl (hb hby d2_41) k) ?_
            show Go _ _ _ _ _ _ _ (s₁.setTop (mkF m 42 #[.val (.int p0), .unset] [(.int (1 : Int32))]))
            refine Go.retN X0 hx (t := .boolean) Bd.returns (by simp) hlk (hb hby d2_42) ?_ (by decide) (by decide)
            rw [e0]
            exact ⟨(by
                have hm := own_m16 p0
                have hr := own_r16 p0
                refine own_ucT ?_
                unfold own_isU
                simp only [Int32.lt_iff_toInt_lt, own_i_65536, own_i_160, own_i_55295, own_i_63744, own_i_64975, own_i_65008, own_i_65519, own_i_917504, own_i_921599, own_i_983039, own_i_65535, own_i_65533, own_i_917503, own_i_921600, own_i_983037] at hc4 hc18 hc24 hc32 hc38
                omega), N0, rfl⟩
      · skip
        refine Go.step (fun _ k => XS.icmpNo X0.here hx rfl (hb hby d2_24) rfl (flt hc24).2.2.1 k) ?_
        show Go _ _ _ _ _ _ _ (s₁.setTop (mkF m 27 #[.val (.int p0), .unset] []))
        refine Go.step (fun _ k => XS.iconst X0.here hx rfl (hb hby d2_27) k) ?_
        show Go _ _ _ _ _ _ _ (s₁.setTop (mkF m 28 #[.val (.int p0), .unset] [(.int (1 : Int32))]))
        refine Go.retN X0 hx (t := .boolean) Bd.returns (by simp) hlk (hb hby d2_28) ?_ (by decide) (by decide)
        rw [e0]
        exact ⟨(by
            have hm := own_m16 p0
            have hr := own_r16 p0
            refine own_ucT ?_
            unfold own_isU
            simp only [Int32.lt_iff_toInt_lt, own_i_65536, own_i_160, own_i_55295, own_i_63744, own_i_64975, own_i_65008, own_i_65519, own_i_917504, own_i_921599, own_i_983039, own_i_65535, own_i_65533, own_i_917503, own_i_921600, own_i_983037] at hc4 hc18 hc24
            omega), N0, rfl⟩
  · skip
    refine Go.step (fun _ k => XS.icmpNo X0.here hx rfl (hb hby d2_4) rfl (flt hc4).1 k) ?_
    show Go _ _ _ _ _ _ _ (s₁.setTop (mkF m 7 #[.val (.int p0), .unset] []))
    refine Go.step (fun _ k => XS.iloadN X0.here hx rfl (hb hby d2_7) rfl  k) ?_
    show Go _ _ _ _ _ _ _ (s₁.setTop (mkF m 8 #[.val (.int p0), .unset] [(.int p0)]))
    refine Go.step (X0.ldcInt hx hown (mvT hZ (hw _ (List.mem_of_getElem? (i := 1) rfl))) (g := (mkF m 8 #[.val (.int p0), .unset] [(.int p0)])) rfl (hb hby d2_8)) ?_
    show Go _ _ _ _ _ _ _ (s₁.setTop (mkF m 10 #[.val (.int p0), .unset] [(.int (55295 : Int32)), (.int p0)]))
    by_cases hc10 : (55295 : Int32) < p0
    · skip
      refine Go.step (fun _ k => XS.icmpYes X0.here hx rfl (pc0 := 10) (pc' := 15) rfl (hb hby d2_10) rfl (tlt hc10).2.2.1 (by decide) (by decide) k) ?_
      show Go _ _ _ _ _ _ _ (s₁.setTop (mkF m 15 #[.val (.int p0), .unset] []))
      refine Go.step (fun _ k => XS.iloadN X0.here hx rfl (hb hby d2_15) rfl  k) ?_
      show Go _ _ _ _ _ _ _ (s₁.setTop (mkF m 16 #[.val (.int p0), .unset] [(.int p0)]))
      refine Go.step (X0.ldcInt hx hown (mvT hZ (hw _ (List.mem_of_getElem? (i := 2) rfl))) (g := (mkF m 16 #[.val (.int p0), .unset] [(.int p0)])) rfl (hb hby d2_16)) ?_
      show Go _ _ _ _ _ _ _ (s₁.setTop (mkF m 18 #[.val (.int p0), .unset] [(.int (63744 : Int32)), (.int p0)]))
      by_cases hc18 : p0 < (63744 : Int32)
      · skip
        refine Go.step (fun _ k => XS.icmpYes X0.here hx rfl (pc0 := 18) (pc' := 29) rfl (hb hby d2_18) rfl (tlt hc18).1 (by decide) (by decide) k) ?_
        show Go _ _ _ _ _ _ _ (s₁.setTop (mkF m 29 #[.val (.int p0), .unset] []))
        refine Go.step (fun _ k => XS.iloadN X0.here hx rfl (hb hby d2_29) rfl  k) ?_
        show Go _ _ _ _ _ _ _ (s₁.setTop (mkF m 30 #[.val (.int p0), .unset] [(.int p0)]))
        refine Go.step (X0.ldcInt hx hown (mvT hZ (hw _ (List.mem_of_getElem? (i := 4) rfl))) (g := (mkF m 30 #[.val (.int p0), .unset] [(.int p0)])) rfl (hb hby d2_30)) ?_
        show Go _ _ _ _ _ _ _ (s₁.setTop (mkF m 32 #[.val (.int p0), .unset] [(.int (65008 : Int32)), (.int p0)]))
        by_cases hc32 : p0 < (65008 : Int32)
        · skip
          refine Go.step (fun _ k => XS.icmpYes X0.here hx rfl (pc0 := 32) (pc' := 43) rfl (hb hby d2_32) rfl (tlt hc32).1 (by decide) (by decide) k) ?_
          show Go _ _ _ _ _ _ _ (s₁.setTop (mkF m 43 #[.val (.int p0), .unset] []))
          refine Go.step (fun _ k => XS.iloadN X0.here hx rfl (hb hby d2_43) rfl  k) ?_
          show Go _ _ _ _ _ _ _ (s₁.setTop (mkF m 44 #[.val (.int p0), .unset] [(.int p0)]))
          refine Go.step (X0.ldcInt hx hown (mvT hZ (hw _ (List.mem_of_getElem? (i := 6) rfl))) (g := (mkF m 44 #[.val (.int p0), .unset] [(.int p0)])) rfl (hb hby d2_44)) ?_
          show Go _ _ _ _ _ _ _ (s₁.setTop (mkF m 46 #[.val (.int p0), .unset] [(.int (65536 : Int32)), (.int p0)]))
          by_cases hc46 : p0 < (65536 : Int32)
          · skip
            refine Go.step (fun _ k => XS.icmpYes X0.here hx rfl (pc0 := 46) (pc' := 72) rfl (hb hby d2_46) rfl (tlt hc46).1 (by decide) (by decide) k) ?_
            show Go _ _ _ _ _ _ _ (s₁.setTop (mkF m 72 #[.val (.int p0), .unset] []))
            refine Go.step (fun _ k => XS.iloadN X0.here hx rfl (hb hby d2_72) rfl  k) ?_
            show Go _ _ _ _ _ _ _ (s₁.setTop (mkF m 73 #[.val (.int p0), .unset] [(.int p0)]))
            refine Go.step (X0.ldcInt hx hown (mvT hZ (hw _ (List.mem_of_getElem? (i := 12) rfl))) (g := (mkF m 73 #[.val (.int p0), .unset] [(.int p0)])) rfl (hb hby d2_73)) ?_
            show Go _ _ _ _ _ _ _ (s₁.setTop (mkF m 75 #[.val (.int p0), .unset] [(.int (921600 : Int32)), (.int p0)]))
            by_cases hc75 : p0 < (921600 : Int32)
            · skip
              refine Go.step (fun _ k => XS.icmpYes X0.here hx rfl (pc0 := 75) (pc' := 86) rfl (hb hby d2_75) rfl (tlt hc75).1 (by decide) (by decide) k) ?_
              show Go _ _ _ _ _ _ _ (s₁.setTop (mkF m 86 #[.val (.int p0), .unset] []))
              refine Go.step (fun _ k => XS.iconst X0.here hx rfl (hb hby d2_86) k) ?_
              show Go _ _ _ _ _ _ _ (s₁.setTop (mkF m 87 #[.val (.int p0), .unset] [(.int (0 : Int32))]))
              refine Go.retN X0 hx (t := .boolean) Bd.returns (by simp) hlk (hb hby d2_87) ?_ (by decide) (by decide)
              rw [e0]
              exact ⟨(by
                  have hm := own_m16 p0
                  have hr := own_r16 p0
                  refine own_ucF ?_
                  unfold own_isU
                  simp only [Int32.lt_iff_toInt_lt, own_i_65536, own_i_160, own_i_55295, own_i_63744, own_i_64975, own_i_65008, own_i_65519, own_i_917504, own_i_921599, own_i_983039, own_i_65535, own_i_65533, own_i_917503, own_i_921600, own_i_983037] at hc4 hc10 hc18 hc32 hc46 hc75
                  omega), N0, rfl⟩
            · skip
              refine Go.step (fun _ k => XS.icmpNo X0.here hx rfl (hb hby d2_75) rfl (flt hc75).1 k) ?_
              show Go _ _ _ _ _ _ _ (s₁.setTop (mkF m 78 #[.val (.int p0), .unset] []))
              refine Go.step (fun _ k => XS.iloadN X0.here hx rfl (hb hby d2_78) rfl  k) ?_
              show Go _ _ _ _ _ _ _ (s₁.setTop (mkF m 79 #[.val (.int p0), .unset] [(.int p0)]))
              refine Go.step (X0.ldcInt hx hown (mvT hZ (hw _ (List.mem_of_getElem? (i := 13) rfl))) (g := (mkF m 79 #[.val (.int p0), .unset] [(.int p0)])) rfl (hb hby d2_79)) ?_
              show Go _ _ _ _ _ _ _ (s₁.setTop (mkF m 81 #[.val (.int p0), .unset] [(.int (983037 : Int32)), (.int p0)]))
              by_cases hc81 : (983037 : Int32) < p0
              · skip
                refine Go.step (fun _ k => XS.icmpYes X0.here hx rfl (pc0 := 81) (pc' := 86) rfl (hb hby d2_81) rfl (tlt hc81).2.2.1 (by decide) (by decide) k) ?_
                show Go _ _ _ _ _ _ _ (s₁.setTop (mkF m 86 #[.val (.int p0), .unset] []))
                refine Go.step (fun _ k => XS.iconst X0.here hx rfl (hb hby d2_86) k) ?_
                show Go _ _ _ _ _ _ _ (s₁.setTop (mkF m 87 #[.val (.int p0), .unset] [(.int (0 : Int32))]))
                refine Go.retN X0 hx (t := .boolean) Bd.returns (by simp) hlk (hb hby d2_87) ?_ (by decide) (by decide)
                rw [e0]
                exact ⟨(by
                    have hm := own_m16 p0
                    have hr := own_r16 p0
                    refine own_ucF ?_
                    unfold own_isU
                    simp only [Int32.lt_iff_toInt_lt, own_i_65536, own_i_160, own_i_55295, own_i_63744, own_i_64975, own_i_65008, own_i_65519, own_i_917504, own_i_921599, own_i_983039, own_i_65535, own_i_65533, own_i_917503, own_i_921600, own_i_983037] at hc4 hc10 hc18 hc32 hc46 hc75 hc81
                    omega), N0, rfl⟩
              · skip
                refine Go.step (fun _ k => XS.icmpNo X0.here hx rfl (hb hby d2_81) rfl (flt hc81).2.2.1 k) ?_
                show Go _ _ _ _ _ _ _ (s₁.setTop (mkF m 84 #[.val (.int p0), .unset] []))
                refine Go.step (fun _ k => XS.iconst X0.here hx rfl (hb hby d2_84) k) ?_
                show Go _ _ _ _ _ _ _ (s₁.setTop (mkF m 85 #[.val (.int p0), .unset] [(.int (1 : Int32))]))
                refine Go.retN X0 hx (t := .boolean) Bd.returns (by simp) hlk (hb hby d2_85) ?_ (by decide) (by decide)
                rw [e0]
                exact ⟨(by
                    have hm := own_m16 p0
                    have hr := own_r16 p0
                    refine own_ucT ?_
                    unfold own_isU
                    simp only [Int32.lt_iff_toInt_lt, own_i_65536, own_i_160, own_i_55295, own_i_63744, own_i_64975, own_i_65008, own_i_65519, own_i_917504, own_i_921599, own_i_983039, own_i_65535, own_i_65533, own_i_917503, own_i_921600, own_i_983037] at hc4 hc10 hc18 hc32 hc46 hc75 hc81
                    omega), N0, rfl⟩
          · skip
            refine Go.step (fun _ k => XS.icmpNo X0.here hx rfl (hb hby d2_46) rfl (flt hc46).1 k) ?_
            show Go _ _ _ _ _ _ _ (s₁.setTop (mkF m 49 #[.val (.int p0), .unset] []))
            refine Go.step (fun _ k => XS.iloadN X0.here hx rfl (hb hby d2_49) rfl  k) ?_
            show Go _ _ _ _ _ _ _ (s₁.setTop (mkF m 50 #[.val (.int p0), .unset] [(.int p0)]))
            refine Go.step (X0.ldcInt hx hown (mvT hZ (hw _ (List.mem_of_getElem? (i := 38) rfl))) (g := (mkF m 50 #[.val (.int p0), .unset] [(.int p0)])) rfl (hb hby d2_50)) ?_
            show Go _ _ _ _ _ _ _ (s₁.setTop (mkF m 52 #[.val (.int p0), .unset] [(.int (917503 : Int32)), (.int p0)]))
            by_cases hc52 : (917503 : Int32) < p0
            · skip
              refine Go.step (fun _ k => XS.icmpYes X0.here hx rfl (pc0 := 52) (pc' := 72) rfl (hb hby d2_52) rfl (tlt hc52).2.2.1 (by decide) (by decide) k) ?_
              show Go _ _ _ _ _ _ _ (s₁.setTop (mkF m 72 #[.val (.int p0), .unset] []))
              refine Go.step (fun _ k => XS.iloadN X0.here hx rfl (hb hby d2_72) rfl  k) ?_
              show Go _ _ _ _ _ _ _ (s₁.setTop (mkF m 73 #[.val (.int p0), .unset] [(.int p0)]))
              refine Go.step (X0.ldcInt hx hown (mvT hZ (hw _ (List.mem_of_getElem? (i := 12) rfl))) (g := (mkF m 73 #[.val (.int p0), .unset] [(.int p0)])) rfl (hb hby d2_73)) ?_
              show Go _ _ _ _ _ _ _ (s₁.setTop (mkF m 75 #[.val (.int p0), .unset] [(.int (921600 : Int32)), (.int p0)]))
              by_cases hc75 : p0 < (921600 : Int32)
              · skip
                refine Go.step (fun _ k => XS.icmpYes X0.here hx rfl (pc0 := 75) (pc' := 86) rfl (hb hby d2_75) rfl (tlt hc75).1 (by decide) (by decide) k) ?_
                show Go _ _ _ _ _ _ _ (s₁.setTop (mkF m 86 #[.val (.int p0), .unset] []))
                refine Go.step (fun _ k => XS.iconst X0.here hx rfl (hb hby d2_86) k) ?_
                show Go _ _ _ _ _ _ _ (s₁.setTop (mkF m 87 #[.val (.int p0), .unset] [(.int (0 : Int32))]))
                refine Go.retN X0 hx (t := .boolean) Bd.returns (by simp) hlk (hb hby d2_87) ?_ (by decide) (by decide)
                rw [e0]
                exact ⟨(by
                    have hm := own_m16 p0
                    have hr := own_r16 p0
                    refine own_ucF ?_
                    unfold own_isU
                    simp only [Int32.lt_iff_toInt_lt, own_i_65536, own_i_160, own_i_55295, own_i_63744, own_i_64975, own_i_65008, own_i_65519, own_i_917504, own_i_921599, own_i_983039, own_i_65535, own_i_65533, own_i_917503, own_i_921600, own_i_983037] at hc4 hc10 hc18 hc32 hc46 hc52 hc75
                    omega), N0, rfl⟩
              · skip
                refine Go.step (fun _ k => XS.icmpNo X0.here hx rfl (hb hby d2_75) rfl (flt hc75).1 k) ?_
                show Go _ _ _ _ _ _ _ (s₁.setTop (mkF m 78 #[.val (.int p0), .unset] []))
                refine Go.step (fun _ k => XS.iloadN X0.here hx rfl (hb hby d2_78) rfl  k) ?_
                show Go _ _ _ _ _ _ _ (s₁.setTop (mkF m 79 #[.val (.int p0), .unset] [(.int p0)]))
                refine Go.step (X0.ldcInt hx hown (mvT hZ (hw _ (List.mem_of_getElem? (i := 13) rfl))) (g := (mkF m 79 #[.val (.int p0), .unset] [(.int p0)])) rfl (hb hby d2_79)) ?_
                show Go _ _ _ _ _ _ _ (s₁.setTop (mkF m 81 #[.val (.int p0), .unset] [(.int (983037 : Int32)), (.int p0)]))
                by_cases hc81 : (983037 : Int32) < p0
                · skip
                  refine Go.step (fun _ k => XS.icmpYes X0.here hx rfl (pc0 := 81) (pc' := 86) rfl (hb hby d2_81) rfl (tlt hc81).2.2.1 (by decide) (by decide) k) ?_
                  show Go _ _ _ _ _ _ _ (s₁.setTop (mkF m 86 #[.val (.int p0), .unset] []))
                  refine Go.step (fun _ k => XS.iconst X0.here hx rfl (hb hby d2_86) k) ?_
                  show Go _ _ _ _ _ _ _ (s₁.setTop (mkF m 87 #[.val (.int p0), .unset] [(.int (0 : Int32))]))
                  refine Go.retN X0 hx (t := .boolean) Bd.returns (by simp) hlk (hb hby d2_87) ?_ (by decide) (by decide)
                  rw [e0]
                  exact ⟨(by
                      have hm := own_m16 p0
                      have hr := own_r16 p0
                      refine own_ucF ?_
                      unfold own_isU
                      simp only [Int32.lt_iff_toInt_lt, own_i_65536, own_i_160, own_i_55295, own_i_63744, own_i_64975, own_i_65008, own_i_65519, own_i_917504, own_i_921599, own_i_983039, own_i_65535, own_i_65533, own_i_917503, own_i_921600, own_i_983037] at hc4 hc10 hc18 hc32 hc46 hc52 hc75 hc81
                      omega), N0, rfl⟩
                · skip
                  refine Go.step (fun _ k => XS.icmpNo X0.here hx rfl (hb hby d2_81) rfl (flt hc81).2.2.1 k) ?_
                  show Go _ _ _ _ _ _ _ (s₁.setTop (mkF m 84 #[.val (.int p0), .unset] []))
                  refine Go.step (fun _ k => XS.iconst X0.here hx rfl (hb hby d2_84) k) ?_
                  show Go _ _ _ _ _ _ _ (s₁.setTop (mkF m 85 #[.val (.int p0), .unset] [(.int (1 : Int32))]))
                  refine Go.retN X0 hx (t := .boolean) Bd.returns (by simp) hlk (hb hby d2_85) ?_ (by decide) (by decide)
                  rw [e0]
                  exact ⟨(by
                      have hm := own_m16 p0
                      have hr := own_r16 p0
                      refine own_ucT ?_
                      unfold own_isU
                      simp only [Int32.lt_iff_toInt_lt, own_i_65536, own_i_160, own_i_55295, own_i_63744, own_i_64975, own_i_65008, own_i_65519, own_i_917504, own_i_921599, own_i_983039, own_i_65535, own_i_65533, own_i_917503, own_i_921600, own_i_983037] at hc4 hc10 hc18 hc32 hc46 hc52 hc75 hc81
                      omega), N0, rfl⟩
            · skip
              refine Go.step (fun _ k => XS.icmpNo X0.here hx rfl (hb hby d2_52) rfl (flt hc52).2.2.1 k) ?_
              show Go _ _ _ _ _ _ _ (s₁.setTop (mkF m 55 #[.val (.int p0), .unset] []))
              refine Go.step (fun _ k => XS.iloadN X0.here hx rfl (hb hby d2_55) rfl  k) ?_
              show Go _ _ _ _ _ _ _ (s₁.setTop (mkF m 56 #[.val (.int p0), .unset] [(.int p0)]))
              refine Go.step (X0.ldcInt hx hown (mvT hZ (hw _ (List.mem_of_getElem? (i := 6) rfl))) (g := (mkF m 56 #[.val (.int p0), .unset] [(.int p0)])) rfl (hb hby d2_56)) ?_
              show Go _ _ _ _ _ _ _ (s₁.setTop (mkF m 58 #[.val (.int p0), .unset] [(.int (65536 : Int32)), (.int p0)]))
              have nz58 : (65536 : Int32) ≠ 0 := (by decide)
              refine Go.step (fun _ k => iremM X0 hx rfl (hb hby d2_58) rfl nz58 k) ?_
              show Go _ _ _ _ _ _ _ (s₁.setTop (mkF m 59 #[.val (.int p0), .unset] [(.int (p0 % (65536 : Int32)))]))
              refine Go.step (fun _ k => XS.istoreN X0.here hx rfl (hb hby d2_59) rfl (l' := #[.val (.int p0), .val (.int (p0 % (65536 : Int32)))]) rfl k) ?_
              show Go _ _ _ _ _ _ _ (s₁.setTop (mkF m 60 #[.val (.int p0), .val (.int (p0 % (65536 : Int32)))] []))
              refine Go.step (fun _ k => XS.iloadN X0.here hx rfl (hb hby d2_60) rfl  k) ?_
              show Go _ _ _ _ _ _ _ (s₁.setTop (mkF m 61 #[.val (.int p0), .val (.int (p0 % (65536 : Int32)))] [(.int (p0 % (65536 : Int32)))]))
              refine Go.step (X0.ldcInt hx hown (mvT hZ (hw _ (List.mem_of_getElem? (i := 39) rfl))) (g := (mkF m 61 #[.val (.int p0), .val (.int (p0 % (65536 : Int32)))] [(.int (p0 % (65536 : Int32)))])) rfl (hb hby d2_61)) ?_
              show Go _ _ _ _ _ _ _ (s₁.setTop (mkF m 63 #[.val (.int p0), .val (.int (p0 % (65536 : Int32)))] [(.int (65533 : Int32)), (.int (p0 % (65536 : Int32)))]))
              by_cases hc63 : (65533 : Int32) < (p0 % (65536 : Int32))
              · skip
                refine Go.step (fun _ k => XS.icmpYes X0.here hx rfl (pc0 := 63) (pc' := 70) rfl (hb hby d2_63) rfl (tlt hc63).2.2.1 (by decide) (by decide) k) ?_
                show Go _ _ _ _ _ _ _ (s₁.setTop (mkF m 70 #[.val (.int p0), .val (.int (p0 % (65536 : Int32)))] []))
                refine Go.step (fun _ k => XS.iconst X0.here hx rfl (hb hby d2_70) k) ?_
                show Go _ _ _ _ _ _ _ (s₁.setTop (mkF m 71 #[.val (.int p0), .val (.int (p0 % (65536 : Int32)))] [(.int (0 : Int32))]))
                refine Go.retN X0 hx (t := .boolean) Bd.returns (by simp) hlk (hb hby d2_71) ?_ (by decide) (by decide)
                rw [e0]
                exact ⟨(by
                    have hm := own_m16 p0
                    have hr := own_r16 p0
                    refine own_ucF ?_
                    unfold own_isU
                    simp only [Int32.lt_iff_toInt_lt, own_i_65536, own_i_160, own_i_55295, own_i_63744, own_i_64975, own_i_65008, own_i_65519, own_i_917504, own_i_921599, own_i_983039, own_i_65535, own_i_65533, own_i_917503, own_i_921600, own_i_983037] at hc4 hc10 hc18 hc32 hc46 hc52 hc63
                    omega), N0, rfl⟩
              · skip
                refine Go.step (fun _ k => XS.icmpNo X0.here hx rfl (hb hby d2_63) rfl (flt hc63).2.2.1 k) ?_
                show Go _ _ _ _ _ _ _ (s₁.setTop (mkF m 66 #[.val (.int p0), .val (.int (p0 % (65536 : Int32)))] []))
                refine Go.step (fun _ k => XS.iconst X0.here hx rfl (hb hby d2_66) k) ?_
                show Go _ _ _ _ _ _ _ (s₁.setTop (mkF m 67 #[.val (.int p0), .val (.int (p0 % (65536 : Int32)))] [(.int (1 : Int32))]))
                refine Go.step (fun _ k => XS.goto X0.here hx rfl (pc0 := 67) (pc' := 71) rfl (hb hby d2_67) (by decide) (by decide) k) ?_
                show Go _ _ _ _ _ _ _ (s₁.setTop (mkF m 71 #[.val (.int p0), .val (.int (p0 % (65536 : Int32)))] [(.int (1 : Int32))]))
                refine Go.retN X0 hx (t := .boolean) Bd.returns (by simp) hlk (hb hby d2_71) ?_ (by decide) (by decide)
                rw [e0]
                exact ⟨(by
                    have hm := own_m16 p0
                    have hr := own_r16 p0
                    refine own_ucT ?_
                    unfold own_isU
                    simp only [Int32.lt_iff_toInt_lt, own_i_65536, own_i_160, own_i_55295, own_i_63744, own_i_64975, own_i_65008, own_i_65519, own_i_917504, own_i_921599, own_i_983039, own_i_65535, own_i_65533, own_i_917503, own_i_921600, own_i_983037] at hc4 hc10 hc18 hc32 hc46 hc52 hc63
                    omega), N0, rfl⟩
        · skip
          refine Go.step (fun _ k => XS.icmpNo X0.here hx rfl (hb hby d2_32) rfl (flt hc32).1 k) ?_
          show Go _ _ _ _ _ _ _ (s₁.setTop (mkF m 35 #[.val (.int p0), .unset] []))
          refine Go.step (fun _ k => XS.iloadN X0.here hx rfl (hb hby d2_35) rfl  k) ?_
          show Go _ _ _ _ _ _ _ (s₁.setTop (mkF m 36 #[.val (.int p0), .unset] [(.int p0)]))
          refine Go.step (X0.ldcInt hx hown (mvT hZ (hw _ (List.mem_of_getElem? (i := 5) rfl))) (g := (mkF m 36 #[.val (.int p0), .unset] [(.int p0)])) rfl (hb hby d2_36)) ?_
          show Go _ _ _ _ _ _ _ (s₁.setTop (mkF m 38 #[.val (.int p0), .unset] [(.int (65519 : Int32)), (.int p0)]))
          by_cases hc38 : (65519 : Int32) < p0
          · skip
            refine Go.step (fun _ k => XS.icmpYes X0.here hx rfl (pc0 := 38) (pc' := 43) rfl (hb hby d2_38) rfl (tlt hc38).2.2.1 (by decide) (by decide) k) ?_
            show Go _ _ _ _ _ _ _ (s₁.setTop (mkF m 43 #[.val (.int p0), .unset] []))
            refine Go.step (fun _ k => XS.iloadN X0.here hx rfl (hb hby d2_43) rfl  k) ?_
            show Go _ _ _ _ _ _ _ (s₁.setTop (mkF m 44 #[.val (.int p0), .unset] [(.int p0)]))
            refine Go.step (X0.ldcInt hx hown (mvT hZ (hw _ (List.mem_of_getElem? (i := 6) rfl))) (g := (mkF m 44 #[.val (.int p0), .unset] [(.int p0)])) rfl (hb hby d2_44)) ?_
            show Go _ _ _ _ _ _ _ (s₁.setTop (mkF m 46 #[.val (.int p0), .unset] [(.int (65536 : Int32)), (.int p0)]))
            by_cases hc46 : p0 < (65536 : Int32)
            · skip
              refine Go.step (fun _ k => XS.icmpYes X0.here hx rfl (pc0 := 46) (pc' := 72) rfl (hb hby d2_46) rfl (tlt hc46).1 (by decide) (by decide) k) ?_
              show Go _ _ _ _ _ _ _ (s₁.setTop (mkF m 72 #[.val (.int p0), .unset] []))
              refine Go.step (fun _ k => XS.iloadN X0.here hx rfl (hb hby d2_72) rfl  k) ?_
              show Go _ _ _ _ _ _ _ (s₁.setTop (mkF m 73 #[.val (.int p0), .unset] [(.int p0)]))
              refine Go.step (X0.ldcInt hx hown (mvT hZ (hw _ (List.mem_of_getElem? (i := 12) rfl))) (g := (mkF m 73 #[.val (.int p0), .unset] [(.int p0)])) rfl (hb hby d2_73)) ?_
              show Go _ _ _ _ _ _ _ (s₁.setTop (mkF m 75 #[.val (.int p0), .unset] [(.int (921600 : Int32)), (.int p0)]))
              by_cases hc75 : p0 < (921600 : Int32)
              · skip
                refine Go.step (fun _ k => XS.icmpYes X0.here hx rfl (pc0 := 75) (pc' := 86) rfl (hb hby d2_75) rfl (tlt hc75).1 (by decide) (by decide) k) ?_
                show Go _ _ _ _ _ _ _ (s₁.setTop (mkF m 86 #[.val (.int p0), .unset] []))
                refine Go.step (fun _ k => XS.iconst X0.here hx rfl (hb hby d2_86) k) ?_
                show Go _ _ _ _ _ _ _ (s₁.setTop (mkF m 87 #[.val (.int p0), .unset] [(.int (0 : Int32))]))
                refine Go.retN X0 hx (t := .boolean) Bd.returns (by simp) hlk (hb hby d2_87) ?_ (by decide) (by decide)
                rw [e0]
                exact ⟨(by
                    have hm := own_m16 p0
                    have hr := own_r16 p0
                    refine own_ucF ?_
                    unfold own_isU
                    simp only [Int32.lt_iff_toInt_lt, own_i_65536, own_i_160, own_i_55295, own_i_63744, own_i_64975, own_i_65008, own_i_65519, own_i_917504, own_i_921599, own_i_983039, own_i_65535, own_i_65533, own_i_917503, own_i_921600, own_i_983037] at hc4 hc10 hc18 hc32 hc38 hc46 hc75
                    omega), N0, rfl⟩
              · skip
                refine Go.step (fun _ k => XS.icmpNo X0.here hx rfl (hb hby d2_75) rfl (flt hc75).1 k) ?_
                show Go _ _ _ _ _ _ _ (s₁.setTop (mkF m 78 #[.val (.int p0), .unset] []))
                refine Go.step (fun _ k => XS.iloadN X0.here hx rfl (hb hby d2_78) rfl  k) ?_
                show Go _ _ _ _ _ _ _ (s₁.setTop (mkF m 79 #[.val (.int p0), .unset] [(.int p0)]))
                refine Go.step (X0.ldcInt hx hown (mvT hZ (hw _ (List.mem_of_getElem? (i := 13) rfl))) (g := (mkF m 79 #[.val (.int p0), .unset] [(.int p0)])) rfl (hb hby d2_79)) ?_
                show Go _ _ _ _ _ _ _ (s₁.setTop (mkF m 81 #[.val (.int p0), .unset] [(.int (983037 : Int32)), (.int p0)]))
                by_cases hc81 : (983037 : Int32) < p0
                · skip
                  refine Go.step (fun _ k => XS.icmpYes X0.here hx rfl (pc0 := 81) (pc' := 86) rfl (hb hby d2_81) rfl (tlt hc81).2.2.1 (by decide) (by decide) k) ?_
                  show Go _ _ _ _ _ _ _ (s₁.setTop (mkF m 86 #[.val (.int p0), .unset] []))
                  refine Go.step (fun _ k => XS.iconst X0.here hx rfl (hb hby d2_86) k) ?_
                  show Go _ _ _ _ _ _ _ (s₁.setTop (mkF m 87 #[.val (.int p0), .unset] [(.int (0 : Int32))]))
                  refine Go.retN X0 hx (t := .boolean) Bd.returns (by simp) hlk (hb hby d2_87) ?_ (by decide) (by decide)
                  rw [e0]
                  exact ⟨(by
                      have hm := own_m16 p0
                      have hr := own_r16 p0
                      refine own_ucF ?_
                      unfold own_isU
                      simp only [Int32.lt_iff_toInt_lt, own_i_65536, own_i_160, own_i_55295, own_i_63744, own_i_64975, own_i_65008, own_i_65519, own_i_917504, own_i_921599, own_i_983039, own_i_65535, own_i_65533, own_i_917503, own_i_921600, own_i_983037] at hc4 hc10 hc18 hc32 hc38 hc46 hc75 hc81
                      omega), N0, rfl⟩
                · skip
                  refine Go.step (fun _ k => XS.icmpNo X0.here hx rfl (hb hby d2_81) rfl (flt hc81).2.2.1 k) ?_
                  show Go _ _ _ _ _ _ _ (s₁.setTop (mkF m 84 #[.val (.int p0), .unset] []))
                  refine Go.step (fun _ k => XS.iconst X0.here hx rfl (hb hby d2_84) k) ?_
                  show Go _ _ _ _ _ _ _ (s₁.setTop (mkF m 85 #[.val (.int p0), .unset] [(.int (1 : Int32))]))
                  refine Go.retN X0 hx (t := .boolean) Bd.returns (by simp) hlk (hb hby d2_85) ?_ (by decide) (by decide)
                  rw [e0]
                  exact ⟨(by
                      have hm := own_m16 p0
                      have hr := own_r16 p0
                      refine own_ucT ?_
                      unfold own_isU
                      simp only [Int32.lt_iff_toInt_lt, own_i_65536, own_i_160, own_i_55295, own_i_63744, own_i_64975, own_i_65008, own_i_65519, own_i_917504, own_i_921599, own_i_983039, own_i_65535, own_i_65533, own_i_917503, own_i_921600, own_i_983037] at hc4 hc10 hc18 hc32 hc38 hc46 hc75 hc81
                      omega), N0, rfl⟩
            · skip
              refine Go.step (fun _ k => XS.icmpNo X0.here hx rfl (hb hby d2_46) rfl (flt hc46).1 k) ?_
              show Go _ _ _ _ _ _ _ (s₁.setTop (mkF m 49 #[.val (.int p0), .unset] []))
              refine Go.step (fun _ k => XS.iloadN X0.here hx rfl (hb hby d2_49) rfl  k) ?_
              show Go _ _ _ _ _ _ _ (s₁.setTop (mkF m 50 #[.val (.int p0), .unset] [(.int p0)]))
              refine Go.step (X0.ldcInt hx hown (mvT hZ (hw _ (List.mem_of_getElem? (i := 38) rfl))) (g := (mkF m 50 #[.val (.int p0), .unset] [(.int p0)])) rfl (hb hby d2_50)) ?_
              show Go _ _ _ _ _ _ _ (s₁.setTop (mkF m 52 #[.val (.int p0), .unset] [(.int (917503 : Int32)), (.int p0)]))
              by_cases hc52 : (917503 : Int32) < p0
              · skip
                refine Go.step (fun _ k => XS.icmpYes X0.here hx rfl (pc0 := 52) (pc' := 72) rfl (hb hby d2_52) rfl (tlt hc52).2.2.1 (by decide) (by decide) k) ?_
                show Go _ _ _ _ _ _ _ (s₁.setTop (mkF m 72 #[.val (.int p0), .unset] []))
                refine Go.step (fun _ k => XS.iloadN X0.here hx rfl (hb hby d2_72) rfl  k) ?_
                show Go _ _ _ _ _ _ _ (s₁.setTop (mkF m 73 #[.val (.int p0), .unset] [(.int p0)]))
                refine Go.step (X0.ldcInt hx hown (mvT hZ (hw _ (List.mem_of_getElem? (i := 12) rfl))) (g := (mkF m 73 #[.val (.int p0), .unset] [(.int p0)])) rfl (hb hby d2_73)) ?_
                show Go _ _ _ _ _ _ _ (s₁.setTop (mkF m 75 #[.val (.int p0), .unset] [(.int (921600 : Int32)), (.int p0)]))
                by_cases hc75 : p0 < (921600 : Int32)
                · skip
                  refine Go.step (fun _ k => XS.icmpYes X0.here hx rfl (pc0 := 75) (pc' := 86) rfl (hb hby d2_75) rfl (tlt hc75).1 (by decide) (by decide) k) ?_
                  show Go _ _ _ _ _ _ _ (s₁.setTop (mkF m 86 #[.val (.int p0), .unset] []))
                  refine Go.step (fun _ k => XS.iconst X0.here hx rfl (hb hby d2_86) k) ?_
                  show Go _ _ _ _ _ _ _ (s₁.setTop (mkF m 87 #[.val (.int p0), .unset] [(.int (0 : Int32))]))
                  refine Go.retN X0 hx (t := .boolean) Bd.returns (by simp) hlk (hb hby d2_87) ?_ (by decide) (by decide)
                  rw [e0]
                  exact ⟨(by
                      have hm := own_m16 p0
                      have hr := own_r16 p0
                      refine own_ucF ?_
                      unfold own_isU
                      simp only [Int32.lt_iff_toInt_lt, own_i_65536, own_i_160, own_i_55295, own_i_63744, own_i_64975, own_i_65008, own_i_65519, own_i_917504, own_i_921599, own_i_983039, own_i_65535, own_i_65533, own_i_917503, own_i_921600, own_i_983037] at hc4 hc10 hc18 hc32 hc38 hc46 hc52 hc75
                      omega), N0, rfl⟩
                · skip
                  refine Go.step (fun _ k => XS.icmpNo X0.here hx rfl (hb hby d2_75) rfl (flt hc75).1 k) ?_
                  show Go _ _ _ _ _ _ _ (s₁.setTop (mkF m 78 #[.val (.int p0), .unset] []))
                  refine Go.step (fun _ k => XS.iloadN X0.here hx rfl (hb hby d2_78) rfl  k) ?_
                  show Go _ _ _ _ _ _ _ (s₁.setTop (mkF m 79 #[.val (.int p0), .unset] [(.int p0)]))
                  refine Go.step (X0.ldcInt hx hown (mvT hZ (hw _ (List.mem_of_getElem? (i := 13) rfl))) (g := (mkF m 79 #[.val (.int p0), .unset] [(.int p0)])) rfl (hb hby d2_79)) ?_
                  show Go _ _ _ _ _ _ _ (s₁.setTop (mkF m 81 #[.val (.int p0), .unset] [(.int (983037 : Int32)), (.int p0)]))
                  by_cases hc81 : (983037 : Int32) < p0
                  · skip
                    refine Go.step (fun _ k => XS.icmpYes X0.here hx rfl (pc0 := 81) (pc' := 86) rfl (hb hby d2_81) rfl (tlt hc81).2.2.1 (by decide) (by decide) k) ?_
                    show Go _ _ _ _ _ _ _ (s₁.setTop (mkF m 86 #[.val (.int p0), .unset] []))
                    refine Go.step (fun _ k => XS.iconst X0.here hx rfl (hb hby d2_86) k) ?_
                    show Go _ _ _ _ _ _ _ (s₁.setTop (mkF m 87 #[.val (.int p0), .unset] [(.int (0 : Int32))]))
                    refine Go.retN X0 hx (t := .boolean) Bd.returns (by simp) hlk (hb hby d2_87) ?_ (by decide) (by decide)
                    rw [e0]
                    exact ⟨(by
                        have hm := own_m16 p0
                        have hr := own_r16 p0
                        refine own_ucF ?_
                        unfold own_isU
                        simp only [Int32.lt_iff_toInt_lt, own_i_65536, own_i_160, own_i_55295, own_i_63744, own_i_64975, own_i_65008, own_i_65519, own_i_917504, own_i_921599, own_i_983039, own_i_65535, own_i_65533, own_i_917503, own_i_921600, own_i_983037] at hc4 hc10 hc18 hc32 hc38 hc46 hc52 hc75 hc81
                        omega), N0, rfl⟩
                  · skip
                    refine Go.step (fun _ k => XS.icmpNo X0.here hx rfl (hb hby d2_81) rfl (flt hc81).2.2.1 k) ?_
                    show Go _ _ _ _ _ _ _ (s₁.setTop (mkF m 84 #[.val (.int p0), .unset] []))
                    refine Go.step (fun _ k => XS.iconst X0.here hx rfl (hb hby d2_84) k) ?_
                    show Go _ _ _ _ _ _ _ (s₁.setTop (mkF m 85 #[.val (.int p0), .unset] [(.int (1 : Int32))]))
                    refine Go.retN X0 hx (t := .boolean) Bd.returns (by simp) hlk (hb hby d2_85) ?_ (by decide) (by decide)
                    rw [e0]
                    exact ⟨(by
                        have hm := own_m16 p0
                        have hr := own_r16 p0
                        refine own_ucT ?_
                        unfold own_isU
                        simp only [Int32.lt_iff_toInt_lt, own_i_65536, own_i_160, own_i_55295, own_i_63744, own_i_64975, own_i_65008, own_i_65519, own_i_917504, own_i_921599, own_i_983039, own_i_65535, own_i_65533, own_i_917503, own_i_921600, own_i_983037] at hc4 hc10 hc18 hc32 hc38 hc46 hc52 hc75 hc81
                        omega), N0, rfl⟩
              · skip
                refine Go.step (fun _ k => XS.icmpNo X0.here hx rfl (hb hby d2_52) rfl (flt hc52).2.2.1 k) ?_
                show Go _ _ _ _ _ _ _ (s₁.setTop (mkF m 55 #[.val (.int p0), .unset] []))
                refine Go.step (fun _ k => XS.iloadN X0.here hx rfl (hb hby d2_55) rfl  k) ?_
                show Go _ _ _ _ _ _ _ (s₁.setTop (mkF m 56 #[.val (.int p0), .unset] [(.int p0)]))
                refine Go.step (X0.ldcInt hx hown (mvT hZ (hw _ (List.mem_of_getElem? (i := 6) rfl))) (g := (mkF m 56 #[.val (.int p0), .unset] [(.int p0)])) rfl (hb hby d2_56)) ?_
                show Go _ _ _ _ _ _ _ (s₁.setTop (mkF m 58 #[.val (.int p0), .unset] [(.int (65536 : Int32)), (.int p0)]))
                have nz58 : (65536 : Int32) ≠ 0 := (by decide)
                refine Go.step (fun _ k => iremM X0 hx rfl (hb hby d2_58) rfl nz58 k) ?_
                show Go _ _ _ _ _ _ _ (s₁.setTop (mkF m 59 #[.val (.int p0), .unset] [(.int (p0 % (65536 : Int32)))]))
                refine Go.step (fun _ k => XS.istoreN X0.here hx rfl (hb hby d2_59) rfl (l' := #[.val (.int p0), .val (.int (p0 % (65536 : Int32)))]) rfl k) ?_
                show Go _ _ _ _ _ _ _ (s₁.setTop (mkF m 60 #[.val (.int p0), .val (.int (p0 % (65536 : Int32)))] []))
                refine Go.step (fun _ k => XS.iloadN X0.here hx rfl (hb hby d2_60) rfl  k) ?_
                show Go _ _ _ _ _ _ _ (s₁.setTop (mkF m 61 #[.val (.int p0), .val (.int (p0 % (65536 : Int32)))] [(.int (p0 % (65536 : Int32)))]))
                refine Go.step (X0.ldcInt hx hown (mvT hZ (hw _ (List.mem_of_getElem? (i := 39) rfl))) (g := (mkF m 61 #[.val (.int p0), .val (.int (p0 % (65536 : Int32)))] [(.int (p0 % (65536 : Int32)))])) rfl (hb hby d2_61)) ?_
                show Go _ _ _ _ _ _ _ (s₁.setTop (mkF m 63 #[.val (.int p0), .val (.int (p0 % (65536 : Int32)))] [(.int (65533 : Int32)), (.int (p0 % (65536 : Int32)))]))
                by_cases hc63 : (65533 : Int32) < (p0 % (65536 : Int32))
                · skip
                  refine Go.step (fun _ k => XS.icmpYes X0.here hx rfl (pc0 := 63) (pc' := 70) rfl (hb hby d2_63) rfl (tlt hc63).2.2.1 (by decide) (by decide) k) ?_
                  show Go _ _ _ _ _ _ _ (s₁.setTop (mkF m 70 #[.val (.int p0), .val (.int (p0 % (65536 : Int32)))] []))
                  refine Go.step (fun _ k => XS.iconst X0.here hx rfl (hb hby d2_70) k) ?_
                  show Go _ _ _ _ _ _ _ (s₁.setTop (mkF m 71 #[.val (.int p0), .val (.int (p0 % (65536 : Int32)))] [(.int (0 : Int32))]))
                  refine Go.retN X0 hx (t := .boolean) Bd.returns (by simp) hlk (hb hby d2_71) ?_ (by decide) (by decide)
                  rw [e0]
                  exact ⟨(by
                      have hm := own_m16 p0
                      have hr := own_r16 p0
                      refine own_ucF ?_
                      unfold own_isU
                      simp only [Int32.lt_iff_toInt_lt, own_i_65536, own_i_160, own_i_55295, own_i_63744, own_i_64975, own_i_65008, own_i_65519, own_i_917504, own_i_921599, own_i_983039, own_i_65535, own_i_65533, own_i_917503, own_i_921600, own_i_983037] at hc4 hc10 hc18 hc32 hc38 hc46 hc52 hc63
                      omega), N0, rfl⟩
                · skip
                  refine Go.step (fun _ k => XS.icmpNo X0.here hx rfl (hb hby d2_63) rfl (flt hc63).2.2.1 k) ?_
                  show Go _ _ _ _ _ _ _ (s₁.setTop (mkF m 66 #[.val (.int p0), .val (.int (p0 % (65536 : Int32)))] []))
                  refine Go.step (fun _ k => XS.iconst X0.here hx rfl (hb hby d2_66) k) ?_
                  show Go _ _ _ _ _ _ _ (s₁.setTop (mkF m 67 #[.val (.int p0), .val (.int (p0 % (65536 : Int32)))] [(.int (1 : Int32))]))
                  refine Go.step (fun _ k => XS.goto X0.here hx rfl (pc0 := 67) (pc' := 71) rfl (hb hby d2_67) (by decide) (by decide) k) ?_
                  show Go _ _ _ _ _ _ _ (s₁.setTop (mkF m 71 #[.val (.int p0), .val (.int (p0 % (65536 : Int32)))] [(.int (1 : Int32))]))
                  refine Go.retN X0 hx (t := .boolean) Bd.returns (by simp) hlk (hb hby d2_71) ?_ (by decide) (by decide)
                  rw [e0]
                  exact ⟨(by
                      have hm := own_m16 p0
                      have hr := own_r16 p0
                      refine own_ucT ?_
                      unfold own_isU
                      simp only [Int32.lt_iff_toInt_lt, own_i_65536, own_i_160, own_i_55295, own_i_63744, own_i_64975, own_i_65008, own_i_65519, own_i_917504, own_i_921599, own_i_983039, own_i_65535, own_i_65533, own_i_917503, own_i_921600, own_i_983037] at hc4 hc10 hc18 hc32 hc38 hc46 hc52 hc63
                      omega), N0, rfl⟩
          · skip
            refine Go.step (fun _ k => XS.icmpNo X0.here hx rfl (hb hby d2_38) rfl (flt hc38).2.2.1 k) ?_
            show Go _ _ _ _ _ _ _ (s₁.setTop (mkF m 41 #[.val (.int p0), .unset] []))
            refine Go.step (fun _ k => XS.iconst X0.here hx rfl (hb hby d2_41) k) ?_
            show Go _ _ _ _ _ _ _ (s₁.setTop (mkF m 42 #[.val (.int p0), .unset] [(.int (1 : Int32))]))
            refine Go.retN X0 hx (t := .boolean) Bd.returns (by simp) hlk (hb hby d2_42) ?_ (by decide) (by decide)
            rw [e0]
            exact ⟨(by
                have hm := own_m16 p0
                have hr := own_r16 p0
                refine own_ucT ?_
                unfold own_isU
                simp only [Int32.lt_iff_toInt_lt, own_i_65536, own_i_160, own_i_55295, own_i_63744, own_i_64975, own_i_65008, own_i_65519, own_i_917504, own_i_921599, own_i_983039, own_i_65535, own_i_65533, own_i_917503, own_i_921600, own_i_983037] at hc4 hc10 hc18 hc32 hc38
                omega), N0, rfl⟩
      · skip
        refine Go.step (fun _ k => XS.icmpNo X0.here hx rfl (hb hby d2_18) rfl (flt hc18).1 k) ?_
        show Go _ _ _ _ _ _ _ (s₁.setTop (mkF m 21 #[.val (.int p0), .unset] []))
        refine Go.step (fun _ k => XS.iloadN X0.here hx rfl (hb hby d2_21) rfl  k) ?_
        show Go _ _ _ _ _ _ _ (s₁.setTop (mkF m 22 #[.val (.int p0), .unset] [(.int p0)]))
        refine Go.step (X0.ldcInt hx hown (mvT hZ (hw _ (List.mem_of_getElem? (i := 3) rfl))) (g := (mkF m 22 #[.val (.int p0), .unset] [(.int p0)])) rfl (hb hby d2_22)) ?_
        show Go _ _ _ _ _ _ _ (s₁.setTop (mkF m 24 #[.val (.int p0), .unset] [(.int (64975 : Int32)), (.int p0)]))
        by_cases hc24 : (64975 : Int32) < p0
        · skip
          refine Go.step (fun _ k => XS.icmpYes X0.here hx rfl (pc0 := 24) (pc' := 29) rfl (hb hby d2_24) rfl (tlt hc24).2.2.1 (by decide) (by decide) k) ?_
          show Go _ _ _ _ _ _ _ (s₁.setTop (mkF m 29 #[.val (.int p0), .unset] []))
          refine Go.step (fun _ k => XS.iloadN X0.here hx rfl (hb hby d2_29) rfl  k) ?_
          show Go _ _ _ _ _ _ _ (s₁.setTop (mkF m 30 #[.val (.int p0), .unset] [(.int p0)]))
          refine Go.step (X0.ldcInt hx hown (mvT hZ (hw _ (List.mem_of_getElem? (i := 4) rfl))) (g := (mkF m 30 #[.val (.int p0), .unset] [(.int p0)])) rfl (hb hby d2_30)) ?_
          show Go _ _ _ _ _ _ _ (s₁.setTop (mkF m 32 #[.val (.int p0), .unset] [(.int (65008 : Int32)), (.int p0)]))
          by_cases hc32 : p0 < (65008 : Int32)
          · skip
            refine Go.step (fun _ k => XS.icmpYes X0.here hx rfl (pc0 := 32) (pc' := 43) rfl (hb hby d2_32) rfl (tlt hc32).1 (by decide) (by decide) k) ?_
            show Go _ _ _ _ _ _ _ (s₁.setTop (mkF m 43 #[.val (.int p0), .unset] []))
            refine Go.step (fun _ k => XS.iloadN X0.here hx rfl (hb hby d2_43) rfl  k) ?_
            show Go _ _ _ _ _ _ _ (s₁.setTop (mkF m 44 #[.val (.int p0), .unset] [(.int p0)]))
            refine Go.step (X0.ldcInt hx hown (mvT hZ (hw _ (List.mem_of_getElem? (i := 6) rfl))) (g := (mkF m 44 #[.val (.int p0), .unset] [(.int p0)])) rfl (hb hby d2_44)) ?_
            show Go _ _ _ _ _ _ _ (s₁.setTop (mkF m 46 #[.val (.int p0), .unset] [(.int (65536 : Int32)), (.int p0)]))
            by_cases hc46 : p0 < (65536 : Int32)
            · skip
              refine Go.step (fun _ k => XS.icmpYes X0.here hx rfl (pc0 := 46) (pc' := 72) rfl (hb hby d2_46) rfl (tlt hc46).1 (by decide) (by decide) k) ?_
              show Go _ _ _ _ _ _ _ (s₁.setTop (mkF m 72 #[.val (.int p0), .unset] []))
              refine Go.step (fun _ k => XS.iloadN X0.here hx rfl (hb hby d2_72) rfl  k) ?_
              show Go _ _ _ _ _ _ _ (s₁.setTop (mkF m 73 #[.val (.int p0), .unset] [(.int p0)]))
              refine Go.step (X0.ldcInt hx hown (mvT hZ (hw _ (List.mem_of_getElem? (i := 12) rfl))) (g := (mkF m 73 #[.val (.int p0), .unset] [(.int p0)])) rfl (hb hby d2_73)) ?_
              show Go _ _ _ _ _ _ _ (s₁.setTop (mkF m 75 #[.val (.int p0), .unset] [(.int (921600 : Int32)), (.int p0)]))
              by_cases hc75 : p0 < (921600 : Int32)
              · skip
                refine Go.step (fun _ k => XS.icmpYes X0.here hx rfl (pc0 := 75) (pc' := 86) rfl (hb hby d2_75) rfl (tlt hc75).1 (by decide) (by decide) k) ?_
                show Go _ _ _ _ _ _ _ (s₁.setTop (mkF m 86 #[.val (.int p0), .unset] []))
                refine Go.step (fun _ k => XS.iconst X0.here hx rfl (hb hby d2_86) k) ?_
                show Go _ _ _ _ _ _ _ (s₁.setTop (mkF m 87 #[.val (.int p0), .unset] [(.int (0 : Int32))]))
                refine Go.retN X0 hx (t := .boolean) Bd.returns (by simp) hlk (hb hby d2_87) ?_ (by decide) (by decide)
                rw [e0]
                exact ⟨(by
                    have hm := own_m16 p0
                    have hr := own_r16 p0
                    refine own_ucF ?_
                    unfold own_isU
                    simp only [Int32.lt_iff_toInt_lt, own_i_65536, own_i_160, own_i_55295, own_i_63744, own_i_64975, own_i_65008, own_i_65519, own_i_917504, own_i_921599, own_i_983039, own_i_65535, own_i_65533, own_i_917503, own_i_921600, own_i_983037] at hc4 hc10 hc18 hc24 hc32 hc46 hc75
                    omega), N0, rfl⟩
              · skip
                refine Go.step (fun _ k => XS.icmpNo X0.here hx rfl (hb hby d2_75) rfl (flt hc75).1 k) ?_
                show Go _ _ _ _ _ _ _ (s₁.setTop (mkF m 78 #[.val (.int p0), .unset] []))
                refine Go.step (fun _ k => XS.iloadN X0.here hx rfl (hb hby d2_78) rfl  k) ?_
                show Go _ _ _ _ _ _ _ (s₁.setTop (mkF m 79 #[.val (.int p0), .unset] [(.int p0)]))
                refine Go.step (X0.ldcInt hx hown (mvT hZ (hw _ (List.mem_of_getElem? (i := 13) rfl))) (g := (mkF m 79 #[.val (.int p0), .unset] [(.int p0)])) rfl (hb hby d2_79)) ?_
                show Go _ _ _ _ _ _ _ (s₁.setTop (mkF m 81 #[.val (.int p0), .unset] [(.int (983037 : Int32)), (.int p0)]))
                by_cases hc81 : (983037 : Int32) < p0
                · skip
                  refine Go.step (fun _ k => XS.icmpYes X0.here hx rfl (pc0 := 81) (pc' := 86) rfl (hb hby d2_81) rfl (tlt hc81).2.2.1 (by decide) (by decide) k) ?_
                  show Go _ _ _ _ _ _ _ (s₁.setTop (mkF m 86 #[.val (.int p0), .unset] []))
                  refine Go.step (fun _ k => XS.iconst X0.here hx rfl (hb hby d2_86) k) ?_
                  show Go _ _ _ _ _ _ _ (s₁.setTop (mkF m 87 #[.val (.int p0), .unset] [(.int (0 : Int32))]))
                  refine Go.retN X0 hx (t := .boolean) Bd.returns (by simp) hlk (hb hby d2_87) ?_ (by decide) (by decide)
                  rw [e0]
                  exact ⟨(by
                      have hm := own_m16 p0
                      have hr := own_r16 p0
                      refine own_ucF ?_
                      unfold own_isU
                      simp only [Int32.lt_iff_toInt_lt, own_i_65536, own_i_160, own_i_55295, own_i_63744, own_i_64975, own_i_65008, own_i_65519, own_i_917504, own_i_921599, own_i_983039, own_i_65535, own_i_65533, own_i_917503, own_i_921600, own_i_983037] at hc4 hc10 hc18 hc24 hc32 hc46 hc75 hc81
                      omega), N0, rfl⟩
                · skip
                  refine Go.step (fun _ k => XS.icmpNo X0.here hx rfl (hb hby d2_81) rfl (flt hc81).2.2.1 k) ?_
                  show Go _ _ _ _ _ _ _ (s₁.setTop (mkF m 84 #[.val (.int p0), .unset] []))
                  refine Go.step (fun _ k => XS.iconst X0.here hx rfl (hb hby d2_84) k) ?_
                  show Go _ _ _ _ _ _ _ (s₁.setTop (mkF m 85 #[.val (.int p0), .unset] [(.int (1 : Int32))]))
                  refine Go.retN X0 hx (t := .boolean) Bd.returns (by simp) hlk (hb hby d2_85) ?_ (by decide) (by decide)
                  rw [e0]
                  exact ⟨(by
                      have hm := own_m16 p0
                      have hr := own_r16 p0
                      refine own_ucT ?_
                      unfold own_isU
                      simp only [Int32.lt_iff_toInt_lt, own_i_65536, own_i_160, own_i_55295, own_i_63744, own_i_64975, own_i_65008, own_i_65519, own_i_917504, own_i_921599, own_i_983039, own_i_65535, own_i_65533, own_i_917503, own_i_921600, own_i_983037] at hc4 hc10 hc18 hc24 hc32 hc46 hc75 hc81
                      omega), N0, rfl⟩
            · skip
              refine Go.step (fun _ k => XS.icmpNo X0.here hx rfl (hb hby d2_46) rfl (flt hc46).1 k) ?_
              show Go _ _ _ _ _ _ _ (s₁.setTop (mkF m 49 #[.val (.int p0), .unset] []))
              refine Go.step (fun _ k => XS.iloadN X0.here hx rfl (hb hby d2_49) rfl  k) ?_
              show Go _ _ _ _ _ _ _ (s₁.setTop (mkF m 50 #[.val (.int p0), .unset] [(.int p0)]))
              refine Go.step (X0.ldcInt hx hown (mvT hZ (hw _ (List.mem_of_getElem? (i := 38) rfl))) (g := (mkF m 50 #[.val (.int p0), .unset] [(.int p0)])) rfl (hb hby d2_50)) ?_
              show Go _ _ _ _ _ _ _ (s₁.setTop (mkF m 52 #[.val (.int p0), .unset] [(.int (917503 : Int32)), (.int p0)]))
              by_cases hc52 : (917503 : Int32) < p0
              · skip
                refine Go.step (fun _ k => XS.icmpYes X0.here hx rfl (pc0 := 52) (pc' := 72) rfl (hb hby d2_52) rfl (tlt hc52).2.2.1 (by decide) (by decide) k) ?_
                show Go _ _ _ _ _ _ _ (s₁.setTop (mkF m 72 #[.val (.int p0), .unset] []))
                refine Go.step (fun _ k => XS.iloadN X0.here hx rfl (hb hby d2_72) rfl  k) ?_
                show Go _ _ _ _ _ _ _ (s₁.setTop (mkF m 73 #[.val (.int p0), .unset] [(.int p0)]))
                refine Go.step (X0.ldcInt hx hown (mvT hZ (hw _ (List.mem_of_getElem? (i := 12) rfl))) (g := (mkF m 73 #[.val (.int p0), .unset] [(.int p0)])) rfl (hb hby d2_73)) ?_
                show Go _ _ _ _ _ _ _ (s₁.setTop (mkF m 75 #[.val (.int p0), .unset] [(.int (921600 : Int32)), (.int p0)]))
                by_cases hc75 : p0 < (921600 : Int32)
                · skip
                  refine Go.step (fun _ k => XS.icmpYes X0.here hx rfl (pc0 := 75) (pc' := 86) rfl (hb hby d2_75) rfl (tlt hc75).1 (by decide) (by decide) k) ?_
                  show Go _ _ _ _ _ _ _ (s₁.setTop (mkF m 86 #[.val (.int p0), .unset] []))
                  refine Go.step (fun _ k => XS.iconst X0.here hx rfl (hb hby d2_86) k) ?_
                  show Go _ _ _ _ _ _ _ (s₁.setTop (mkF m 87 #[.val (.int p0), .unset] [(.int (0 : Int32))]))
                  refine Go.retN X0 hx (t := .boolean) Bd.returns (by simp) hlk (hb hby d2_87) ?_ (by decide) (by decide)
                  rw [e0]
                  exact ⟨(by
                      have hm := own_m16 p0
                      have hr := own_r16 p0
                      refine own_ucF ?_
                      unfold own_isU
                      simp only [Int32.lt_iff_toInt_lt, own_i_65536, own_i_160, own_i_55295, own_i_63744, own_i_64975, own_i_65008, own_i_65519, own_i_917504, own_i_921599, own_i_983039, own_i_65535, own_i_65533, own_i_917503, own_i_921600, own_i_983037] at hc4 hc10 hc18 hc24 hc32 hc46 hc52 hc75
                      omega), N0, rfl⟩
                · skip
                  refine Go.step (fun _ k => XS.icmpNo X0.here hx rfl (hb hby d2_75) rfl (flt hc75).1 k) ?_
                  show Go _ _ _ _ _ _ _ (s₁.setTop (mkF m 78 #[.val (.int p0), .unset] []))
                  refine Go.step (fun _ k => XS.iloadN X0.here hx rfl (hb hby d2_78) rfl  k) ?_
                  show Go _ _ _ _ _ _ _ (s₁.setTop (mkF m 79 #[.val (.int p0), .unset] [(.int p0)]))
                  refine Go.step (X0.ldcInt hx hown (mvT hZ (hw _ (List.mem_of_getElem? (i := 13) rfl))) (g := (mkF m 79 #[.val (.int p0), .unset] [(.int p0)])) rfl (hb hby d2_79)) ?_
                  show Go _ _ _ _ _ _ _ (s₁.setTop (mkF m 81 #[.val (.int p0), .unset] [(.int (983037 : Int32)), (.int p0)]))
                  by_cases hc81 : (983037 : Int32) < p0
                  · skip
                    refine Go.step (fun _ k => XS.icmpYes X0.here hx rfl (pc0 := 81) (pc' := 86) rfl (hb hby d2_81) rfl (tlt hc81).2.2.1 (by decide) (by decide) k) ?_
                    show Go _ _ _ _ _ _ _ (s₁.setTop (mkF m 86 #[.val (.int p0), .unset] []))
                    refine Go.step (fun _ k => XS.iconst X0.here hx rfl (hb hby d2_86) k) ?_
                    show Go _ _ _ _ _ _ _ (s₁.setTop (mkF m 87 #[.val (.int p0), .unset] [(.int (0 : Int32))]))
                    refine Go.retN X0 hx (t := .boolean) Bd.returns (by simp) hlk (hb hby d2_87) ?_ (by decide) (by decide)
                    rw [e0]
                    exact ⟨(by
                        have hm := own_m16 p0
                        have hr := own_r16 p0
                        refine own_ucF ?_
                        unfold own_isU
                        simp only [Int32.lt_iff_toInt_lt, own_i_65536, own_i_160, own_i_55295, own_i_63744, own_i_64975, own_i_65008, own_i_65519, own_i_917504, own_i_921599, own_i_983039, own_i_65535, own_i_65533, own_i_917503, own_i_921600, own_i_983037] at hc4 hc10 hc18 hc24 hc32 hc46 hc52 hc75 hc81
                        omega), N0, rfl⟩
                  · skip
                    refine Go.step (fun _ k => XS.icmpNo X0.here hx rfl (hb hby d2_81) rfl (flt hc81).2.2.1 k) ?_
                    show Go _ _ _ _ _ _ _ (s₁.setTop (mkF m 84 #[.val (.int p0), .unset] []))
                    refine Go.step (fun _ k => XS.iconst X0.here hx rfl (hb hby d2_84) k) ?_
                    show Go _ _ _ _ _ _ _ (s₁.setTop (mkF m 85 #[.val (.int p0), .unset] [(.int (1 : Int32))]))
                    refine Go.retN X0 hx (t := .boolean) Bd.returns (by simp) hlk (hb hby d2_85) ?_ (by decide) (by decide)
                    rw [e0]
                    exact ⟨(by
                        have hm := own_m16 p0
                        have hr := own_r16 p0
                        refine own_ucT ?_
                        unfold own_isU
                        simp only [Int32.lt_iff_toInt_lt, own_i_65536, own_i_160, own_i_55295, own_i_63744, own_i_64975, own_i_65008, own_i_65519, own_i_917504, own_i_921599, own_i_983039, own_i_65535, own_i_65533, own_i_917503, own_i_921600, own_i_983037] at hc4 hc10 hc18 hc24 hc32 hc46 hc52 hc75 hc81
                        omega), N0, rfl⟩
              · skip
                refine Go.step (fun _ k => XS.icmpNo X0.here hx rfl (hb hby d2_52) rfl (flt hc52).2.2.1 k) ?_
                show Go _ _ _ _ _ _ _ (s₁.setTop (mkF m 55 #[.val (.int p0), .unset] []))
                refine Go.step (fun _ k => XS.iloadN X0.here hx rfl (hb hby d2_55) rfl  k) ?_
                show Go _ _ _ _ _ _ _ (s₁.setTop (mkF m 56 #[.val (.int p0), .unset] [(.int p0)]))
                refine Go.step (X0.ldcInt hx hown (mvT hZ (hw _ (List.mem_of_getElem? (i := 6) rfl))) (g := (mkF m 56 #[.val (.int p0), .unset] [(.int p0)])) rfl (hb hby d2_56)) ?_
                show Go _ _ _ _ _ _ _ (s₁.setTop (mkF m 58 #[.val (.int p0), .unset] [(.int (65536 : Int32)), (.int p0)]))
                have nz58 : (65536 : Int32) ≠ 0 := (by decide)
                refine Go.step (fun _ k => iremM X0 hx rfl (hb hby d2_58) rfl nz58 k) ?_
                show Go _ _ _ _ _ _ _ (s₁.setTop (mkF m 59 #[.val (.int p0), .unset] [(.int (p0 % (65536 : Int32)))]))
                refine Go.step (fun _ k => XS.istoreN X0.here hx rfl (hb hby d2_59) rfl (l' := #[.val (.int p0), .val (.int (p0 % (65536 : Int32)))]) rfl k) ?_
                show Go _ _ _ _ _ _ _ (s₁.setTop (mkF m 60 #[.val (.int p0), .val (.int (p0 % (65536 : Int32)))] []))
                refine Go.step (fun _ k => XS.iloadN X0.here hx rfl (hb hby d2_60) rfl  k) ?_
                show Go _ _ _ _ _ _ _ (s₁.setTop (mkF m 61 #[.val (.int p0), .val (.int (p0 % (65536 : Int32)))] [(.int (p0 % (65536 : Int32)))]))
                refine Go.step (X0.ldcInt hx hown (mvT hZ (hw _ (List.mem_of_getElem? (i := 39) rfl))) (g := (mkF m 61 #[.val (.int p0), .val (.int (p0 % (65536 : Int32)))] [(.int (p0 % (65536 : Int32)))])) rfl (hb hby d2_61)) ?_
                show Go _ _ _ _ _ _ _ (s₁.setTop (mkF m 63 #[.val (.int p0), .val (.int (p0 % (65536 : Int32)))] [(.int (65533 : Int32)), (.int (p0 % (65536 : Int32)))]))
                by_cases hc63 : (65533 : Int32) < (p0 % (65536 : Int32))
                · skip
                  refine Go.step (fun _ k => XS.icmpYes X0.here hx rfl (pc0 := 63) (pc' := 70) rfl (hb hby d2_63) rfl (tlt hc63).2.2.1 (by decide) (by decide) k) ?_
                  show Go _ _ _ _ _ _ _ (s₁.setTop (mkF m 70 #[.val (.int p0), .val (.int (p0 % (65536 : Int32)))] []))
                  refine Go.step (fun _ k => XS.iconst X0.here hx rfl (hb hby d2_70) k) ?_
                  show Go _ _ _ _ _ _ _ (s₁.setTop (mkF m 71 #[.val (.int p0), .val (.int (p0 % (65536 : Int32)))] [(.int (0 : Int32))]))
                  refine Go.retN X0 hx (t := .boolean) Bd.returns (by simp) hlk (hb hby d2_71) ?_ (by decide) (by decide)
                  rw [e0]
                  exact ⟨(by
                      have hm := own_m16 p0
                      have hr := own_r16 p0
                      refine own_ucF ?_
                      unfold own_isU
                      simp only [Int32.lt_iff_toInt_lt, own_i_65536, own_i_160, own_i_55295, own_i_63744, own_i_64975, own_i_65008, own_i_65519, own_i_917504, own_i_921599, own_i_983039, own_i_65535, own_i_65533, own_i_917503, own_i_921600, own_i_983037] at hc4 hc10 hc18 hc24 hc32 hc46 hc52 hc63
                      omega), N0, rfl⟩
                · skip
                  refine Go.step (fun _ k => XS.icmpNo X0.here hx rfl (hb hby d2_63) rfl (flt hc63).2.2.1 k) ?_
                  show Go _ _ _ _ _ _ _ (s₁.setTop (mkF m 66 #[.val (.int p0), .val (.int (p0 % (65536 : Int32)))] []))
                  refine Go.step (fun _ k => XS.iconst X0.here hx rfl (hb hby d2_66) k) ?_
                  show Go _ _ _ _ _ _ _ (s₁.setTop (mkF m 67 #[.val (.int p0), .val (.int (p0 % (65536 : Int32)))] [(.int (1 : Int32))]))
                  refine Go.step (fun _ k => XS.goto X0.here hx rfl (pc0 := 67) (pc' := 71) rfl (hb hby d2_67) (by decide) (by decide) k) ?_
                  show Go _ _ _ _ _ _ _ (s₁.setTop (mkF m 71 #[.val (.int p0), .val (.int (p0 % (65536 : Int32)))] [(.int (1 : Int32))]))
                  refine Go.retN X0 hx (t := .boolean) Bd.returns (by simp) hlk (hb hby d2_71) ?_ (by decide) (by decide)
                  rw [e0]
                  exact ⟨(by
                      have hm := own_m16 p0
                      have hr := own_r16 p0
                      refine own_ucT ?_
                      unfold own_isU
                      simp only [Int32.lt_iff_toInt_lt, own_i_65536, own_i_160, own_i_55295, own_i_63744, own_i_64975, own_i_65008, own_i_65519, own_i_917504, own_i_921599, own_i_983039, own_i_65535, own_i_65533, own_i_917503, own_i_921600, own_i_983037] at hc4 hc10 hc18 hc24 hc32 hc46 hc52 hc63
                      omega), N0, rfl⟩
          · skip
            refine Go.step (fun _ k => XS.icmpNo X0.here hx rfl (hb hby d2_32) rfl (flt hc32).1 k) ?_
            show Go _ _ _ _ _ _ _ (s₁.setTop (mkF m 35 #[.val (.int p0), .unset] []))
            refine Go.step (fun _ k => XS.iloadN X0.here hx rfl (hb hby d2_35) rfl  k) ?_
            show Go _ _ _ _ _ _ _ (s₁.setTop (mkF m 36 #[.val (.int p0), .unset] [(.int p0)]))
            refine Go.step (X0.ldcInt hx hown (mvT hZ (hw _ (List.mem_of_getElem? (i := 5) rfl))) (g := (mkF m 36 #[.val (.int p0), .unset] [(.int p0)])) rfl (hb hby d2_36)) ?_
            show Go _ _ _ _ _ _ _ (s₁.setTop (mkF m 38 #[.val (.int p0), .unset] [(.int (65519 : Int32)), (.int p0)]))
            by_cases hc38 : (65519 : Int32) < p0
            · skip
              refine Go.step (fun _ k => XS.icmpYes X0.here hx rfl (pc0 := 38) (pc' := 43) rfl (hb hby d2_38) rfl (tlt hc38).2.2.1 (by decide) (by decide) k) ?_
              show Go _ _ _ _ _ _ _ (s₁.setTop (mkF m 43 #[.val (.int p0), .unset] []))
              refine Go.step (fun _ k => XS.iloadN X0.here hx rfl (hb hby d2_43) rfl  k) ?_
              show Go _ _ _ _ _ _ _ (s₁.setTop (mkF m 44 #[.val (.int p0), .unset] [(.int p0)]))
              refine Go.step (X0.ldcInt hx hown (mvT hZ (hw _ (List.mem_of_getElem? (i := 6) rfl))) (g := (mkF m 44 #[.val (.int p0), .unset] [(.int p0)])) rfl (hb hby d2_44)) ?_
              show Go _ _ _ _ _ _ _ (s₁.setTop (mkF m 46 #[.val (.int p0), .unset] [(.int (65536 : Int32)), (.int p0)]))
              by_cases hc46 : p0 < (65536 : Int32)
              · skip
                refine Go.step (fun _ k => XS.icmpYes X0.here hx rfl (pc0 := 46) (pc' := 72) rfl (hb hby d2_46) rfl (tlt hc46).1 (by decide) (by decide) k) ?_
                show Go _ _ _ _ _ _ _ (s₁.setTop (mkF m 72 #[.val (.int p0), .unset] []))
                refine Go.step (fun _ k => XS.iloadN X0.here hx rfl (hb hby d2_72) rfl  k) ?_
                show Go _ _ _ _ _ _ _ (s₁.setTop (mkF m 73 #[.val (.int p0), .unset] [(.int p0)]))
                refine Go.step (X0.ldcInt hx hown (mvT hZ (hw _ (List.mem_of_getElem? (i := 12) rfl))) (g := (mkF m 73 #[.val (.int p0), .unset] [(.int p0)])) rfl (hb hby d2_73)) ?_
                show Go _ _ _ _ _ _ _ (s₁.setTop (mkF m 75 #[.val (.int p0), .unset] [(.int (921600 : Int32)), (.int p0)]))
                by_cases hc75 : p0 < (921600 : Int32)
                · skip
                  refine Go.step (fun _ k => XS.icmpYes X0.here hx rfl (pc0 := 75) (pc' := 86) rfl (hb hby d2_75) rfl (tlt hc75).1 (by decide) (by decide) k) ?_
                  show Go _ _ _ _ _ _ _ (s₁.setTop (mkF m 86 #[.val (.int p0), .unset] []))
                  refine Go.step (fun _ k => XS.iconst X0.here hx rfl (hb hby d2_86) k) ?_
                  show Go _ _ _ _ _ _ _ (s₁.setTop (mkF m 87 #[.val (.int p0), .unset] [(.int (0 : Int32))]))
                  refine Go.retN X0 hx (t := .boolean) Bd.returns (by simp) hlk (hb hby d2_87) ?_ (by decide) (by decide)
                  rw [e0]
                  exact ⟨(by
                      have hm := own_m16 p0
                      have hr := own_r16 p0
                      refine own_ucF ?_
                      unfold own_isU
                      simp only [Int32.lt_iff_toInt_lt, own_i_65536, own_i_160, own_i_55295, own_i_63744, own_i_64975, own_i_65008, own_i_65519, own_i_917504, own_i_921599, own_i_983039, own_i_65535, own_i_65533, own_i_917503, own_i_921600, own_i_983037] at hc4 hc10 hc18 hc24 hc32 hc38 hc46 hc75
                      omega), N0, rfl⟩
                · skip
                  refine Go.step (fun _ k => XS.icmpNo X0.here hx rfl (hb hby d2_75) rfl (flt hc75).1 k) ?_
                  show Go _ _ _ _ _ _ _ (s₁.setTop (mkF m 78 #[.val (.int p0), .unset] []))
                  refine Go.step (fun _ k => XS.iloadN X0.here hx rfl (hb hby d2_78) rfl  k) ?_
                  show Go _ _ _ _ _ _ _ (s₁.setTop (mkF m 79 #[.val (.int p0), .unset] [(.int p0)]))
                  refine Go.step (X0.ldcInt hx hown (mvT hZ (hw _ (List.mem_of_getElem? (i := 13) rfl))) (g := (mkF m 79 #[.val (.int p0), .unset] [(.int p0)])) rfl (hb hby d2_79)) ?_
                  show Go _ _ _ _ _ _ _ (s₁.setTop (mkF m 81 #[.val (.int p0), .unset] [(.int (983037 : Int32)), (.int p0)]))
                  by_cases hc81 : (983037 : Int32) < p0
                  · skip
                    refine Go.step (fun _ k => XS.icmpYes X0.here hx rfl (pc0 := 81) (pc' := 86) rfl (hb hby d2_81) rfl (tlt hc81).2.2.1 (by decide) (by decide) k) ?_
                    show Go _ _ _ _ _ _ _ (s₁.setTop (mkF m 86 #[.val (.int p0), .unset] []))
                    refine Go.step (fun _ k => XS.iconst X0.here hx rfl (hb hby d2_86) k) ?_
                    show Go _ _ _ _ _ _ _ (s₁.setTop (mkF m 87 #[.val (.int p0), .unset] [(.int (0 : Int32))]))
                    refine Go.retN X0 hx (t := .boolean) Bd.returns (by simp) hlk (hb hby d2_87) ?_ (by decide) (by decide)
                    rw [e0]
                    exact ⟨(by
                        have hm := own_m16 p0
                        have hr := own_r16 p0
                        refine own_ucF ?_
                        unfold own_isU
                        simp only [Int32.lt_iff_toInt_lt, own_i_65536, own_i_160, own_i_55295, own_i_63744, own_i_64975, own_i_65008, own_i_65519, own_i_917504, own_i_921599, own_i_983039, own_i_65535, own_i_65533, own_i_917503, own_i_921600, own_i_983037] at hc4 hc10 hc18 hc24 hc32 hc38 hc46 hc75 hc81
                        omega), N0, rfl⟩
                  · skip
                    refine Go.step (fun _ k => XS.icmpNo X0.here hx rfl (hb hby d2_81) rfl (flt hc81).2.2.1 k) ?_
                    show Go _ _ _ _ _ _ _ (s₁.setTop (mkF m 84 #[.val (.int p0), .unset] []))
                    refine Go.step (fun _ k => XS.iconst X0.here hx rfl (hb hby d2_84) k) ?_
                    show Go _ _ _ _ _ _ _ (s₁.setTop (mkF m 85 #[.val (.int p0), .unset] [(.int (1 : Int32))]))
                    refine Go.retN X0 hx (t := .boolean) Bd.returns (by simp) hlk (hb hby d2_85) ?_ (by decide) (by decide)
                    rw [e0]
                    exact ⟨(by
                        have hm := own_m16 p0
                        have hr := own_r16 p0
                        refine own_ucT ?_
                        unfold own_isU
                        simp only [Int32.lt_iff_toInt_lt, own_i_65536, own_i_160, own_i_55295, own_i_63744, own_i_64975, own_i_65008, own_i_65519, own_i_917504, own_i_921599, own_i_983039, own_i_65535, own_i_65533, own_i_917503, own_i_921600, own_i_983037] at hc4 hc10 hc18 hc24 hc32 hc38 hc46 hc75 hc81
                        omega), N0, rfl⟩
              · skip
                refine Go.step (fun _ k => XS.icmpNo X0.here hx rfl (hb hby d2_46) rfl (flt hc46).1 k) ?_
                show Go _ _ _ _ _ _ _ (s₁.setTop (mkF m 49 #[.val (.int p0), .unset] []))
                refine Go.step (fun _ k => XS.iloadN X0.here hx rfl (hb hby d2_49) rfl  k) ?_
                show Go _ _ _ _ _ _ _ (s₁.setTop (mkF m 50 #[.val (.int p0), .unset] [(.int p0)]))
                refine Go.step (X0.ldcInt hx hown (mvT hZ (hw _ (List.mem_of_getElem? (i := 38) rfl))) (g := (mkF m 50 #[.val (.int p0), .unset] [(.int p0)])) rfl (hb hby d2_50)) ?_
                show Go _ _ _ _ _ _ _ (s₁.setTop (mkF m 52 #[.val (.int p0), .unset] [(.int (917503 : Int32)), (.int p0)]))
                by_cases hc52 : (917503 : Int32) < p0
                · skip
                  refine Go.step (fun _ k => XS.icmpYes X0.here hx rfl (pc0 := 52) (pc' := 72) rfl (hb hby d2_52) rfl (tlt hc52).2.2.1 (by decide) (by decide) k) ?_
                  show Go _ _ _ _ _ _ _ (s₁.setTop (mkF m 72 #[.val (.int p0), .unset] []))
                  refine Go.step (fun _ k => XS.iloadN X0.here hx rfl (hb hby d2_72) rfl  k) ?_
                  show Go _ _ _ _ _ _ _ (s₁.setTop (mkF m 73 #[.val (.int p0), .unset] [(.int p0)]))
                  refine Go.step (X0.ldcInt hx hown (mvT hZ (hw _ (List.mem_of_getElem? (i := 12) rfl))) (g := (mkF m 73 #[.val (.int p0), .unset] [(.int p0)])) rfl (hb hby d2_73)) ?_
                  show Go _ _ _ _ _ _ _ (s₁.setTop (mkF m 75 #[.val (.int p0), .unset] [(.int (921600 : Int32)), (.int p0)]))
                  by_cases hc75 : p0 < (921600 : Int32)
                  · skip
                    refine Go.step (fun _ k => XS.icmpYes X0.here hx rfl (pc0 := 75) (pc' := 86) rfl (hb hby d2_75) rfl (tlt hc75).1 (by decide) (by decide) k) ?_
                    show Go _ _ _ _ _ _ _ (s₁.setTop (mkF m 86 #[.val (.int p0), .unset] []))
                    refine Go.step (fun _ k => XS.iconst X0.here hx rfl (hb hby d2_86) k) ?_
                    show Go _ _ _ _ _ _ _ (s₁.setTop (mkF m 87 #[.val (.int p0), .unset] [(.int (0 : Int32))]))
                    refine Go.retN X0 hx (t := .boolean) Bd.returns (by simp) hlk (hb hby d2_87) ?_ (by decide) (by decide)
                    rw [e0]
                    exact ⟨(by
                        have hm := own_m16 p0
                        have hr := own_r16 p0
                        refine own_ucF ?_
                        unfold own_isU
                        simp only [Int32.lt_iff_toInt_lt, own_i_65536, own_i_160, own_i_55295, own_i_63744, own_i_64975, own_i_65008, own_i_65519, own_i_917504, own_i_921599, own_i_983039, own_i_65535, own_i_65533, own_i_917503, own_i_921600, own_i_983037] at hc4 hc10 hc18 hc24 hc32 hc38 hc46 hc52 hc75
                        omega), N0, rfl⟩
                  · skip
                    refine Go.step (fun _ k => XS.icmpNo X0.here hx rfl (hb hby d2_75) rfl (flt hc75).1 k) ?_
                    show Go _ _ _ _ _ _ _ (s₁.setTop (mkF m 78 #[.val (.int p0), .unset] []))
                    refine Go.step (fun _ k => XS.iloadN X0.here hx rfl (hb hby d2_78) rfl  k) ?_
                    show Go _ _ _ _ _ _ _ (s₁.setTop (mkF m 79 #[.val (.int p0), .unset] [(.int p0)]))
                    refine Go.step (X0.ldcInt hx hown (mvT hZ (hw _ (List.mem_of_getElem? (i := 13) rfl))) (g := (mkF m 79 #[.val (.int p0), .unset] [(.int p0)])) rfl (hb hby d2_79)) ?_
                    show Go _ _ _ _ _ _ _ (s₁.setTop (mkF m 81 #[.val (.int p0), .unset] [(.int (983037 : Int32)), (.int p0)]))
                    by_cases hc81 : (983037 : Int32) < p0
                    · skip
                      refine Go.step (fun _ k => XS.icmpYes X0.here hx rfl (pc0 := 81) (pc' := 86) rfl (hb hby d2_81) rfl (tlt hc81).2.2.1 (by decide) (by decide) k) ?_
                      show Go _ _ _ _ _ _ _ (s₁.setTop (mkF m 86 #[.val (.int p0), .unset] []))
                      refine Go.step (fun _ k => XS.iconst X0.here hx rfl (hb hby d2_86) k) ?_
                      show Go _ _ _ _ _ _ _ (s₁.setTop (mkF m 87 #[.val (.int p0), .unset] [(.int (0 : Int32))]))
                      refine Go.retN X0 hx (t := .boolean) Bd.returns (by simp) hlk (hb hby d2_87) ?_ (by decide) (by decide)
                      rw [e0]
                      exact ⟨(by
                          have hm := own_m16 p0
                          have hr := own_r16 p0
                          refine own_ucF ?_
                          unfold own_isU
                          simp only [Int32.lt_iff_toInt_lt, own_i_65536, own_i_160, own_i_55295, own_i_63744, own_i_64975, own_i_65008, own_i_65519, own_i_917504, own_i_921599, own_i_983039, own_i_65535, own_i_65533, own_i_917503, own_i_921600, own_i_983037] at hc4 hc10 hc18 hc24 hc32 hc38 hc46 hc52 hc75 hc81
                          omega), N0, rfl⟩
                    · skip
                      refine Go.step (fun _ k => XS.icmpNo X0.here hx rfl (hb hby d2_81) rfl (flt hc81).2.2.1 k) ?_
                      show Go _ _ _ _ _ _ _ (s₁.setTop (mkF m 84 #[.val (.int p0), .unset] []))
                      refine Go.step (fun _ k => XS.iconst X0.here hx rfl (hb hby d2_84) k) ?_
                      show Go _ _ _ _ _ _ _ (s₁.setTop (mkF m 85 #[.val (.int p0), .unset] [(.int (1 : Int32))]))
                      refine Go.retN X0 hx (t := .boolean) Bd.returns (by simp) hlk (hb hby d2_85) ?_ (by decide) (by decide)
                      rw [e0]
                      exact ⟨(by
                          have hm := own_m16 p0
                          have hr := own_r16 p0
                          refine own_ucT ?_
                          unfold own_isU
                          simp only [Int32.lt_iff_toInt_lt, own_i_65536, own_i_160, own_i_55295, own_i_63744, own_i_64975, own_i_65008, own_i_65519, own_i_917504, own_i_921599, own_i_983039, own_i_65535, own_i_65533, own_i_917503, own_i_921600, own_i_983037] at hc4 hc10 hc18 hc24 hc32 hc38 hc46 hc52 hc75 hc81
                          omega), N0, rfl⟩
                · skip
                  refine Go.step (fun _ k => XS.icmpNo X0.here hx rfl (hb hby d2_52) rfl (flt hc52).2.2.1 k) ?_
                  show Go _ _ _ _ _ _ _ (s₁.setTop (mkF m 55 #[.val (.int p0), .unset] []))
                  refine Go.step (fun _ k => XS.iloadN X0.here hx rfl (hb hby d2_55) rfl  k) ?_
                  show Go _ _ _ _ _ _ _ (s₁.setTop (mkF m 56 #[.val (.int p0), .unset] [(.int p0)]))
                  refine Go.step (X0.ldcInt hx hown (mvT hZ (hw _ (List.mem_of_getElem? (i := 6) rfl))) (g := (mkF m 56 #[.val (.int p0), .unset] [(.int p0)])) rfl (hb hby d2_56)) ?_
                  show Go _ _ _ _ _ _ _ (s₁.setTop (mkF m 58 #[.val (.int p0), .unset] [(.int (65536 : Int32)), (.int p0)]))
                  have nz58 : (65536 : Int32) ≠ 0 := (by decide)
                  refine Go.step (fun _ k => iremM X0 hx rfl (hb hby d2_58) rfl nz58 k) ?_
                  show Go _ _ _ _ _ _ _ (s₁.setTop (mkF m 59 #[.val (.int p0), .unset] [(.int (p0 % (65536 : Int32)))]))
                  refine Go.step (fun _ k => XS.istoreN X0.here hx rfl (hb hby d2_59) rfl (l' := #[.val (.int p0), .val (.int (p0 % (65536 : Int32)))]) rfl k) ?_
                  show Go _ _ _ _ _ _ _ (s₁.setTop (mkF m 60 #[.val (.int p0), .val (.int (p0 % (65536 : Int32)))] []))
                  refine Go.step (fun _ k => XS.iloadN X0.here hx rfl (hb hby d2_60) rfl  k) ?_
                  show Go _ _ _ _ _ _ _ (s₁.setTop (mkF m 61 #[.val (.int p0), .val (.int (p0 % (65536 : Int32)))] [(.int (p0 % (65536 : Int32)))]))
                  refine Go.step (X0.ldcInt hx hown (mvT hZ (hw _ (List.mem_of_getElem? (i := 39) rfl))) (g := (mkF m 61 #[.val (.int p0), .val (.int (p0 % (65536 : Int32)))] [(.int (p0 % (65536 : Int32)))])) rfl (hb hby d2_61)) ?_
                  show Go _ _ _ _ _ _ _ (s₁.setTop (mkF m 63 #[.val (.int p0), .val (.int (p0 % (65536 : Int32)))] [(.int (65533 : Int32)), (.int (p0 % (65536 : Int32)))]))
                  by_cases hc63 : (65533 : Int32) < (p0 % (65536 : Int32))
                  · skip
                    refine Go.step (fun _ k => XS.icmpYes X0.here hx rfl (pc0 := 63) (pc' := 70) rfl (hb hby d2_63) rfl (tlt hc63).2.2.1 (by decide) (by decide) k) ?_
                    show Go _ _ _ _ _ _ _ (s₁.setTop (mkF m 70 #[.val (.int p0), .val (.int (p0 % (65536 : Int32)))] []))
                    refine Go.step (fun _ k => XS.iconst X0.here hx rfl (hb hby d2_70) k) ?_
                    show Go _ _ _ _ _ _ _ (s₁.setTop (mkF m 71 #[.val (.int p0), .val (.int (p0 % (65536 : Int32)))] [(.int (0 : Int32))]))
                    refine Go.retN X0 hx (t := .boolean) Bd.returns (by simp) hlk (hb hby d2_71) ?_ (by decide) (by decide)
                    rw [e0]
                    exact ⟨(by
                        have hm := own_m16 p0
                        have hr := own_r16 p0
                        refine own_ucF ?_
                        unfold own_isU
                        simp only [Int32.lt_iff_toInt_lt, own_i_65536, own_i_160, own_i_55295, own_i_63744, own_i_64975, own_i_65008, own_i_65519, own_i_917504, own_i_921599, own_i_983039, own_i_65535, own_i_65533, own_i_917503, own_i_921600, own_i_983037] at hc4 hc10 hc18 hc24 hc32 hc38 hc46 hc52 hc63
                        omega), N0, rfl⟩
                  · skip
                    refine Go.step (fun _ k => XS.icmpNo X0.here hx rfl (hb hby d2_63) rfl (flt hc63).2.2.1 k) ?_
                    show Go _ _ _ _ _ _ _ (s₁.setTop (mkF m 66 #[.val (.int p0), .val (.int (p0 % (65536 : Int32)))] []))
                    refine Go.step (fun _ k => XS.iconst X0.here hx rfl (hb hby d2_66) k) ?_
                    show Go _ _ _ _ _ _ _ (s₁.setTop (mkF m 67 #[.val (.int p0), .val (.int (p0 % (65536 : Int32)))] [(.int (1 : Int32))]))
                    refine Go.step (fun _ k => XS.goto X0.here hx rfl (pc0 := 67) (pc' := 71) rfl (hb hby d2_67) (by decide) (by decide) k) ?_
                    show Go _ _ _ _ _ _ _ (s₁.setTop (mkF m 71 #[.val (.int p0), .val (.int (p0 % (65536 : Int32)))] [(.int (1 : Int32))]))
                    refine Go.retN X0 hx (t := .boolean) Bd.returns (by simp) hlk (hb hby d2_71) ?_ (by decide) (by decide)
                    rw [e0]
                    exact ⟨(by
                        have hm := own_m16 p0
                        have hr := own_r16 p0
                        refine own_ucT ?_
                        unfold own_isU
                        simp only [Int32.lt_iff_toInt_lt, own_i_65536, own_i_160, own_i_55295, own_i_63744, own_i_64975, own_i_65008, own_i_65519, own_i_917504, own_i_921599, own_i_983039, own_i_65535, own_i_65533, own_i_917503, own_i_921600, own_i_983037] at hc4 hc10 hc18 hc24 hc32 hc38 hc46 hc52 hc63
                        omega), N0, rfl⟩
            · skip
              refine Go.step (fun _ k => XS.icmpNo X0.here hx rfl (hb hby d2_38) rfl (flt hc38).2.2.1 k) ?_
              show Go _ _ _ _ _ _ _ (s₁.setTop (mkF m 41 #[.val (.int p0), .unset] []))
              refine Go.step (fun _ k => XS.iconst X0.here hx rfl (hb hby d2_41) k) ?_
              show Go _ _ _ _ _ _ _ (s₁.setTop (mkF m 42 #[.val (.int p0), .unset] [(.int (1 : Int32))]))
              refine Go.retN X0 hx (t := .boolean) Bd.returns (by simp) hlk (hb hby d2_42) ?_ (by decide) (by decide)
              rw [e0]
              exact ⟨(by
                  have hm := own_m16 p0
                  have hr := own_r16 p0
                  refine own_ucT ?_
                  unfold own_isU
                  simp only [Int32.lt_iff_toInt_lt, own_i_65536, own_i_160, own_i_55295, own_i_63744, own_i_64975, own_i_65008, own_i_65519, own_i_917504, own_i_921599, own_i_983039, own_i_65535, own_i_65533, own_i_917503, own_i_921600, own_i_983037] at hc4 hc10 hc18 hc24 hc32 hc38
                  omega), N0, rfl⟩
        · skip
          refine Go.step (fun _ k => XS.icmpNo X0.here hx rfl (hb hby d2_24) rfl (flt hc24).2.2.1 k) ?_
          show Go _ _ _ _ _ _ _ (s₁.setTop (mkF m 27 #[.val (.int p0), .unset] []))
          refine Go.step (fun _ k => XS.iconst X0.here hx rfl (hb hby d2_27) k) ?_
          show Go _ _ _ _ _ _ _ (s₁.setTop (mkF m 28 #[.val (.int p0), .unset] [(.int (1 : Int32))]))
          refine Go.retN X0 hx (t := .boolean) Bd.returns (by simp) hlk (hb hby d2_28) ?_ (by decide) (by decide)
          rw [e0]
          exact ⟨(by
              have hm := own_m16 p0
              have hr := own_r16 p0
              refine own_ucT ?_
              unfold own_isU
              simp only [Int32.lt_iff_toInt_lt, own_i_65536, own_i_160, own_i_55295, own_i_63744, own_i_64975, own_i_65008, own_i_65519, own_i_917504, own_i_921599, own_i_983039, own_i_65535, own_i_65533, own_i_917503, own_i_921600, own_i_983037] at hc4 hc10 hc18 hc24
              omega), N0, rfl⟩
    · skip
      refine Go.step (fun _ k => XS.icmpNo X0.here hx rfl (hb hby d2_10) rfl (flt hc10).2.2.1 k) ?_
      show Go _ _ _ _ _ _ _ (s₁.setTop (mkF m 13 #[.val (.int p0), .unset] []))
      refine Go.step (fun _ k => XS.iconst X0.here hx rfl (hb hby d2_13) k) ?_
      show Go _ _ _ _ _ _ _ (s₁.setTop (mkF m 14 #[.val (.int p0), .unset] [(.int (1 : Int32))]))
      refine Go.retN X0 hx (t := .boolean) Bd.returns (by simp) hlk (hb hby d2_14) ?_ (by decide) (by decide)
      rw [e0]
      exact ⟨(by
          have hm := own_m16 p0
          have hr := own_r16 p0
          refine own_ucT ?_
          unfold own_isU
          simp only [Int32.lt_iff_toInt_lt, own_i_65536, own_i_160, own_i_55295, own_i_63744, own_i_64975, own_i_65008, own_i_65519, own_i_917504, own_i_921599, own_i_983039, own_i_65535, own_i_65533, own_i_917503, own_i_921600, own_i_983037] at hc4 hc10
          omega), N0, rfl⟩
theorem pd_0 : parseMethodDescriptor "(I)Z" = some ⟨[.int], some .boolean⟩ := by decide +kernel
theorem ef_0 (m : MethodId) (qx : Int32) (qk : Int32) (qd : Int32) : entryFrame m #[(.int qx), (.int qk), (.int qd)] maxLocals = mkF m 0 #[.val (.int qx), .val (.int qk), .val (.int qd), .unset, .unset, .unset] [] := by first | (simp [entryFrame, mkF, argsToLocals, Value.category, maxLocals]; done) | rfl
def Q0 (Z : State) (qx : Int32) (qk : Int32) (qd : Int32) (h0 : Heap) (n0 : Nat) (v : Option Value) (h : Heap) (L : List Loc) : Prop := (v = some (.int 1)) ∧ (Fr n0 L)
set_option maxRecDepth 65536 in
set_option maxHeartbeats 40000000 in
theorem rm0 (l : Launch) (Z : State) (aZ : Array Value) (hw : ∀ d ∈ tables_1, d.before aZ Z = true) (ws : List Jvm.Cond) (qx : Int32) (qk : Int32) (qd : Int32) (h0 : Heap) (n0 : Nat) (Z0 : n0 ≤ h0.size)  :
    MetFree l x (head1 (Jvm.Cond.code x code maxLocals ret :: ws) room_1) (fun a U => a = #[(.int qx), (.int qk), (.int qd)] ∧ Z.Warmed39 U.vm ∧ U.heap = h0) (fun _ _ _ _ _ => True) (fun _ U o U' => ∃ v L, o = .returned v ∧ Q0 Z qx qk qd h0 n0 v U'.heap L ∧ FrameEnd U o U' L 1 20) := by
  refine MetFree.of_bodySF (plainFor_of_name pn_16) hisR ?_
  intro p e s m args below meth c s₁ Bd hml0 hP hK
  obtain ⟨rfl, hZ, hh⟩ := hP
  have hx := Bd.exec
  have hby := Bd.bytes
  have hml : c.maxLocals = 6 := hml0
  have hown : s.vm.findClass "com/example/omniform/omniform/IriCharsIsUcscharPinLaw" = some m.cls := findClass_of_methodNamed Bd.named
  have hnm := (name_of_methodNamed Bd.named Bd.method).1
  have hlk : meth.locks = false := BodyLoose.notSynchronized Bd
  have X0 : Stand p l e room_1 s m #[(.int qx), (.int qk), (.int qd)] below meth c s₁ [] 0 0 := Stand.of_body Bd
  have e0 : s₁.heap = h0 := by rw [← hh, Bd.state]; rfl
  have N0 := Fr.nil n0
  have sq0 : h0.size ≤ h0.size := Nat.le_refl _
  change Go p e below s 1 20 (Q0 Z qx qk qd h0 n0) (s₁.setTop (entryFrame m #[(.int qx), (.int qk), (.int qd)] maxLocals))
  rw [ef_0 m qx qk qd]
  show Go _ _ _ _ _ _ _ (s₁.setTop (mkF m 0 #[.val (.int qx), .val (.int qk), .val (.int qd), .unset, .unset, .unset] []))
  refine Go.step (fun _ k => XS.bipush X0.here hx rfl (hb hby at_0) k) ?_
  show Go _ _ _ _ _ _ _ (s₁.setTop (mkF m 2 #[.val (.int qx), .val (.int qk), .val (.int qd), .unset, .unset, .unset] [(.int (20 : Int32))]))
  have ng1 : ¬ (20 : Int32) < 0 := (by decide)
  have lc1 : ((20 : Int32)).toNatClampNeg ≤ 20 := (by decide)
  obtain ⟨T1, h1, k1, X1, e1, E1, A1, st1⟩ := newP X0 hx hZ (hw _ (List.mem_of_getElem? (i := 0) rfl)) e0 (g := (mkF m 2 #[.val (.int qx), .val (.int qk), .val (.int qd), .unset, .unset, .unset] [(.int (20 : Int32))])) rfl (hb hby at_2) rfl ng1 (cap := 20) lc1 (by decide) (by decide) (by decide)
  obtain ⟨b1, g1⟩ : ∃ z, z = h0.size := ⟨_, rfl⟩
  rw [← g1] at A1 st1
  refine Go.step st1 ?_
  have gn1 : n0 ≤ b1 := Nat.le_trans Z0 (Nat.le_of_eq g1.symm)
  have sz1 : h0.size ≤ b1 := Nat.le_trans sq0 (Nat.le_of_eq g1.symm)
  have z2 : n0 ≤ h1.size := Nat.le_trans Z0 E1.1
  have sqz2 : h0.size ≤ h1.size := Nat.le_trans sq0 E1.1
  have f4 : Ai Z h1 b1 .int (20 : Int32) (fun _ => 0) := Ai.new A1 ng1 rfl
  show Go _ _ _ _ _ _ _ (T1.setTop (mkF m 4 #[.val (.int qx), .val (.int qk), .val (.int qd), .unset, .unset, .unset] [(.ref b1)]))
  refine Go.step (fun _ k => XS.dup X1.here hx rfl (hb hby at_4) rfl rfl k) ?_
  show Go _ _ _ _ _ _ _ (T1.setTop (mkF m 5 #[.val (.int qx), .val (.int qk), .val (.int qd), .unset, .unset, .unset] [(.ref b1), (.ref b1)]))
  refine Go.step (fun _ k => XS.iconst X1.here hx rfl (hb hby at_5) k) ?_
  show Go _ _ _ _ _ _ _ (T1.setTop (mkF m 6 #[.val (.int qx), .val (.int qk), .val (.int qd), .unset, .unset, .unset] [(.int (0 : Int32)), (.ref b1), (.ref b1)]))
  refine Go.step (fun _ k => XS.sipush X1.here hx rfl (hb hby at_6) k) ?_
  show Go _ _ _ _ _ _ _ (T1.setTop (mkF m 9 #[.val (.int qx), .val (.int qk), .val (.int qd), .unset, .unset, .unset] [(.int (160 : Int32)), (.int (0 : Int32)), (.ref b1), (.ref b1)]))
  have lo5 : ¬ (0 : Int32) < 0 := (by decide)
  have hi5 : (0 : Int32) < (20 : Int32) := (by decide)
  obtain ⟨T6, h6, X6, e6, W6, f6, st6⟩ := Ai.stI X1 hx hZ e1 f4 (j := (0 : Int32)) (x := (160 : Int32)) lo5 hi5 (g := (mkF m 9 #[.val (.int qx), .val (.int qk), .val (.int qd), .unset, .unset, .unset] [(.int (160 : Int32)), (.int (0 : Int32)), (.ref b1), (.ref b1)])) rfl rfl (hb hby at_9)
  refine Go.step st6 ?_
  have N6 := Fr.snoc X6 N0 gn1
  have z7 : n0 ≤ h6.size := Nat.le_trans z2 (Keep.of_wr W6).1
  have sqz7 : h0.size ≤ h6.size := Nat.le_trans sqz2 (Keep.of_wr W6).1
  obtain ⟨f9c, qf9c⟩ : ∃ F, F = (fun i => if i = (0 : Int32) then (160 : Int32) else (fun _ => 0) i) := ⟨_, rfl⟩
  rw [← qf9c] at f6
  show Go _ _ _ _ _ _ _ (T6.setTop (mkF m 10 #[.val (.int qx), .val (.int qk), .val (.int qd), .unset, .unset, .unset] [(.ref b1)]))
  refine Go.step (fun _ k => XS.dup X6.here hx rfl (hb hby at_10) rfl rfl k) ?_
  show Go _ _ _ _ _ _ _ (T6.setTop (mkF m 11 #[.val (.int qx), .val (.int qk), .val (.int qd), .unset, .unset, .unset] [(.ref b1), (.ref b1)]))
  refine Go.step (fun _ k => XS.iconst X6.here hx rfl (hb hby at_11) k) ?_
  show Go _ _ _ _ _ _ _ (T6.setTop (mkF m 12 #[.val (.int qx), .val (.int qk), .val (.int qd), .unset, .unset, .unset] [(.int (1 : Int32)), (.ref b1), (.ref b1)]))
  refine Go.step (X6.ldcInt hx hown (mvT hZ (hw _ (List.mem_of_getElem? (i := 1) rfl))) (g := (mkF m 12 #[.val (.int qx), .val (.int qk), .val (.int qd), .unset, .unset, .unset] [(.int (1 : Int32)), (.ref b1), (.ref b1)])) rfl (hb hby at_12)) ?_
  show Go _ _ _ _ _ _ _ (T6.setTop (mkF m 14 #[.val (.int qx), .val (.int qk), .val (.int qd), .unset, .unset, .unset] [(.int (55295 : Int32)), (.int (1 : Int32)), (.ref b1), (.ref b1)]))
  have lo10 : ¬ (1 : Int32) < 0 := (by decide)
  have hi10 : (1 : Int32) < (20 : Int32) := (by decide)
  obtain ⟨T11, h11, X11, e11, W11, f11, st11⟩ := Ai.stI X6 hx hZ e6 f6 (j := (1 : Int32)) (x := (55295 : Int32)) lo10 hi10 (g := (mkF m 14 #[.val (.int qx), .val (.int qk), .val (.int qd), .unset, .unset, .unset] [(.int (55295 : Int32)), (.int (1 : Int32)), (.ref b1), (.ref b1)])) rfl rfl (hb hby at_14)
  refine Go.step st11 ?_
  have N11 := Fr.snoc X11 N6 gn1
  have z12 : n0 ≤ h11.size := Nat.le_trans z7 (Keep.of_wr W11).1
  have sqz12 : h0.size ≤ h11.size := Nat.le_trans sqz7 (Keep.of_wr W11).1
  obtain ⟨f14c, qf14c⟩ : ∃ F, F = (fun i => if i = (1 : Int32) then (55295 : Int32) else f9c i) := ⟨_, rfl⟩
  rw [← qf14c] at f11
  show Go _ _ _ _ _ _ _ (T11.setTop (mkF m 15 #[.val (.int qx), .val (.int qk), .val (.int qd), .unset, .unset, .unset] [(.ref b1)]))
  refine Go.step (fun _ k => XS.dup X11.here hx rfl (hb hby at_15) rfl rfl k) ?_
  show Go _ _ _ _ _ _ _ (T11.setTop (mkF m 16 #[.val (.int qx), .val (.int qk), .val (.int qd), .unset, .unset, .unset] [(.ref b1), (.ref b1)]))
  refine Go.step (fun _ k => XS.iconst X11.here hx rfl (hb hby at_16) k) ?_
  show Go _ _ _ _ _ _ _ (T11.setTop (mkF m 17 #[.val (.int qx), .val (.int qk), .val (.int qd), .unset, .unset, .unset] [(.int (2 : Int32)), (.ref b1), (.ref b1)]))
  refine Go.step (X11.ldcInt hx hown (mvT hZ (hw _ (List.mem_of_getElem? (i := 2) rfl))) (g := (mkF m 17 #[.val (.int qx), .val (.int qk), .val (.int qd), .unset, .unset, .unset] [(.int (2 : Int32)), (.ref b1), (.ref b1)])) rfl (hb hby at_17)) ?_
  show Go _ _ _ _ _ _ _ (T11.setTop (mkF m 19 #[.val (.int qx), .val (.int qk), .val (.int qd), .unset, .unset, .unset] [(.int (63744 : Int32)), (.int (2 : Int32)), (.ref b1), (.ref b1)]))
  have lo15 : ¬ (2 : Int32) < 0 := (by decide)
  have hi15 : (2 : Int32) < (20 : Int32) := (by decide)
  obtain ⟨T16, h16, X16, e16, W16, f16, st16⟩ := Ai.stI X11 hx hZ e11 f11 (j := (2 : Int32)) (x := (63744 : Int32)) lo15 hi15 (g := (mkF m 19 #[.val (.int qx), .val (.int qk), .val (.int qd), .unset, .unset, .unset] [(.int (63744 : Int32)), (.int (2 : Int32)), (.ref b1), (.ref b1)])) rfl rfl (hb hby at_19)
  refine Go.step st16 ?_
  have N16 := Fr.snoc X16 N11 gn1
  have z17 : n0 ≤ h16.size := Nat.le_trans z12 (Keep.of_wr W16).1
  have sqz17 : h0.size ≤ h16.size := Nat.le_trans sqz12 (Keep.of_wr W16).1
  obtain ⟨f19c, qf19c⟩ : ∃ F, F = (fun i => if i = (2 : Int32) then (63744 : Int32) else f14c i) := ⟨_, rfl⟩
  rw [← qf19c] at f16
  show Go _ _ _ _ _ _ _ (T16.setTop (mkF m 20 #[.val (.int qx), .val (.int qk), .val (.int qd), .unset, .unset, .unset] [(.ref b1)]))
  refine Go.step (fun _ k => XS.dup X16.here hx rfl (hb hby at_20) rfl rfl k) ?_
  show Go _ _ _ _ _ _ _ (T16.setTop (mkF m 21 #[.val (.int qx), .val (.int qk), .val (.int qd), .unset, .unset, .unset] [(.ref b1), (.ref b1)]))
  refine Go.step (fun _ k => XS.iconst X16.here hx rfl (hb hby at_21) k) ?_
  show Go _ _ _ _ _ _ _ (T16.setTop (mkF m 22 #[.val (.int qx), .val (.int qk), .val (.int qd), .unset, .unset, .unset] [(.int (3 : Int32)), (.ref b1), (.ref b1)]))
  refine Go.step (X16.ldcInt hx hown (mvT hZ (hw _ (List.mem_of_getElem? (i := 3) rfl))) (g := (mkF m 22 #[.val (.int qx), .val (.int qk), .val (.int qd), .unset, .unset, .unset] [(.int (3 : Int32)), (.ref b1), (.ref b1)])) rfl (hb hby at_22)) ?_
  show Go _ _ _ _ _ _ _ (T16.setTop (mkF m 24 #[.val (.int qx), .val (.int qk), .val (.int qd), .unset, .unset, .unset] [(.int (64975 : Int32)), (.int (3 : Int32)), (.ref b1), (.ref b1)]))
  have lo20 : ¬ (3 : Int32) < 0 := (by decide)
  have hi20 : (3 : Int32) < (20 : Int32) := (by decide)
  obtain ⟨T21, h21, X21, e21, W21, f21, st21⟩ := Ai.stI X16 hx hZ e16 f16 (j := (3 : Int32)) (x := (64975 : Int32)) lo20 hi20 (g := (mkF m 24 #[.val (.int qx), .val (.int qk), .val (.int qd), .unset, .unset, .unset] [(.int (64975 : Int32)), (.int (3 : Int32)), (.ref b1), (.ref b1)])) rfl rfl (hb hby at_24)
  refine Go.step st21 ?_
  have N21 := Fr.snoc X21 N16 gn1
  have z22 : n0 ≤ h21.size := Nat.le_trans z17 (Keep.of_wr W21).1
  have sqz22 : h0.size ≤ h21.size := Nat.le_trans sqz17 (Keep.of_wr W21).1
  obtain ⟨f24c, qf24c⟩ : ∃ F, F = (fun i => if i = (3 : Int32) then (64975 : Int32) else f19c i) := ⟨_, rfl⟩
  rw [← qf24c] at f21
  show Go _ _ _ _ _ _ _ (T21.setTop (mkF m 25 #[.val (.int qx), .val (.int qk), .val (.int qd), .unset, .unset, .unset] [(.ref b1)]))
  refine Go.step (fun _ k => XS.dup X21.here hx rfl (hb hby at_25) rfl rfl k) ?_
  show Go _ _ _ _ _ _ _ (T21.setTop (mkF m 26 #[.val (.int qx), .val (.int qk), .val (.int qd), .unset, .unset, .unset] [(.ref b1), (.ref b1)]))
  refine Go.step (fun _ k => XS.iconst X21.here hx rfl (hb hby at_26) k) ?_
  show Go _ _ _ _ _ _ _ (T21.setTop (mkF m 27 #[.val (.int qx), .val (.int qk), .val (.int qd), .unset, .unset, .unset] [(.int (4 : Int32)), (.ref b1), (.ref b1)]))
  refine Go.step (X21.ldcInt hx hown (mvT hZ (hw _ (List.mem_of_getElem? (i := 4) rfl))) (g := (mkF m 27 #[.val (.int qx), .val (.int qk), .val (.int qd), .unset, .unset, .unset] [(.int (4 : Int32)), (.ref b1), (.ref b1)])) rfl (hb hby at_27)) ?_
  show Go _ _ _ _ _ _ _ (T21.setTop (mkF m 29 #[.val (.int qx), .val (.int qk), .val (.int qd), .unset, .unset, .unset] [(.int (65008 : Int32)), (.int (4 : Int32)), (.ref b1), (.ref b1)]))
  have lo25 : ¬ (4 : Int32) < 0 := (by decide)
  have hi25 : (4 : Int32) < (20 : Int32) := (by decide)
  obtain ⟨T26, h26, X26, e26, W26, f26, st26⟩ := Ai.stI X21 hx hZ e21 f21 (j := (4 : Int32)) (x := (65008 : Int32)) lo25 hi25 (g := (mkF m 29 #[.val (.int qx), .val (.int qk), .val (.int qd), .unset, .unset, .unset] [(.int (65008 : Int32)), (.int (4 : Int32)), (.ref b1), (.ref b1)])) rfl rfl (hb hby at_29)
  refine Go.step st26 ?_
  have N26 := Fr.snoc X26 N21 gn1
  have z27 : n0 ≤ h26.size := Nat.le_trans z22 (Keep.of_wr W26).1
  have sqz27 : h0.size ≤ h26.size := Nat.le_trans sqz22 (Keep.of_wr W26).1
  obtain ⟨f29c, qf29c⟩ : ∃ F, F = (fun i => if i = (4 : Int32) then (65008 : Int32) else f24c i) := ⟨_, rfl⟩
  rw [← qf29c] at f26
  show Go _ _ _ _ _ _ _ (T26.setTop (mkF m 30 #[.val (.int qx), .val (.int qk), .val (.int qd), .unset, .unset, .unset] [(.ref b1)]))
  refine Go.step (fun _ k => XS.dup X26.here hx rfl (hb hby at_30) rfl rfl k) ?_
  show Go _ _ _ _ _ _ _ (T26.setTop (mkF m 31 #[.val (.int qx), .val (.int qk), .val (.int qd), .unset, .unset, .unset] [(.ref b1), (.ref b1)]))
  refine Go.step (fun _ k => XS.iconst X26.here hx rfl (hb hby at_31) k) ?_
  show Go _ _ _ _ _ _ _ (T26.setTop (mkF m 32 #[.val (.int qx), .val (.int qk), .val (.int qd), .unset, .unset, .unset] [(.int (5 : Int32)), (.ref b1), (.ref b1)]))
  refine Go.step (X26.ldcInt hx hown (mvT hZ (hw _ (List.mem_of_getElem? (i := 5) rfl))) (g := (mkF m 32 #[.val (.int qx), .val (.int qk), .val (.int qd), .unset, .unset, .unset] [(.int (5 : Int32)), (.ref b1), (.ref b1)])) rfl (hb hby at_32)) ?_
  show Go _ _ _ _ _ _ _ (T26.setTop (mkF m 34 #[.val (.int qx), .val (.int qk), .val (.int qd), .unset, .unset, .unset] [(.int (65519 : Int32)), (.int (5 : Int32)), (.ref b1), (.ref b1)]))
  have lo30 : ¬ (5 : Int32) < 0 := (by decide)
  have hi30 : (5 : Int32) < (20 : Int32) := (by decide)
  obtain ⟨T31, h31, X31, e31, W31, f31, st31⟩ := Ai.stI X26 hx hZ e26 f26 (j := (5 : Int32)) (x := (65519 : Int32)) lo30 hi30 (g := (mkF m 34 #[.val (.int qx), .val (.int qk), .val (.int qd), .unset, .unset, .unset] [(.int (65519 : Int32)), (.int (5 : Int32)), (.ref b1), (.ref b1)])) rfl rfl (hb hby at_34)
  refine Go.step st31 ?_
  have N31 := Fr.snoc X31 N26 gn1
  have z32 : n0 ≤ h31.size := Nat.le_trans z27 (Keep.of_wr W31).1
  have sqz32 : h0.size ≤ h31.size := Nat.le_trans sqz27 (Keep.of_wr W31).1
  obtain ⟨f34c, qf34c⟩ : ∃ F, F = (fun i => if i = (5 : Int32) then (65519 : Int32) else f29c i) := ⟨_, rfl⟩
  rw [← qf34c] at f31
  show Go _ _ _ _ _ _ _ (T31.setTop (mkF m 35 #[.val (.int qx), .val (.int qk), .val (.int qd), .unset, .unset, .unset] [(.ref b1)]))
  refine Go.step (fun _ k => XS.dup X31.here hx rfl (hb hby at_35) rfl rfl k) ?_
  show Go _ _ _ _ _ _ _ (T31.setTop (mkF m 36 #[.val (.int qx), .val (.int qk), .val (.int qd), .unset, .unset, .unset] [(.ref b1), (.ref b1)]))
  refine Go.step (fun _ k => XS.bipush X31.here hx rfl (hb hby at_36) k) ?_
  show Go _ _ _ _ _ _ _ (T31.setTop (mkF m 38 #[.val (.int qx), .val (.int qk), .val (.int qd), .unset, .unset, .unset] [(.int (6 : Int32)), (.ref b1), (.ref b1)]))
  refine Go.step (X31.ldcInt hx hown (mvT hZ (hw _ (List.mem_of_getElem? (i := 6) rfl))) (g := (mkF m 38 #[.val (.int qx), .val (.int qk), .val (.int qd), .unset, .unset, .unset] [(.int (6 : Int32)), (.ref b1), (.ref b1)])) rfl (hb hby at_38)) ?_
  show Go _ _ _ _ _ _ _ (T31.setTop (mkF m 40 #[.val (.int qx), .val (.int qk), .val (.int qd), .unset, .unset, .unset] [(.int (65536 : Int32)), (.int (6 : Int32)), (.ref b1), (.ref b1)]))
  have lo35 : ¬ (6 : Int32) < 0 := (by decide)
  have hi35 : (6 : Int32) < (20 : Int32) := (by decide)
  obtain ⟨T36, h36, X36, e36, W36, f36, st36⟩ := Ai.stI X31 hx hZ e31 f31 (j := (6 : Int32)) (x := (65536 : Int32)) lo35 hi35 (g := (mkF m 40 #[.val (.int qx), .val (.int qk), .val (.int qd), .unset, .unset, .unset] [(.int (65536 : Int32)), (.int (6 : Int32)), (.ref b1), (.ref b1)])) rfl rfl (hb hby at_40)
  refine Go.step st36 ?_
  have N36 := Fr.snoc X36 N31 gn1
  have z37 : n0 ≤ h36.size := Nat.le_trans z32 (Keep.of_wr W36).1
  have sqz37 : h0.size ≤ h36.size := Nat.le_trans sqz32 (Keep.of_wr W36).1
  obtain ⟨f39c, qf39c⟩ : ∃ F, F = (fun i => if i = (6 : Int32) then (65536 : Int32) else f34c i) := ⟨_, rfl⟩
  rw [← qf39c] at f36
  show Go _ _ _ _ _ _ _ (T36.setTop (mkF m 41 #[.val (.int qx), .val (.int qk), .val (.int qd), .unset, .unset, .unset] [(.ref b1)]))
  refine Go.step (fun _ k => XS.dup X36.here hx rfl (hb hby at_41) rfl rfl k) ?_
  show Go _ _ _ _ _ _ _ (T36.setTop (mkF m 42 #[.val (.int qx), .val (.int qk), .val (.int qd), .unset, .unset, .unset] [(.ref b1), (.ref b1)]))
  refine Go.step (fun _ k => XS.bipush X36.here hx rfl (hb hby at_42) k) ?_
  show Go _ _ _ _ _ _ _ (T36.setTop (mkF m 44 #[.val (.int qx), .val (.int qk), .val (.int qd), .unset, .unset, .unset] [(.int (7 : Int32)), (.ref b1), (.ref b1)]))
  refine Go.step (X36.ldcInt hx hown (mvT hZ (hw _ (List.mem_of_getElem? (i := 7) rfl))) (g := (mkF m 44 #[.val (.int qx), .val (.int qk), .val (.int qd), .unset, .unset, .unset] [(.int (7 : Int32)), (.ref b1), (.ref b1)])) rfl (hb hby at_44)) ?_
  show Go _ _ _ _ _ _ _ (T36.setTop (mkF m 46 #[.val (.int qx), .val (.int qk), .val (.int qd), .unset, .unset, .unset] [(.int (131069 : Int32)), (.int (7 : Int32)), (.ref b1), (.ref b1)]))
  have lo40 : ¬ (7 : Int32) < 0 := (by decide)
  have hi40 : (7 : Int32) < (20 : Int32) := (by decide)
  obtain ⟨T41, h41, X41, e41, W41, f41, st41⟩ := Ai.stI X36 hx hZ e36 f36 (j := (7 : Int32)) (x := (131069 : Int32)) lo40 hi40 (g := (mkF m 46 #[.val (.int qx), .val (.int qk), .val (.int qd), .unset, .unset, .unset] [(.int (131069 : Int32)), (.int (7 : Int32)), (.ref b1), (.ref b1)])) rfl rfl (hb hby at_46)
  refine Go.step st41 ?_
  have N41 := Fr.snoc X41 N36 gn1
  have z42 : n0 ≤ h41.size := Nat.le_trans z37 (Keep.of_wr W41).1
  have sqz42 : h0.size ≤ h41.size := Nat.le_trans sqz37 (Keep.of_wr W41).1
  obtain ⟨f44c, qf44c⟩ : ∃ F, F = (fun i => if i = (7 : Int32) then (131069 : Int32) else f39c i) := ⟨_, rfl⟩
  rw [← qf44c] at f41
  show Go _ _ _ _ _ _ _ (T41.setTop (mkF m 47 #[.val (.int qx), .val (.int qk), .val (.int qd), .unset, .unset, .unset] [(.ref b1)]))
  refine Go.step (fun _ k => XS.dup X41.here hx rfl (hb hby at_47) rfl rfl k) ?_
  show Go _ _ _ _ _ _ _ (T41.setTop (mkF m 48 #[.val (.int qx), .val (.int qk), .val (.int qd), .unset, .unset, .unset] [(.ref b1), (.ref b1)]))
  refine Go.step (fun _ k => XS.bipush X41.here hx rfl (hb hby at_48) k) ?_
  show Go _ _ _ _ _ _ _ (T41.setTop (mkF m 50 #[.val (.int qx), .val (.int qk), .val (.int qd), .unset, .unset, .unset] [(.int (8 : Int32)), (.ref b1), (.ref b1)]))
  refine Go.step (X41.ldcInt hx hown (mvT hZ (hw _ (List.mem_of_getElem? (i := 8) rfl))) (g := (mkF m 50 #[.val (.int qx), .val (.int qk), .val (.int qd), .unset, .unset, .unset] [(.int (8 : Int32)), (.ref b1), (.ref b1)])) rfl (hb hby at_50)) ?_
  show Go _ _ _ _ _ _ _ (T41.setTop (mkF m 52 #[.val (.int qx), .val (.int qk), .val (.int qd), .unset, .unset, .unset] [(.int (196605 : Int32)), (.int (8 : Int32)), (.ref b1), (.ref b1)]))
  have lo45 : ¬ (8 : Int32) < 0 := (by decide)
  have hi45 : (8 : Int32) < (20 : Int32) := (by decide)
  obtain ⟨T46, h46, X46, e46, W46, f46, st46⟩ := Ai.stI X41 hx hZ e41 f41 (j := (8 : Int32)) (x := (196605 : Int32)) lo45 hi45 (g := (mkF m 52 #[.val (.int qx), .val (.int qk), .val (.int qd), .unset, .unset, .unset] [(.int (196605 : Int32)), (.int (8 : Int32)), (.ref b1), (.ref b1)])) rfl rfl (hb hby at_52)
  refine Go.step st46 ?_
  have N46 := Fr.snoc X46 N41 gn1
  have z47 : n0 ≤ h46.size := Nat.le_trans z42 (Keep.of_wr W46).1
  have sqz47 : h0.size ≤ h46.size := Nat.le_trans sqz42 (Keep.of_wr W46).1
  obtain ⟨f49c, qf49c⟩ : ∃ F, F = (fun i => if i = (8 : Int32) then (196605 : Int32) else f44c i) := ⟨_, rfl⟩
  rw [← qf49c] at f46
  show Go _ _ _ _ _ _ _ (T46.setTop (mkF m 53 #[.val (.int qx), .val (.int qk), .val (.int qd), .unset, .unset, .unset] [(.ref b1)]))
  refine Go.step (fun _ k => XS.dup X46.here hx rfl (hb hby at_53) rfl rfl k) ?_
  show Go _ _ _ _ _ _ _ (T46.setTop (mkF m 54 #[.val (.int qx), .val (.int qk), .val (.int qd), .unset, .unset, .unset] [(.ref b1), (.ref b1)]))
  refine Go.step (fun _ k => XS.bipush X46.here hx rfl (hb hby at_54) k) ?_
  show Go _ _ _ _ _ _ _ (T46.setTop (mkF m 56 #[.val (.int qx), .val (.int qk), .val (.int qd), .unset, .unset, .unset] [(.int (9 : Int32)), (.ref b1), (.ref b1)]))
  refine Go.step (X46.ldcInt hx hown (mvT hZ (hw _ (List.mem_of_getElem? (i := 9) rfl))) (g := (mkF m 56 #[.val (.int qx), .val (.int qk), .val (.int qd), .unset, .unset, .unset] [(.int (9 : Int32)), (.ref b1), (.ref b1)])) rfl (hb hby at_56)) ?_
  show Go _ _ _ _ _ _ _ (T46.setTop (mkF m 58 #[.val (.int qx), .val (.int qk), .val (.int qd), .unset, .unset, .unset] [(.int (917501 : Int32)), (.int (9 : Int32)), (.ref b1), (.ref b1)]))
  have lo50 : ¬ (9 : Int32) < 0 := (by decide)
  have hi50 : (9 : Int32) < (20 : Int32) := (by decide)
  obtain ⟨T51, h51, X51, e51, W51, f51, st51⟩ := Ai.stI X46 hx hZ e46 f46 (j := (9 : Int32)) (x := (917501 : Int32)) lo50 hi50 (g := (mkF m 58 #[.val (.int qx), .val (.int qk), .val (.int qd), .unset, .unset, .unset] [(.int (917501 : Int32)), (.int (9 : Int32)), (.ref b1), (.ref b1)])) rfl rfl (hb hby at_58)
  refine Go.step st51 ?_
  have N51 := Fr.snoc X51 N46 gn1
  have z52 : n0 ≤ h51.size := Nat.le_trans z47 (Keep.of_wr W51).1
  have sqz52 : h0.size ≤ h51.size := Nat.le_trans sqz47 (Keep.of_wr W51).1
  obtain ⟨f54c, qf54c⟩ : ∃ F, F = (fun i => if i = (9 : Int32) then (917501 : Int32) else f49c i) := ⟨_, rfl⟩
  rw [← qf54c] at f51
  show Go _ _ _ _ _ _ _ (T51.setTop (mkF m 59 #[.val (.int qx), .val (.int qk), .val (.int qd), .unset, .unset, .unset] [(.ref b1)]))
  refine Go.step (fun _ k => XS.dup X51.here hx rfl (hb hby at_59) rfl rfl k) ?_
  show Go _ _ _ _ _ _ _ (T51.setTop (mkF m 60 #[.val (.int qx), .val (.int qk), .val (.int qd), .unset, .unset, .unset] [(.ref b1), (.ref b1)]))
  refine Go.step (fun _ k => XS.bipush X51.here hx rfl (hb hby at_60) k) ?_
  show Go _ _ _ _ _ _ _ (T51.setTop (mkF m 62 #[.val (.int qx), .val (.int qk), .val (.int qd), .unset, .unset, .unset] [(.int (10 : Int32)), (.ref b1), (.ref b1)]))
  refine Go.step (X51.ldcInt hx hown (mvT hZ (hw _ (List.mem_of_getElem? (i := 10) rfl))) (g := (mkF m 62 #[.val (.int qx), .val (.int qk), .val (.int qd), .unset, .unset, .unset] [(.int (10 : Int32)), (.ref b1), (.ref b1)])) rfl (hb hby at_62)) ?_
  show Go _ _ _ _ _ _ _ (T51.setTop (mkF m 64 #[.val (.int qx), .val (.int qk), .val (.int qd), .unset, .unset, .unset] [(.int (917504 : Int32)), (.int (10 : Int32)), (.ref b1), (.ref b1)]))
  have lo55 : ¬ (10 : Int32) < 0 := (by decide)
  have hi55 : (10 : Int32) < (20 : Int32) := (by decide)
  obtain ⟨T56, h56, X56, e56, W56, f56, st56⟩ := Ai.stI X51 hx hZ e51 f51 (j := (10 : Int32)) (x := (917504 : Int32)) lo55 hi55 (g := (mkF m 64 #[.val (.int qx), .val (.int qk), .val (.int qd), .unset, .unset, .unset] [(.int (917504 : Int32)), (.int (10 : Int32)), (.ref b1), (.ref b1)])) rfl rfl (hb hby at_64)
  refine Go.step st56 ?_
  have N56 := Fr.snoc X56 N51 gn1
  have z57 : n0 ≤ h56.size := Nat.le_trans z52 (Keep.of_wr W56).1
  have sqz57 : h0.size ≤ h56.size := Nat.le_trans sqz52 (Keep.of_wr W56).1
  obtain ⟨f59c, qf59c⟩ : ∃ F, F = (fun i => if i = (10 : Int32) then (917504 : Int32) else f54c i) := ⟨_, rfl⟩
  rw [← qf59c] at f56
  show Go _ _ _ _ _ _ _ (T56.setTop (mkF m 65 #[.val (.int qx), .val (.int qk), .val (.int qd), .unset, .unset, .unset] [(.ref b1)]))
  refine Go.step (fun _ k => XS.dup X56.here hx rfl (hb hby at_65) rfl rfl k) ?_
  show Go _ _ _ _ _ _ _ (T56.setTop (mkF m 66 #[.val (.int qx), .val (.int qk), .val (.int qd), .unset, .unset, .unset] [(.ref b1), (.ref b1)]))
  refine Go.step (fun _ k => XS.bipush X56.here hx rfl (hb hby at_66) k) ?_
  show Go _ _ _ _ _ _ _ (T56.setTop (mkF m 68 #[.val (.int qx), .val (.int qk), .val (.int qd), .unset, .unset, .unset] [(.int (11 : Int32)), (.ref b1), (.ref b1)]))
  refine Go.step (X56.ldcInt hx hown (mvT hZ (hw _ (List.mem_of_getElem? (i := 11) rfl))) (g := (mkF m 68 #[.val (.int qx), .val (.int qk), .val (.int qd), .unset, .unset, .unset] [(.int (11 : Int32)), (.ref b1), (.ref b1)])) rfl (hb hby at_68)) ?_
  show Go _ _ _ _ _ _ _ (T56.setTop (mkF m 70 #[.val (.int qx), .val (.int qk), .val (.int qd), .unset, .unset, .unset] [(.int (921599 : Int32)), (.int (11 : Int32)), (.ref b1), (.ref b1)]))
  have lo60 : ¬ (11 : Int32) < 0 := (by decide)
  have hi60 : (11 : Int32) < (20 : Int32) := (by decide)
  obtain ⟨T61, h61, X61, e61, W61, f61, st61⟩ := Ai.stI X56 hx hZ e56 f56 (j := (11 : Int32)) (x := (921599 : Int32)) lo60 hi60 (g := (mkF m 70 #[.val (.int qx), .val (.int qk), .val (.int qd), .unset, .unset, .unset] [(.int (921599 : Int32)), (.int (11 : Int32)), (.ref b1), (.ref b1)])) rfl rfl (hb hby at_70)
  refine Go.step st61 ?_
  have N61 := Fr.snoc X61 N56 gn1
  have z62 : n0 ≤ h61.size := Nat.le_trans z57 (Keep.of_wr W61).1
  have sqz62 : h0.size ≤ h61.size := Nat.le_trans sqz57 (Keep.of_wr W61).1
  obtain ⟨f64c, qf64c⟩ : ∃ F, F = (fun i => if i = (11 : Int32) then (921599 : Int32) else f59c i) := ⟨_, rfl⟩
  rw [← qf64c] at f61
  show Go _ _ _ _ _ _ _ (T61.setTop (mkF m 71 #[.val (.int qx), .val (.int qk), .val (.int qd), .unset, .unset, .unset] [(.ref b1)]))
  refine Go.step (fun _ k => XS.dup X61.here hx rfl (hb hby at_71) rfl rfl k) ?_
  show Go _ _ _ _ _ _ _ (T61.setTop (mkF m 72 #[.val (.int qx), .val (.int qk), .val (.int qd), .unset, .unset, .unset] [(.ref b1), (.ref b1)]))
  refine Go.step (fun _ k => XS.bipush X61.here hx rfl (hb hby at_72) k) ?_
  show Go _ _ _ _ _ _ _ (T61.setTop (mkF m 74 #[.val (.int qx), .val (.int qk), .val (.int qd), .unset, .unset, .unset] [(.int (12 : Int32)), (.ref b1), (.ref b1)]))
  refine Go.step (X61.ldcInt hx hown (mvT hZ (hw _ (List.mem_of_getElem? (i := 12) rfl))) (g := (mkF m 74 #[.val (.int qx), .val (.int qk), .val (.int qd), .unset, .unset, .unset] [(.int (12 : Int32)), (.ref b1), (.ref b1)])) rfl (hb hby at_74)) ?_
  show Go _ _ _ _ _ _ _ (T61.setTop (mkF m 76 #[.val (.int qx), .val (.int qk), .val (.int qd), .unset, .unset, .unset] [(.int (921600 : Int32)), (.int (12 : Int32)), (.ref b1), (.ref b1)]))
  have lo65 : ¬ (12 : Int32) < 0 := (by decide)
  have hi65 : (12 : Int32) < (20 : Int32) := (by decide)
  obtain ⟨T66, h66, X66, e66, W66, f66, st66⟩ := Ai.stI X61 hx hZ e61 f61 (j := (12 : Int32)) (x := (921600 : Int32)) lo65 hi65 (g := (mkF m 76 #[.val (.int qx), .val (.int qk), .val (.int qd), .unset, .unset, .unset] [(.int (921600 : Int32)), (.int (12 : Int32)), (.ref b1), (.ref b1)])) rfl rfl (hb hby at_76)
  refine Go.step st66 ?_
  have N66 := Fr.snoc X66 N61 gn1
  have z67 : n0 ≤ h66.size := Nat.le_trans z62 (Keep.of_wr W66).1
  have sqz67 : h0.size ≤ h66.size := Nat.le_trans sqz62 (Keep.of_wr W66).1
  obtain ⟨f69c, qf69c⟩ : ∃ F, F = (fun i => if i = (12 : Int32) then (921600 : Int32) else f64c i) := ⟨_, rfl⟩
  rw [← qf69c] at f66
  show Go _ _ _ _ _ _ _ (T66.setTop (mkF m 77 #[.val (.int qx), .val (.int qk), .val (.int qd), .unset, .unset, .unset] [(.ref b1)]))
  refine Go.step (fun _ k => XS.dup X66.here hx rfl (hb hby at_77) rfl rfl k) ?_
  show Go _ _ _ _ _ _ _ (T66.setTop (mkF m 78 #[.val (.int qx), .val (.int qk), .val (.int qd), .unset, .unset, .unset] [(.ref b1), (.ref b1)]))
  refine Go.step (fun _ k => XS.bipush X66.here hx rfl (hb hby at_78) k) ?_
  show Go _ _ _ _ _ _ _ (T66.setTop (mkF m 80 #[.val (.int qx), .val (.int qk), .val (.int qd), .unset, .unset, .unset] [(.int (13 : Int32)), (.ref b1), (.ref b1)]))
  refine Go.step (X66.ldcInt hx hown (mvT hZ (hw _ (List.mem_of_getElem? (i := 13) rfl))) (g := (mkF m 80 #[.val (.int qx), .val (.int qk), .val (.int qd), .unset, .unset, .unset] [(.int (13 : Int32)), (.ref b1), (.ref b1)])) rfl (hb hby at_80)) ?_
  show Go _ _ _ _ _ _ _ (T66.setTop (mkF m 82 #[.val (.int qx), .val (.int qk), .val (.int qd), .unset, .unset, .unset] [(.int (983037 : Int32)), (.int (13 : Int32)), (.ref b1), (.ref b1)]))
  have lo70 : ¬ (13 : Int32) < 0 := (by decide)
  have hi70 : (13 : Int32) < (20 : Int32) := (by decide)
  obtain ⟨T71, h71, X71, e71, W71, f71, st71⟩ := Ai.stI X66 hx hZ e66 f66 (j := (13 : Int32)) (x := (983037 : Int32)) lo70 hi70 (g := (mkF m 82 #[.val (.int qx), .val (.int qk), .val (.int qd), .unset, .unset, .unset] [(.int (983037 : Int32)), (.int (13 : Int32)), (.ref b1), (.ref b1)])) rfl rfl (hb hby at_82)
  refine Go.step st71 ?_
  have N71 := Fr.snoc X71 N66 gn1
  have z72 : n0 ≤ h71.size := Nat.le_trans z67 (Keep.of_wr W71).1
  have sqz72 : h0.size ≤ h71.size := Nat.le_trans sqz67 (Keep.of_wr W71).1
  obtain ⟨f74c, qf74c⟩ : ∃ F, F = (fun i => if i = (13 : Int32) then (983037 : Int32) else f69c i) := ⟨_, rfl⟩
  rw [← qf74c] at f71
  show Go _ _ _ _ _ _ _ (T71.setTop (mkF m 83 #[.val (.int qx), .val (.int qk), .val (.int qd), .unset, .unset, .unset] [(.ref b1)]))
  refine Go.step (fun _ k => XS.dup X71.here hx rfl (hb hby at_83) rfl rfl k) ?_
  show Go _ _ _ _ _ _ _ (T71.setTop (mkF m 84 #[.val (.int qx), .val (.int qk), .val (.int qd), .unset, .unset, .unset] [(.ref b1), (.ref b1)]))
  refine Go.step (fun _ k => XS.bipush X71.here hx rfl (hb hby at_84) k) ?_
  show Go _ _ _ _ _ _ _ (T71.setTop (mkF m 86 #[.val (.int qx), .val (.int qk), .val (.int qd), .unset, .unset, .unset] [(.int (14 : Int32)), (.ref b1), (.ref b1)]))
  refine Go.step (X71.ldcInt hx hown (mvT hZ (hw _ (List.mem_of_getElem? (i := 14) rfl))) (g := (mkF m 86 #[.val (.int qx), .val (.int qk), .val (.int qd), .unset, .unset, .unset] [(.int (14 : Int32)), (.ref b1), (.ref b1)])) rfl (hb hby at_86)) ?_
  show Go _ _ _ _ _ _ _ (T71.setTop (mkF m 88 #[.val (.int qx), .val (.int qk), .val (.int qd), .unset, .unset, .unset] [(.int (983039 : Int32)), (.int (14 : Int32)), (.ref b1), (.ref b1)]))
  have lo75 : ¬ (14 : Int32) < 0 := (by decide)
  have hi75 : (14 : Int32) < (20 : Int32) := (by decide)
  obtain ⟨T76, h76, X76, e76, W76, f76, st76⟩ := Ai.stI X71 hx hZ e71 f71 (j := (14 : Int32)) (x := (983039 : Int32)) lo75 hi75 (g := (mkF m 88 #[.val (.int qx), .val (.int qk), .val (.int qd), .unset, .unset, .unset] [(.int (983039 : Int32)), (.int (14 : Int32)), (.ref b1), (.ref b1)])) rfl rfl (hb hby at_88)
  refine Go.step st76 ?_
  have N76 := Fr.snoc X76 N71 gn1
  have z77 : n0 ≤ h76.size := Nat.le_trans z72 (Keep.of_wr W76).1
  have sqz77 : h0.size ≤ h76.size := Nat.le_trans sqz72 (Keep.of_wr W76).1
  obtain ⟨f79c, qf79c⟩ : ∃ F, F = (fun i => if i = (14 : Int32) then (983039 : Int32) else f74c i) := ⟨_, rfl⟩
  rw [← qf79c] at f76
  show Go _ _ _ _ _ _ _ (T76.setTop (mkF m 89 #[.val (.int qx), .val (.int qk), .val (.int qd), .unset, .unset, .unset] [(.ref b1)]))
  refine Go.step (fun _ k => XS.dup X76.here hx rfl (hb hby at_89) rfl rfl k) ?_
  show Go _ _ _ _ _ _ _ (T76.setTop (mkF m 90 #[.val (.int qx), .val (.int qk), .val (.int qd), .unset, .unset, .unset] [(.ref b1), (.ref b1)]))
  refine Go.step (fun _ k => XS.bipush X76.here hx rfl (hb hby at_90) k) ?_
  show Go _ _ _ _ _ _ _ (T76.setTop (mkF m 92 #[.val (.int qx), .val (.int qk), .val (.int qd), .unset, .unset, .unset] [(.int (15 : Int32)), (.ref b1), (.ref b1)]))
  refine Go.step (X76.ldcInt hx hown (mvT hZ (hw _ (List.mem_of_getElem? (i := 15) rfl))) (g := (mkF m 92 #[.val (.int qx), .val (.int qk), .val (.int qd), .unset, .unset, .unset] [(.int (15 : Int32)), (.ref b1), (.ref b1)])) rfl (hb hby at_92)) ?_
  show Go _ _ _ _ _ _ _ (T76.setTop (mkF m 94 #[.val (.int qx), .val (.int qk), .val (.int qd), .unset, .unset, .unset] [(.int (1114109 : Int32)), (.int (15 : Int32)), (.ref b1), (.ref b1)]))
  have lo80 : ¬ (15 : Int32) < 0 := (by decide)
  have hi80 : (15 : Int32) < (20 : Int32) := (by decide)
  obtain ⟨T81, h81, X81, e81, W81, f81, st81⟩ := Ai.stI X76 hx hZ e76 f76 (j := (15 : Int32)) (x := (1114109 : Int32)) lo80 hi80 (g := (mkF m 94 #[.val (.int qx), .val (.int qk), .val (.int qd), .unset, .unset, .unset] [(.int (1114109 : Int32)), (.int (15 : Int32)), (.ref b1), (.ref b1)])) rfl rfl (hb hby at_94)
  refine Go.step st81 ?_
  have N81 := Fr.snoc X81 N76 gn1
  have z82 : n0 ≤ h81.size := Nat.le_trans z77 (Keep.of_wr W81).1
  have sqz82 : h0.size ≤ h81.size := Nat.le_trans sqz77 (Keep.of_wr W81).1
  obtain ⟨f84c, qf84c⟩ : ∃ F, F = (fun i => if i = (15 : Int32) then (1114109 : Int32) else f79c i) := ⟨_, rfl⟩
  rw [← qf84c] at f81
  show Go _ _ _ _ _ _ _ (T81.setTop (mkF m 95 #[.val (.int qx), .val (.int qk), .val (.int qd), .unset, .unset, .unset] [(.ref b1)]))
  refine Go.step (fun _ k => XS.dup X81.here hx rfl (hb hby at_95) rfl rfl k) ?_
  show Go _ _ _ _ _ _ _ (T81.setTop (mkF m 96 #[.val (.int qx), .val (.int qk), .val (.int qd), .unset, .unset, .unset] [(.ref b1), (.ref b1)]))
  refine Go.step (fun _ k => XS.bipush X81.here hx rfl (hb hby at_96) k) ?_
  show Go _ _ _ _ _ _ _ (T81.setTop (mkF m 98 #[.val (.int qx), .val (.int qk), .val (.int qd), .unset, .unset, .unset] [(.int (16 : Int32)), (.ref b1), (.ref b1)]))
  refine Go.step (fun _ k => XS.iconst X81.here hx rfl (hb hby at_98) k) ?_
  show Go _ _ _ _ _ _ _ (T81.setTop (mkF m 99 #[.val (.int qx), .val (.int qk), .val (.int qd), .unset, .unset, .unset] [(.int (0 : Int32)), (.int (16 : Int32)), (.ref b1), (.ref b1)]))
  have lo85 : ¬ (16 : Int32) < 0 := (by decide)
  have hi85 : (16 : Int32) < (20 : Int32) := (by decide)
  obtain ⟨T86, h86, X86, e86, W86, f86, st86⟩ := Ai.stI X81 hx hZ e81 f81 (j := (16 : Int32)) (x := (0 : Int32)) lo85 hi85 (g := (mkF m 99 #[.val (.int qx), .val (.int qk), .val (.int qd), .unset, .unset, .unset] [(.int (0 : Int32)), (.int (16 : Int32)), (.ref b1), (.ref b1)])) rfl rfl (hb hby at_99)
  refine Go.step st86 ?_
  have N86 := Fr.snoc X86 N81 gn1
  have z87 : n0 ≤ h86.size := Nat.le_trans z82 (Keep.of_wr W86).1
  have sqz87 : h0.size ≤ h86.size := Nat.le_trans sqz82 (Keep.of_wr W86).1
  obtain ⟨f89c, qf89c⟩ : ∃ F, F = (fun i => if i = (16 : Int32) then (0 : Int32) else f84c i) := ⟨_, rfl⟩
  rw [← qf89c] at f86
  show Go _ _ _ _ _ _ _ (T86.setTop (mkF m 100 #[.val (.int qx), .val (.int qk), .val (.int qd), .unset, .unset, .unset] [(.ref b1)]))
  refine Go.step (fun _ k => XS.dup X86.here hx rfl (hb hby at_100) rfl rfl k) ?_
  show Go _ _ _ _ _ _ _ (T86.setTop (mkF m 101 #[.val (.int qx), .val (.int qk), .val (.int qd), .unset, .unset, .unset] [(.ref b1), (.ref b1)]))
  refine Go.step (fun _ k => XS.bipush X86.here hx rfl (hb hby at_101) k) ?_
  show Go _ _ _ _ _ _ _ (T86.setTop (mkF m 103 #[.val (.int qx), .val (.int qk), .val (.int qd), .unset, .unset, .unset] [(.int (17 : Int32)), (.ref b1), (.ref b1)]))
  refine Go.step (X86.ldcInt hx hown (mvT hZ (hw _ (List.mem_of_getElem? (i := 16) rfl))) (g := (mkF m 103 #[.val (.int qx), .val (.int qk), .val (.int qd), .unset, .unset, .unset] [(.int (17 : Int32)), (.ref b1), (.ref b1)])) rfl (hb hby at_103)) ?_
  show Go _ _ _ _ _ _ _ (T86.setTop (mkF m 105 #[.val (.int qx), .val (.int qk), .val (.int qd), .unset, .unset, .unset] [(.int (2147483647 : Int32)), (.int (17 : Int32)), (.ref b1), (.ref b1)]))
  have lo90 : ¬ (17 : Int32) < 0 := (by decide)
  have hi90 : (17 : Int32) < (20 : Int32) := (by decide)
  obtain ⟨T91, h91, X91, e91, W91, f91, st91⟩ := Ai.stI X86 hx hZ e86 f86 (j := (17 : Int32)) (x := (2147483647 : Int32)) lo90 hi90 (g := (mkF m 105 #[.val (.int qx), .val (.int qk), .val (.int qd), .unset, .unset, .unset] [(.int (2147483647 : Int32)), (.int (17 : Int32)), (.ref b1), (.ref b1)])) rfl rfl (hb hby at_105)
  refine Go.step st91 ?_
  have N91 := Fr.snoc X91 N86 gn1
  have z92 : n0 ≤ h91.size := Nat.le_trans z87 (Keep.of_wr W91).1
  have sqz92 : h0.size ≤ h91.size := Nat.le_trans sqz87 (Keep.of_wr W91).1
  obtain ⟨f94c, qf94c⟩ : ∃ F, F = (fun i => if i = (17 : Int32) then (2147483647 : Int32) else f89c i) := ⟨_, rfl⟩
  rw [← qf94c] at f91
  show Go _ _ _ _ _ _ _ (T91.setTop (mkF m 106 #[.val (.int qx), .val (.int qk), .val (.int qd), .unset, .unset, .unset] [(.ref b1)]))
  refine Go.step (fun _ k => XS.dup X91.here hx rfl (hb hby at_106) rfl rfl k) ?_
  show Go _ _ _ _ _ _ _ (T91.setTop (mkF m 107 #[.val (.int qx), .val (.int qk), .val (.int qd), .unset, .unset, .unset] [(.ref b1), (.ref b1)]))
  refine Go.step (fun _ k => XS.bipush X91.here hx rfl (hb hby at_107) k) ?_
  show Go _ _ _ _ _ _ _ (T91.setTop (mkF m 109 #[.val (.int qx), .val (.int qk), .val (.int qd), .unset, .unset, .unset] [(.int (18 : Int32)), (.ref b1), (.ref b1)]))
  refine Go.step (X91.ldcInt hx hown (mvT hZ (hw _ (List.mem_of_getElem? (i := 17) rfl))) (g := (mkF m 109 #[.val (.int qx), .val (.int qk), .val (.int qd), .unset, .unset, .unset] [(.int (18 : Int32)), (.ref b1), (.ref b1)])) rfl (hb hby at_109)) ?_
  show Go _ _ _ _ _ _ _ (T91.setTop (mkF m 111 #[.val (.int qx), .val (.int qk), .val (.int qd), .unset, .unset, .unset] [(.int (-2147483648 : Int32)), (.int (18 : Int32)), (.ref b1), (.ref b1)]))
  have lo95 : ¬ (18 : Int32) < 0 := (by decide)
  have hi95 : (18 : Int32) < (20 : Int32) := (by decide)
  obtain ⟨T96, h96, X96, e96, W96, f96, st96⟩ := Ai.stI X91 hx hZ e91 f91 (j := (18 : Int32)) (x := (-2147483648 : Int32)) lo95 hi95 (g := (mkF m 111 #[.val (.int qx), .val (.int qk), .val (.int qd), .unset, .unset, .unset] [(.int (-2147483648 : Int32)), (.int (18 : Int32)), (.ref b1), (.ref b1)])) rfl rfl (hb hby at_111)
  refine Go.step st96 ?_
  have N96 := Fr.snoc X96 N91 gn1
  have z97 : n0 ≤ h96.size := Nat.le_trans z92 (Keep.of_wr W96).1
  have sqz97 : h0.size ≤ h96.size := Nat.le_trans sqz92 (Keep.of_wr W96).1
  obtain ⟨f99c, qf99c⟩ : ∃ F, F = (fun i => if i = (18 : Int32) then (-2147483648 : Int32) else f94c i) := ⟨_, rfl⟩
  rw [← qf99c] at f96
  show Go _ _ _ _ _ _ _ (T96.setTop (mkF m 112 #[.val (.int qx), .val (.int qk), .val (.int qd), .unset, .unset, .unset] [(.ref b1)]))
  refine Go.step (fun _ k => XS.dup X96.here hx rfl (hb hby at_112) rfl rfl k) ?_
  show Go _ _ _ _ _ _ _ (T96.setTop (mkF m 113 #[.val (.int qx), .val (.int qk), .val (.int qd), .unset, .unset, .unset] [(.ref b1), (.ref b1)]))
  refine Go.step (fun _ k => XS.bipush X96.here hx rfl (hb hby at_113) k) ?_
  show Go _ _ _ _ _ _ _ (T96.setTop (mkF m 115 #[.val (.int qx), .val (.int qk), .val (.int qd), .unset, .unset, .unset] [(.int (19 : Int32)), (.ref b1), (.ref b1)]))
  refine Go.step (X96.ldcInt hx hown (mvT hZ (hw _ (List.mem_of_getElem? (i := 18) rfl))) (g := (mkF m 115 #[.val (.int qx), .val (.int qk), .val (.int qd), .unset, .unset, .unset] [(.int (19 : Int32)), (.ref b1), (.ref b1)])) rfl (hb hby at_115)) ?_
  show Go _ _ _ _ _ _ _ (T96.setTop (mkF m 117 #[.val (.int qx), .val (.int qk), .val (.int qd), .unset, .unset, .unset] [(.int (65535 : Int32)), (.int (19 : Int32)), (.ref b1), (.ref b1)]))
  have lo100 : ¬ (19 : Int32) < 0 := (by decide)
  have hi100 : (19 : Int32) < (20 : Int32) := (by decide)
  obtain ⟨T101, h101, X101, e101, W101, f101, st101⟩ := Ai.stI X96 hx hZ e96 f96 (j := (19 : Int32)) (x := (65535 : Int32)) lo100 hi100 (g := (mkF m 117 #[.val (.int qx), .val (.int qk), .val (.int qd), .unset, .unset, .unset] [(.int (65535 : Int32)), (.int (19 : Int32)), (.ref b1), (.ref b1)])) rfl rfl (hb hby at_117)
  refine Go.step st101 ?_
  have N101 := Fr.snoc X101 N96 gn1
  have z102 : n0 ≤ h101.size := Nat.le_trans z97 (Keep.of_wr W101).1
  have sqz102 : h0.size ≤ h101.size := Nat.le_trans sqz97 (Keep.of_wr W101).1
  obtain ⟨f104c, qf104c⟩ : ∃ F, F = (fun i => if i = (19 : Int32) then (65535 : Int32) else f99c i) := ⟨_, rfl⟩
  rw [← qf104c] at f101
  show Go _ _ _ _ _ _ _ (T101.setTop (mkF m 118 #[.val (.int qx), .val (.int qk), .val (.int qd), .unset, .unset, .unset] [(.ref b1)]))
  refine Go.step (fun _ k => XS.astoreN X101.here hx rfl (hb hby at_118) rfl rfl (l' := #[.val (.int qx), .val (.int qk), .val (.int qd), .val (.ref b1), .unset, .unset]) rfl k) ?_
  show Go _ _ _ _ _ _ _ (T101.setTop (mkF m 119 #[.val (.int qx), .val (.int qk), .val (.int qd), .val (.ref b1), .unset, .unset] []))
  refine Go.step (fun _ k => XS.iloadN X101.here hx rfl (hb hby at_119) rfl  k) ?_
  show Go _ _ _ _ _ _ _ (T101.setTop (mkF m 120 #[.val (.int qx), .val (.int qk), .val (.int qd), .val (.ref b1), .unset, .unset] [(.int qk)]))
  refine Go.step (fun _ k => XS.iconst X101.here hx rfl (hb hby at_120) k) ?_
  show Go _ _ _ _ _ _ _ (T101.setTop (mkF m 121 #[.val (.int qx), .val (.int qk), .val (.int qd), .val (.ref b1), .unset, .unset] [(.int (3 : Int32)), (.int qk)]))
  refine Go.step (fun _ k => XS.iand X101.here hx rfl (hb hby at_121) rfl k) ?_
  show Go _ _ _ _ _ _ _ (T101.setTop (mkF m 122 #[.val (.int qx), .val (.int qk), .val (.int qd), .val (.ref b1), .unset, .unset] [(.int (qk &&& (3 : Int32)))]))
  refine Go.step (fun _ k => XS.istore X101.here hx rfl (hb hby at_122) rfl (l' := #[.val (.int qx), .val (.int qk), .val (.int qd), .val (.ref b1), .val (.int (qk &&& (3 : Int32))), .unset]) rfl k) ?_
  have J178_105 : ∀ (cc : Int32) (TJ105 : State) (locs105 : List Loc) (X105 : Stand p l e room_1 s m #[(.int qx), (.int qk), (.int qd)] below meth c TJ105 locs105 1 20) (e105 : TJ105.heap = h101) (N105 : Fr n0 locs105), Go p e below s 1 20 (Q0 Z qx qk qd h0 n0) (TJ105.setTop (mkF m 178 #[.val (.int qx), .val (.int qk), .val (.int qd), .val (.ref b1), .val (.int (qk &&& (3 : Int32))), .val (.int cc)] [])) := by
    intro cc TJ105 locs105 X105 e105 N105
    show Go _ _ _ _ _ _ _ (TJ105.setTop (mkF m 178 #[.val (.int qx), .val (.int qk), .val (.int qd), .val (.ref b1), .val (.int (qk &&& (3 : Int32))), .val (.int cc)] []))
    refine Go.step (fun _ k => XS.iload X105.here hx rfl (hb hby at_178) rfl  k) ?_
    show Go _ _ _ _ _ _ _ (TJ105.setTop (mkF m 180 #[.val (.int qx), .val (.int qk), .val (.int qd), .val (.ref b1), .val (.int (qk &&& (3 : Int32))), .val (.int cc)] [(.int cc)]))
    obtain ⟨_, _, ⟨T106, L106, k106, n106⟩, -, X106, ⟨Lc106, hQ106, l106, y106, z106⟩, st106⟩ := Jvm.LawKit.callS X105 hx (y := (⟨"com/example/omniform/omniform/IriChars", "isUcschar", "(I)Z"⟩ : MethodName)) hown (mvT hZ (hw _ (List.mem_of_getElem? (i := 20) rfl))) (mvT hZ (hw _ (List.mem_of_getElem? (i := 21) rfl))) (mvT hZ (hw _ (List.mem_of_getElem? (i := 22) rfl))) (mvT hZ (hw _ (List.mem_of_getElem? (i := 23) rfl))) (by decide) (backOf (W := 0) (rm1 l Z aZ hw [] cc h101 n0 z102 ) hZ (hw _ (List.mem_of_getElem? (i := 23) rfl)) (hw _ (List.mem_of_getElem? (i := 22) rfl)) (by decide) (by decide)) (g := (mkF m 180 #[.val (.int qx), .val (.int qk), .val (.int qd), .val (.ref b1), .val (.int (qk &&& (3 : Int32))), .val (.int cc)] [(.int cc)])) rfl (by rw [hml]; rfl) (argsL := [(.int cc)]) (rest := []) (lenOf pd_0 rfl) rfl (by show 2 * 0 + _ ≤ _; exact Nat.le_of_eq rfl) (hb hby at_180) (fun _ _ => ⟨rfl, e105, (by decide : 1 + 0 ≤ _), (by decide : 20 + 0 ≤ _)⟩)
    dsimp only [Pt.U, Pt.locs, Pt.cells, Pt.slots] at X106 l106 y106 z106 st106 hQ106
    subst l106 y106 z106
    obtain ⟨rfl, Nq106, e106⟩ := hQ106
    have N106 := Fr.app N105 Nq106
    refine Go.step st106 ?_
    show Go _ _ _ _ _ _ _ (T106.setTop (mkF m 183 #[.val (.int qx), .val (.int qk), .val (.int qd), .val (.ref b1), .val (.int (qk &&& (3 : Int32))), .val (.int cc)] [(.int (own_uc cc))]))
    refine Go.step (fun _ k => XS.iload X106.here hx rfl (hb hby at_183) rfl  k) ?_
    show Go _ _ _ _ _ _ _ (T106.setTop (mkF m 185 #[.val (.int qx), .val (.int qk), .val (.int qd), .val (.ref b1), .val (.int (qk &&& (3 : Int32))), .val (.int cc)] [(.int cc), (.int (own_uc cc))]))
    obtain ⟨_, _, ⟨T107, L107, k107, n107⟩, -, X107, ⟨Lc107, hQ107, l107, y107, z107⟩, st107⟩ := Jvm.LawKit.callS X106 hx (y := (⟨"com/example/omniform/omniform/IriCharsIsUcscharPinLaw", "ref", "(I)Z"⟩ : MethodName)) hown (mvT hZ (hw _ (List.mem_of_getElem? (i := 30) rfl))) (mvT hZ (hw _ (List.mem_of_getElem? (i := 31) rfl))) (mvT hZ (hw _ (List.mem_of_getElem? (i := 32) rfl))) (mvT hZ (hw _ (List.mem_of_getElem? (i := 33) rfl))) (by decide) (backOf (W := 1) (rm2 l Z aZ hw [] cc h101 n0 z102 ) hZ (hw _ (List.mem_of_getElem? (i := 33) rfl)) (hw _ (List.mem_of_getElem? (i := 32) rfl)) (by decide) (by decide)) (g := (mkF m 185 #[.val (.int qx), .val (.int qk), .val (.int qd), .val (.ref b1), .val (.int (qk &&& (3 : Int32))), .val (.int cc)] [(.int cc), (.int (own_uc cc))])) rfl (by rw [hml]; rfl) (argsL := [(.int cc)]) (rest := [(.int (own_uc cc))]) (lenOf pd_0 rfl) rfl (by show 2 * 0 + _ ≤ _; exact Nat.le_of_eq rfl) (hb hby at_185) (fun _ _ => ⟨rfl, e106, (by decide : 1 + 0 ≤ _), (by decide : 20 + 0 ≤ _)⟩)
    dsimp only [Pt.U, Pt.locs, Pt.cells, Pt.slots] at X107 l107 y107 z107 st107 hQ107
    subst l107 y107 z107
    obtain ⟨rfl, Nq107, e107⟩ := hQ107
    have N107 := Fr.app N106 Nq107
    refine Go.step st107 ?_
    show Go _ _ _ _ _ _ _ (T107.setTop (mkF m 188 #[.val (.int qx), .val (.int qk), .val (.int qd), .val (.ref b1), .val (.int (qk &&& (3 : Int32))), .val (.int cc)] [(.int (own_uc cc)), (.int (own_uc cc))]))
    have hc188 : (own_uc cc) = (own_uc cc) := rfl
    refine Go.step (fun _ k => XS.icmpNo X107.here hx rfl (hb hby at_188) rfl (teq hc188).2 k) ?_
    show Go _ _ _ _ _ _ _ (T107.setTop (mkF m 191 #[.val (.int qx), .val (.int qk), .val (.int qd), .val (.ref b1), .val (.int (qk &&& (3 : Int32))), .val (.int cc)] []))
    refine Go.step (fun _ k => XS.iconst X107.here hx rfl (hb hby at_191) k) ?_
    show Go _ _ _ _ _ _ _ (T107.setTop (mkF m 192 #[.val (.int qx), .val (.int qk), .val (.int qd), .val (.ref b1), .val (.int (qk &&& (3 : Int32))), .val (.int cc)] [(.int (1 : Int32))]))
    refine Go.step (fun _ k => XS.goto X107.here hx rfl (pc0 := 192) (pc' := 196) rfl (hb hby at_192) (by decide) (by decide) k) ?_
    show Go _ _ _ _ _ _ _ (T107.setTop (mkF m 196 #[.val (.int qx), .val (.int qk), .val (.int qd), .val (.ref b1), .val (.int (qk &&& (3 : Int32))), .val (.int cc)] [(.int (1 : Int32))]))
    refine Go.retN X107 hx (t := .boolean) Bd.returns (by simp) hlk (hb hby at_196) ?_ (by decide) (by decide)
    rw [e107]
    exact ⟨(by first | rfl | (simp_all [own_nb1, own_nb0]; done)), N107⟩
  show Go _ _ _ _ _ _ _ (T101.setTop (mkF m 124 #[.val (.int qx), .val (.int qk), .val (.int qd), .val (.ref b1), .val (.int (qk &&& (3 : Int32))), .unset] []))
  refine Go.step (fun _ k => XS.iload X101.here hx rfl (hb hby at_124) rfl  k) ?_
  show Go _ _ _ _ _ _ _ (T101.setTop (mkF m 126 #[.val (.int qx), .val (.int qk), .val (.int qd), .val (.ref b1), .val (.int (qk &&& (3 : Int32))), .unset] [(.int (qk &&& (3 : Int32)))]))
  by_cases hc126 : (qk &&& (3 : Int32)) = (0 : Int32)
  · skip
    refine Go.step (fun _ k => XS.ifNo X101.here hx rfl (hb hby at_126) rfl ((if0 _ _).trans (teq hc126).2) k) ?_
    show Go _ _ _ _ _ _ _ (T101.setTop (mkF m 129 #[.val (.int qx), .val (.int qk), .val (.int qd), .val (.ref b1), .val (.int (qk &&& (3 : Int32))), .unset] []))
    refine Go.step (fun _ k => XS.iloadN X101.here hx rfl (hb hby at_129) rfl  k) ?_
    show Go _ _ _ _ _ _ _ (T101.setTop (mkF m 130 #[.val (.int qx), .val (.int qk), .val (.int qd), .val (.ref b1), .val (.int (qk &&& (3 : Int32))), .unset] [(.int qx)]))
    refine Go.step (fun _ k => XS.istore X101.here hx rfl (hb hby at_130) rfl (l' := #[.val (.int qx), .val (.int qk), .val (.int qd), .val (.ref b1), .val (.int (qk &&& (3 : Int32))), .val (.int qx)]) rfl k) ?_
    show Go _ _ _ _ _ _ _ (T101.setTop (mkF m 132 #[.val (.int qx), .val (.int qk), .val (.int qd), .val (.ref b1), .val (.int (qk &&& (3 : Int32))), .val (.int qx)] []))
    refine Go.step (fun _ k => XS.goto X101.here hx rfl (pc0 := 132) (pc' := 178) rfl (hb hby at_132) (by decide) (by decide) k) ?_
    exact J178_105 qx _ _ X101 e101 N101
  · skip
    refine Go.step (fun _ k => XS.ifYes X101.here hx rfl (pc0 := 126) (pc' := 135) rfl (hb hby at_126) rfl ((if0 _ _).trans (feq hc126).2) (by decide) (by decide) k) ?_
    show Go _ _ _ _ _ _ _ (T101.setTop (mkF m 135 #[.val (.int qx), .val (.int qk), .val (.int qd), .val (.ref b1), .val (.int (qk &&& (3 : Int32))), .unset] []))
    refine Go.step (fun _ k => XS.iload X101.here hx rfl (hb hby at_135) rfl  k) ?_
    show Go _ _ _ _ _ _ _ (T101.setTop (mkF m 137 #[.val (.int qx), .val (.int qk), .val (.int qd), .val (.ref b1), .val (.int (qk &&& (3 : Int32))), .unset] [(.int (qk &&& (3 : Int32)))]))
    refine Go.step (fun _ k => XS.iconst X101.here hx rfl (hb hby at_137) k) ?_
    show Go _ _ _ _ _ _ _ (T101.setTop (mkF m 138 #[.val (.int qx), .val (.int qk), .val (.int qd), .val (.ref b1), .val (.int (qk &&& (3 : Int32))), .unset] [(.int (1 : Int32)), (.int (qk &&& (3 : Int32)))]))
    by_cases hc138 : (qk &&& (3 : Int32)) = (1 : Int32)
    · skip
      refine Go.step (fun _ k => XS.icmpNo X101.here hx rfl (hb hby at_138) rfl (teq hc138).2 k) ?_
      show Go _ _ _ _ _ _ _ (T101.setTop (mkF m 141 #[.val (.int qx), .val (.int qk), .val (.int qd), .val (.ref b1), .val (.int (qk &&& (3 : Int32))), .unset] []))
      refine Go.step (fun _ k => XS.aloadN X101.here hx rfl (hb hby at_141) rfl rfl  k) ?_
      show Go _ _ _ _ _ _ _ (T101.setTop (mkF m 142 #[.val (.int qx), .val (.int qk), .val (.int qd), .val (.ref b1), .val (.int (qk &&& (3 : Int32))), .unset] [(.ref b1)]))
      refine Go.step (fun _ k => XS.iloadN X101.here hx rfl (hb hby at_142) rfl  k) ?_
      show Go _ _ _ _ _ _ _ (T101.setTop (mkF m 143 #[.val (.int qx), .val (.int qk), .val (.int qd), .val (.ref b1), .val (.int (qk &&& (3 : Int32))), .unset] [(.int qk), (.ref b1)]))
      refine Go.step (fun _ k => XS.iconst X101.here hx rfl (hb hby at_143) k) ?_
      show Go _ _ _ _ _ _ _ (T101.setTop (mkF m 144 #[.val (.int qx), .val (.int qk), .val (.int qd), .val (.ref b1), .val (.int (qk &&& (3 : Int32))), .unset] [(.int (2 : Int32)), (.int qk), (.ref b1)]))
      refine Go.step (fun _ k => XS.iushr X101.here hx rfl (hb hby at_144) rfl k) ?_
      show Go _ _ _ _ _ _ _ (T101.setTop (mkF m 145 #[.val (.int qx), .val (.int qk), .val (.int qd), .val (.ref b1), .val (.int (qk &&& (3 : Int32))), .unset] [(.int ((Int32.toUInt32 qk >>> ((2 : Int32) &&& 31).toUInt32).toInt32)), (.ref b1)]))
      refine Go.step (fun _ k => XS.aloadN X101.here hx rfl (hb hby at_145) rfl rfl  k) ?_
      show Go _ _ _ _ _ _ _ (T101.setTop (mkF m 146 #[.val (.int qx), .val (.int qk), .val (.int qd), .val (.ref b1), .val (.int (qk &&& (3 : Int32))), .unset] [(.ref b1), (.int ((Int32.toUInt32 qk >>> ((2 : Int32) &&& 31).toUInt32).toInt32)), (.ref b1)]))
      refine Go.step (Ai.len X101 hx hZ e101 f101 (g := (mkF m 146 #[.val (.int qx), .val (.int qk), .val (.int qd), .val (.ref b1), .val (.int (qk &&& (3 : Int32))), .unset] [(.ref b1), (.int ((Int32.toUInt32 qk >>> ((2 : Int32) &&& 31).toUInt32).toInt32)), (.ref b1)])) rfl rfl (hb hby at_146)) ?_
      show Go _ _ _ _ _ _ _ (T101.setTop (mkF m 147 #[.val (.int qx), .val (.int qk), .val (.int qd), .val (.ref b1), .val (.int (qk &&& (3 : Int32))), .unset] [(.int (20 : Int32)), (.int ((Int32.toUInt32 qk >>> ((2 : Int32) &&& 31).toUInt32).toInt32)), (.ref b1)]))
      have nz147 : (20 : Int32) ≠ 0 := (by decide)
      refine Go.step (fun _ k => iremM X101 hx rfl (hb hby at_147) rfl nz147 k) ?_
      show Go _ _ _ _ _ _ _ (T101.setTop (mkF m 148 #[.val (.int qx), .val (.int qk), .val (.int qd), .val (.ref b1), .val (.int (qk &&& (3 : Int32))), .unset] [(.int (((Int32.toUInt32 qk >>> ((2 : Int32) &&& 31).toUInt32).toInt32) % (20 : Int32))), (.ref b1)]))
      have lo108 : ¬ (((Int32.toUInt32 qk >>> ((2 : Int32) &&& 31).toUInt32).toInt32) % (20 : Int32)) < 0 := (own_idx qk).1
      have hi108 : (((Int32.toUInt32 qk >>> ((2 : Int32) &&& 31).toUInt32).toInt32) % (20 : Int32)) < (20 : Int32) := (own_idx qk).2
      refine Go.step (Ai.iaload X101 hx hZ e101 f101 (j := (((Int32.toUInt32 qk >>> ((2 : Int32) &&& 31).toUInt32).toInt32) % (20 : Int32))) lo108 hi108 (g := (mkF m 148 #[.val (.int qx), .val (.int qk), .val (.int qd), .val (.ref b1), .val (.int (qk &&& (3 : Int32))), .unset] [(.int (((Int32.toUInt32 qk >>> ((2 : Int32) &&& 31).toUInt32).toInt32) % (20 : Int32))), (.ref b1)])) rfl rfl (hb hby at_148)) ?_
      show Go _ _ _ _ _ _ _ (T101.setTop (mkF m 149 #[.val (.int qx), .val (.int qk), .val (.int qd), .val (.ref b1), .val (.int (qk &&& (3 : Int32))), .unset] [(.int (f104c (((Int32.toUInt32 qk >>> ((2 : Int32) &&& 31).toUInt32).toInt32) % (20 : Int32))))]))
      refine Go.step (fun _ k => XS.iloadN X101.here hx rfl (hb hby at_149) rfl  k) ?_
      show Go _ _ _ _ _ _ _ (T101.setTop (mkF m 150 #[.val (.int qx), .val (.int qk), .val (.int qd), .val (.ref b1), .val (.int (qk &&& (3 : Int32))), .unset] [(.int qd), (.int (f104c (((Int32.toUInt32 qk >>> ((2 : Int32) &&& 31).toUInt32).toInt32) % (20 : Int32))))]))
      refine Go.step (fun _ k => XS.iconst X101.here hx rfl (hb hby at_150) k) ?_
      show Go _ _ _ _ _ _ _ (T101.setTop (mkF m 151 #[.val (.int qx), .val (.int qk), .val (.int qd), .val (.ref b1), .val (.int (qk &&& (3 : Int32))), .unset] [(.int (5 : Int32)), (.int qd), (.int (f104c (((Int32.toUInt32 qk >>> ((2 : Int32) &&& 31).toUInt32).toInt32) % (20 : Int32))))]))
      have nz151 : (5 : Int32) ≠ 0 := (by decide)
      refine Go.step (fun _ k => iremM X101 hx rfl (hb hby at_151) rfl nz151 k) ?_
      show Go _ _ _ _ _ _ _ (T101.setTop (mkF m 152 #[.val (.int qx), .val (.int qk), .val (.int qd), .val (.ref b1), .val (.int (qk &&& (3 : Int32))), .unset] [(.int (qd % (5 : Int32))), (.int (f104c (((Int32.toUInt32 qk >>> ((2 : Int32) &&& 31).toUInt32).toInt32) % (20 : Int32))))]))
      refine Go.step (fun _ k => XS.iadd X101.here hx rfl (hb hby at_152) rfl k) ?_
      show Go _ _ _ _ _ _ _ (T101.setTop (mkF m 153 #[.val (.int qx), .val (.int qk), .val (.int qd), .val (.ref b1), .val (.int (qk &&& (3 : Int32))), .unset] [(.int ((f104c (((Int32.toUInt32 qk >>> ((2 : Int32) &&& 31).toUInt32).toInt32) % (20 : Int32))) + (qd % (5 : Int32))))]))
      refine Go.step (fun _ k => XS.istore X101.here hx rfl (hb hby at_153) rfl (l' := #[.val (.int qx), .val (.int qk), .val (.int qd), .val (.ref b1), .val (.int (qk &&& (3 : Int32))), .val (.int ((f104c (((Int32.toUInt32 qk >>> ((2 : Int32) &&& 31).toUInt32).toInt32) % (20 : Int32))) + (qd % (5 : Int32))))]) rfl k) ?_
      show Go _ _ _ _ _ _ _ (T101.setTop (mkF m 155 #[.val (.int qx), .val (.int qk), .val (.int qd), .val (.ref b1), .val (.int (qk &&& (3 : Int32))), .val (.int ((f104c (((Int32.toUInt32 qk >>> ((2 : Int32) &&& 31).toUInt32).toInt32) % (20 : Int32))) + (qd % (5 : Int32))))] []))
      refine Go.step (fun _ k => XS.goto X101.here hx rfl (pc0 := 155) (pc' := 178) rfl (hb hby at_155) (by decide) (by decide) k) ?_
      exact J178_105 ((f104c (((Int32.toUInt32 qk >>> ((2 : Int32) &&& 31).toUInt32).toInt32) % (20 : Int32))) + (qd % (5 : Int32))) _ _ X101 e101 N101
    · skip
      refine Go.step (fun _ k => XS.icmpYes X101.here hx rfl (pc0 := 138) (pc' := 158) rfl (hb hby at_138) rfl (feq hc138).2 (by decide) (by decide) k) ?_
      show Go _ _ _ _ _ _ _ (T101.setTop (mkF m 158 #[.val (.int qx), .val (.int qk), .val (.int qd), .val (.ref b1), .val (.int (qk &&& (3 : Int32))), .unset] []))
      refine Go.step (fun _ k => XS.iloadN X101.here hx rfl (hb hby at_158) rfl  k) ?_
      show Go _ _ _ _ _ _ _ (T101.setTop (mkF m 159 #[.val (.int qx), .val (.int qk), .val (.int qd), .val (.ref b1), .val (.int (qk &&& (3 : Int32))), .unset] [(.int qx)]))
      refine Go.step (X101.ldcInt hx hown (mvT hZ (hw _ (List.mem_of_getElem? (i := 16) rfl))) (g := (mkF m 159 #[.val (.int qx), .val (.int qk), .val (.int qd), .val (.ref b1), .val (.int (qk &&& (3 : Int32))), .unset] [(.int qx)])) rfl (hb hby at_159)) ?_
      show Go _ _ _ _ _ _ _ (T101.setTop (mkF m 161 #[.val (.int qx), .val (.int qk), .val (.int qd), .val (.ref b1), .val (.int (qk &&& (3 : Int32))), .unset] [(.int (2147483647 : Int32)), (.int qx)]))
      refine Go.step (fun _ k => XS.iand X101.here hx rfl (hb hby at_161) rfl k) ?_
      show Go _ _ _ _ _ _ _ (T101.setTop (mkF m 162 #[.val (.int qx), .val (.int qk), .val (.int qd), .val (.ref b1), .val (.int (qk &&& (3 : Int32))), .unset] [(.int (qx &&& (2147483647 : Int32)))]))
      refine Go.step (fun _ k => XS.bipush X101.here hx rfl (hb hby at_162) k) ?_
      show Go _ _ _ _ _ _ _ (T101.setTop (mkF m 164 #[.val (.int qx), .val (.int qk), .val (.int qd), .val (.ref b1), .val (.int (qk &&& (3 : Int32))), .unset] [(.int (18 : Int32)), (.int (qx &&& (2147483647 : Int32)))]))
      have nz164 : (18 : Int32) ≠ 0 := (by decide)
      refine Go.step (fun _ k => iremM X101 hx rfl (hb hby at_164) rfl nz164 k) ?_
      show Go _ _ _ _ _ _ _ (T101.setTop (mkF m 165 #[.val (.int qx), .val (.int qk), .val (.int qd), .val (.ref b1), .val (.int (qk &&& (3 : Int32))), .unset] [(.int ((qx &&& (2147483647 : Int32)) % (18 : Int32)))]))
      refine Go.step (X101.ldcInt hx hown (mvT hZ (hw _ (List.mem_of_getElem? (i := 6) rfl))) (g := (mkF m 165 #[.val (.int qx), .val (.int qk), .val (.int qd), .val (.ref b1), .val (.int (qk &&& (3 : Int32))), .unset] [(.int ((qx &&& (2147483647 : Int32)) % (18 : Int32)))])) rfl (hb hby at_165)) ?_
      show Go _ _ _ _ _ _ _ (T101.setTop (mkF m 167 #[.val (.int qx), .val (.int qk), .val (.int qd), .val (.ref b1), .val (.int (qk &&& (3 : Int32))), .unset] [(.int (65536 : Int32)), (.int ((qx &&& (2147483647 : Int32)) % (18 : Int32)))]))
      refine Go.step (fun _ k => XS.imul X101.here hx rfl (hb hby at_167) rfl k) ?_
      show Go _ _ _ _ _ _ _ (T101.setTop (mkF m 168 #[.val (.int qx), .val (.int qk), .val (.int qd), .val (.ref b1), .val (.int (qk &&& (3 : Int32))), .unset] [(.int (((qx &&& (2147483647 : Int32)) % (18 : Int32)) * (65536 : Int32)))]))
      refine Go.step (X101.ldcInt hx hown (mvT hZ (hw _ (List.mem_of_getElem? (i := 19) rfl))) (g := (mkF m 168 #[.val (.int qx), .val (.int qk), .val (.int qd), .val (.ref b1), .val (.int (qk &&& (3 : Int32))), .unset] [(.int (((qx &&& (2147483647 : Int32)) % (18 : Int32)) * (65536 : Int32)))])) rfl (hb hby at_168)) ?_
      show Go _ _ _ _ _ _ _ (T101.setTop (mkF m 170 #[.val (.int qx), .val (.int qk), .val (.int qd), .val (.ref b1), .val (.int (qk &&& (3 : Int32))), .unset] [(.int (65528 : Int32)), (.int (((qx &&& (2147483647 : Int32)) % (18 : Int32)) * (65536 : Int32)))]))
      refine Go.step (fun _ k => XS.iadd X101.here hx rfl (hb hby at_170) rfl k) ?_
      show Go _ _ _ _ _ _ _ (T101.setTop (mkF m 171 #[.val (.int qx), .val (.int qk), .val (.int qd), .val (.ref b1), .val (.int (qk &&& (3 : Int32))), .unset] [(.int ((((qx &&& (2147483647 : Int32)) % (18 : Int32)) * (65536 : Int32)) + (65528 : Int32)))]))
      refine Go.step (fun _ k => XS.iloadN X101.here hx rfl (hb hby at_171) rfl  k) ?_
      show Go _ _ _ _ _ _ _ (T101.setTop (mkF m 172 #[.val (.int qx), .val (.int qk), .val (.int qd), .val (.ref b1), .val (.int (qk &&& (3 : Int32))), .unset] [(.int qd), (.int ((((qx &&& (2147483647 : Int32)) % (18 : Int32)) * (65536 : Int32)) + (65528 : Int32)))]))
      refine Go.step (fun _ k => XS.bipush X101.here hx rfl (hb hby at_172) k) ?_
      show Go _ _ _ _ _ _ _ (T101.setTop (mkF m 174 #[.val (.int qx), .val (.int qk), .val (.int qd), .val (.ref b1), .val (.int (qk &&& (3 : Int32))), .unset] [(.int (7 : Int32)), (.int qd), (.int ((((qx &&& (2147483647 : Int32)) % (18 : Int32)) * (65536 : Int32)) + (65528 : Int32)))]))
      refine Go.step (fun _ k => XS.iand X101.here hx rfl (hb hby at_174) rfl k) ?_
      show Go _ _ _ _ _ _ _ (T101.setTop (mkF m 175 #[.val (.int qx), .val (.int qk), .val (.int qd), .val (.ref b1), .val (.int (qk &&& (3 : Int32))), .unset] [(.int (qd &&& (7 : Int32))), (.int ((((qx &&& (2147483647 : Int32)) % (18 : Int32)) * (65536 : Int32)) + (65528 : Int32)))]))
      refine Go.step (fun _ k => XS.iadd X101.here hx rfl (hb hby at_175) rfl k) ?_
      show Go _ _ _ _ _ _ _ (T101.setTop (mkF m 176 #[.val (.int qx), .val (.int qk), .val (.int qd), .val (.ref b1), .val (.int (qk &&& (3 : Int32))), .unset] [(.int (((((qx &&& (2147483647 : Int32)) % (18 : Int32)) * (65536 : Int32)) + (65528 : Int32)) + (qd &&& (7 : Int32))))]))
      refine Go.step (fun _ k => XS.istore X101.here hx rfl (hb hby at_176) rfl (l' := #[.val (.int qx), .val (.int qk), .val (.int qd), .val (.ref b1), .val (.int (qk &&& (3 : Int32))), .val (.int (((((qx &&& (2147483647 : Int32)) % (18 : Int32)) * (65536 : Int32)) + (65528 : Int32)) + (qd &&& (7 : Int32))))]) rfl k) ?_
      exact J178_105 (((((qx &&& (2147483647 : Int32)) % (18 : Int32)) * (65536 : Int32)) + (65528 : Int32)) + (qd &&& (7 : Int32))) _ _ X101 e101 N101
set_option maxRecDepth 65536 in
set_option maxHeartbeats 40000000 in
theorem comes_1 {Post : Tables → Env → Array Value → State → Outcome → State → Prop} (hpost : ∀ tb e args s v u, (limb_1_1.after args s (.returned v) u = true ∧ limb_1_2.after args s (.returned v) u = true ∧ True) → FrameEnd s (.returned v) u (Jvm.fieldLocs frame_1_writes args s ++ Jvm.arrayLocs frame_1_arrays args s ++ Jvm.staticLocs frame_1_statics s) 16 128 → Post tb e args s (.returned v) u) :
    ArmFor flags0 classFile x code maxLocals ret World_1 tables_1 room_1 Calls_1 rest_1 Pre_1 Post := by
  intro l hfl _ _ p e ha hc hk s m args below hf hA hF happ hP
  obtain ⟨hcalls, hrest, hpre⟩ := hP
  obtain ⟨-, -, -, hnamed, -, -, -, hat⟩ := (Spec.applies_iff hf).mp happ
  obtain ⟨hg, hn⟩ := and_e (Cond.before_iff.mp (show (Jvm.Cond.and given_1 narrow_1).before args s = true from hpre))
  obtain ⟨g0, r0⟩ := and_e hg
  obtain ⟨a0, r1⟩ := and_e r0
  obtain ⟨a1, r2⟩ := and_e r1
  have a2 := r2
  obtain ⟨w0, w1, w2, rfl⟩ : ∃ w0 w1 w2 : Value, args = #[w0, w1, w2] := by
    have hs : args.size = 3 := by simpa [Cond.value, given_1] using g0
    obtain ⟨L⟩ := args
    match L, hs with
    | [w0, w1, w2], _ => exact ⟨w0, w1, w2, rfl⟩
  have hw := fun d (hd : d ∈ tables_1) => atoms_spec (ws := Jvm.Cond.code x code maxLocals ret :: tables_1) hat d (List.mem_cons_of_mem _ hd)
  have hfit : Fit s := fun {y c} hc i hi => by
    obtain ⟨ha, rfl⟩ := Array.getElem?_eq_some_iff.mp hc
    have q := List.all_eq_true.mp ((Array.all_eq_true_iff_forall_mem.mp hF) _ (Array.getElem_mem ha)) i (List.mem_range.mpr hi)
    simpa [Array.getElem?_eq_getElem hi] using q
  obtain ⟨i0, ei0⟩ := is_v a0
  obtain rfl : w0 = (.int i0) := Option.some.inj ei0
  obtain ⟨i1, ei1⟩ := is_v a1
  obtain rfl : w1 = (.int i1) := Option.some.inj ei1
  obtain ⟨i2, ei2⟩ := is_v a2
  obtain rfl : w2 = (.int i2) := Option.some.inj ei2
  obtain ⟨n, o, h1, h2, h3, _, L, rfl, ⟨rfl, N⟩, hq⟩ := rm0 l s _ hw tables_1 i0 i1 i2  s.heap s.heap.size (Nat.le_refl _)  p e ha hc hk s m _ below hf ((Spec.applies_iff_loose hf).mp happ).1 ⟨rfl, State.Warmed39.refl s, rfl⟩ trivial
  refine ⟨n, _, h1, h2, h3, hpost _ _ _ _ _ _ ⟨Cond.after_iff.mpr rfl, Cond.after_iff.mpr (eq_i res_at (Term.int_eval (1)) rfl), trivial⟩ ⟨hq.1, hq.2.1, (hq.2.2.sift fun y hy => Or.inr (N y hy)).mono (by decide) (by decide)⟩⟩
theorem main_1_1 : Claimed_1_1 := comes_1 fun _ _ _ _ _ _ h hF => ⟨h.1, hF⟩
theorem main_1_2 : Claimed_1_2 := comes_1 fun _ _ _ _ _ _ h hF => ⟨h.2.1, hF⟩
end Jvm.Pilot.@@N@@
namespace Jvm.Pilot.@@N@@
open Jvm Jvm.ClassFile Sem Op Lib Jvm.Free Jvm.Stand Jvm.Pilot.@@N@@.Jvm.D
/-! MADE BY PROGRAM (witnessworld.py) out of the Statement's table words and the real class files: 9 classes; the members and pool entries that the words name. The judged class is class 1, her method 2. -/
namespace start1
open Jvm.ClassFile
def u (s : String) : CpInfo := .utf8 (stringToUtf16 s)
/-- a pool by its gaps: so many unusable entries, then the entry; so many at the end -/
def gap : Nat → List CpInfo → List CpInfo
  | 0, r => r
  | n + 1, r => .unusable :: gap n r
def poolList (es : List (Nat × CpInfo)) (last : Nat) : List CpInfo := es.foldr (fun e r => gap e.1 (e.2 :: r)) (gap last [])
def pool (es : List (Nat × CpInfo)) (last : Nat) : Array CpInfo := ⟨poolList es last⟩
def fileOf (pool : Array CpInfo) (this : Nat) (attrs : Array Attribute := #[]) (ms : Array MethodInfo := #[]) (fl : Nat := 33) (sup : Nat := 0) (ifs : Array Nat := #[]) (fds : Array FieldInfo := #[]) : ClassFile where
  minorVersion := 0
  majorVersion := 65
  constantPool := pool
  accessFlags := fl
  thisClass := this
  superClass := sup
  interfaces := ifs
  fields := fds
  methods := ms
  attributes := attrs
def plain (name : String) (sup : Option ClassId) : Class where
  name := name
  kind := .ordinary
  loader := none
  accessFlags := 33
  super := sup
  interfaces := #[]
  cf := none
  fields := #[]
  methods := #[]
  instanceTypes := #[]
  staticTypes := #[]
  resolved := #[]
  callSites := []
  init := .initialized
  statics := none
  mirror := none

def pool0 : Array CpInfo := pool [(5, u "<init>"), (0, u "()V"), (1, .class_ 10), (1, u "java/lang/Object")] 113

def k0m0 : Method := { name := "<init>", desc := "()V", sig := { parameters := [], returnType := none }, accessFlags := 1, code := none }
/-- java/lang/Object -/
def k0 : Class := { plain "java/lang/Object" none with
  accessFlags := 33
  interfaces := #[]
  cf := some (fileOf pool0 8 #[] #[{ accessFlags := 1, nameIndex := 5, descriptorIndex := 6, attributes := #[] }] 33 0 #[] #[])
  fields := #[]
  methods := #[k0m0]
  instanceTypes := #[]
  staticTypes := #[]
  resolved := Array.replicate 124 none
  statics := none }

def pool1 : Array CpInfo := pool [(2, .class_ 4), (1, u "java/lang/Object"), (0, u "<init>"), (0, u "()V"), (0, .integer 55295), (0, .integer 63744), (0, .integer 64975), (0, .integer 65008), (0, .integer 65519), (0, .integer 65536), (0, .integer 917503), (0, .integer 65533), (0, .integer 921600), (0, .integer 983037), (0, .integer 131069), (0, .integer 196605), (0, .integer 917501), (0, .integer 917504), (0, .integer 921599), (0, .integer 983039), (0, .integer 1114109), (2, .integer 2147483647), (0, .integer 2147483648), (0, .integer 65535), (0, .integer 65528), (0, .methodref 31 32), (0, .class_ 33), (0, .nameAndType 34 35), (0, u "com/example/omniform/omniform/IriChars"), (0, u "isUcschar"), (0, u "(I)Z"), (0, .methodref 37 38), (0, .class_ 39), (0, .nameAndType 40 35), (0, u "com/example/omniform/omniform/IriCharsIsUcscharPinLaw"), (0, u "ref"), (3, u "law"), (0, u "(III)Z")] 4

def k1m0 : Method := { name := "<init>", desc := "()V", sig := { parameters := [], returnType := none }, accessFlags := 2, code := none }
def k1c1 : Code := { maxStack := 2, maxLocals := 2, code := method_2_code, exceptionTable := #[], attributes := #[] }
def k1m1 : Method := { name := "ref", desc := "(I)Z", sig := { parameters := [.int], returnType := some .boolean }, accessFlags := 10, code := some k1c1 }
def k1c2 : Code := { maxStack := 4, maxLocals := 6, code := code, exceptionTable := #[], attributes := #[] }
def k1m2 : Method := { name := "law", desc := "(III)Z", sig := { parameters := [.int, .int, .int], returnType := some .boolean }, accessFlags := 9, code := some k1c2 }
/-- com/example/omniform/omniform/IriCharsIsUcscharPinLaw -/
def k1 : Class := { plain "com/example/omniform/omniform/IriCharsIsUcscharPinLaw" (some 0) with
  accessFlags := 49
  interfaces := #[]
  cf := some (fileOf pool1 37 #[] #[{ accessFlags := 2, nameIndex := 5, descriptorIndex := 6, attributes := #[] }, { accessFlags := 10, nameIndex := 40, descriptorIndex := 35, attributes := #[] }, { accessFlags := 9, nameIndex := 44, descriptorIndex := 45, attributes := #[] }] 49 2 #[] #[])
  fields := #[]
  methods := #[k1m0, k1m1, k1m2]
  instanceTypes := #[]
  staticTypes := #[]
  resolved := Array.replicate 50 none
  statics := none }

def pool2 : Array CpInfo := pool [(2, .class_ 4), (1, u "java/lang/Object"), (0, u "<init>"), (0, u "()V"), (1, .class_ 10), (1, u "com/example/omniform/omniform/IriChars"), (1, u "(I)Z"), (11, u "UNRESERVED_OR_SUB_DELIM"), (0, u "[Z"), (2, u "PATH_ASCII"), (2, u "QUERY_ASCII"), (12, u "isUcschar"), (0, .integer 65536), (0, .integer 55295), (0, .integer 63744), (0, .integer 64975), (0, .integer 65008), (0, .integer 65519), (0, .integer 917504), (0, .integer 921599), (0, .integer 983039), (0, .integer 65535), (0, .integer 65533), (30, u "GEN_DELIMS"), (0, u "Ljava/lang/String;"), (1, u "SUB_DELIMS")] 18

def k2m0 : Method := { name := "<init>", desc := "()V", sig := { parameters := [], returnType := none }, accessFlags := 2, code := none }
def k2c1 : Code := { maxStack := 2, maxLocals := 1, code := prog_14_method_14_code, exceptionTable := #[], attributes := #[] }
def k2m1 : Method := { name := "isUcschar", desc := "(I)Z", sig := { parameters := [.int], returnType := some .boolean }, accessFlags := 8, code := some k2c1 }
/-- com/example/omniform/omniform/IriChars -/
def k2 : Class := { plain "com/example/omniform/omniform/IriChars" (some 0) with
  accessFlags := 48
  interfaces := #[]
  cf := some (fileOf pool2 8 #[] #[{ accessFlags := 2, nameIndex := 5, descriptorIndex := 6, attributes := #[] }, { accessFlags := 8, nameIndex := 44, descriptorIndex := 12, attributes := #[] }] 48 2 #[] #[{ accessFlags := 26, nameIndex := 86, descriptorIndex := 87, attributes := #[] }, { accessFlags := 26, nameIndex := 89, descriptorIndex := 87, attributes := #[] }, { accessFlags := 26, nameIndex := 24, descriptorIndex := 25, attributes := #[] }, { accessFlags := 26, nameIndex := 28, descriptorIndex := 25, attributes := #[] }, { accessFlags := 26, nameIndex := 31, descriptorIndex := 25, attributes := #[] }])
  fields := #[{ name := "GEN_DELIMS", type := (.object "java/lang/String"), accessFlags := 26, slot := 0, constantValue := 0 }, { name := "SUB_DELIMS", type := (.object "java/lang/String"), accessFlags := 26, slot := 1, constantValue := 0 }, { name := "UNRESERVED_OR_SUB_DELIM", type := (.array .boolean), accessFlags := 26, slot := 2, constantValue := 0 }, { name := "PATH_ASCII", type := (.array .boolean), accessFlags := 26, slot := 3, constantValue := 0 }, { name := "QUERY_ASCII", type := (.array .boolean), accessFlags := 26, slot := 4, constantValue := 0 }]
  methods := #[k2m0, k2m1]
  instanceTypes := #[]
  staticTypes := #[(.object "java/lang/String"), (.object "java/lang/String"), (.array .boolean), (.array .boolean), (.array .boolean)]
  resolved := Array.replicate 108 none
  statics := none }

def pool3 : Array CpInfo := pool [(1, u "java/lang/Cloneable"), (0, .class_ 1), (0, u "java/lang/Object"), (0, .class_ 3)] 3

/-- java/lang/Cloneable -/
def k3 : Class := { plain "java/lang/Cloneable" (some 0) with
  accessFlags := 1537
  interfaces := #[]
  cf := some (fileOf pool3 2 #[] #[] 1537 4 #[] #[])
  fields := #[]
  methods := #[]
  instanceTypes := #[]
  staticTypes := #[]
  resolved := Array.replicate 8 none
  statics := none }

def pool4 : Array CpInfo := pool [(1, u "java/io/Serializable"), (0, .class_ 1), (0, u "java/lang/Object"), (0, .class_ 3)] 3

/-- java/io/Serializable -/
def k4 : Class := { plain "java/io/Serializable" (some 0) with
  accessFlags := 1537
  interfaces := #[]
  cf := some (fileOf pool4 2 #[] #[] 1537 4 #[] #[])
  fields := #[]
  methods := #[]
  instanceTypes := #[]
  staticTypes := #[]
  resolved := Array.replicate 8 none
  statics := none }

/-- the primitive byte -/
def k5 : Class := { plain "byte" none with kind := .primitive 'B', accessFlags := 0x411 }
/-- [B -/
def k6 : Class := { plain "[B" (some 0) with kind := .array 5 .byte, interfaces := #[3, 4], accessFlags := 1041 }

/-- the primitive int -/
def k7 : Class := { plain "int" none with kind := .primitive 'I', accessFlags := 0x411 }
/-- [I -/
def k8 : Class := { plain "[I" (some 0) with kind := .array 7 .int, interfaces := #[3, 4], accessFlags := 1041 }

def heap : Heap := #[]
def classes : Array Class := #[k0, k1, k2, k3, k4, k5, k6, k7, k8]
def interned : List (Array UInt16 × Addr) := []
def slotsUsed : Nat := 0
def theMethod : MethodId := ⟨1, 2⟩
def args0 : Array Value := #[.int 5, .int 3, .int 1]
def aboutOver (below : List Frame) : State where
  vm := { classes := classes, interned := interned.toArray }
  heap := heap
  slotsUsed := slotsUsed
  threads := #[{ frames := .invoking theMethod args0 :: below }]
def below0 : List Frame := [.native { method := ⟨0, 0⟩, args := #[] }]
def about1 : State := aboutOver below0
def p0 : Program := .bare "" "" ""
def e0 : Env := launch0.env 0 0 0
theorem w_frames : about1.frames = Frame.invoking theMethod args0 :: below0 := rfl
set_option maxRecDepth 65536 in
theorem w_args : argsFit about1.vm theMethod args0 = true := by decide +kernel
set_option maxRecDepth 65536 in
theorem w_heap : heapFits about1 = true := by decide +kernel
set_option maxRecDepth 65536 in
theorem w_runnable : about1.curStatus? = some .runnable := by decide +kernel
set_option maxRecDepth 65536 in
theorem w_alone : about1.alone = true := by decide +kernel
set_option maxRecDepth 65536 in
theorem w_named : about1.methodNamed? x = some theMethod := by decide +kernel
set_option maxRecDepth 65536 in
theorem w_hears : about1.hears theMethod below0 = true := by decide +kernel
set_option maxRecDepth 65536 in
theorem w_ripe : about1.ripe theMethod args0 below0 = true := by decide +kernel
theorem w_running : about1.status = .running := rfl
set_option maxRecDepth 65536 in
theorem w_room : about1.hasRoom e0.platform room_1 = true :=
  launch0.hasRoom_least _ room_1 (by decide +kernel) (by decide +kernel) (by decide +kernel) (by decide +kernel) (by decide +kernel) (by decide +kernel)
theorem allAtoms_all (ts : List Jvm.Cond) (a : Array Jvm.Value) (st : Jvm.State) : (allAtoms ts).before a st = ts.all (fun c => c.before a st) := by
  induction ts with
  | nil => rfl
  | cons c t ih =>
    show (Jvm.Cond.and c (allAtoms t)).before a st = _
    rw [Jvm.Cond.before_and, ih, List.all_cons]
def words1 : List Jvm.Cond := Jvm.Cond.code x code maxLocals ret :: tables_1
/-- a 'code' word, met by the world's own term for the bytes: nothing is compared byte by byte -/
theorem code_word {y : MethodName} {bytes : ByteArray} {mx : Nat} {rt : Option FieldType} {a : Array Value} {s : State} {m : MethodId} {meth : Method} {c : Code} (h1 : s.methodNamed? y = some m) (h2 : s.vm.method? m = some meth) (h3 : meth.code = some c) (h4 : c.code = bytes)
    (h5 : (c.maxLocals == mx && c.exceptionTable.isEmpty && decide (c.maxStack ≤ mostOperands) && decide (meth.sig.returnType = rt) && !meth.locks && decide (parseMethodDescriptor y.desc = some meth.sig)) = true) : (Jvm.Cond.code y bytes mx rt).before a s = true := by
  simp only [Bool.and_eq_true, beq_iff_eq, Bool.not_eq_true', decide_eq_true_eq] at h5
  obtain ⟨⟨⟨⟨⟨g1, g2⟩, g3⟩, g4⟩, g5⟩, g6⟩ := h5
  simp [Cond.before, Cond.holds, Cond.value, h1, h2, h3, h4, g1, g2, g3, g4, g5, g6]
def isCode : Jvm.Cond → Bool
  | .code _ _ _ _ => true
  | _ => false
theorem all_split {L : List Jvm.Cond} {P : Jvm.Cond → Bool} (h1 : L.all (fun c => isCode c || P c) = true) (h2 : ∀ c ∈ L.filter isCode, P c = true) : L.all P = true := by
  refine List.all_eq_true.mpr fun c hc => ?_
  have h := List.all_eq_true.mp h1 c hc
  rcases Bool.eq_false_or_eq_true (isCode c) with hi | hi
  · exact h2 c (List.mem_filter.mpr ⟨hc, hi⟩)
  · simpa [hi] using h
set_option maxRecDepth 65536 in
theorem w_c0 : (Jvm.Cond.code x code maxLocals ret).before args0 about1 = true := code_word (m := ⟨1, 2⟩) (meth := k1m2) (c := k1c2) (by decide +kernel) rfl rfl rfl (by decide +kernel)
set_option maxRecDepth 65536 in
theorem w_c1 : (Jvm.Cond.code ({ cls := "com/example/omniform/omniform/IriChars", name := "isUcschar", desc := "(I)Z" } : Jvm.MethodName) prog_14_method_14_code (1 : Nat) (Option.some Jvm.ClassFile.FieldType.boolean)).before args0 about1 = true := code_word (m := ⟨2, 1⟩) (meth := k2m1) (c := k2c1) (by decide +kernel) rfl rfl rfl (by decide +kernel)
set_option maxRecDepth 65536 in
theorem w_c2 : (Jvm.Cond.code ({ cls := "com/example/omniform/omniform/IriCharsIsUcscharPinLaw", name := "ref", desc := "(I)Z" } : Jvm.MethodName) method_2_code (2 : Nat) (Option.some Jvm.ClassFile.FieldType.boolean)).before args0 about1 = true := code_word (m := ⟨1, 1⟩) (meth := k1m1) (c := k1c1) (by decide +kernel) rfl rfl rfl (by decide +kernel)
def codes1 : List Jvm.Cond := [Jvm.Cond.code x code maxLocals ret, Jvm.Cond.code ({ cls := "com/example/omniform/omniform/IriChars", name := "isUcschar", desc := "(I)Z" } : Jvm.MethodName) prog_14_method_14_code (1 : Nat) (Option.some Jvm.ClassFile.FieldType.boolean), Jvm.Cond.code ({ cls := "com/example/omniform/omniform/IriCharsIsUcscharPinLaw", name := "ref", desc := "(I)Z" } : Jvm.MethodName) method_2_code (2 : Nat) (Option.some Jvm.ClassFile.FieldType.boolean)]
set_option maxRecDepth 65536 in
theorem codes_eq : words1.filter isCode = codes1 := rfl
theorem w_codes : ∀ c ∈ words1.filter isCode, c.before args0 about1 = true := by
  rw [codes_eq]
  intro c hc
  simp only [codes1, List.mem_cons, List.not_mem_nil, or_false] at hc
  rcases hc with rfl | rfl | rfl
  · exact w_c0
  · exact w_c1
  · exact w_c2
set_option maxRecDepth 65536 in
theorem w_t1 : (words1.take 24).all (fun c => isCode c || c.before args0 about1) = true := by decide +kernel
set_option maxRecDepth 65536 in
theorem w_t2 : (words1.drop 24).all (fun c => isCode c || c.before args0 about1) = true := by decide +kernel
theorem w_tables : (allAtoms (Jvm.Cond.code x code maxLocals ret :: tables_1)).before args0 about1 = true := by
  rw [allAtoms_all]
  show words1.all (fun c => c.before args0 about1) = true
  refine all_split ?_ w_codes
  rw [← List.take_append_drop 24 words1, List.all_append, w_t1, w_t2]
  rfl
set_option maxRecDepth 65536 in
theorem w_case : (Jvm.Cond.and given_1 narrow_1).before args0 about1 = true := by decide +kernel
theorem w_applies : (headSpec (Jvm.Cond.code x code maxLocals ret :: tables_1) room_1).applies x e0.platform about1 = true :=
  (Spec.applies_iff w_frames).mpr ⟨w_running, w_runnable, w_alone, w_named, w_hears, w_ripe, w_room, w_tables⟩
theorem atStart : AtStart classFile x code maxLocals ret World_1 tables_1 room_1 Calls_1 rest_1 Pre_1 launch0 p0 e0 about1 theMethod args0 below0 :=
  ⟨lists_1, trivial, launch0.admits_env _ _ _, launch0.least_env, fairChoices_fair.cas, fairChoices_fair.clock, w_frames, w_args, w_heap, w_applies, trivial, trivial, w_case⟩
end start1
theorem witness_1 : WitnessClaimed_1 := ⟨start1.p0, start1.e0, start1.about1, start1.theMethod, start1.args0, start1.below0, start1.atStart⟩
end Jvm.Pilot.@@N@@
