import JvmDerived
import JvmDerived.Pilot.@@N@@Statement
import JvmDerived.Pilot.@@N@@Code
set_option linter.unusedVariables false
set_option linter.unusedSimpArgs false
namespace Jvm.Pilot.@@N@@
open Jvm Jvm.ClassFile Sem Op Lib Jvm.Free Jvm.Stand Jvm.LawKit Jvm.RoadKit Bundle Jvm.Pilot.@@N@@.Jvm.D
section Own
variable {p : Program} {l : Launch} {e : Env} {R : Room} {s : State} {m : MethodId} {args : Array Value} {below : List Frame} {meth : Method} {c : Code} {T : State} {locs : List Loc} {cells slots : Nat} {C N : Nat} {Q : Option Value → Heap → List Loc → Prop} {S S' : State} {Z : State} {h h' : Heap}
/-- from the state S the invocation ends in a return, and Q holds there -/
def Go (p : Program) (e : Env) (below : List Frame) (s : State) (C N : Nat) (Q : Option Value → Heap → List Loc → Prop) (S : State) : Prop :=
  ∃ s₂ o, Steps p.tables e below S s₂ ∧ s₂.status = .running ∧ Ended s₂ below o ∧ ∃ v L, o = .returned v ∧ Q v s₂.heap L ∧ FrameEnd s o s₂ L C N
theorem Go.step (st : ∀ t, Steps p.tables e below S' t → Steps p.tables e below S t) (G : Go p e below s C N Q S') : Go p e below s C N Q S := by
  obtain ⟨s₂, o, h, r⟩ := G
  exact ⟨s₂, o, st _ h, r⟩
theorem Go.tr (st : Steps p.tables e below S S') (G : Go p e below s C N Q S') : Go p e below s C N Q S := by
  obtain ⟨s₂, o, h, r⟩ := G
  exact ⟨s₂, o, st.trans h, r⟩
theorem Go.out (X : Stand p l e R s m args below meth c T locs cells slots) {v : Option Value} {g : JFrame} (hv : meth.sig.returnType = none → v = none) (hlk : meth.locks = false)
    (hst : ∀ fs, (∀ (f : JFrame) (acts : List Action), f.method = m → f.locked = none → f.entered = [] → (doReturn e (T.setTop f) acts v).1 = T.setFrames fs) → Steps p.tables e below (T.setTop g) (T.setFrames fs))
    (hQ : Q v T.heap locs) (hc : cells ≤ C) (hn : slots ≤ N) : Go p e below s C N Q (T.setTop g) := by
  obtain ⟨fs, hr, hrun, hended, hW, hsame⟩ := X.leave (v := v) hv hlk
  exact ⟨_, _, hst fs hr, hrun, hended, _, _, rfl, hQ, ⟨_, rfl⟩, hW, hsame.mono hc hn⟩
theorem Go.retV (X : Stand p l e R s m args below meth c T locs cells slots) (hx : p.tables.exec = Jvm.exec) {pc : Nat} {Ls : Array Slot} (hret : meth.sig.returnType = none) (hlk : meth.locks = false) (hd : decode c.code pc = .ok (.return_, 1))
    (hQ : Q none T.heap locs) (hc : cells ≤ C) (hn : slots ≤ N) : Go p e below s C N Q (T.setTop (mkF m pc Ls [])) :=
  Go.out X (fun _ => rfl) hlk (fun fs hr => X.returnOut hx hret hd hr) hQ hc hn
theorem Go.retI (X : Stand p l e R s m args below meth c T locs cells slots) (hx : p.tables.exec = Jvm.exec) {pc : Nat} {Ls : Array Slot} {z : Int32} {rest : List Value} (hret : meth.sig.returnType = some .int) (hlk : meth.locks = false) (hd : decode c.code pc = .ok (.ireturn, 1))
    (hQ : Q (some (.int z)) T.heap locs) (hc : cells ≤ C) (hn : slots ≤ N) : Go p e below s C N Q (T.setTop (mkF m pc Ls (.int z :: rest))) :=
  Go.out X (fun h => by rw [hret] at h; cases h) hlk (fun fs hr => retOut X hx hret rfl (Or.inl ⟨rfl, Or.inl rfl, z, rfl⟩) hd hr) hQ hc hn
theorem Go.retN (X : Stand p l e R s m args below meth c T locs cells slots) (hx : p.tables.exec = Jvm.exec) {pc : Nat} {Ls : Array Slot} {z : Int32} {t : FieldType} {rest : List Value} (hret : meth.sig.returnType = some t) (ht : t = .boolean ∨ t = .byte ∨ t = .char ∨ t = .short) (hlk : meth.locks = false) (hd : decode c.code pc = .ok (.ireturn, 1))
    (hQ : Q (some (.int (nar t z))) T.heap locs) (hc : cells ≤ C) (hn : slots ≤ N) : Go p e below s C N Q (T.setTop (mkF m pc Ls (.int z :: rest))) :=
  Go.out X (fun h => by rw [hret] at h; cases h) hlk (fun fs hr => Jvm.RoadKit.retN X hx hret ht hd hr) hQ hc hn
theorem Go.retJ (X : Stand p l e R s m args below meth c T locs cells slots) (hx : p.tables.exec = Jvm.exec) {pc : Nat} {Ls : Array Slot} {z : Int64} {rest : List Value} (hret : meth.sig.returnType = some .long) (hlk : meth.locks = false) (hd : decode c.code pc = .ok (.lreturn, 1))
    (hQ : Q (some (.long z)) T.heap locs) (hc : cells ≤ C) (hn : slots ≤ N) : Go p e below s C N Q (T.setTop (mkF m pc Ls (.long z :: rest))) :=
  Go.out X (fun h => by rw [hret] at h; cases h) hlk (fun fs hr => retOut X hx hret rfl (Or.inr (Or.inl ⟨rfl, rfl, z, rfl⟩)) hd hr) hQ hc hn
theorem Go.retA (X : Stand p l e R s m args below meth c T locs cells slots) (hx : p.tables.exec = Jvm.exec) {pc : Nat} {Ls : Array Slot} {w : Value} {t : FieldType} {rest : List Value} (hret : meth.sig.returnType = some t) (ht : t.isReference = true) (hw : w.isRef = true) (hlk : meth.locks = false) (hd : decode c.code pc = .ok (.areturn, 1))
    (hQ : Q (some w) T.heap locs) (hc : cells ≤ C) (hn : slots ≤ N) : Go p e below s C N Q (T.setTop (mkF m pc Ls (w :: rest))) :=
  Go.out X (fun h => by rw [hret] at h; cases h) hlk (fun fs hr => retOut X hx hret (by rcases ref_cases hw with rfl | ⟨a, rfl⟩ <;> cases t <;> first | rfl | cases ht) (Or.inr (Or.inr (Or.inr (Or.inr ⟨rfl, ht, hw⟩)))) hd hr) hQ hc hn
/-- an array of ints, bytes ..: z places, the j-th holds f j -/
def Ai (Z : State) (h : Heap) (a : Addr) (ty : FieldType) (z : Int32) (f : Int32 → Int32) : Prop :=
  ∃ c : Cell, Arr Z h a c ty ∧ c.slots.size = z.toNatClampNeg ∧ ¬ z < 0 ∧ ∀ j : Int32, ¬ j < 0 → j < z → c.slots[j.toNatClampNeg]? = some (.int (f j))
theorem own_inb {cl : Cell} {z j : Int32} (S : cl.slots.size = z.toNatClampNeg) (h0 : ¬ j < 0) (h1 : j < z) : ¬ (j < 0 ∨ cl.slots.size ≤ j.toNatClampNeg) := inb_of S ⟨h0, h1⟩
theorem Ai.lt {a : Addr} {ty : FieldType} {z : Int32} {f : Int32 → Int32} (F : Ai Z h a ty z f) : a < h.size := by obtain ⟨c, A, -⟩ := F; exact A.lt
theorem Ai.nn {a : Addr} {ty : FieldType} {z : Int32} {f : Int32 → Int32} (F : Ai Z h a ty z f) : ¬ z < 0 := by obtain ⟨c, -, -, q, -⟩ := F; exact q
theorem Ai.ext {a : Addr} {ty : FieldType} {z : Int32} {f : Int32 → Int32} (F : Ai Z h a ty z f) (E : Ext h h') : Ai Z h' a ty z f := by obtain ⟨c, A, r⟩ := F; exact ⟨c, A.ext E, r⟩
theorem Ai.other {a b : Addr} {sl : Nat} {v : Value} {ty : FieldType} {z : Int32} {f : Int32 → Int32} (F : Ai Z h b ty z f) (W : Wr h h' a sl v) (q : b ≠ a) : Ai Z h' b ty z f := by obtain ⟨c, A, r⟩ := F; exact ⟨c, A.other W q, r⟩
theorem Ai.keep {a : Addr} {ws : List Addr} {ty : FieldType} {z : Int32} {f : Int32 → Int32} (F : Ai Z h a ty z f) (K : Keep h h' ws) (q : a ∉ ws) : Ai Z h' a ty z f := by obtain ⟨c, A, r⟩ := F; exact ⟨c, ⟨K.2.1 a c A.1 q, A.2⟩, r⟩
theorem Ai.new {a : Addr} {k : ClassId} {ty : FieldType} {z : Int32} (A : Arr Z h a (newA k ty z) ty) (q : ¬ z < 0) (hd : defaultValue ty = .int 0) : Ai Z h a ty z (fun _ => 0) :=
  ⟨_, A, sz_new _ _ _, q, fun j h0 h1 => by rw [get_new (sz_new k ty z ▸ own_inb (sz_new k ty z) h0 h1), hd]⟩
theorem Ai.eqf {a : Addr} {ty : FieldType} {z : Int32} {f g : Int32 → Int32} (F : Ai Z h a ty z f) (q : ∀ j : Int32, ¬ j < 0 → j < z → f j = g j) : Ai Z h a ty z g := by
  obtain ⟨c, A, S, n, H⟩ := F; exact ⟨c, A, S, n, fun j h0 h1 => by rw [← q j h0 h1]; exact H j h0 h1⟩
theorem Ai.set {a : Addr} {ty : FieldType} {z j x : Int32} {f : Int32 → Int32} (F : Ai Z h a ty z f) (h0 : ¬ j < 0) (h1 : j < z) (W : Wr h h' a j.toNatClampNeg (.int x)) : Ai Z h' a ty z (fun i => if i = j then x else f i) := by
  obtain ⟨c, A, S, n, H⟩ := F
  refine ⟨_, A.same W, by rw [sz_set]; exact S, n, fun i g0 g1 => ?_⟩
  by_cases e : i = j
  · rw [get_hit (own_inb S h0 h1) e]; simp [e]
  · rw [get_miss h0 g0 e, H i g0 g1]; simp [e]
theorem Ai.len (X : Stand p l e R s m args below meth c T locs cells slots) (hx : p.tables.exec = Jvm.exec) (hZ : Z.Warmed39 s.vm) (eT : T.heap = h) {a : Addr} {ty : FieldType} {z : Int32} {f : Int32 → Int32} (F : Ai Z h a ty z f)
    {g : JFrame} (hg : g.method = m) {rest : List Value} (hs : g.stack = .ref a :: rest) (hd : decode c.code g.pc = .ok (.arraylength, 1)) : ∀ target, Steps p.tables e below (T.setTop { g with pc := g.pc + 1, stack := .int z :: rest }) target → Steps p.tables e below (T.setTop g) target := by
  obtain ⟨cl, A, S, n, H⟩ := F
  intro t k
  refine X.arraylength hx (by rw [eT]; exact A.1) (State.isArrayOf_alike hZ.alike A.2.1) hg hs hd _ ?_
  rw [len_of S n]; exact k
theorem Ai.iaload (X : Stand p l e R s m args below meth c T locs cells slots) (hx : p.tables.exec = Jvm.exec) (hZ : Z.Warmed39 s.vm) (eT : T.heap = h) {a : Addr} {z j : Int32} {f : Int32 → Int32} (F : Ai Z h a .int z f) (h0 : ¬ j < 0) (h1 : j < z)
    {g : JFrame} (hg : g.method = m) {rest : List Value} (hs : g.stack = .int j :: .ref a :: rest) (hd : decode c.code g.pc = .ok (.iaload, 1)) : ∀ target, Steps p.tables e below (T.setTop { g with pc := g.pc + 1, stack := .int (f j) :: rest }) target → Steps p.tables e below (T.setTop g) target := by
  obtain ⟨cl, A, S, n, H⟩ := F
  exact X.iaload hx (by rw [eT]; exact A.1) (State.isArrayOf_alike hZ.alike A.2.1) A.2.2 (own_inb S h0 h1) (H j h0 h1) hg hs hd
theorem Ai.baload (X : Stand p l e R s m args below meth c T locs cells slots) (hx : p.tables.exec = Jvm.exec) (hZ : Z.Warmed39 s.vm) (eT : T.heap = h) {a : Addr} {z j : Int32} {f : Int32 → Int32} (F : Ai Z h a .byte z f) (h0 : ¬ j < 0) (h1 : j < z)
    {g : JFrame} (hg : g.method = m) {rest : List Value} (hs : g.stack = .int j :: .ref a :: rest) (hd : decode c.code g.pc = .ok (.baload, 1)) : ∀ target, Steps p.tables e below (T.setTop { g with pc := g.pc + 1, stack := .int (f j) :: rest }) target → Steps p.tables e below (T.setTop g) target := by
  obtain ⟨cl, A, S, n, H⟩ := F
  exact X.baloadBytes hx (by rw [eT]; exact A.1) (State.isArrayOf_alike hZ.alike A.2.1) A.2.2 (own_inb S h0 h1) (H j h0 h1) hg hs hd
theorem Ai.stI (X : Stand p l e R s m args below meth c T locs cells slots) (hx : p.tables.exec = Jvm.exec) (hZ : Z.Warmed39 s.vm) (eT : T.heap = h) {a : Addr} {z j x : Int32} {f : Int32 → Int32} (F : Ai Z h a .int z f) (h0 : ¬ j < 0) (h1 : j < z)
    {g : JFrame} (hg : g.method = m) {rest : List Value} (hs : g.stack = .int x :: .int j :: .ref a :: rest) (hd : decode c.code g.pc = .ok (.iastore, 1)) :
    ∃ T' h', Stand p l e R s m args below meth c T' (locs ++ [⟨a, j.toNatClampNeg⟩]) cells slots ∧ T'.heap = h' ∧ Wr h h' a j.toNatClampNeg (.int x) ∧ Ai Z h' a .int z (fun i => if i = j then x else f i) ∧ ∀ target, Steps p.tables e below (T'.setTop { g with pc := g.pc + 1, stack := rest }) target → Steps p.tables e below (T.setTop g) target := by
  obtain ⟨cl, A, S, n, H⟩ := F
  obtain ⟨T', h', X', e', W, st⟩ := Jvm.RoadKit.stI X hx hZ eT A (own_inb S h0 h1) hg hs hd
  exact ⟨T', h', X', e', W, Ai.set ⟨cl, A, S, n, H⟩ h0 h1 W, st⟩
theorem Ai.stB (X : Stand p l e R s m args below meth c T locs cells slots) (hx : p.tables.exec = Jvm.exec) (hZ : Z.Warmed39 s.vm) (eT : T.heap = h) {a : Addr} {z j x : Int32} {f : Int32 → Int32} (F : Ai Z h a .byte z f) (h0 : ¬ j < 0) (h1 : j < z)
    {g : JFrame} (hg : g.method = m) {rest : List Value} (hs : g.stack = .int x :: .int j :: .ref a :: rest) (hd : decode c.code g.pc = .ok (.bastore, 1)) :
    ∃ T' h', Stand p l e R s m args below meth c T' (locs ++ [⟨a, j.toNatClampNeg⟩]) cells slots ∧ T'.heap = h' ∧ Wr h h' a j.toNatClampNeg (.int (nar .byte x)) ∧ Ai Z h' a .byte z (fun i => if i = j then nar .byte x else f i) ∧ ∀ target, Steps p.tables e below (T'.setTop { g with pc := g.pc + 1, stack := rest }) target → Steps p.tables e below (T.setTop g) target := by
  obtain ⟨cl, A, S, n, H⟩ := F
  obtain ⟨T', h', X', e', W, st⟩ := Jvm.RoadKit.stB X hx hZ eT A (own_inb S h0 h1) hg hs hd
  exact ⟨T', h', X', e', W, Ai.set ⟨cl, A, S, n, H⟩ h0 h1 W, st⟩
end Own
theorem narrow_ref {t : FieldType} {v : Value} (hv : v.isRef = true) (ht : t.isReference = true) : narrow t v = v := by rcases ref_cases hv with rfl | ⟨a, rfl⟩ <;> cases t <;> first | rfl | cases ht
theorem fits_refV {t : FieldType} {v : Value} (hv : v.isRef = true) (ht : t.isReference = true) : fits t v = true := by rcases ref_cases hv with rfl | ⟨a, rfl⟩ <;> cases t <;> first | rfl | cases ht
theorem own_iincW {tb : Tables} [Ours tb] {e : Env} {below : List Frame} {T target : State} {m : MethodId} {c : Code} {g : JFrame} (h : At T m c below) (hx : tb.exec = Jvm.exec) (hg : g.method = m) {k : Nat} {cst : Int} {x : Int32} {l' : Array Slot} (hd : decode c.code g.pc = .ok (.iinc k cst, 6)) (hl : g.locals[k]? = some (.val (.int x))) (hl' : storeLocals g.locals k (.int (x + Int32.ofInt cst)) = some l')
    (hr : Steps tb e below (T.setTop { g with pc := g.pc + 6, locals := l' }) target) : Steps tb e below (T.setTop g) target := by
  subst hg
  jvm_step h [h.top, hx, hd, hl, hl']
  exact hr

theorem own_nb1 : nar .boolean 1 = 1 := by decide
theorem own_nb0 : nar .boolean 0 = 0 := by decide
theorem own_lirr {a : Int32} : ¬ a < a := by rw [Int32.lt_iff_toInt_lt]; omega
theorem own_lasym {a b : Int32} (h : a < b) : ¬ b < a := by rw [Int32.lt_iff_toInt_lt] at *; omega
theorem own_lneg {a b : Int32} (h0 : ¬ a < 0) (h : a < b) : ¬ b < 0 := by rw [Int32.lt_iff_toInt_lt] at *; omega
theorem own_clamp {z : Int32} {n : Nat} (h : z.toInt ≤ n) : z.toNatClampNeg ≤ n := by
  show z.toInt.toNat ≤ n
  omega
theorem own_i_0 : (0 : Int32).toInt = 0 := by decide
theorem own_i_1 : (1 : Int32).toInt = 1 := by decide
theorem own_i_2 : (2 : Int32).toInt = 2 := by decide
theorem own_i_3 : (3 : Int32).toInt = 3 := by decide
theorem own_i_5 : (5 : Int32).toInt = 5 := by decide
theorem own_i_7 : (7 : Int32).toInt = 7 := by decide
theorem own_i_16 : (16 : Int32).toInt = 16 := by decide
def own_climb (R P : Int32 → Int32) (q : Int32) : Nat → Int32 → Int32
  | 0, n => n
  | k + 1, n => if q < R n then own_climb R P q k (P n) else n
def own_ok (R P : Int32 → Int32) (q : Int32) : Nat → Int32 → Prop
  | 0, n => (¬ n < 0 ∧ n < (16 : Int32)) ∧ ¬ q < R n
  | k + 1, n => (¬ n < 0 ∧ n < (16 : Int32)) ∧ (q < R n → own_ok R P q k (P n))
theorem own_ok_in {R P : Int32 → Int32} {q n : Int32} {k : Nat} (h : own_ok R P q k n) : ¬ n < 0 ∧ n < (16 : Int32) := by cases k <;> exact h.1
theorem own_ok_step {R P : Int32 → Int32} {q n : Int32} {k : Nat} (h : own_ok R P q k n) (hq : q < R n) : ∃ k', k = k' + 1 ∧ own_ok R P q k' (P n) ∧ own_climb R P q k n = own_climb R P q k' (P n) := by
  cases k with
  | zero => exact absurd hq h.2
  | succ k => exact ⟨k, rfl, h.2 hq, by rw [own_climb, if_pos hq]⟩
theorem own_ok_end {R P : Int32 → Int32} {q n : Int32} {k : Nat} (hq : ¬ q < R n) : own_climb R P q k n = n := by
  cases k with
  | zero => rfl
  | succ k => rw [own_climb, if_neg hq]
theorem pn_7 : plainName "com/example/both_ways/bothways/equivalence/SplitHistory" = true := by first | (simp [plainName, overriddenIn]; done) | decide +kernel
theorem d1_0 : decode prog_90_method_1_code 0 = .ok (.aload_n 0, 1) := by decide +kernel
theorem d1_1 : decode prog_90_method_1_code 1 = .ok (.invokespecial 1, 3) := by decide +kernel
theorem d1_4 : decode prog_90_method_1_code 4 = .ok (.aload_n 0, 1) := by decide +kernel
theorem d1_5 : decode prog_90_method_1_code 5 = .ok (.bipush 16, 2) := by decide +kernel
theorem d1_7 : decode prog_90_method_1_code 7 = .ok (.newarray .int, 2) := by decide +kernel
theorem d1_9 : decode prog_90_method_1_code 9 = .ok (.putfield 7, 3) := by decide +kernel
theorem d1_12 : decode prog_90_method_1_code 12 = .ok (.aload_n 0, 1) := by decide +kernel
theorem d1_13 : decode prog_90_method_1_code 13 = .ok (.bipush 16, 2) := by decide +kernel
theorem d1_15 : decode prog_90_method_1_code 15 = .ok (.newarray .int, 2) := by decide +kernel
theorem d1_17 : decode prog_90_method_1_code 17 = .ok (.putfield 13, 3) := by decide +kernel
theorem d1_20 : decode prog_90_method_1_code 20 = .ok (.aload_n 0, 1) := by decide +kernel
theorem d1_21 : decode prog_90_method_1_code 21 = .ok (.bipush 16, 2) := by decide +kernel
theorem d1_23 : decode prog_90_method_1_code 23 = .ok (.newarray .int, 2) := by decide +kernel
theorem d1_25 : decode prog_90_method_1_code 25 = .ok (.putfield 16, 3) := by decide +kernel
theorem d1_28 : decode prog_90_method_1_code 28 = .ok (.aload_n 0, 1) := by decide +kernel
theorem d1_29 : decode prog_90_method_1_code 29 = .ok (.iload_n 1, 1) := by decide +kernel
theorem d1_30 : decode prog_90_method_1_code 30 = .ok (.newarray .int, 2) := by decide +kernel
theorem d1_32 : decode prog_90_method_1_code 32 = .ok (.putfield 19, 3) := by decide +kernel
theorem d1_35 : decode prog_90_method_1_code 35 = .ok (.aload_n 0, 1) := by decide +kernel
theorem d1_36 : decode prog_90_method_1_code 36 = .ok (.iconst 1, 1) := by decide +kernel
theorem d1_37 : decode prog_90_method_1_code 37 = .ok (.putfield 22, 3) := by decide +kernel
theorem d1_40 : decode prog_90_method_1_code 40 = .ok (.aload_n 0, 1) := by decide +kernel
theorem d1_41 : decode prog_90_method_1_code 41 = .ok (.getfield 7, 3) := by decide +kernel
theorem d1_44 : decode prog_90_method_1_code 44 = .ok (.iconst 0, 1) := by decide +kernel
theorem d1_45 : decode prog_90_method_1_code 45 = .ok (.iconst (-1), 1) := by decide +kernel
theorem d1_46 : decode prog_90_method_1_code 46 = .ok (.iastore, 1) := by decide +kernel
theorem d1_47 : decode prog_90_method_1_code 47 = .ok (.return_, 1) := by decide +kernel
theorem ef_1 (m : MethodId) (a0 : Addr) (p1 : Int32) : entryFrame m #[(.ref a0), (.int p1)] 2 = mkF m 0 #[.val (.ref a0), .val (.int p1)] [] := by first | (simp [entryFrame, mkF, argsToLocals, Value.category]; done) | rfl
def Q1 (Z : State) (a0 : Addr) (p1 : Int32) (h0 : Heap) (n0 : Nat) (v : Option Value) (h : Heap) (L : List Loc) : Prop := ∃ (bp : Addr), ∃ (br : Addr), ∃ (bd : Addr), ∃ (bl : Addr), ∃ (fp : Int32 → Int32), (v = none) ∧ (Fr n0 L) ∧ (Keep h0 h [a0]) ∧ (h0.size ≤ bp) ∧ (h0.size ≤ br) ∧ (h0.size ≤ bd) ∧ (h0.size ≤ bl) ∧ (Exa Z h a0 "com/example/both_ways/bothways/equivalence/SplitHistory") ∧ (Fld Z h a0 "com/example/both_ways/bothways/equivalence/SplitHistory" "parents" "[I" (.ref bp)) ∧ (Fld Z h a0 "com/example/both_ways/bothways/equivalence/SplitHistory" "rounds" "[I" (.ref br)) ∧ (Fld Z h a0 "com/example/both_ways/bothways/equivalence/SplitHistory" "depths" "[I" (.ref bd)) ∧ (Fld Z h a0 "com/example/both_ways/bothways/equivalence/SplitHistory" "leaves" "[I" (.ref bl)) ∧ (Fld Z h a0 "com/example/both_ways/bothways/equivalence/SplitHistory" "nodeCount" "I" (.int (1 : Int32))) ∧ (Fld Z h a0 "com/example/both_ways/bothways/equivalence/SplitHistory" "visits" "J" (.long (0 : Int64))) ∧ (Ai Z h bp .int (16 : Int32) fp) ∧ (Ai Z h br .int (16 : Int32) (fun _ => 0)) ∧ (Ai Z h bd .int (16 : Int32) (fun _ => 0)) ∧ (Ai Z h bl .int p1 (fun _ => 0)) ∧ (a0 ≠ bp) ∧ (a0 ≠ br) ∧ (a0 ≠ bd) ∧ (a0 ≠ bl) ∧ (bp ≠ br) ∧ (bp ≠ bd) ∧ (bp ≠ bl) ∧ (br ≠ bd) ∧ (br ≠ bl) ∧ (bd ≠ bl)
set_option maxRecDepth 65536 in
set_option maxHeartbeats 40000000 in
theorem rm1 (l : Launch) (Z : State) (aZ : Array Value) (hw : ∀ d ∈ tables_1, d.before aZ Z = true) (ws : List Jvm.Cond) (a0 : Addr) (p1 : Int32) (h0 : Heap) (n0 : Nat) (Z0 : n0 ≤ h0.size) (E_0 : Exa Z h0 a0 "com/example/both_ways/bothways/equivalence/SplitHistory") (F_1 : Fld Z h0 a0 "com/example/both_ways/bothways/equivalence/SplitHistory" "parents" "[I" .null) (F_2 : Fld Z h0 a0 "com/example/both_ways/bothways/equivalence/SplitHistory" "rounds" "[I" .null) (F_3 : Fld Z h0 a0 "com/example/both_ways/bothways/equivalence/SplitHistory" "depths" "[I" .null) (F_4 : Fld Z h0 a0 "com/example/both_ways/bothways/equivalence/SplitHistory" "leaves" "[I" .null) (F_5 : Fld Z h0 a0 "com/example/both_ways/bothways/equivalence/SplitHistory" "nodeCount" "I" (.int (0 : Int32))) (F_6 : Fld Z h0 a0 "com/example/both_ways/bothways/equivalence/SplitHistory" "visits" "J" (.long (0 : Int64))) (g_7 : n0 ≤ a0) (hp1 : p1 = (1 : Int32)) :
    MetFree l (⟨"com/example/both_ways/bothways/equivalence/SplitHistory", "<init>", "(I)V"⟩ : MethodName) (head1 (Jvm.Cond.code (⟨"com/example/both_ways/bothways/equivalence/SplitHistory", "<init>", "(I)V"⟩ : MethodName) prog_90_method_1_code 2 none :: ws) ({ frames := 1, cells := 4, slots := 49, locals := 12 } : Room)) (fun a U => a = #[(.ref a0), (.int p1)] ∧ Z.Warmed39 U.vm ∧ U.heap = h0) (fun _ _ _ _ _ => True) (fun _ U o U' => ∃ v L, o = .returned v ∧ Q1 Z a0 p1 h0 n0 v U'.heap L ∧ FrameEnd U o U' L ({ frames := 1, cells := 4, slots := 49, locals := 12 } : Room).cells ({ frames := 1, cells := 4, slots := 49, locals := 12 } : Room).slots) := by
  refine MetFree.of_bodySF (plainFor_of_name pn_7) hisR ?_
  intro p e s m args below meth c s₁ Bd hml0 hP hK
  obtain ⟨rfl, hZ, hh⟩ := hP
  have hx := Bd.exec
  have hby := Bd.bytes
  have hml : c.maxLocals = 2 := hml0
  have hown : s.vm.findClass "com/example/both_ways/bothways/equivalence/SplitHistory" = some m.cls := findClass_of_methodNamed Bd.named
  have hnm := (name_of_methodNamed Bd.named Bd.method).1
  have hlk : meth.locks = false := BodyLoose.notSynchronized Bd
  have X0 : Stand p l e ({ frames := 1, cells := 4, slots := 49, locals := 12 } : Room) s m #[(.ref a0), (.int p1)] below meth c s₁ [] 0 0 := Stand.of_body Bd
  have e0 : s₁.heap = h0 := by rw [← hh, Bd.state]; rfl
  have N0 := Fr.nil n0
  have sq0 : h0.size ≤ h0.size := Nat.le_refl _
  have k0 : Keep h0 h0 [a0] := Keep.refl _ _
  change Go p e below s ({ frames := 1, cells := 4, slots := 49, locals := 12 } : Room).cells ({ frames := 1, cells := 4, slots := 49, locals := 12 } : Room).slots (Q1 Z a0 p1 h0 n0) (s₁.setTop (entryFrame m #[(.ref a0), (.int p1)] 2))
  rw [ef_1 m a0 p1]
  show Go _ _ _ _ _ _ _ (s₁.setTop (mkF m 0 #[.val (.ref a0), .val (.int p1)] []))
  refine Go.step (fun _ k => XS.aloadN X0.here hx rfl (hb hby d1_0) rfl rfl  k) ?_
  show Go _ _ _ _ _ _ _ (s₁.setTop (mkF m 1 #[.val (.ref a0), .val (.int p1)] [(.ref a0)]))
  obtain ⟨T1, X1, e1, st1⟩ := initO X0 hx hZ hown (hw _ (List.mem_of_getElem? (i := 7) rfl)) (hw _ (List.mem_of_getElem? (i := 8) rfl)) (hw _ (List.mem_of_getElem? (i := 9) rfl)) e0 (g := (mkF m 1 #[.val (.ref a0), .val (.int p1)] [(.ref a0)])) rfl (by rw [hml]; rfl) rfl (hb hby d1_1) (by decide) (W := 0) (by show 2 * 0 + _ ≤ _; exact Nat.le_of_eq rfl) (by decide)
  refine Go.step st1 ?_
  show Go _ _ _ _ _ _ _ (T1.setTop (mkF m 4 #[.val (.ref a0), .val (.int p1)] []))
  refine Go.step (fun _ k => XS.aloadN X1.here hx rfl (hb hby d1_4) rfl rfl  k) ?_
  show Go _ _ _ _ _ _ _ (T1.setTop (mkF m 5 #[.val (.ref a0), .val (.int p1)] [(.ref a0)]))
  refine Go.step (fun _ k => XS.bipush X1.here hx rfl (hb hby d1_5) k) ?_
  show Go _ _ _ _ _ _ _ (T1.setTop (mkF m 7 #[.val (.ref a0), .val (.int p1)] [(.int (16 : Int32)), (.ref a0)]))
  have ng2 : ¬ (16 : Int32) < 0 := (by decide)
  have lc2 : ((16 : Int32)).toNatClampNeg ≤ 16 := (by decide)
  obtain ⟨T2, h2, k2, X2, e2, E2, A2, st2⟩ := newP X1 hx hZ (hw _ (List.mem_of_getElem? (i := 10) rfl)) e1 (g := (mkF m 7 #[.val (.ref a0), .val (.int p1)] [(.int (16 : Int32)), (.ref a0)])) rfl (hb hby d1_7) rfl ng2 (cap := 16) lc2 (by decide) (by decide) (by decide)
  obtain ⟨b2, g2⟩ : ∃ z, z = h0.size := ⟨_, rfl⟩
  rw [← g2] at A2 st2
  refine Go.step st2 ?_
  have gn2 : n0 ≤ b2 := Nat.le_trans Z0 (Nat.le_of_eq g2.symm)
  have sz2 : h0.size ≤ b2 := Nat.le_trans sq0 (Nat.le_of_eq g2.symm)
  have ne3 : a0 ≠ b2 := Nat.ne_of_lt (Nat.lt_of_lt_of_le E_0.lt (Nat.le_of_eq g2.symm))
  have z4 : n0 ≤ h2.size := Nat.le_trans Z0 E2.1
  have sqz4 : h0.size ≤ h2.size := Nat.le_trans sq0 E2.1
  have k5 : Keep h0 h2 [a0] := k0.ext E2
  have f6 : Ai Z h2 b2 .int (16 : Int32) (fun _ => 0) := Ai.new A2 ng2 rfl
  show Go _ _ _ _ _ _ _ (T2.setTop (mkF m 9 #[.val (.ref a0), .val (.int p1)] [(.ref b2), (.ref a0)]))
  have f7 : Exa Z h2 a0 "com/example/both_ways/bothways/equivalence/SplitHistory" := (E_0.ext E2)
  have f8 : Fld Z h2 a0 "com/example/both_ways/bothways/equivalence/SplitHistory" "parents" "[I" .null := (F_1.ext E2)
  obtain ⟨T9, h9, X9, e9, W9, st9⟩ := putF X2 hx hZ hown (host := "") (Or.inl (hw _ (List.mem_of_getElem? (i := 11) rfl))) Via.refl e2 f8 f7 (Or.inl (hw _ (List.mem_of_getElem? (i := 12) rfl))) (hw _ (List.mem_of_getElem? (i := 2) rfl)) (ty := (.array .int)) (v := (.ref b2)) (by decide) rfl rfl (g := (mkF m 9 #[.val (.ref a0), .val (.int p1)] [(.ref b2), (.ref a0)])) rfl rfl (hb hby d1_9)
  refine Go.step st9 ?_
  have N9 := Fr.snoc X9 N0 g_7
  have z10 : n0 ≤ h9.size := Nat.le_trans z4 (Keep.of_wr W9).1
  have sqz10 : h0.size ≤ h9.size := Nat.le_trans sqz4 (Keep.of_wr W9).1
  have k11 : Keep h0 h9 [a0] := k5.wr W9 (Or.inl (List.mem_of_getElem? (i := 0) rfl))
  have f12 : Fld Z h9 a0 "com/example/both_ways/bothways/equivalence/SplitHistory" "parents" "[I" (.ref b2) := f8.same W9
  show Go _ _ _ _ _ _ _ (T9.setTop (mkF m 12 #[.val (.ref a0), .val (.int p1)] []))
  refine Go.step (fun _ k => XS.aloadN X9.here hx rfl (hb hby d1_12) rfl rfl  k) ?_
  show Go _ _ _ _ _ _ _ (T9.setTop (mkF m 13 #[.val (.ref a0), .val (.int p1)] [(.ref a0)]))
  refine Go.step (fun _ k => XS.bipush X9.here hx rfl (hb hby d1_13) k) ?_
  show Go _ _ _ _ _ _ _ (T9.setTop (mkF m 15 #[.val (.ref a0), .val (.int p1)] [(.int (16 : Int32)), (.ref a0)]))
  have ng13 : ¬ (16 : Int32) < 0 := (by decide)
  have lc13 : ((16 : Int32)).toNatClampNeg ≤ 16 := (by decide)
  obtain ⟨T13, h13, k13, X13, e13, E13, A13, st13⟩ := newP X9 hx hZ (hw _ (List.mem_of_getElem? (i := 10) rfl)) e9 (g := (mkF m 15 #[.val (.ref a0), .val (.int p1)] [(.int (16 : Int32)), (.ref a0)])) rfl (hb hby d1_15) rfl ng13 (cap := 16) lc13 (by decide) (by decide) (by decide)
  obtain ⟨b13, g13⟩ : ∃ z, z = h9.size := ⟨_, rfl⟩
  rw [← g13] at A13 st13
  refine Go.step st13 ?_
  have gn13 : n0 ≤ b13 := Nat.le_trans z10 (Nat.le_of_eq g13.symm)
  have sz13 : h0.size ≤ b13 := Nat.le_trans sqz10 (Nat.le_of_eq g13.symm)
  have f14 : Exa Z h9 a0 "com/example/both_ways/bothways/equivalence/SplitHistory" := (f7.wr W9)
  have ne15 : a0 ≠ b13 := Nat.ne_of_lt (Nat.lt_of_lt_of_le f14.lt (Nat.le_of_eq g13.symm))
  have f16 : Ai Z h9 b2 .int (16 : Int32) (fun _ => 0) := (f6.other W9 (Ne.symm ne3))
  have ne17 : b2 ≠ b13 := Nat.ne_of_lt (Nat.lt_of_lt_of_le f16.lt (Nat.le_of_eq g13.symm))
  have z18 : n0 ≤ h13.size := Nat.le_trans z10 E13.1
  have sqz18 : h0.size ≤ h13.size := Nat.le_trans sqz10 E13.1
  have k19 : Keep h0 h13 [a0] := k11.ext E13
  have f20 : Ai Z h13 b13 .int (16 : Int32) (fun _ => 0) := Ai.new A13 ng13 rfl
  show Go _ _ _ _ _ _ _ (T13.setTop (mkF m 17 #[.val (.ref a0), .val (.int p1)] [(.ref b13), (.ref a0)]))
  have f21 : Exa Z h13 a0 "com/example/both_ways/bothways/equivalence/SplitHistory" := (f14.ext E13)
  have f22 : Fld Z h13 a0 "com/example/both_ways/bothways/equivalence/SplitHistory" "rounds" "[I" .null := (((F_2.ext E2).other W9 (Or.inr (slot_ne (Or.inl (hw _ (List.mem_of_getElem? (i := 14) rfl))) (Or.inl (hw _ (List.mem_of_getElem? (i := 12) rfl))) (by decide) (t := (.array .int)) (t' := (.array .int)) (by decide) (by decide)))).ext E13)
  obtain ⟨T23, h23, X23, e23, W23, st23⟩ := putF X13 hx hZ hown (host := "") (Or.inl (hw _ (List.mem_of_getElem? (i := 13) rfl))) Via.refl e13 f22 f21 (Or.inl (hw _ (List.mem_of_getElem? (i := 14) rfl))) (hw _ (List.mem_of_getElem? (i := 2) rfl)) (ty := (.array .int)) (v := (.ref b13)) (by decide) rfl rfl (g := (mkF m 17 #[.val (.ref a0), .val (.int p1)] [(.ref b13), (.ref a0)])) rfl rfl (hb hby d1_17)
  refine Go.step st23 ?_
  have N23 := Fr.snoc X23 N9 g_7
  have z24 : n0 ≤ h23.size := Nat.le_trans z18 (Keep.of_wr W23).1
  have sqz24 : h0.size ≤ h23.size := Nat.le_trans sqz18 (Keep.of_wr W23).1
  have k25 : Keep h0 h23 [a0] := k19.wr W23 (Or.inl (List.mem_of_getElem? (i := 0) rfl))
  have f26 : Fld Z h23 a0 "com/example/both_ways/bothways/equivalence/SplitHistory" "rounds" "[I" (.ref b13) := f22.same W23
  show Go _ _ _ _ _ _ _ (T23.setTop (mkF m 20 #[.val (.ref a0), .val (.int p1)] []))
  refine Go.step (fun _ k => XS.aloadN X23.here hx rfl (hb hby d1_20) rfl rfl  k) ?_
  show Go _ _ _ _ _ _ _ (T23.setTop (mkF m 21 #[.val (.ref a0), .val (.int p1)] [(.ref a0)]))
  refine Go.step (fun _ k => XS.bipush X23.here hx rfl (hb hby d1_21) k) ?_
  show Go _ _ _ _ _ _ _ (T23.setTop (mkF m 23 #[.val (.ref a0), .val (.int p1)] [(.int (16 : Int32)), (.ref a0)]))
  have ng27 : ¬ (16 : Int32) < 0 := (by decide)
  have lc27 : ((16 : Int32)).toNatClampNeg ≤ 16 := (by decide)
  obtain ⟨T27, h27, k27, X27, e27, E27, A27, st27⟩ := newP X23 hx hZ (hw _ (List.mem_of_getElem? (i := 10) rfl)) e23 (g := (mkF m 23 #[.val (.ref a0), .val (.int p1)] [(.int (16 : Int32)), (.ref a0)])) rfl (hb hby d1_23) rfl ng27 (cap := 16) lc27 (by decide) (by decide) (by decide)
  obtain ⟨b27, g27⟩ : ∃ z, z = h23.size := ⟨_, rfl⟩
  rw [← g27] at A27 st27
  refine Go.step st27 ?_
  have gn27 : n0 ≤ b27 := Nat.le_trans z24 (Nat.le_of_eq g27.symm)
  have sz27 : h0.size ≤ b27 := Nat.le_trans sqz24 (Nat.le_of_eq g27.symm)
  have f28 : Exa Z h23 a0 "com/example/both_ways/bothways/equivalence/SplitHistory" := (f21.wr W23)
  have ne29 : a0 ≠ b27 := Nat.ne_of_lt (Nat.lt_of_lt_of_le f28.lt (Nat.le_of_eq g27.symm))
  have f30 : Ai Z h23 b2 .int (16 : Int32) (fun _ => 0) := ((f16.ext E13).other W23 (Ne.symm ne3))
  have ne31 : b2 ≠ b27 := Nat.ne_of_lt (Nat.lt_of_lt_of_le f30.lt (Nat.le_of_eq g27.symm))
  have f32 : Ai Z h23 b13 .int (16 : Int32) (fun _ => 0) := (f20.other W23 (Ne.symm ne15))
  have ne33 : b13 ≠ b27 := Nat.ne_of_lt (Nat.lt_of_lt_of_le f32.lt (Nat.le_of_eq g27.symm))
  have z34 : n0 ≤ h27.size := Nat.le_trans z24 E27.1
  have sqz34 : h0.size ≤ h27.size := Nat.le_trans sqz24 E27.1
  have k35 : Keep h0 h27 [a0] := k25.ext E27
  have f36 : Ai Z h27 b27 .int (16 : Int32) (fun _ => 0) := Ai.new A27 ng27 rfl
  show Go _ _ _ _ _ _ _ (T27.setTop (mkF m 25 #[.val (.ref a0), .val (.int p1)] [(.ref b27), (.ref a0)]))
  have f37 : Exa Z h27 a0 "com/example/both_ways/bothways/equivalence/SplitHistory" := (f28.ext E27)
  have f38 : Fld Z h27 a0 "com/example/both_ways/bothways/equivalence/SplitHistory" "depths" "[I" .null := (((((F_3.ext E2).other W9 (Or.inr (slot_ne (Or.inl (hw _ (List.mem_of_getElem? (i := 16) rfl))) (Or.inl (hw _ (List.mem_of_getElem? (i := 12) rfl))) (by decide) (t := (.array .int)) (t' := (.array .int)) (by decide) (by decide)))).ext E13).other W23 (Or.inr (slot_ne (Or.inl (hw _ (List.mem_of_getElem? (i := 16) rfl))) (Or.inl (hw _ (List.mem_of_getElem? (i := 14) rfl))) (by decide) (t := (.array .int)) (t' := (.array .int)) (by decide) (by decide)))).ext E27)
  obtain ⟨T39, h39, X39, e39, W39, st39⟩ := putF X27 hx hZ hown (host := "") (Or.inl (hw _ (List.mem_of_getElem? (i := 15) rfl))) Via.refl e27 f38 f37 (Or.inl (hw _ (List.mem_of_getElem? (i := 16) rfl))) (hw _ (List.mem_of_getElem? (i := 2) rfl)) (ty := (.array .int)) (v := (.ref b27)) (by decide) rfl rfl (g := (mkF m 25 #[.val (.ref a0), .val (.int p1)] [(.ref b27), (.ref a0)])) rfl rfl (hb hby d1_25)
  refine Go.step st39 ?_
  have N39 := Fr.snoc X39 N23 g_7
  have z40 : n0 ≤ h39.size := Nat.le_trans z34 (Keep.of_wr W39).1
  have sqz40 : h0.size ≤ h39.size := Nat.le_trans sqz34 (Keep.of_wr W39).1
  have k41 : Keep h0 h39 [a0] := k35.wr W39 (Or.inl (List.mem_of_getElem? (i := 0) rfl))
  have f42 : Fld Z h39 a0 "com/example/both_ways/bothways/equivalence/SplitHistory" "depths" "[I" (.ref b27) := f38.same W39
  show Go _ _ _ _ _ _ _ (T39.setTop (mkF m 28 #[.val (.ref a0), .val (.int p1)] []))
  refine Go.step (fun _ k => XS.aloadN X39.here hx rfl (hb hby d1_28) rfl rfl  k) ?_
  show Go _ _ _ _ _ _ _ (T39.setTop (mkF m 29 #[.val (.ref a0), .val (.int p1)] [(.ref a0)]))
  refine Go.step (fun _ k => XS.iloadN X39.here hx rfl (hb hby d1_29) rfl  k) ?_
  show Go _ _ _ _ _ _ _ (T39.setTop (mkF m 30 #[.val (.ref a0), .val (.int p1)] [(.int p1), (.ref a0)]))
  have ng43 : ¬ p1 < 0 := (by rw [hp1]; decide)
  have lc43 : (p1).toNatClampNeg ≤ 1 := (by rw [hp1]; decide)
  obtain ⟨T43, h43, k43, X43, e43, E43, A43, st43⟩ := newP X39 hx hZ (hw _ (List.mem_of_getElem? (i := 10) rfl)) e39 (g := (mkF m 30 #[.val (.ref a0), .val (.int p1)] [(.int p1), (.ref a0)])) rfl (hb hby d1_30) rfl ng43 (cap := 1) lc43 (by decide) (by decide) (by decide)
  obtain ⟨b43, g43⟩ : ∃ z, z = h39.size := ⟨_, rfl⟩
  rw [← g43] at A43 st43
  refine Go.step st43 ?_
  have gn43 : n0 ≤ b43 := Nat.le_trans z40 (Nat.le_of_eq g43.symm)
  have sz43 : h0.size ≤ b43 := Nat.le_trans sqz40 (Nat.le_of_eq g43.symm)
  have f44 : Exa Z h39 a0 "com/example/both_ways/bothways/equivalence/SplitHistory" := (f37.wr W39)
  have ne45 : a0 ≠ b43 := Nat.ne_of_lt (Nat.lt_of_lt_of_le f44.lt (Nat.le_of_eq g43.symm))
  have f46 : Ai Z h39 b2 .int (16 : Int32) (fun _ => 0) := ((f30.ext E27).other W39 (Ne.symm ne3))
  have ne47 : b2 ≠ b43 := Nat.ne_of_lt (Nat.lt_of_lt_of_le f46.lt (Nat.le_of_eq g43.symm))
  have f48 : Ai Z h39 b13 .int (16 : Int32) (fun _ => 0) := ((f32.ext E27).other W39 (Ne.symm ne15))
  have ne49 : b13 ≠ b43 := Nat.ne_of_lt (Nat.lt_of_lt_of_le f48.lt (Nat.le_of_eq g43.symm))
  have f50 : Ai Z h39 b27 .int (16 : Int32) (fun _ => 0) := (f36.other W39 (Ne.symm ne29))
  have ne51 : b27 ≠ b43 := Nat.ne_of_lt (Nat.lt_of_lt_of_le f50.lt (Nat.le_of_eq g43.symm))
  have z52 : n0 ≤ h43.size := Nat.le_trans z40 E43.1
  have sqz52 : h0.size ≤ h43.size := Nat.le_trans sqz40 E43.1
  have k53 : Keep h0 h43 [a0] := k41.ext E43
  have f54 : Ai Z h43 b43 .int p1 (fun _ => 0) := Ai.new A43 ng43 rfl
  show Go _ _ _ _ _ _ _ (T43.setTop (mkF m 32 #[.val (.ref a0), .val (.int p1)] [(.ref b43), (.ref a0)]))
  have f55 : Exa Z h43 a0 "com/example/both_ways/bothways/equivalence/SplitHistory" := (f44.ext E43)
  have f56 : Fld Z h43 a0 "com/example/both_ways/bothways/equivalence/SplitHistory" "leaves" "[I" .null := (((((((F_4.ext E2).other W9 (Or.inr (slot_ne (Or.inr (hw _ (List.mem_of_getElem? (i := 18) rfl))) (Or.inl (hw _ (List.mem_of_getElem? (i := 12) rfl))) (by decide) (t := (.array .int)) (t' := (.array .int)) (by decide) (by decide)))).ext E13).other W23 (Or.inr (slot_ne (Or.inr (hw _ (List.mem_of_getElem? (i := 18) rfl))) (Or.inl (hw _ (List.mem_of_getElem? (i := 14) rfl))) (by decide) (t := (.array .int)) (t' := (.array .int)) (by decide) (by decide)))).ext E27).other W39 (Or.inr (slot_ne (Or.inr (hw _ (List.mem_of_getElem? (i := 18) rfl))) (Or.inl (hw _ (List.mem_of_getElem? (i := 16) rfl))) (by decide) (t := (.array .int)) (t' := (.array .int)) (by decide) (by decide)))).ext E43)
  obtain ⟨T57, h57, X57, e57, W57, st57⟩ := putF X43 hx hZ hown (host := "") (Or.inl (hw _ (List.mem_of_getElem? (i := 17) rfl))) Via.refl e43 f56 f55 (Or.inr ⟨(hw _ (List.mem_of_getElem? (i := 18) rfl)), rfl, hnm⟩) (hw _ (List.mem_of_getElem? (i := 2) rfl)) (ty := (.array .int)) (v := (.ref b43)) (by decide) rfl rfl (g := (mkF m 32 #[.val (.ref a0), .val (.int p1)] [(.ref b43), (.ref a0)])) rfl rfl (hb hby d1_32)
  refine Go.step st57 ?_
  have N57 := Fr.snoc X57 N39 g_7
  have z58 : n0 ≤ h57.size := Nat.le_trans z52 (Keep.of_wr W57).1
  have sqz58 : h0.size ≤ h57.size := Nat.le_trans sqz52 (Keep.of_wr W57).1
  have k59 : Keep h0 h57 [a0] := k53.wr W57 (Or.inl (List.mem_of_getElem? (i := 0) rfl))
  have f60 : Fld Z h57 a0 "com/example/both_ways/bothways/equivalence/SplitHistory" "leaves" "[I" (.ref b43) := f56.same W57
  show Go _ _ _ _ _ _ _ (T57.setTop (mkF m 35 #[.val (.ref a0), .val (.int p1)] []))
  refine Go.step (fun _ k => XS.aloadN X57.here hx rfl (hb hby d1_35) rfl rfl  k) ?_
  show Go _ _ _ _ _ _ _ (T57.setTop (mkF m 36 #[.val (.ref a0), .val (.int p1)] [(.ref a0)]))
  refine Go.step (fun _ k => XS.iconst X57.here hx rfl (hb hby d1_36) k) ?_
  show Go _ _ _ _ _ _ _ (T57.setTop (mkF m 37 #[.val (.ref a0), .val (.int p1)] [(.int (1 : Int32)), (.ref a0)]))
  have f61 : Exa Z h57 a0 "com/example/both_ways/bothways/equivalence/SplitHistory" := (f55.wr W57)
  have f62 : Fld Z h57 a0 "com/example/both_ways/bothways/equivalence/SplitHistory" "nodeCount" "I" (.int (0 : Int32)) := ((((((((F_5.ext E2).other W9 (Or.inr (slot_ne (Or.inl (hw _ (List.mem_of_getElem? (i := 20) rfl))) (Or.inl (hw _ (List.mem_of_getElem? (i := 12) rfl))) (by decide) (t := .int) (t' := (.array .int)) (by decide) (by decide)))).ext E13).other W23 (Or.inr (slot_ne (Or.inl (hw _ (List.mem_of_getElem? (i := 20) rfl))) (Or.inl (hw _ (List.mem_of_getElem? (i := 14) rfl))) (by decide) (t := .int) (t' := (.array .int)) (by decide) (by decide)))).ext E27).other W39 (Or.inr (slot_ne (Or.inl (hw _ (List.mem_of_getElem? (i := 20) rfl))) (Or.inl (hw _ (List.mem_of_getElem? (i := 16) rfl))) (by decide) (t := .int) (t' := (.array .int)) (by decide) (by decide)))).ext E43).other W57 (Or.inr (slot_ne (Or.inl (hw _ (List.mem_of_getElem? (i := 20) rfl))) (Or.inr (hw _ (List.mem_of_getElem? (i := 18) rfl))) (by decide) (t := .int) (t' := (.array .int)) (by decide) (by decide))))
  obtain ⟨T63, h63, X63, e63, W63, st63⟩ := putF X57 hx hZ hown (host := "") (Or.inl (hw _ (List.mem_of_getElem? (i := 19) rfl))) Via.refl e57 f62 f61 (Or.inl (hw _ (List.mem_of_getElem? (i := 20) rfl))) (hw _ (List.mem_of_getElem? (i := 2) rfl)) (ty := .int) (v := (.int (1 : Int32))) (by decide) rfl rfl (g := (mkF m 37 #[.val (.ref a0), .val (.int p1)] [(.int (1 : Int32)), (.ref a0)])) rfl rfl (hb hby d1_37)
  refine Go.step st63 ?_
  have N63 := Fr.snoc X63 N57 g_7
  have z64 : n0 ≤ h63.size := Nat.le_trans z58 (Keep.of_wr W63).1
  have sqz64 : h0.size ≤ h63.size := Nat.le_trans sqz58 (Keep.of_wr W63).1
  have k65 : Keep h0 h63 [a0] := k59.wr W63 (Or.inl (List.mem_of_getElem? (i := 0) rfl))
  have f66 : Fld Z h63 a0 "com/example/both_ways/bothways/equivalence/SplitHistory" "nodeCount" "I" (.int (1 : Int32)) := f62.same W63
  show Go _ _ _ _ _ _ _ (T63.setTop (mkF m 40 #[.val (.ref a0), .val (.int p1)] []))
  refine Go.step (fun _ k => XS.aloadN X63.here hx rfl (hb hby d1_40) rfl rfl  k) ?_
  show Go _ _ _ _ _ _ _ (T63.setTop (mkF m 41 #[.val (.ref a0), .val (.int p1)] [(.ref a0)]))
  have f67 : Fld Z h63 a0 "com/example/both_ways/bothways/equivalence/SplitHistory" "parents" "[I" (.ref b2) := (((((((f12.ext E13).other W23 (Or.inr (slot_ne (Or.inl (hw _ (List.mem_of_getElem? (i := 12) rfl))) (Or.inl (hw _ (List.mem_of_getElem? (i := 14) rfl))) (by decide) (t := (.array .int)) (t' := (.array .int)) (by decide) (by decide)))).ext E27).other W39 (Or.inr (slot_ne (Or.inl (hw _ (List.mem_of_getElem? (i := 12) rfl))) (Or.inl (hw _ (List.mem_of_getElem? (i := 16) rfl))) (by decide) (t := (.array .int)) (t' := (.array .int)) (by decide) (by decide)))).ext E43).other W57 (Or.inr (slot_ne (Or.inl (hw _ (List.mem_of_getElem? (i := 12) rfl))) (Or.inr (hw _ (List.mem_of_getElem? (i := 18) rfl))) (by decide) (t := (.array .int)) (t' := (.array .int)) (by decide) (by decide)))).other W63 (Or.inr (slot_ne (Or.inl (hw _ (List.mem_of_getElem? (i := 12) rfl))) (Or.inl (hw _ (List.mem_of_getElem? (i := 20) rfl))) (by decide) (t := (.array .int)) (t' := .int) (by decide) (by decide))))
  obtain ⟨T68, X68, e68, st68⟩ := getF X63 hx hZ hown (host := "") (Or.inl (hw _ (List.mem_of_getElem? (i := 11) rfl))) Via.refl e63 f67 (g := (mkF m 41 #[.val (.ref a0), .val (.int p1)] [(.ref a0)])) rfl rfl (hb hby d1_41)
  refine Go.step st68 ?_
  show Go _ _ _ _ _ _ _ (T68.setTop (mkF m 44 #[.val (.ref a0), .val (.int p1)] [(.ref b2)]))
  refine Go.step (fun _ k => XS.iconst X68.here hx rfl (hb hby d1_44) k) ?_
  show Go _ _ _ _ _ _ _ (T68.setTop (mkF m 45 #[.val (.ref a0), .val (.int p1)] [(.int (0 : Int32)), (.ref b2)]))
  refine Go.step (fun _ k => XS.iconst X68.here hx rfl (hb hby d1_45) k) ?_
  show Go _ _ _ _ _ _ _ (T68.setTop (mkF m 46 #[.val (.ref a0), .val (.int p1)] [(.int (-1 : Int32)), (.int (0 : Int32)), (.ref b2)]))
  have f69 : Ai Z h63 b2 .int (16 : Int32) (fun _ => 0) := (((f46.ext E43).other W57 (Ne.symm ne3)).other W63 (Ne.symm ne3))
  have lo70 : ¬ (0 : Int32) < 0 := (by decide)
  have hi70 : (0 : Int32) < (16 : Int32) := (by decide)
  obtain ⟨T71, h71, X71, e71, W71, f71, st71⟩ := Ai.stI X68 hx hZ e68 f69 (j := (0 : Int32)) (x := (-1 : Int32)) lo70 hi70 (g := (mkF m 46 #[.val (.ref a0), .val (.int p1)] [(.int (-1 : Int32)), (.int (0 : Int32)), (.ref b2)])) rfl rfl (hb hby d1_46)
  refine Go.step st71 ?_
  have N71 := Fr.snoc X71 N63 gn2
  have z72 : n0 ≤ h71.size := Nat.le_trans z64 (Keep.of_wr W71).1
  have sqz72 : h0.size ≤ h71.size := Nat.le_trans sqz64 (Keep.of_wr W71).1
  have k73 : Keep h0 h71 [a0] := k65.wr W71 (Or.inr sz2)
  obtain ⟨f74c, qf74c⟩ : ∃ fz, fz = (fun jj => if jj = (0 : Int32) then (-1 : Int32) else (fun _ => 0) jj) := ⟨_, rfl⟩
  rw [← qf74c] at f71
  show Go _ _ _ _ _ _ _ (T71.setTop (mkF m 47 #[.val (.ref a0), .val (.int p1)] []))
  have f75 : Exa Z h71 a0 "com/example/both_ways/bothways/equivalence/SplitHistory" := ((f61.wr W63).wr W71)
  have f76 : Fld Z h71 a0 "com/example/both_ways/bothways/equivalence/SplitHistory" "parents" "[I" (.ref b2) := (f67.other W71 (Or.inl ne3))
  have f77 : Fld Z h71 a0 "com/example/both_ways/bothways/equivalence/SplitHistory" "rounds" "[I" (.ref b13) := ((((((f26.ext E27).other W39 (Or.inr (slot_ne (Or.inl (hw _ (List.mem_of_getElem? (i := 14) rfl))) (Or.inl (hw _ (List.mem_of_getElem? (i := 16) rfl))) (by decide) (t := (.array .int)) (t' := (.array .int)) (by decide) (by decide)))).ext E43).other W57 (Or.inr (slot_ne (Or.inl (hw _ (List.mem_of_getElem? (i := 14) rfl))) (Or.inr (hw _ (List.mem_of_getElem? (i := 18) rfl))) (by decide) (t := (.array .int)) (t' := (.array .int)) (by decide) (by decide)))).other W63 (Or.inr (slot_ne (Or.inl (hw _ (List.mem_of_getElem? (i := 14) rfl))) (Or.inl (hw _ (List.mem_of_getElem? (i := 20) rfl))) (by decide) (t := (.array .int)) (t' := .int) (by decide) (by decide)))).other W71 (Or.inl ne3))
  have f78 : Fld Z h71 a0 "com/example/both_ways/bothways/equivalence/SplitHistory" "depths" "[I" (.ref b27) := ((((f42.ext E43).other W57 (Or.inr (slot_ne (Or.inl (hw _ (List.mem_of_getElem? (i := 16) rfl))) (Or.inr (hw _ (List.mem_of_getElem? (i := 18) rfl))) (by decide) (t := (.array .int)) (t' := (.array .int)) (by decide) (by decide)))).other W63 (Or.inr (slot_ne (Or.inl (hw _ (List.mem_of_getElem? (i := 16) rfl))) (Or.inl (hw _ (List.mem_of_getElem? (i := 20) rfl))) (by decide) (t := (.array .int)) (t' := .int) (by decide) (by decide)))).other W71 (Or.inl ne3))
  have f79 : Fld Z h71 a0 "com/example/both_ways/bothways/equivalence/SplitHistory" "leaves" "[I" (.ref b43) := ((f60.other W63 (Or.inr (slot_ne (Or.inr (hw _ (List.mem_of_getElem? (i := 18) rfl))) (Or.inl (hw _ (List.mem_of_getElem? (i := 20) rfl))) (by decide) (t := (.array .int)) (t' := .int) (by decide) (by decide)))).other W71 (Or.inl ne3))
  have f80 : Fld Z h71 a0 "com/example/both_ways/bothways/equivalence/SplitHistory" "nodeCount" "I" (.int (1 : Int32)) := (f66.other W71 (Or.inl ne3))
  have f81 : Fld Z h71 a0 "com/example/both_ways/bothways/equivalence/SplitHistory" "visits" "J" (.long (0 : Int64)) := ((((((((((F_6.ext E2).other W9 (Or.inr (slot_ne (Or.inl (hw _ (List.mem_of_getElem? (i := 37) rfl))) (Or.inl (hw _ (List.mem_of_getElem? (i := 12) rfl))) (by decide) (t := .long) (t' := (.array .int)) (by decide) (by decide)))).ext E13).other W23 (Or.inr (slot_ne (Or.inl (hw _ (List.mem_of_getElem? (i := 37) rfl))) (Or.inl (hw _ (List.mem_of_getElem? (i := 14) rfl))) (by decide) (t := .long) (t' := (.array .int)) (by decide) (by decide)))).ext E27).other W39 (Or.inr (slot_ne (Or.inl (hw _ (List.mem_of_getElem? (i := 37) rfl))) (Or.inl (hw _ (List.mem_of_getElem? (i := 16) rfl))) (by decide) (t := .long) (t' := (.array .int)) (by decide) (by decide)))).ext E43).other W57 (Or.inr (slot_ne (Or.inl (hw _ (List.mem_of_getElem? (i := 37) rfl))) (Or.inr (hw _ (List.mem_of_getElem? (i := 18) rfl))) (by decide) (t := .long) (t' := (.array .int)) (by decide) (by decide)))).other W63 (Or.inr (slot_ne (Or.inl (hw _ (List.mem_of_getElem? (i := 37) rfl))) (Or.inl (hw _ (List.mem_of_getElem? (i := 20) rfl))) (by decide) (t := .long) (t' := .int) (by decide) (by decide)))).other W71 (Or.inl ne3))
  have f82 : Ai Z h71 b13 .int (16 : Int32) (fun _ => 0) := ((((f48.ext E43).other W57 (Ne.symm ne15)).other W63 (Ne.symm ne15)).other W71 (Ne.symm ne17))
  have f83 : Ai Z h71 b27 .int (16 : Int32) (fun _ => 0) := ((((f50.ext E43).other W57 (Ne.symm ne29)).other W63 (Ne.symm ne29)).other W71 (Ne.symm ne31))
  have f84 : Ai Z h71 b43 .int p1 (fun _ => 0) := (((f54.other W57 (Ne.symm ne45)).other W63 (Ne.symm ne45)).other W71 (Ne.symm ne47))
  refine Go.retV X71 hx Bd.returns hlk (hb hby d1_47) ?_ (by decide) (by decide)
  rw [e71]
  exact ⟨b2, b13, b27, b43, f74c, (rfl), N71, k73, sz2, sz13, sz27, sz43, f75, f76, f77, f78, f79, f80, f81, f71, f82, f83, f84, ne3, ne15, ne29, ne45, ne17, ne31, ne47, ne33, ne49, ne51⟩
theorem d3_0 : decode prog_90_method_2_code 0 = .ok (.aload_n 0, 1) := by decide +kernel
theorem d3_1 : decode prog_90_method_2_code 1 = .ok (.getfield 22, 3) := by decide +kernel
theorem d3_4 : decode prog_90_method_2_code 4 = .ok (.aload_n 0, 1) := by decide +kernel
theorem d3_5 : decode prog_90_method_2_code 5 = .ok (.getfield 7, 3) := by decide +kernel
theorem d3_8 : decode prog_90_method_2_code 8 = .ok (.arraylength, 1) := by decide +kernel
theorem d3_9 : decode prog_90_method_2_code 9 = .ok (.if_icmp .ne 54, 3) := by decide +kernel
theorem d3_63 : decode prog_90_method_2_code 63 = .ok (.aload_n 0, 1) := by decide +kernel
theorem d3_64 : decode prog_90_method_2_code 64 = .ok (.getfield 7, 3) := by decide +kernel
theorem d3_67 : decode prog_90_method_2_code 67 = .ok (.aload_n 0, 1) := by decide +kernel
theorem d3_68 : decode prog_90_method_2_code 68 = .ok (.getfield 22, 3) := by decide +kernel
theorem d3_71 : decode prog_90_method_2_code 71 = .ok (.iload_n 1, 1) := by decide +kernel
theorem d3_72 : decode prog_90_method_2_code 72 = .ok (.iastore, 1) := by decide +kernel
theorem d3_73 : decode prog_90_method_2_code 73 = .ok (.aload_n 0, 1) := by decide +kernel
theorem d3_74 : decode prog_90_method_2_code 74 = .ok (.getfield 13, 3) := by decide +kernel
theorem d3_77 : decode prog_90_method_2_code 77 = .ok (.aload_n 0, 1) := by decide +kernel
theorem d3_78 : decode prog_90_method_2_code 78 = .ok (.getfield 22, 3) := by decide +kernel
theorem d3_81 : decode prog_90_method_2_code 81 = .ok (.iload_n 2, 1) := by decide +kernel
theorem d3_82 : decode prog_90_method_2_code 82 = .ok (.iastore, 1) := by decide +kernel
theorem d3_83 : decode prog_90_method_2_code 83 = .ok (.aload_n 0, 1) := by decide +kernel
theorem d3_84 : decode prog_90_method_2_code 84 = .ok (.getfield 16, 3) := by decide +kernel
theorem d3_87 : decode prog_90_method_2_code 87 = .ok (.aload_n 0, 1) := by decide +kernel
theorem d3_88 : decode prog_90_method_2_code 88 = .ok (.getfield 22, 3) := by decide +kernel
theorem d3_91 : decode prog_90_method_2_code 91 = .ok (.aload_n 0, 1) := by decide +kernel
theorem d3_92 : decode prog_90_method_2_code 92 = .ok (.getfield 16, 3) := by decide +kernel
theorem d3_95 : decode prog_90_method_2_code 95 = .ok (.iload_n 1, 1) := by decide +kernel
theorem d3_96 : decode prog_90_method_2_code 96 = .ok (.iaload, 1) := by decide +kernel
theorem d3_97 : decode prog_90_method_2_code 97 = .ok (.iconst 1, 1) := by decide +kernel
theorem d3_98 : decode prog_90_method_2_code 98 = .ok (.iadd, 1) := by decide +kernel
theorem d3_99 : decode prog_90_method_2_code 99 = .ok (.iastore, 1) := by decide +kernel
theorem d3_100 : decode prog_90_method_2_code 100 = .ok (.aload_n 0, 1) := by decide +kernel
theorem d3_101 : decode prog_90_method_2_code 101 = .ok (.dup, 1) := by decide +kernel
theorem d3_102 : decode prog_90_method_2_code 102 = .ok (.getfield 22, 3) := by decide +kernel
theorem d3_105 : decode prog_90_method_2_code 105 = .ok (.dup_x1, 1) := by decide +kernel
theorem d3_106 : decode prog_90_method_2_code 106 = .ok (.iconst 1, 1) := by decide +kernel
theorem d3_107 : decode prog_90_method_2_code 107 = .ok (.iadd, 1) := by decide +kernel
theorem d3_108 : decode prog_90_method_2_code 108 = .ok (.putfield 22, 3) := by decide +kernel
theorem d3_111 : decode prog_90_method_2_code 111 = .ok (.ireturn, 1) := by decide +kernel
theorem ef_3 (m : MethodId) (a0 : Addr) (p1 : Int32) (p2 : Int32) : entryFrame m #[(.ref a0), (.int p1), (.int p2)] 3 = mkF m 0 #[.val (.ref a0), .val (.int p1), .val (.int p2)] [] := by first | (simp [entryFrame, mkF, argsToLocals, Value.category]; done) | rfl
def Q3 (Z : State) (a0 : Addr) (p1 : Int32) (p2 : Int32) (bp : Addr) (fp : Int32 → Int32) (br : Addr) (fr : Int32 → Int32) (bd : Addr) (fd : Int32 → Int32) (bl : Addr) (w : Int32) (h0 : Heap) (n0 : Nat) (v : Option Value) (h : Heap) (L : List Loc) : Prop := ∃ (gp : Int32 → Int32), ∃ (gr : Int32 → Int32), ∃ (gd : Int32 → Int32), (v = some (.int w)) ∧ (Fr n0 L) ∧ (Keep h0 h [a0, bp, br, bd]) ∧ (Exa Z h a0 "com/example/both_ways/bothways/equivalence/SplitHistory") ∧ (Fld Z h a0 "com/example/both_ways/bothways/equivalence/SplitHistory" "parents" "[I" (.ref bp)) ∧ (Fld Z h a0 "com/example/both_ways/bothways/equivalence/SplitHistory" "rounds" "[I" (.ref br)) ∧ (Fld Z h a0 "com/example/both_ways/bothways/equivalence/SplitHistory" "depths" "[I" (.ref bd)) ∧ (Fld Z h a0 "com/example/both_ways/bothways/equivalence/SplitHistory" "leaves" "[I" (.ref bl)) ∧ (Fld Z h a0 "com/example/both_ways/bothways/equivalence/SplitHistory" "nodeCount" "I" (.int (w + (1 : Int32)))) ∧ (Fld Z h a0 "com/example/both_ways/bothways/equivalence/SplitHistory" "visits" "J" (.long (0 : Int64))) ∧ (Ai Z h bp .int (16 : Int32) gp) ∧ (Ai Z h br .int (16 : Int32) gr) ∧ (Ai Z h bd .int (16 : Int32) gd) ∧ (gp = fun jj => if jj = w then p1 else fp jj) ∧ (gr = fun jj => if jj = w then p2 else fr jj) ∧ (gd = fun jj => if jj = w then (fd p1) + (1 : Int32) else fd jj)
set_option maxRecDepth 65536 in
set_option maxHeartbeats 40000000 in
theorem rm3 (l : Launch) (Z : State) (aZ : Array Value) (hw : ∀ d ∈ tables_1, d.before aZ Z = true) (ws : List Jvm.Cond) (a0 : Addr) (p1 : Int32) (p2 : Int32) (bp : Addr) (fp : Int32 → Int32) (br : Addr) (fr : Int32 → Int32) (bd : Addr) (fd : Int32 → Int32) (bl : Addr) (w : Int32) (h0 : Heap) (n0 : Nat) (Z0 : n0 ≤ h0.size) (E_0 : Exa Z h0 a0 "com/example/both_ways/bothways/equivalence/SplitHistory") (F_1 : Fld Z h0 a0 "com/example/both_ways/bothways/equivalence/SplitHistory" "parents" "[I" (.ref bp)) (F_2 : Fld Z h0 a0 "com/example/both_ways/bothways/equivalence/SplitHistory" "rounds" "[I" (.ref br)) (F_3 : Fld Z h0 a0 "com/example/both_ways/bothways/equivalence/SplitHistory" "depths" "[I" (.ref bd)) (F_4 : Fld Z h0 a0 "com/example/both_ways/bothways/equivalence/SplitHistory" "leaves" "[I" (.ref bl)) (F_5 : Fld Z h0 a0 "com/example/both_ways/bothways/equivalence/SplitHistory" "nodeCount" "I" (.int w)) (A_6 : Ai Z h0 bp .int (16 : Int32) fp) (A_7 : Ai Z h0 br .int (16 : Int32) fr) (A_8 : Ai Z h0 bd .int (16 : Int32) fd) (ne_9 : a0 ≠ bp) (ne_10 : a0 ≠ br) (ne_11 : a0 ≠ bd) (ne_12 : a0 ≠ bl) (ne_13 : bp ≠ br) (ne_14 : bp ≠ bd) (ne_15 : bp ≠ bl) (ne_16 : br ≠ bd) (ne_17 : br ≠ bl) (ne_18 : bd ≠ bl) (g_19 : n0 ≤ a0) (g_20 : n0 ≤ bp) (g_21 : n0 ≤ br) (g_22 : n0 ≤ bd) (hw1 : ¬ w < 0 ∧ w < (16 : Int32)) (hb1 : ¬ p1 < 0 ∧ p1 < (16 : Int32)) (F_25 : Fld Z h0 a0 "com/example/both_ways/bothways/equivalence/SplitHistory" "visits" "J" (.long (0 : Int64))) :
    MetFree l (⟨"com/example/both_ways/bothways/equivalence/SplitHistory", "split", "(II)I"⟩ : MethodName) (head1 (Jvm.Cond.code (⟨"com/example/both_ways/bothways/equivalence/SplitHistory", "split", "(II)I"⟩ : MethodName) prog_90_method_2_code 3 (some .int) :: ws) ({ frames := 0, cells := 0, slots := 0, locals := 0 } : Room)) (fun a U => a = #[(.ref a0), (.int p1), (.int p2)] ∧ Z.Warmed39 U.vm ∧ U.heap = h0) (fun _ _ _ _ _ => True) (fun _ U o U' => ∃ v L, o = .returned v ∧ Q3 Z a0 p1 p2 bp fp br fr bd fd bl w h0 n0 v U'.heap L ∧ FrameEnd U o U' L ({ frames := 0, cells := 0, slots := 0, locals := 0 } : Room).cells ({ frames := 0, cells := 0, slots := 0, locals := 0 } : Room).slots) := by
  refine MetFree.of_bodySF (plainFor_of_name pn_7) hisR ?_
  intro p e s m args below meth c s₁ Bd hml0 hP hK
  obtain ⟨rfl, hZ, hh⟩ := hP
  have hx := Bd.exec
  have hby := Bd.bytes
  have hml : c.maxLocals = 3 := hml0
  have hown : s.vm.findClass "com/example/both_ways/bothways/equivalence/SplitHistory" = some m.cls := findClass_of_methodNamed Bd.named
  have hnm := (name_of_methodNamed Bd.named Bd.method).1
  have hlk : meth.locks = false := BodyLoose.notSynchronized Bd
  have X0 : Stand p l e ({ frames := 0, cells := 0, slots := 0, locals := 0 } : Room) s m #[(.ref a0), (.int p1), (.int p2)] below meth c s₁ [] 0 0 := Stand.of_body Bd
  have e0 : s₁.heap = h0 := by rw [← hh, Bd.state]; rfl
  have N0 := Fr.nil n0
  have sq0 : h0.size ≤ h0.size := Nat.le_refl _
  have k0 : Keep h0 h0 [a0, bp, br, bd] := Keep.refl _ _
  change Go p e below s ({ frames := 0, cells := 0, slots := 0, locals := 0 } : Room).cells ({ frames := 0, cells := 0, slots := 0, locals := 0 } : Room).slots (Q3 Z a0 p1 p2 bp fp br fr bd fd bl w h0 n0) (s₁.setTop (entryFrame m #[(.ref a0), (.int p1), (.int p2)] 3))
  rw [ef_3 m a0 p1 p2]
  show Go _ _ _ _ _ _ _ (s₁.setTop (mkF m 0 #[.val (.ref a0), .val (.int p1), .val (.int p2)] []))
  refine Go.step (fun _ k => XS.aloadN X0.here hx rfl (hb hby d3_0) rfl rfl  k) ?_
  show Go _ _ _ _ _ _ _ (s₁.setTop (mkF m 1 #[.val (.ref a0), .val (.int p1), .val (.int p2)] [(.ref a0)]))
  obtain ⟨T1, X1, e1, st1⟩ := getF X0 hx hZ hown (host := "") (Or.inl (hw _ (List.mem_of_getElem? (i := 19) rfl))) Via.refl e0 F_5 (g := (mkF m 1 #[.val (.ref a0), .val (.int p1), .val (.int p2)] [(.ref a0)])) rfl rfl (hb hby d3_1)
  refine Go.step st1 ?_
  show Go _ _ _ _ _ _ _ (T1.setTop (mkF m 4 #[.val (.ref a0), .val (.int p1), .val (.int p2)] [(.int w)]))
  refine Go.step (fun _ k => XS.aloadN X1.here hx rfl (hb hby d3_4) rfl rfl  k) ?_
  show Go _ _ _ _ _ _ _ (T1.setTop (mkF m 5 #[.val (.ref a0), .val (.int p1), .val (.int p2)] [(.ref a0), (.int w)]))
  obtain ⟨T2, X2, e2, st2⟩ := getF X1 hx hZ hown (host := "") (Or.inl (hw _ (List.mem_of_getElem? (i := 11) rfl))) Via.refl e1 F_1 (g := (mkF m 5 #[.val (.ref a0), .val (.int p1), .val (.int p2)] [(.ref a0), (.int w)])) rfl rfl (hb hby d3_5)
  refine Go.step st2 ?_
  show Go _ _ _ _ _ _ _ (T2.setTop (mkF m 8 #[.val (.ref a0), .val (.int p1), .val (.int p2)] [(.ref bp), (.int w)]))
  refine Go.step (Ai.len X2 hx hZ e2 A_6 (g := (mkF m 8 #[.val (.ref a0), .val (.int p1), .val (.int p2)] [(.ref bp), (.int w)])) rfl rfl (hb hby d3_8)) ?_
  show Go _ _ _ _ _ _ _ (T2.setTop (mkF m 9 #[.val (.ref a0), .val (.int p1), .val (.int p2)] [(.int (16 : Int32)), (.int w)]))
  have hc9 : ¬ (w = (16 : Int32)) := fun q => absurd (q ▸ hw1.2) (by decide)
  refine Go.step (fun _ k => XS.icmpYes X2.here hx rfl (pc0 := 9) (pc' := 63) rfl (hb hby d3_9) rfl (feq hc9).2 (by decide) (by decide) k) ?_
  show Go _ _ _ _ _ _ _ (T2.setTop (mkF m 63 #[.val (.ref a0), .val (.int p1), .val (.int p2)] []))
  refine Go.step (fun _ k => XS.aloadN X2.here hx rfl (hb hby d3_63) rfl rfl  k) ?_
  show Go _ _ _ _ _ _ _ (T2.setTop (mkF m 64 #[.val (.ref a0), .val (.int p1), .val (.int p2)] [(.ref a0)]))
  obtain ⟨T3, X3, e3, st3⟩ := getF X2 hx hZ hown (host := "") (Or.inl (hw _ (List.mem_of_getElem? (i := 11) rfl))) Via.refl e2 F_1 (g := (mkF m 64 #[.val (.ref a0), .val (.int p1), .val (.int p2)] [(.ref a0)])) rfl rfl (hb hby d3_64)
  refine Go.step st3 ?_
  show Go _ _ _ _ _ _ _ (T3.setTop (mkF m 67 #[.val (.ref a0), .val (.int p1), .val (.int p2)] [(.ref bp)]))
  refine Go.step (fun _ k => XS.aloadN X3.here hx rfl (hb hby d3_67) rfl rfl  k) ?_
  show Go _ _ _ _ _ _ _ (T3.setTop (mkF m 68 #[.val (.ref a0), .val (.int p1), .val (.int p2)] [(.ref a0), (.ref bp)]))
  obtain ⟨T4, X4, e4, st4⟩ := getF X3 hx hZ hown (host := "") (Or.inl (hw _ (List.mem_of_getElem? (i := 19) rfl))) Via.refl e3 F_5 (g := (mkF m 68 #[.val (.ref a0), .val (.int p1), .val (.int p2)] [(.ref a0), (.ref bp)])) rfl rfl (hb hby d3_68)
  refine Go.step st4 ?_
  show Go _ _ _ _ _ _ _ (T4.setTop (mkF m 71 #[.val (.ref a0), .val (.int p1), .val (.int p2)] [(.int w), (.ref bp)]))
  refine Go.step (fun _ k => XS.iloadN X4.here hx rfl (hb hby d3_71) rfl  k) ?_
  show Go _ _ _ _ _ _ _ (T4.setTop (mkF m 72 #[.val (.ref a0), .val (.int p1), .val (.int p2)] [(.int p1), (.int w), (.ref bp)]))
  have lo5 : ¬ w < 0 := hw1.1
  have hi5 : w < (16 : Int32) := hw1.2
  obtain ⟨T6, h6, X6, e6, W6, f6, st6⟩ := Ai.stI X4 hx hZ e4 A_6 (j := w) (x := p1) lo5 hi5 (g := (mkF m 72 #[.val (.ref a0), .val (.int p1), .val (.int p2)] [(.int p1), (.int w), (.ref bp)])) rfl rfl (hb hby d3_72)
  refine Go.step st6 ?_
  have N6 := Fr.snoc X6 N0 g_20
  have z7 : n0 ≤ h6.size := Nat.le_trans Z0 (Keep.of_wr W6).1
  have sqz7 : h0.size ≤ h6.size := Nat.le_trans sq0 (Keep.of_wr W6).1
  have k8 : Keep h0 h6 [a0, bp, br, bd] := k0.wr W6 (Or.inl (List.mem_of_getElem? (i := 1) rfl))
  obtain ⟨f9c, qf9c⟩ : ∃ fz, fz = (fun jj => if jj = w then p1 else fp jj) := ⟨_, rfl⟩
  rw [← qf9c] at f6
  show Go _ _ _ _ _ _ _ (T6.setTop (mkF m 73 #[.val (.ref a0), .val (.int p1), .val (.int p2)] []))
  refine Go.step (fun _ k => XS.aloadN X6.here hx rfl (hb hby d3_73) rfl rfl  k) ?_
  show Go _ _ _ _ _ _ _ (T6.setTop (mkF m 74 #[.val (.ref a0), .val (.int p1), .val (.int p2)] [(.ref a0)]))
  have f10 : Fld Z h6 a0 "com/example/both_ways/bothways/equivalence/SplitHistory" "rounds" "[I" (.ref br) := (F_2.other W6 (Or.inl ne_9))
  obtain ⟨T11, X11, e11, st11⟩ := getF X6 hx hZ hown (host := "") (Or.inl (hw _ (List.mem_of_getElem? (i := 13) rfl))) Via.refl e6 f10 (g := (mkF m 74 #[.val (.ref a0), .val (.int p1), .val (.int p2)] [(.ref a0)])) rfl rfl (hb hby d3_74)
  refine Go.step st11 ?_
  show Go _ _ _ _ _ _ _ (T11.setTop (mkF m 77 #[.val (.ref a0), .val (.int p1), .val (.int p2)] [(.ref br)]))
  refine Go.step (fun _ k => XS.aloadN X11.here hx rfl (hb hby d3_77) rfl rfl  k) ?_
  show Go _ _ _ _ _ _ _ (T11.setTop (mkF m 78 #[.val (.ref a0), .val (.int p1), .val (.int p2)] [(.ref a0), (.ref br)]))
  have f12 : Fld Z h6 a0 "com/example/both_ways/bothways/equivalence/SplitHistory" "nodeCount" "I" (.int w) := (F_5.other W6 (Or.inl ne_9))
  obtain ⟨T13, X13, e13, st13⟩ := getF X11 hx hZ hown (host := "") (Or.inl (hw _ (List.mem_of_getElem? (i := 19) rfl))) Via.refl e11 f12 (g := (mkF m 78 #[.val (.ref a0), .val (.int p1), .val (.int p2)] [(.ref a0), (.ref br)])) rfl rfl (hb hby d3_78)
  refine Go.step st13 ?_
  show Go _ _ _ _ _ _ _ (T13.setTop (mkF m 81 #[.val (.ref a0), .val (.int p1), .val (.int p2)] [(.int w), (.ref br)]))
  refine Go.step (fun _ k => XS.iloadN X13.here hx rfl (hb hby d3_81) rfl  k) ?_
  show Go _ _ _ _ _ _ _ (T13.setTop (mkF m 82 #[.val (.ref a0), .val (.int p1), .val (.int p2)] [(.int p2), (.int w), (.ref br)]))
  have f14 : Ai Z h6 br .int (16 : Int32) fr := (A_7.other W6 (Ne.symm ne_13))
  have lo15 : ¬ w < 0 := hw1.1
  have hi15 : w < (16 : Int32) := hw1.2
  obtain ⟨T16, h16, X16, e16, W16, f16, st16⟩ := Ai.stI X13 hx hZ e13 f14 (j := w) (x := p2) lo15 hi15 (g := (mkF m 82 #[.val (.ref a0), .val (.int p1), .val (.int p2)] [(.int p2), (.int w), (.ref br)])) rfl rfl (hb hby d3_82)
  refine Go.step st16 ?_
  have N16 := Fr.snoc X16 N6 g_21
  have z17 : n0 ≤ h16.size := Nat.le_trans z7 (Keep.of_wr W16).1
  have sqz17 : h0.size ≤ h16.size := Nat.le_trans sqz7 (Keep.of_wr W16).1
  have k18 : Keep h0 h16 [a0, bp, br, bd] := k8.wr W16 (Or.inl (List.mem_of_getElem? (i := 2) rfl))
  obtain ⟨f19c, qf19c⟩ : ∃ fz, fz = (fun jj => if jj = w then p2 else fr jj) := ⟨_, rfl⟩
  rw [← qf19c] at f16
  show Go _ _ _ _ _ _ _ (T16.setTop (mkF m 83 #[.val (.ref a0), .val (.int p1), .val (.int p2)] []))
  refine Go.step (fun _ k => XS.aloadN X16.here hx rfl (hb hby d3_83) rfl rfl  k) ?_
  show Go _ _ _ _ _ _ _ (T16.setTop (mkF m 84 #[.val (.ref a0), .val (.int p1), .val (.int p2)] [(.ref a0)]))
  have f20 : Fld Z h16 a0 "com/example/both_ways/bothways/equivalence/SplitHistory" "depths" "[I" (.ref bd) := ((F_3.other W6 (Or.inl ne_9)).other W16 (Or.inl ne_10))
  obtain ⟨T21, X21, e21, st21⟩ := getF X16 hx hZ hown (host := "") (Or.inl (hw _ (List.mem_of_getElem? (i := 15) rfl))) Via.refl e16 f20 (g := (mkF m 84 #[.val (.ref a0), .val (.int p1), .val (.int p2)] [(.ref a0)])) rfl rfl (hb hby d3_84)
  refine Go.step st21 ?_
  show Go _ _ _ _ _ _ _ (T21.setTop (mkF m 87 #[.val (.ref a0), .val (.int p1), .val (.int p2)] [(.ref bd)]))
  refine Go.step (fun _ k => XS.aloadN X21.here hx rfl (hb hby d3_87) rfl rfl  k) ?_
  show Go _ _ _ _ _ _ _ (T21.setTop (mkF m 88 #[.val (.ref a0), .val (.int p1), .val (.int p2)] [(.ref a0), (.ref bd)]))
  have f22 : Fld Z h16 a0 "com/example/both_ways/bothways/equivalence/SplitHistory" "nodeCount" "I" (.int w) := (f12.other W16 (Or.inl ne_10))
  obtain ⟨T23, X23, e23, st23⟩ := getF X21 hx hZ hown (host := "") (Or.inl (hw _ (List.mem_of_getElem? (i := 19) rfl))) Via.refl e21 f22 (g := (mkF m 88 #[.val (.ref a0), .val (.int p1), .val (.int p2)] [(.ref a0), (.ref bd)])) rfl rfl (hb hby d3_88)
  refine Go.step st23 ?_
  show Go _ _ _ _ _ _ _ (T23.setTop (mkF m 91 #[.val (.ref a0), .val (.int p1), .val (.int p2)] [(.int w), (.ref bd)]))
  refine Go.step (fun _ k => XS.aloadN X23.here hx rfl (hb hby d3_91) rfl rfl  k) ?_
  show Go _ _ _ _ _ _ _ (T23.setTop (mkF m 92 #[.val (.ref a0), .val (.int p1), .val (.int p2)] [(.ref a0), (.int w), (.ref bd)]))
  obtain ⟨T24, X24, e24, st24⟩ := getF X23 hx hZ hown (host := "") (Or.inl (hw _ (List.mem_of_getElem? (i := 15) rfl))) Via.refl e23 f20 (g := (mkF m 92 #[.val (.ref a0), .val (.int p1), .val (.int p2)] [(.ref a0), (.int w), (.ref bd)])) rfl rfl (hb hby d3_92)
  refine Go.step st24 ?_
  show Go _ _ _ _ _ _ _ (T24.setTop (mkF m 95 #[.val (.ref a0), .val (.int p1), .val (.int p2)] [(.ref bd), (.int w), (.ref bd)]))
  refine Go.step (fun _ k => XS.iloadN X24.here hx rfl (hb hby d3_95) rfl  k) ?_
  show Go _ _ _ _ _ _ _ (T24.setTop (mkF m 96 #[.val (.ref a0), .val (.int p1), .val (.int p2)] [(.int p1), (.ref bd), (.int w), (.ref bd)]))
  have f25 : Ai Z h16 bd .int (16 : Int32) fd := ((A_8.other W6 (Ne.symm ne_14)).other W16 (Ne.symm ne_16))
  have lo26 : ¬ p1 < 0 := hb1.1
  have hi26 : p1 < (16 : Int32) := hb1.2
  refine Go.step (Ai.iaload X24 hx hZ e24 f25 (j := p1) lo26 hi26 (g := (mkF m 96 #[.val (.ref a0), .val (.int p1), .val (.int p2)] [(.int p1), (.ref bd), (.int w), (.ref bd)])) rfl rfl (hb hby d3_96)) ?_
  show Go _ _ _ _ _ _ _ (T24.setTop (mkF m 97 #[.val (.ref a0), .val (.int p1), .val (.int p2)] [(.int (fd p1)), (.int w), (.ref bd)]))
  refine Go.step (fun _ k => XS.iconst X24.here hx rfl (hb hby d3_97) k) ?_
  show Go _ _ _ _ _ _ _ (T24.setTop (mkF m 98 #[.val (.ref a0), .val (.int p1), .val (.int p2)] [(.int (1 : Int32)), (.int (fd p1)), (.int w), (.ref bd)]))
  refine Go.step (fun _ k => XS.iadd X24.here hx rfl (hb hby d3_98) rfl k) ?_
  show Go _ _ _ _ _ _ _ (T24.setTop (mkF m 99 #[.val (.ref a0), .val (.int p1), .val (.int p2)] [(.int ((fd p1) + (1 : Int32))), (.int w), (.ref bd)]))
  have lo27 : ¬ w < 0 := hw1.1
  have hi27 : w < (16 : Int32) := hw1.2
  obtain ⟨T28, h28, X28, e28, W28, f28, st28⟩ := Ai.stI X24 hx hZ e24 f25 (j := w) (x := ((fd p1) + (1 : Int32))) lo27 hi27 (g := (mkF m 99 #[.val (.ref a0), .val (.int p1), .val (.int p2)] [(.int ((fd p1) + (1 : Int32))), (.int w), (.ref bd)])) rfl rfl (hb hby d3_99)
  refine Go.step st28 ?_
  have N28 := Fr.snoc X28 N16 g_22
  have z29 : n0 ≤ h28.size := Nat.le_trans z17 (Keep.of_wr W28).1
  have sqz29 : h0.size ≤ h28.size := Nat.le_trans sqz17 (Keep.of_wr W28).1
  have k30 : Keep h0 h28 [a0, bp, br, bd] := k18.wr W28 (Or.inl (List.mem_of_getElem? (i := 3) rfl))
  obtain ⟨f31c, qf31c⟩ : ∃ fz, fz = (fun jj => if jj = w then ((fd p1) + (1 : Int32)) else fd jj) := ⟨_, rfl⟩
  rw [← qf31c] at f28
  show Go _ _ _ _ _ _ _ (T28.setTop (mkF m 100 #[.val (.ref a0), .val (.int p1), .val (.int p2)] []))
  refine Go.step (fun _ k => XS.aloadN X28.here hx rfl (hb hby d3_100) rfl rfl  k) ?_
  show Go _ _ _ _ _ _ _ (T28.setTop (mkF m 101 #[.val (.ref a0), .val (.int p1), .val (.int p2)] [(.ref a0)]))
  refine Go.step (fun _ k => XS.dup X28.here hx rfl (hb hby d3_101) rfl rfl k) ?_
  show Go _ _ _ _ _ _ _ (T28.setTop (mkF m 102 #[.val (.ref a0), .val (.int p1), .val (.int p2)] [(.ref a0), (.ref a0)]))
  have f32 : Fld Z h28 a0 "com/example/both_ways/bothways/equivalence/SplitHistory" "nodeCount" "I" (.int w) := (f22.other W28 (Or.inl ne_11))
  obtain ⟨T33, X33, e33, st33⟩ := getF X28 hx hZ hown (host := "") (Or.inl (hw _ (List.mem_of_getElem? (i := 19) rfl))) Via.refl e28 f32 (g := (mkF m 102 #[.val (.ref a0), .val (.int p1), .val (.int p2)] [(.ref a0), (.ref a0)])) rfl rfl (hb hby d3_102)
  refine Go.step st33 ?_
  show Go _ _ _ _ _ _ _ (T33.setTop (mkF m 105 #[.val (.ref a0), .val (.int p1), .val (.int p2)] [(.int w), (.ref a0)]))
  refine Go.step (fun _ k => XS.dupX1 X33.here hx rfl (hb hby d3_105) rfl rfl rfl k) ?_
  show Go _ _ _ _ _ _ _ (T33.setTop (mkF m 106 #[.val (.ref a0), .val (.int p1), .val (.int p2)] [(.int w), (.ref a0), (.int w)]))
  refine Go.step (fun _ k => XS.iconst X33.here hx rfl (hb hby d3_106) k) ?_
  show Go _ _ _ _ _ _ _ (T33.setTop (mkF m 107 #[.val (.ref a0), .val (.int p1), .val (.int p2)] [(.int (1 : Int32)), (.int w), (.ref a0), (.int w)]))
  refine Go.step (fun _ k => XS.iadd X33.here hx rfl (hb hby d3_107) rfl k) ?_
  show Go _ _ _ _ _ _ _ (T33.setTop (mkF m 108 #[.val (.ref a0), .val (.int p1), .val (.int p2)] [(.int (w + (1 : Int32))), (.ref a0), (.int w)]))
  have f34 : Exa Z h28 a0 "com/example/both_ways/bothways/equivalence/SplitHistory" := (((E_0.wr W6).wr W16).wr W28)
  obtain ⟨T35, h35, X35, e35, W35, st35⟩ := putF X33 hx hZ hown (host := "") (Or.inl (hw _ (List.mem_of_getElem? (i := 19) rfl))) Via.refl e33 f32 f34 (Or.inl (hw _ (List.mem_of_getElem? (i := 20) rfl))) (hw _ (List.mem_of_getElem? (i := 2) rfl)) (ty := .int) (v := (.int (w + (1 : Int32)))) (by decide) rfl rfl (g := (mkF m 108 #[.val (.ref a0), .val (.int p1), .val (.int p2)] [(.int (w + (1 : Int32))), (.ref a0), (.int w)])) rfl rfl (hb hby d3_108)
  refine Go.step st35 ?_
  have N35 := Fr.snoc X35 N28 g_19
  have z36 : n0 ≤ h35.size := Nat.le_trans z29 (Keep.of_wr W35).1
  have sqz36 : h0.size ≤ h35.size := Nat.le_trans sqz29 (Keep.of_wr W35).1
  have k37 : Keep h0 h35 [a0, bp, br, bd] := k30.wr W35 (Or.inl (List.mem_of_getElem? (i := 0) rfl))
  have f38 : Fld Z h35 a0 "com/example/both_ways/bothways/equivalence/SplitHistory" "nodeCount" "I" (.int (w + (1 : Int32))) := f32.same W35
  show Go _ _ _ _ _ _ _ (T35.setTop (mkF m 111 #[.val (.ref a0), .val (.int p1), .val (.int p2)] [(.int w)]))
  have f39 : Exa Z h35 a0 "com/example/both_ways/bothways/equivalence/SplitHistory" := (f34.wr W35)
  have f40 : Fld Z h35 a0 "com/example/both_ways/bothways/equivalence/SplitHistory" "parents" "[I" (.ref bp) := ((((F_1.other W6 (Or.inl ne_9)).other W16 (Or.inl ne_10)).other W28 (Or.inl ne_11)).other W35 (Or.inr (slot_ne (Or.inl (hw _ (List.mem_of_getElem? (i := 12) rfl))) (Or.inl (hw _ (List.mem_of_getElem? (i := 20) rfl))) (by decide) (t := (.array .int)) (t' := .int) (by decide) (by decide))))
  have f41 : Fld Z h35 a0 "com/example/both_ways/bothways/equivalence/SplitHistory" "rounds" "[I" (.ref br) := (((f10.other W16 (Or.inl ne_10)).other W28 (Or.inl ne_11)).other W35 (Or.inr (slot_ne (Or.inl (hw _ (List.mem_of_getElem? (i := 14) rfl))) (Or.inl (hw _ (List.mem_of_getElem? (i := 20) rfl))) (by decide) (t := (.array .int)) (t' := .int) (by decide) (by decide))))
  have f42 : Fld Z h35 a0 "com/example/both_ways/bothways/equivalence/SplitHistory" "depths" "[I" (.ref bd) := ((f20.other W28 (Or.inl ne_11)).other W35 (Or.inr (slot_ne (Or.inl (hw _ (List.mem_of_getElem? (i := 16) rfl))) (Or.inl (hw _ (List.mem_of_getElem? (i := 20) rfl))) (by decide) (t := (.array .int)) (t' := .int) (by decide) (by decide))))
  have f43 : Fld Z h35 a0 "com/example/both_ways/bothways/equivalence/SplitHistory" "leaves" "[I" (.ref bl) := ((((F_4.other W6 (Or.inl ne_9)).other W16 (Or.inl ne_10)).other W28 (Or.inl ne_11)).other W35 (Or.inr (slot_ne (Or.inr (hw _ (List.mem_of_getElem? (i := 18) rfl))) (Or.inl (hw _ (List.mem_of_getElem? (i := 20) rfl))) (by decide) (t := (.array .int)) (t' := .int) (by decide) (by decide))))
  have f44 : Fld Z h35 a0 "com/example/both_ways/bothways/equivalence/SplitHistory" "visits" "J" (.long (0 : Int64)) := ((((F_25.other W6 (Or.inl ne_9)).other W16 (Or.inl ne_10)).other W28 (Or.inl ne_11)).other W35 (Or.inr (slot_ne (Or.inl (hw _ (List.mem_of_getElem? (i := 37) rfl))) (Or.inl (hw _ (List.mem_of_getElem? (i := 20) rfl))) (by decide) (t := .long) (t' := .int) (by decide) (by decide))))
  have f45 : Ai Z h35 bp .int (16 : Int32) f9c := (((f6.other W16 ne_13).other W28 ne_14).other W35 (Ne.symm ne_9))
  have f46 : Ai Z h35 br .int (16 : Int32) f19c := ((f16.other W28 ne_16).other W35 (Ne.symm ne_10))
  have f47 : Ai Z h35 bd .int (16 : Int32) f31c := (f28.other W35 (Ne.symm ne_11))
  refine Go.retI X35 hx Bd.returns hlk (hb hby d3_111) ?_ (by decide) (by decide)
  rw [e35]
  exact ⟨f9c, f19c, f31c, (rfl), N35, k37, f39, f40, f41, f42, f43, f38, f44, f45, f46, f47, (by assumption), (by assumption), (by assumption)⟩
theorem d4_0 : decode prog_90_method_3_code 0 = .ok (.aload_n 0, 1) := by decide +kernel
theorem d4_1 : decode prog_90_method_3_code 1 = .ok (.getfield 19, 3) := by decide +kernel
theorem d4_4 : decode prog_90_method_3_code 4 = .ok (.iload_n 1, 1) := by decide +kernel
theorem d4_5 : decode prog_90_method_3_code 5 = .ok (.iload_n 2, 1) := by decide +kernel
theorem d4_6 : decode prog_90_method_3_code 6 = .ok (.iastore, 1) := by decide +kernel
theorem d4_7 : decode prog_90_method_3_code 7 = .ok (.return_, 1) := by decide +kernel
theorem ef_4 (m : MethodId) (a0 : Addr) (p1 : Int32) (p2 : Int32) : entryFrame m #[(.ref a0), (.int p1), (.int p2)] 3 = mkF m 0 #[.val (.ref a0), .val (.int p1), .val (.int p2)] [] := by first | (simp [entryFrame, mkF, argsToLocals, Value.category]; done) | rfl
def Q4 (Z : State) (a0 : Addr) (p1 : Int32) (p2 : Int32) (bl : Addr) (fl : Int32 → Int32) (h0 : Heap) (n0 : Nat) (v : Option Value) (h : Heap) (L : List Loc) : Prop := ∃ (gl : Int32 → Int32), (v = none) ∧ (Fr n0 L) ∧ (Keep h0 h [bl]) ∧ (Ai Z h bl .int (1 : Int32) gl) ∧ (gl (0 : Int32) = p2)
set_option maxRecDepth 65536 in
set_option maxHeartbeats 40000000 in
theorem rm4 (l : Launch) (Z : State) (aZ : Array Value) (hw : ∀ d ∈ tables_1, d.before aZ Z = true) (ws : List Jvm.Cond) (a0 : Addr) (p1 : Int32) (p2 : Int32) (bl : Addr) (fl : Int32 → Int32) (h0 : Heap) (n0 : Nat) (Z0 : n0 ≤ h0.size) (F_0 : Fld Z h0 a0 "com/example/both_ways/bothways/equivalence/SplitHistory" "leaves" "[I" (.ref bl)) (A_1 : Ai Z h0 bl .int (1 : Int32) fl) (g_2 : n0 ≤ bl) (hp1 : p1 = (0 : Int32)) :
    MetFree l (⟨"com/example/both_ways/bothways/equivalence/SplitHistory", "place", "(II)V"⟩ : MethodName) (head1 (Jvm.Cond.code (⟨"com/example/both_ways/bothways/equivalence/SplitHistory", "place", "(II)V"⟩ : MethodName) prog_90_method_3_code 3 none :: ws) ({ frames := 0, cells := 0, slots := 0, locals := 0 } : Room)) (fun a U => a = #[(.ref a0), (.int p1), (.int p2)] ∧ Z.Warmed39 U.vm ∧ U.heap = h0) (fun _ _ _ _ _ => True) (fun _ U o U' => ∃ v L, o = .returned v ∧ Q4 Z a0 p1 p2 bl fl h0 n0 v U'.heap L ∧ FrameEnd U o U' L ({ frames := 0, cells := 0, slots := 0, locals := 0 } : Room).cells ({ frames := 0, cells := 0, slots := 0, locals := 0 } : Room).slots) := by
  refine MetFree.of_bodySF (plainFor_of_name pn_7) hisR ?_
  intro p e s m args below meth c s₁ Bd hml0 hP hK
  obtain ⟨rfl, hZ, hh⟩ := hP
  have hx := Bd.exec
  have hby := Bd.bytes
  have hml : c.maxLocals = 3 := hml0
  have hown : s.vm.findClass "com/example/both_ways/bothways/equivalence/SplitHistory" = some m.cls := findClass_of_methodNamed Bd.named
  have hnm := (name_of_methodNamed Bd.named Bd.method).1
  have hlk : meth.locks = false := BodyLoose.notSynchronized Bd
  have X0 : Stand p l e ({ frames := 0, cells := 0, slots := 0, locals := 0 } : Room) s m #[(.ref a0), (.int p1), (.int p2)] below meth c s₁ [] 0 0 := Stand.of_body Bd
  have e0 : s₁.heap = h0 := by rw [← hh, Bd.state]; rfl
  have N0 := Fr.nil n0
  have sq0 : h0.size ≤ h0.size := Nat.le_refl _
  have k0 : Keep h0 h0 [bl] := Keep.refl _ _
  change Go p e below s ({ frames := 0, cells := 0, slots := 0, locals := 0 } : Room).cells ({ frames := 0, cells := 0, slots := 0, locals := 0 } : Room).slots (Q4 Z a0 p1 p2 bl fl h0 n0) (s₁.setTop (entryFrame m #[(.ref a0), (.int p1), (.int p2)] 3))
  rw [ef_4 m a0 p1 p2]
  show Go _ _ _ _ _ _ _ (s₁.setTop (mkF m 0 #[.val (.ref a0), .val (.int p1), .val (.int p2)] []))
  refine Go.step (fun _ k => XS.aloadN X0.here hx rfl (hb hby d4_0) rfl rfl  k) ?_
  show Go _ _ _ _ _ _ _ (s₁.setTop (mkF m 1 #[.val (.ref a0), .val (.int p1), .val (.int p2)] [(.ref a0)]))
  obtain ⟨T1, X1, e1, st1⟩ := getF X0 hx hZ hown (host := "") (Or.inl (hw _ (List.mem_of_getElem? (i := 17) rfl))) Via.refl e0 F_0 (g := (mkF m 1 #[.val (.ref a0), .val (.int p1), .val (.int p2)] [(.ref a0)])) rfl rfl (hb hby d4_1)
  refine Go.step st1 ?_
  show Go _ _ _ _ _ _ _ (T1.setTop (mkF m 4 #[.val (.ref a0), .val (.int p1), .val (.int p2)] [(.ref bl)]))
  refine Go.step (fun _ k => XS.iloadN X1.here hx rfl (hb hby d4_4) rfl  k) ?_
  show Go _ _ _ _ _ _ _ (T1.setTop (mkF m 5 #[.val (.ref a0), .val (.int p1), .val (.int p2)] [(.int p1), (.ref bl)]))
  refine Go.step (fun _ k => XS.iloadN X1.here hx rfl (hb hby d4_5) rfl  k) ?_
  show Go _ _ _ _ _ _ _ (T1.setTop (mkF m 6 #[.val (.ref a0), .val (.int p1), .val (.int p2)] [(.int p2), (.int p1), (.ref bl)]))
  have lo2 : ¬ p1 < 0 := (by rw [hp1]; decide)
  have hi2 : p1 < (1 : Int32) := (by rw [hp1]; decide)
  obtain ⟨T3, h3, X3, e3, W3, f3, st3⟩ := Ai.stI X1 hx hZ e1 A_1 (j := p1) (x := p2) lo2 hi2 (g := (mkF m 6 #[.val (.ref a0), .val (.int p1), .val (.int p2)] [(.int p2), (.int p1), (.ref bl)])) rfl rfl (hb hby d4_6)
  refine Go.step st3 ?_
  have N3 := Fr.snoc X3 N0 g_2
  have z4 : n0 ≤ h3.size := Nat.le_trans Z0 (Keep.of_wr W3).1
  have sqz4 : h0.size ≤ h3.size := Nat.le_trans sq0 (Keep.of_wr W3).1
  have k5 : Keep h0 h3 [bl] := k0.wr W3 (Or.inl (List.mem_of_getElem? (i := 0) rfl))
  obtain ⟨f6c, qf6c⟩ : ∃ fz, fz = (fun jj => if jj = p1 then p2 else fl jj) := ⟨_, rfl⟩
  rw [← qf6c] at f3
  show Go _ _ _ _ _ _ _ (T3.setTop (mkF m 7 #[.val (.ref a0), .val (.int p1), .val (.int p2)] []))
  refine Go.retV X3 hx Bd.returns hlk (hb hby d4_7) ?_ (by decide) (by decide)
  rw [e3]
  exact ⟨f6c, (rfl), N3, k5, f3, (by simp [qf6c, hp1])⟩
theorem d5_0 : decode prog_90_method_6_code 0 = .ok (.aload_n 0, 1) := by decide +kernel
theorem d5_1 : decode prog_90_method_6_code 1 = .ok (.getfield 19, 3) := by decide +kernel
theorem d5_4 : decode prog_90_method_6_code 4 = .ok (.iload_n 1, 1) := by decide +kernel
theorem d5_5 : decode prog_90_method_6_code 5 = .ok (.iaload, 1) := by decide +kernel
theorem d5_6 : decode prog_90_method_6_code 6 = .ok (.istore_n 3, 1) := by decide +kernel
theorem d5_7 : decode prog_90_method_6_code 7 = .ok (.aload_n 0, 1) := by decide +kernel
theorem d5_8 : decode prog_90_method_6_code 8 = .ok (.getfield 13, 3) := by decide +kernel
theorem d5_11 : decode prog_90_method_6_code 11 = .ok (.iload_n 3, 1) := by decide +kernel
theorem d5_12 : decode prog_90_method_6_code 12 = .ok (.iaload, 1) := by decide +kernel
theorem d5_13 : decode prog_90_method_6_code 13 = .ok (.iload_n 2, 1) := by decide +kernel
theorem d5_14 : decode prog_90_method_6_code 14 = .ok (.if_icmp .le 13, 3) := by decide +kernel
theorem d5_17 : decode prog_90_method_6_code 17 = .ok (.aload_n 0, 1) := by decide +kernel
theorem d5_18 : decode prog_90_method_6_code 18 = .ok (.getfield 7, 3) := by decide +kernel
theorem d5_21 : decode prog_90_method_6_code 21 = .ok (.iload_n 3, 1) := by decide +kernel
theorem d5_22 : decode prog_90_method_6_code 22 = .ok (.iaload, 1) := by decide +kernel
theorem d5_23 : decode prog_90_method_6_code 23 = .ok (.istore_n 3, 1) := by decide +kernel
theorem d5_24 : decode prog_90_method_6_code 24 = .ok (.goto (-17), 3) := by decide +kernel
theorem d5_27 : decode prog_90_method_6_code 27 = .ok (.aload_n 0, 1) := by decide +kernel
theorem d5_28 : decode prog_90_method_6_code 28 = .ok (.dup, 1) := by decide +kernel
theorem d5_29 : decode prog_90_method_6_code 29 = .ok (.getfield 41, 3) := by decide +kernel
theorem d5_32 : decode prog_90_method_6_code 32 = .ok (.aload_n 0, 1) := by decide +kernel
theorem d5_33 : decode prog_90_method_6_code 33 = .ok (.getfield 16, 3) := by decide +kernel
theorem d5_36 : decode prog_90_method_6_code 36 = .ok (.aload_n 0, 1) := by decide +kernel
theorem d5_37 : decode prog_90_method_6_code 37 = .ok (.getfield 19, 3) := by decide +kernel
theorem d5_40 : decode prog_90_method_6_code 40 = .ok (.iload_n 1, 1) := by decide +kernel
theorem d5_41 : decode prog_90_method_6_code 41 = .ok (.iaload, 1) := by decide +kernel
theorem d5_42 : decode prog_90_method_6_code 42 = .ok (.iaload, 1) := by decide +kernel
theorem d5_43 : decode prog_90_method_6_code 43 = .ok (.aload_n 0, 1) := by decide +kernel
theorem d5_44 : decode prog_90_method_6_code 44 = .ok (.getfield 16, 3) := by decide +kernel
theorem d5_47 : decode prog_90_method_6_code 47 = .ok (.iload_n 3, 1) := by decide +kernel
theorem d5_48 : decode prog_90_method_6_code 48 = .ok (.iaload, 1) := by decide +kernel
theorem d5_49 : decode prog_90_method_6_code 49 = .ok (.isub, 1) := by decide +kernel
theorem d5_50 : decode prog_90_method_6_code 50 = .ok (.iconst 1, 1) := by decide +kernel
theorem d5_51 : decode prog_90_method_6_code 51 = .ok (.iadd, 1) := by decide +kernel
theorem d5_52 : decode prog_90_method_6_code 52 = .ok (.i2l, 1) := by decide +kernel
theorem d5_53 : decode prog_90_method_6_code 53 = .ok (.ladd, 1) := by decide +kernel
theorem d5_54 : decode prog_90_method_6_code 54 = .ok (.putfield 41, 3) := by decide +kernel
theorem d5_57 : decode prog_90_method_6_code 57 = .ok (.iload_n 3, 1) := by decide +kernel
theorem d5_58 : decode prog_90_method_6_code 58 = .ok (.ireturn, 1) := by decide +kernel
theorem ef_5 (m : MethodId) (a0 : Addr) (p1 : Int32) (p2 : Int32) : entryFrame m #[(.ref a0), (.int p1), (.int p2)] 4 = mkF m 0 #[.val (.ref a0), .val (.int p1), .val (.int p2), .unset] [] := by first | (simp [entryFrame, mkF, argsToLocals, Value.category]; done) | rfl
def Q5 (Z : State) (a0 : Addr) (p1 : Int32) (p2 : Int32) (bp : Addr) (fp : Int32 → Int32) (br : Addr) (fr : Int32 → Int32) (bd : Addr) (fd : Int32 → Int32) (bl : Addr) (fl : Int32 → Int32) (h0 : Heap) (n0 : Nat) (v : Option Value) (h : Heap) (L : List Loc) : Prop := (v = some (.int (own_climb fr fp p2 3 (fl p1)))) ∧ (Fr n0 L) ∧ (Keep h0 h [a0]) ∧ (Exa Z h a0 "com/example/both_ways/bothways/equivalence/SplitHistory") ∧ (Fld Z h a0 "com/example/both_ways/bothways/equivalence/SplitHistory" "visits" "J" (.long ((0 : Int64) + Int32.toInt64 (((fd (fl p1)) - (fd (own_climb fr fp p2 3 (fl p1)))) + (1 : Int32)))))
set_option maxRecDepth 65536 in
set_option maxHeartbeats 40000000 in
theorem rm5 (l : Launch) (Z : State) (aZ : Array Value) (hw : ∀ d ∈ tables_1, d.before aZ Z = true) (ws : List Jvm.Cond) (a0 : Addr) (p1 : Int32) (p2 : Int32) (bp : Addr) (fp : Int32 → Int32) (br : Addr) (fr : Int32 → Int32) (bd : Addr) (fd : Int32 → Int32) (bl : Addr) (fl : Int32 → Int32) (h0 : Heap) (n0 : Nat) (Z0 : n0 ≤ h0.size) (E_0 : Exa Z h0 a0 "com/example/both_ways/bothways/equivalence/SplitHistory") (F_1 : Fld Z h0 a0 "com/example/both_ways/bothways/equivalence/SplitHistory" "parents" "[I" (.ref bp)) (F_2 : Fld Z h0 a0 "com/example/both_ways/bothways/equivalence/SplitHistory" "rounds" "[I" (.ref br)) (F_3 : Fld Z h0 a0 "com/example/both_ways/bothways/equivalence/SplitHistory" "depths" "[I" (.ref bd)) (F_4 : Fld Z h0 a0 "com/example/both_ways/bothways/equivalence/SplitHistory" "leaves" "[I" (.ref bl)) (F_5 : Fld Z h0 a0 "com/example/both_ways/bothways/equivalence/SplitHistory" "visits" "J" (.long (0 : Int64))) (A_6 : Ai Z h0 bp .int (16 : Int32) fp) (A_7 : Ai Z h0 br .int (16 : Int32) fr) (A_8 : Ai Z h0 bd .int (16 : Int32) fd) (A_9 : Ai Z h0 bl .int (1 : Int32) fl) (g_10 : n0 ≤ a0) (hp1 : p1 = (0 : Int32)) (hok0 : own_ok fr fp p2 3 (fl p1)) (ne_13 : a0 ≠ bp) (ne_14 : a0 ≠ br) (ne_15 : a0 ≠ bd) (ne_16 : a0 ≠ bl) (ne_17 : bp ≠ br) (ne_18 : bp ≠ bd) (ne_19 : bp ≠ bl) (ne_20 : br ≠ bd) (ne_21 : br ≠ bl) (ne_22 : bd ≠ bl) :
    MetFree l (⟨"com/example/both_ways/bothways/equivalence/SplitHistory", "blockAfter", "(II)I"⟩ : MethodName) (head1 (Jvm.Cond.code (⟨"com/example/both_ways/bothways/equivalence/SplitHistory", "blockAfter", "(II)I"⟩ : MethodName) prog_90_method_6_code 4 (some .int) :: ws) ({ frames := 0, cells := 0, slots := 0, locals := 0 } : Room)) (fun a U => a = #[(.ref a0), (.int p1), (.int p2)] ∧ Z.Warmed39 U.vm ∧ U.heap = h0) (fun _ _ _ _ _ => True) (fun _ U o U' => ∃ v L, o = .returned v ∧ Q5 Z a0 p1 p2 bp fp br fr bd fd bl fl h0 n0 v U'.heap L ∧ FrameEnd U o U' L ({ frames := 0, cells := 0, slots := 0, locals := 0 } : Room).cells ({ frames := 0, cells := 0, slots := 0, locals := 0 } : Room).slots) := by
  refine MetFree.of_bodySF (plainFor_of_name pn_7) hisR ?_
  intro p e s m args below meth c s₁ Bd hml0 hP hK
  obtain ⟨rfl, hZ, hh⟩ := hP
  have hx := Bd.exec
  have hby := Bd.bytes
  have hml : c.maxLocals = 4 := hml0
  have hown : s.vm.findClass "com/example/both_ways/bothways/equivalence/SplitHistory" = some m.cls := findClass_of_methodNamed Bd.named
  have hnm := (name_of_methodNamed Bd.named Bd.method).1
  have hlk : meth.locks = false := BodyLoose.notSynchronized Bd
  have X0 : Stand p l e ({ frames := 0, cells := 0, slots := 0, locals := 0 } : Room) s m #[(.ref a0), (.int p1), (.int p2)] below meth c s₁ [] 0 0 := Stand.of_body Bd
  have e0 : s₁.heap = h0 := by rw [← hh, Bd.state]; rfl
  have N0 := Fr.nil n0
  have sq0 : h0.size ≤ h0.size := Nat.le_refl _
  have k0 : Keep h0 h0 [a0] := Keep.refl _ _
  change Go p e below s ({ frames := 0, cells := 0, slots := 0, locals := 0 } : Room).cells ({ frames := 0, cells := 0, slots := 0, locals := 0 } : Room).slots (Q5 Z a0 p1 p2 bp fp br fr bd fd bl fl h0 n0) (s₁.setTop (entryFrame m #[(.ref a0), (.int p1), (.int p2)] 4))
  rw [ef_5 m a0 p1 p2]
  show Go _ _ _ _ _ _ _ (s₁.setTop (mkF m 0 #[.val (.ref a0), .val (.int p1), .val (.int p2), .unset] []))
  refine Go.step (fun _ k => XS.aloadN X0.here hx rfl (hb hby d5_0) rfl rfl  k) ?_
  show Go _ _ _ _ _ _ _ (s₁.setTop (mkF m 1 #[.val (.ref a0), .val (.int p1), .val (.int p2), .unset] [(.ref a0)]))
  obtain ⟨T1, X1, e1, st1⟩ := getF X0 hx hZ hown (host := "") (Or.inl (hw _ (List.mem_of_getElem? (i := 17) rfl))) Via.refl e0 F_4 (g := (mkF m 1 #[.val (.ref a0), .val (.int p1), .val (.int p2), .unset] [(.ref a0)])) rfl rfl (hb hby d5_1)
  refine Go.step st1 ?_
  show Go _ _ _ _ _ _ _ (T1.setTop (mkF m 4 #[.val (.ref a0), .val (.int p1), .val (.int p2), .unset] [(.ref bl)]))
  refine Go.step (fun _ k => XS.iloadN X1.here hx rfl (hb hby d5_4) rfl  k) ?_
  show Go _ _ _ _ _ _ _ (T1.setTop (mkF m 5 #[.val (.ref a0), .val (.int p1), .val (.int p2), .unset] [(.int p1), (.ref bl)]))
  have lo2 : ¬ p1 < 0 := (by rw [hp1]; decide)
  have hi2 : p1 < (1 : Int32) := (by rw [hp1]; decide)
  refine Go.step (Ai.iaload X1 hx hZ e1 A_9 (j := p1) lo2 hi2 (g := (mkF m 5 #[.val (.ref a0), .val (.int p1), .val (.int p2), .unset] [(.int p1), (.ref bl)])) rfl rfl (hb hby d5_5)) ?_
  show Go _ _ _ _ _ _ _ (T1.setTop (mkF m 6 #[.val (.ref a0), .val (.int p1), .val (.int p2), .unset] [(.int (fl p1))]))
  refine Go.step (fun _ k => XS.istoreN X1.here hx rfl (hb hby d5_6) rfl (l' := #[.val (.ref a0), .val (.int p1), .val (.int p2), .val (.int (fl p1))]) rfl k) ?_
  have J7_3 : ∀ (fuel : Nat) (nd : Int32) (kk : Nat) (TJ3 : State) (locs3 : List Loc) (X3 : Stand p l e ({ frames := 0, cells := 0, slots := 0, locals := 0 } : Room) s m #[(.ref a0), (.int p1), (.int p2)] below meth c TJ3 locs3 0 0) (e3 : TJ3.heap = h0) (N3 : Fr n0 locs3) (hok : own_ok fr fp p2 kk nd) (hcl : own_climb fr fp p2 kk nd = own_climb fr fp p2 3 (fl p1)) (hfuel : kk = fuel), Go p e below s ({ frames := 0, cells := 0, slots := 0, locals := 0 } : Room).cells ({ frames := 0, cells := 0, slots := 0, locals := 0 } : Room).slots (Q5 Z a0 p1 p2 bp fp br fr bd fd bl fl h0 n0) (TJ3.setTop (mkF m 7 #[.val (.ref a0), .val (.int p1), .val (.int p2), .val (.int nd)] [])) := by
    intro fuel
    induction fuel using Nat.strongRecOn with
    | ind fuel ih =>
      intro nd kk TJ3 locs3 X3 e3 N3 hok hcl hfuel
      show Go _ _ _ _ _ _ _ (TJ3.setTop (mkF m 7 #[.val (.ref a0), .val (.int p1), .val (.int p2), .val (.int nd)] []))
      refine Go.step (fun _ k => XS.aloadN X3.here hx rfl (hb hby d5_7) rfl rfl  k) ?_
      show Go _ _ _ _ _ _ _ (TJ3.setTop (mkF m 8 #[.val (.ref a0), .val (.int p1), .val (.int p2), .val (.int nd)] [(.ref a0)]))
      obtain ⟨T4, X4, e4, st4⟩ := getF X3 hx hZ hown (host := "") (Or.inl (hw _ (List.mem_of_getElem? (i := 13) rfl))) Via.refl e3 F_2 (g := (mkF m 8 #[.val (.ref a0), .val (.int p1), .val (.int p2), .val (.int nd)] [(.ref a0)])) rfl rfl (hb hby d5_8)
      refine Go.step st4 ?_
      show Go _ _ _ _ _ _ _ (T4.setTop (mkF m 11 #[.val (.ref a0), .val (.int p1), .val (.int p2), .val (.int nd)] [(.ref br)]))
      refine Go.step (fun _ k => XS.iloadN X4.here hx rfl (hb hby d5_11) rfl  k) ?_
      show Go _ _ _ _ _ _ _ (T4.setTop (mkF m 12 #[.val (.ref a0), .val (.int p1), .val (.int p2), .val (.int nd)] [(.int nd), (.ref br)]))
      have lo5 : ¬ nd < 0 := (own_ok_in hok).1
      have hi5 : nd < (16 : Int32) := (own_ok_in hok).2
      refine Go.step (Ai.iaload X4 hx hZ e4 A_7 (j := nd) lo5 hi5 (g := (mkF m 12 #[.val (.ref a0), .val (.int p1), .val (.int p2), .val (.int nd)] [(.int nd), (.ref br)])) rfl rfl (hb hby d5_12)) ?_
      show Go _ _ _ _ _ _ _ (T4.setTop (mkF m 13 #[.val (.ref a0), .val (.int p1), .val (.int p2), .val (.int nd)] [(.int (fr nd))]))
      refine Go.step (fun _ k => XS.iloadN X4.here hx rfl (hb hby d5_13) rfl  k) ?_
      show Go _ _ _ _ _ _ _ (T4.setTop (mkF m 14 #[.val (.ref a0), .val (.int p1), .val (.int p2), .val (.int nd)] [(.int p2), (.int (fr nd))]))
      by_cases hc14 : p2 < (fr nd)
      · skip
        refine Go.step (fun _ k => XS.icmpNo X4.here hx rfl (hb hby d5_14) rfl (tlt hc14).2.2.2 k) ?_
        obtain ⟨k1, hk1, hk2, hk3⟩ := own_ok_step hok hc14
        subst hk1
        show Go _ _ _ _ _ _ _ (T4.setTop (mkF m 17 #[.val (.ref a0), .val (.int p1), .val (.int p2), .val (.int nd)] []))
        refine Go.step (fun _ k => XS.aloadN X4.here hx rfl (hb hby d5_17) rfl rfl  k) ?_
        show Go _ _ _ _ _ _ _ (T4.setTop (mkF m 18 #[.val (.ref a0), .val (.int p1), .val (.int p2), .val (.int nd)] [(.ref a0)]))
        obtain ⟨T6, X6, e6, st6⟩ := getF X4 hx hZ hown (host := "") (Or.inl (hw _ (List.mem_of_getElem? (i := 11) rfl))) Via.refl e4 F_1 (g := (mkF m 18 #[.val (.ref a0), .val (.int p1), .val (.int p2), .val (.int nd)] [(.ref a0)])) rfl rfl (hb hby d5_18)
        refine Go.step st6 ?_
        show Go _ _ _ _ _ _ _ (T6.setTop (mkF m 21 #[.val (.ref a0), .val (.int p1), .val (.int p2), .val (.int nd)] [(.ref bp)]))
        refine Go.step (fun _ k => XS.iloadN X6.here hx rfl (hb hby d5_21) rfl  k) ?_
        show Go _ _ _ _ _ _ _ (T6.setTop (mkF m 22 #[.val (.ref a0), .val (.int p1), .val (.int p2), .val (.int nd)] [(.int nd), (.ref bp)]))
        have lo7 : ¬ nd < 0 := (own_ok_in hok).1
        have hi7 : nd < (16 : Int32) := (own_ok_in hok).2
        refine Go.step (Ai.iaload X6 hx hZ e6 A_6 (j := nd) lo7 hi7 (g := (mkF m 22 #[.val (.ref a0), .val (.int p1), .val (.int p2), .val (.int nd)] [(.int nd), (.ref bp)])) rfl rfl (hb hby d5_22)) ?_
        show Go _ _ _ _ _ _ _ (T6.setTop (mkF m 23 #[.val (.ref a0), .val (.int p1), .val (.int p2), .val (.int nd)] [(.int (fp nd))]))
        refine Go.step (fun _ k => XS.istoreN X6.here hx rfl (hb hby d5_23) rfl (l' := #[.val (.ref a0), .val (.int p1), .val (.int p2), .val (.int (fp nd))]) rfl k) ?_
        show Go _ _ _ _ _ _ _ (T6.setTop (mkF m 24 #[.val (.ref a0), .val (.int p1), .val (.int p2), .val (.int (fp nd))] []))
        refine Go.step (fun _ k => XS.goto X6.here hx rfl (pc0 := 24) (pc' := 7) rfl (hb hby d5_24) (by decide) (by decide) k) ?_
        exact ih _ (by omega) (fp nd) k1 _ _ X6 e6 N3 hk2 (hk3.symm.trans hcl) rfl
      · skip
        refine Go.step (fun _ k => XS.icmpYes X4.here hx rfl (pc0 := 14) (pc' := 27) rfl (hb hby d5_14) rfl (flt hc14).2.2.2 (by decide) (by decide) k) ?_
        have hend : own_climb fr fp p2 3 (fl p1) = nd := hcl.symm.trans (own_ok_end hc14)
        show Go _ _ _ _ _ _ _ (T4.setTop (mkF m 27 #[.val (.ref a0), .val (.int p1), .val (.int p2), .val (.int nd)] []))
        refine Go.step (fun _ k => XS.aloadN X4.here hx rfl (hb hby d5_27) rfl rfl  k) ?_
        show Go _ _ _ _ _ _ _ (T4.setTop (mkF m 28 #[.val (.ref a0), .val (.int p1), .val (.int p2), .val (.int nd)] [(.ref a0)]))
        refine Go.step (fun _ k => XS.dup X4.here hx rfl (hb hby d5_28) rfl rfl k) ?_
        show Go _ _ _ _ _ _ _ (T4.setTop (mkF m 29 #[.val (.ref a0), .val (.int p1), .val (.int p2), .val (.int nd)] [(.ref a0), (.ref a0)]))
        obtain ⟨T8, X8, e8, st8⟩ := getF X4 hx hZ hown (host := "") (Or.inl (hw _ (List.mem_of_getElem? (i := 36) rfl))) Via.refl e4 F_5 (g := (mkF m 29 #[.val (.ref a0), .val (.int p1), .val (.int p2), .val (.int nd)] [(.ref a0), (.ref a0)])) rfl rfl (hb hby d5_29)
        refine Go.step st8 ?_
        show Go _ _ _ _ _ _ _ (T8.setTop (mkF m 32 #[.val (.ref a0), .val (.int p1), .val (.int p2), .val (.int nd)] [(.long (0 : Int64)), (.ref a0)]))
        refine Go.step (fun _ k => XS.aloadN X8.here hx rfl (hb hby d5_32) rfl rfl  k) ?_
        show Go _ _ _ _ _ _ _ (T8.setTop (mkF m 33 #[.val (.ref a0), .val (.int p1), .val (.int p2), .val (.int nd)] [(.ref a0), (.long (0 : Int64)), (.ref a0)]))
        obtain ⟨T9, X9, e9, st9⟩ := getF X8 hx hZ hown (host := "") (Or.inl (hw _ (List.mem_of_getElem? (i := 15) rfl))) Via.refl e8 F_3 (g := (mkF m 33 #[.val (.ref a0), .val (.int p1), .val (.int p2), .val (.int nd)] [(.ref a0), (.long (0 : Int64)), (.ref a0)])) rfl rfl (hb hby d5_33)
        refine Go.step st9 ?_
        show Go _ _ _ _ _ _ _ (T9.setTop (mkF m 36 #[.val (.ref a0), .val (.int p1), .val (.int p2), .val (.int nd)] [(.ref bd), (.long (0 : Int64)), (.ref a0)]))
        refine Go.step (fun _ k => XS.aloadN X9.here hx rfl (hb hby d5_36) rfl rfl  k) ?_
        show Go _ _ _ _ _ _ _ (T9.setTop (mkF m 37 #[.val (.ref a0), .val (.int p1), .val (.int p2), .val (.int nd)] [(.ref a0), (.ref bd), (.long (0 : Int64)), (.ref a0)]))
        obtain ⟨T10, X10, e10, st10⟩ := getF X9 hx hZ hown (host := "") (Or.inl (hw _ (List.mem_of_getElem? (i := 17) rfl))) Via.refl e9 F_4 (g := (mkF m 37 #[.val (.ref a0), .val (.int p1), .val (.int p2), .val (.int nd)] [(.ref a0), (.ref bd), (.long (0 : Int64)), (.ref a0)])) rfl rfl (hb hby d5_37)
        refine Go.step st10 ?_
        show Go _ _ _ _ _ _ _ (T10.setTop (mkF m 40 #[.val (.ref a0), .val (.int p1), .val (.int p2), .val (.int nd)] [(.ref bl), (.ref bd), (.long (0 : Int64)), (.ref a0)]))
        refine Go.step (fun _ k => XS.iloadN X10.here hx rfl (hb hby d5_40) rfl  k) ?_
        show Go _ _ _ _ _ _ _ (T10.setTop (mkF m 41 #[.val (.ref a0), .val (.int p1), .val (.int p2), .val (.int nd)] [(.int p1), (.ref bl), (.ref bd), (.long (0 : Int64)), (.ref a0)]))
        have lo11 : ¬ p1 < 0 := (by rw [hp1]; decide)
        have hi11 : p1 < (1 : Int32) := (by rw [hp1]; decide)
        refine Go.step (Ai.iaload X10 hx hZ e10 A_9 (j := p1) lo11 hi11 (g := (mkF m 41 #[.val (.ref a0), .val (.int p1), .val (.int p2), .val (.int nd)] [(.int p1), (.ref bl), (.ref bd), (.long (0 : Int64)), (.ref a0)])) rfl rfl (hb hby d5_41)) ?_
        show Go _ _ _ _ _ _ _ (T10.setTop (mkF m 42 #[.val (.ref a0), .val (.int p1), .val (.int p2), .val (.int nd)] [(.int (fl p1)), (.ref bd), (.long (0 : Int64)), (.ref a0)]))
        have lo12 : ¬ (fl p1) < 0 := (own_ok_in hok0).1
        have hi12 : (fl p1) < (16 : Int32) := (own_ok_in hok0).2
        refine Go.step (Ai.iaload X10 hx hZ e10 A_8 (j := (fl p1)) lo12 hi12 (g := (mkF m 42 #[.val (.ref a0), .val (.int p1), .val (.int p2), .val (.int nd)] [(.int (fl p1)), (.ref bd), (.long (0 : Int64)), (.ref a0)])) rfl rfl (hb hby d5_42)) ?_
        show Go _ _ _ _ _ _ _ (T10.setTop (mkF m 43 #[.val (.ref a0), .val (.int p1), .val (.int p2), .val (.int nd)] [(.int (fd (fl p1))), (.long (0 : Int64)), (.ref a0)]))
        refine Go.step (fun _ k => XS.aloadN X10.here hx rfl (hb hby d5_43) rfl rfl  k) ?_
        show Go _ _ _ _ _ _ _ (T10.setTop (mkF m 44 #[.val (.ref a0), .val (.int p1), .val (.int p2), .val (.int nd)] [(.ref a0), (.int (fd (fl p1))), (.long (0 : Int64)), (.ref a0)]))
        obtain ⟨T13, X13, e13, st13⟩ := getF X10 hx hZ hown (host := "") (Or.inl (hw _ (List.mem_of_getElem? (i := 15) rfl))) Via.refl e10 F_3 (g := (mkF m 44 #[.val (.ref a0), .val (.int p1), .val (.int p2), .val (.int nd)] [(.ref a0), (.int (fd (fl p1))), (.long (0 : Int64)), (.ref a0)])) rfl rfl (hb hby d5_44)
        refine Go.step st13 ?_
        show Go _ _ _ _ _ _ _ (T13.setTop (mkF m 47 #[.val (.ref a0), .val (.int p1), .val (.int p2), .val (.int nd)] [(.ref bd), (.int (fd (fl p1))), (.long (0 : Int64)), (.ref a0)]))
        refine Go.step (fun _ k => XS.iloadN X13.here hx rfl (hb hby d5_47) rfl  k) ?_
        show Go _ _ _ _ _ _ _ (T13.setTop (mkF m 48 #[.val (.ref a0), .val (.int p1), .val (.int p2), .val (.int nd)] [(.int nd), (.ref bd), (.int (fd (fl p1))), (.long (0 : Int64)), (.ref a0)]))
        have lo14 : ¬ nd < 0 := (own_ok_in hok).1
        have hi14 : nd < (16 : Int32) := (own_ok_in hok).2
        refine Go.step (Ai.iaload X13 hx hZ e13 A_8 (j := nd) lo14 hi14 (g := (mkF m 48 #[.val (.ref a0), .val (.int p1), .val (.int p2), .val (.int nd)] [(.int nd), (.ref bd), (.int (fd (fl p1))), (.long (0 : Int64)), (.ref a0)])) rfl rfl (hb hby d5_48)) ?_
        show Go _ _ _ _ _ _ _ (T13.setTop (mkF m 49 #[.val (.ref a0), .val (.int p1), .val (.int p2), .val (.int nd)] [(.int (fd nd)), (.int (fd (fl p1))), (.long (0 : Int64)), (.ref a0)]))
        refine Go.step (fun _ k => XS.isub X13.here hx rfl (hb hby d5_49) rfl k) ?_
        show Go _ _ _ _ _ _ _ (T13.setTop (mkF m 50 #[.val (.ref a0), .val (.int p1), .val (.int p2), .val (.int nd)] [(.int ((fd (fl p1)) - (fd nd))), (.long (0 : Int64)), (.ref a0)]))
        refine Go.step (fun _ k => XS.iconst X13.here hx rfl (hb hby d5_50) k) ?_
        show Go _ _ _ _ _ _ _ (T13.setTop (mkF m 51 #[.val (.ref a0), .val (.int p1), .val (.int p2), .val (.int nd)] [(.int (1 : Int32)), (.int ((fd (fl p1)) - (fd nd))), (.long (0 : Int64)), (.ref a0)]))
        refine Go.step (fun _ k => XS.iadd X13.here hx rfl (hb hby d5_51) rfl k) ?_
        show Go _ _ _ _ _ _ _ (T13.setTop (mkF m 52 #[.val (.ref a0), .val (.int p1), .val (.int p2), .val (.int nd)] [(.int (((fd (fl p1)) - (fd nd)) + (1 : Int32))), (.long (0 : Int64)), (.ref a0)]))
        refine Go.step (fun _ k => XS.i2l X13.here hx rfl (hb hby d5_52) rfl k) ?_
        show Go _ _ _ _ _ _ _ (T13.setTop (mkF m 53 #[.val (.ref a0), .val (.int p1), .val (.int p2), .val (.int nd)] [(.long (Int32.toInt64 (((fd (fl p1)) - (fd nd)) + (1 : Int32)))), (.long (0 : Int64)), (.ref a0)]))
        refine Go.step (fun _ k => XS.ladd X13.here hx rfl (hb hby d5_53) rfl k) ?_
        show Go _ _ _ _ _ _ _ (T13.setTop (mkF m 54 #[.val (.ref a0), .val (.int p1), .val (.int p2), .val (.int nd)] [(.long ((0 : Int64) + (Int32.toInt64 (((fd (fl p1)) - (fd nd)) + (1 : Int32))))), (.ref a0)]))
        obtain ⟨T15, h15, X15, e15, W15, st15⟩ := putF X13 hx hZ hown (host := "") (Or.inl (hw _ (List.mem_of_getElem? (i := 36) rfl))) Via.refl e13 F_5 E_0 (Or.inl (hw _ (List.mem_of_getElem? (i := 37) rfl))) (hw _ (List.mem_of_getElem? (i := 2) rfl)) (ty := .long) (v := (.long ((0 : Int64) + (Int32.toInt64 (((fd (fl p1)) - (fd nd)) + (1 : Int32)))))) (by decide) rfl rfl (g := (mkF m 54 #[.val (.ref a0), .val (.int p1), .val (.int p2), .val (.int nd)] [(.long ((0 : Int64) + (Int32.toInt64 (((fd (fl p1)) - (fd nd)) + (1 : Int32))))), (.ref a0)])) rfl rfl (hb hby d5_54)
        refine Go.step st15 ?_
        have N15 := Fr.snoc X15 N3 g_10
        have z16 : n0 ≤ h15.size := Nat.le_trans Z0 (Keep.of_wr W15).1
        have sqz16 : h0.size ≤ h15.size := Nat.le_trans sq0 (Keep.of_wr W15).1
        have k17 : Keep h0 h15 [a0] := k0.wr W15 (Or.inl (List.mem_of_getElem? (i := 0) rfl))
        have f18 : Fld Z h15 a0 "com/example/both_ways/bothways/equivalence/SplitHistory" "visits" "J" (.long ((0 : Int64) + (Int32.toInt64 (((fd (fl p1)) - (fd nd)) + (1 : Int32))))) := F_5.same W15
        show Go _ _ _ _ _ _ _ (T15.setTop (mkF m 57 #[.val (.ref a0), .val (.int p1), .val (.int p2), .val (.int nd)] []))
        refine Go.step (fun _ k => XS.iloadN X15.here hx rfl (hb hby d5_57) rfl  k) ?_
        show Go _ _ _ _ _ _ _ (T15.setTop (mkF m 58 #[.val (.ref a0), .val (.int p1), .val (.int p2), .val (.int nd)] [(.int nd)]))
        have f19 : Exa Z h15 a0 "com/example/both_ways/bothways/equivalence/SplitHistory" := (E_0.wr W15)
        refine Go.retI X15 hx Bd.returns hlk (hb hby d5_58) ?_ (by decide) (by decide)
        rw [e15]
        exact ⟨(by rw [hend]), N15, k17, f19, (by rw [hend]; exact f18)⟩
  exact J7_3 _ (fl p1) 3 _ _ X1 e1 N0 hok0 rfl rfl
def own_dep (p : Int32) : Int32 := if p = 0 then 0 else if p = 1 ∨ p = 2 then 1 else if p = 3 ∨ p = 4 then 2 else 3
theorem pn_8 : plainName "com/example/both_ways/bothways/equivalence/SplitHistoryBlockAfterPinLaw" = true := by first | (simp [plainName, overriddenIn]; done) | decide +kernel
theorem d6_0 : decode method_2_code 0 = .ok (.iload_n 0, 1) := by decide +kernel
theorem d6_1 : decode method_2_code 1 = .ok (.ifCond .ne 5, 3) := by decide +kernel
theorem d6_4 : decode method_2_code 4 = .ok (.iconst 0, 1) := by decide +kernel
theorem d6_5 : decode method_2_code 5 = .ok (.ireturn, 1) := by decide +kernel
theorem d6_6 : decode method_2_code 6 = .ok (.iload_n 0, 1) := by decide +kernel
theorem d6_7 : decode method_2_code 7 = .ok (.iconst 1, 1) := by decide +kernel
theorem d6_8 : decode method_2_code 8 = .ok (.if_icmp .eq 8, 3) := by decide +kernel
theorem d6_11 : decode method_2_code 11 = .ok (.iload_n 0, 1) := by decide +kernel
theorem d6_12 : decode method_2_code 12 = .ok (.iconst 2, 1) := by decide +kernel
theorem d6_13 : decode method_2_code 13 = .ok (.if_icmp .ne 5, 3) := by decide +kernel
theorem d6_16 : decode method_2_code 16 = .ok (.iconst 1, 1) := by decide +kernel
theorem d6_17 : decode method_2_code 17 = .ok (.ireturn, 1) := by decide +kernel
theorem d6_18 : decode method_2_code 18 = .ok (.iload_n 0, 1) := by decide +kernel
theorem d6_19 : decode method_2_code 19 = .ok (.iconst 3, 1) := by decide +kernel
theorem d6_20 : decode method_2_code 20 = .ok (.if_icmp .eq 8, 3) := by decide +kernel
theorem d6_23 : decode method_2_code 23 = .ok (.iload_n 0, 1) := by decide +kernel
theorem d6_24 : decode method_2_code 24 = .ok (.iconst 4, 1) := by decide +kernel
theorem d6_25 : decode method_2_code 25 = .ok (.if_icmp .ne 5, 3) := by decide +kernel
theorem d6_28 : decode method_2_code 28 = .ok (.iconst 2, 1) := by decide +kernel
theorem d6_29 : decode method_2_code 29 = .ok (.ireturn, 1) := by decide +kernel
theorem d6_30 : decode method_2_code 30 = .ok (.iconst 3, 1) := by decide +kernel
theorem d6_31 : decode method_2_code 31 = .ok (.ireturn, 1) := by decide +kernel
theorem ef_6 (m : MethodId) (p0 : Int32) : entryFrame m #[(.int p0)] 1 = mkF m 0 #[.val (.int p0)] [] := by first | (simp [entryFrame, mkF, argsToLocals, Value.category]; done) | rfl
def Q6 (Z : State) (p0 : Int32) (h0 : Heap) (n0 : Nat) (v : Option Value) (h : Heap) (L : List Loc) : Prop := (v = some (.int (own_dep p0))) ∧ (Fr n0 L) ∧ (h = h0)
set_option maxRecDepth 65536 in
set_option maxHeartbeats 40000000 in
theorem rm6 (l : Launch) (Z : State) (aZ : Array Value) (hw : ∀ d ∈ tables_1, d.before aZ Z = true) (ws : List Jvm.Cond) (p0 : Int32) (h0 : Heap) (n0 : Nat) (Z0 : n0 ≤ h0.size)  :
    MetFree l (⟨"com/example/both_ways/bothways/equivalence/SplitHistoryBlockAfterPinLaw", "depthOf", "(I)I"⟩ : MethodName) (head1 (Jvm.Cond.code (⟨"com/example/both_ways/bothways/equivalence/SplitHistoryBlockAfterPinLaw", "depthOf", "(I)I"⟩ : MethodName) method_2_code 1 (some .int) :: ws) ({ frames := 0, cells := 0, slots := 0, locals := 0 } : Room)) (fun a U => a = #[(.int p0)] ∧ Z.Warmed39 U.vm ∧ U.heap = h0) (fun _ _ _ _ _ => True) (fun _ U o U' => ∃ v L, o = .returned v ∧ Q6 Z p0 h0 n0 v U'.heap L ∧ FrameEnd U o U' L ({ frames := 0, cells := 0, slots := 0, locals := 0 } : Room).cells ({ frames := 0, cells := 0, slots := 0, locals := 0 } : Room).slots) := by
  refine MetFree.of_bodySF (plainFor_of_name pn_8) hisR ?_
  intro p e s m args below meth c s₁ Bd hml0 hP hK
  obtain ⟨rfl, hZ, hh⟩ := hP
  have hx := Bd.exec
  have hby := Bd.bytes
  have hml : c.maxLocals = 1 := hml0
  have hown : s.vm.findClass "com/example/both_ways/bothways/equivalence/SplitHistoryBlockAfterPinLaw" = some m.cls := findClass_of_methodNamed Bd.named
  have hnm := (name_of_methodNamed Bd.named Bd.method).1
  have hlk : meth.locks = false := BodyLoose.notSynchronized Bd
  have X0 : Stand p l e ({ frames := 0, cells := 0, slots := 0, locals := 0 } : Room) s m #[(.int p0)] below meth c s₁ [] 0 0 := Stand.of_body Bd
  have e0 : s₁.heap = h0 := by rw [← hh, Bd.state]; rfl
  have N0 := Fr.nil n0
  have sq0 : h0.size ≤ h0.size := Nat.le_refl _
  change Go p e below s ({ frames := 0, cells := 0, slots := 0, locals := 0 } : Room).cells ({ frames := 0, cells := 0, slots := 0, locals := 0 } : Room).slots (Q6 Z p0 h0 n0) (s₁.setTop (entryFrame m #[(.int p0)] 1))
  rw [ef_6 m p0]
  show Go _ _ _ _ _ _ _ (s₁.setTop (mkF m 0 #[.val (.int p0)] []))
  refine Go.step (fun _ k => XS.iloadN X0.here hx rfl (hb hby d6_0) rfl  k) ?_
  show Go _ _ _ _ _ _ _ (s₁.setTop (mkF m 1 #[.val (.int p0)] [(.int p0)]))
  by_cases hc1 : p0 = (0 : Int32)
  · skip
    refine Go.step (fun _ k => XS.ifNo X0.here hx rfl (hb hby d6_1) rfl ((if0 _ _).trans (teq hc1).2) k) ?_
    show Go _ _ _ _ _ _ _ (s₁.setTop (mkF m 4 #[.val (.int p0)] []))
    refine Go.step (fun _ k => XS.iconst X0.here hx rfl (hb hby d6_4) k) ?_
    show Go _ _ _ _ _ _ _ (s₁.setTop (mkF m 5 #[.val (.int p0)] [(.int (0 : Int32))]))
    refine Go.retI X0 hx Bd.returns hlk (hb hby d6_5) ?_ (by decide) (by decide)
    rw [e0]
    exact ⟨(by simp [own_dep, hc1]), N0, rfl⟩
  · skip
    refine Go.step (fun _ k => XS.ifYes X0.here hx rfl (pc0 := 1) (pc' := 6) rfl (hb hby d6_1) rfl ((if0 _ _).trans (feq hc1).2) (by decide) (by decide) k) ?_
    show Go _ _ _ _ _ _ _ (s₁.setTop (mkF m 6 #[.val (.int p0)] []))
    refine Go.step (fun _ k => XS.iloadN X0.here hx rfl (hb hby d6_6) rfl  k) ?_
    show Go _ _ _ _ _ _ _ (s₁.setTop (mkF m 7 #[.val (.int p0)] [(.int p0)]))
    refine Go.step (fun _ k => XS.iconst X0.here hx rfl (hb hby d6_7) k) ?_
    show Go _ _ _ _ _ _ _ (s₁.setTop (mkF m 8 #[.val (.int p0)] [(.int (1 : Int32)), (.int p0)]))
    by_cases hc8 : p0 = (1 : Int32)
    · skip
      refine Go.step (fun _ k => XS.icmpYes X0.here hx rfl (pc0 := 8) (pc' := 16) rfl (hb hby d6_8) rfl (teq hc8).1 (by decide) (by decide) k) ?_
      show Go _ _ _ _ _ _ _ (s₁.setTop (mkF m 16 #[.val (.int p0)] []))
      refine Go.step (fun _ k => XS.iconst X0.here hx rfl (hb hby d6_16) k) ?_
      show Go _ _ _ _ _ _ _ (s₁.setTop (mkF m 17 #[.val (.int p0)] [(.int (1 : Int32))]))
      refine Go.retI X0 hx Bd.returns hlk (hb hby d6_17) ?_ (by decide) (by decide)
      rw [e0]
      exact ⟨(by simp [own_dep, hc1, hc8]), N0, rfl⟩
    · skip
      refine Go.step (fun _ k => XS.icmpNo X0.here hx rfl (hb hby d6_8) rfl (feq hc8).1 k) ?_
      show Go _ _ _ _ _ _ _ (s₁.setTop (mkF m 11 #[.val (.int p0)] []))
      refine Go.step (fun _ k => XS.iloadN X0.here hx rfl (hb hby d6_11) rfl  k) ?_
      show Go _ _ _ _ _ _ _ (s₁.setTop (mkF m 12 #[.val (.int p0)] [(.int p0)]))
      refine Go.step (fun _ k => XS.iconst X0.here hx rfl (hb hby d6_12) k) ?_
      show Go _ _ _ _ _ _ _ (s₁.setTop (mkF m 13 #[.val (.int p0)] [(.int (2 : Int32)), (.int p0)]))
      by_cases hc13 : p0 = (2 : Int32)
      · skip
        refine Go.step (fun _ k => XS.icmpNo X0.here hx rfl (hb hby d6_13) rfl (teq hc13).2 k) ?_
        show Go _ _ _ _ _ _ _ (s₁.setTop (mkF m 16 #[.val (.int p0)] []))
        refine Go.step (fun _ k => XS.iconst X0.here hx rfl (hb hby d6_16) k) ?_
        show Go _ _ _ _ _ _ _ (s₁.setTop (mkF m 17 #[.val (.int p0)] [(.int (1 : Int32))]))
        refine Go.retI X0 hx Bd.returns hlk (hb hby d6_17) ?_ (by decide) (by decide)
        rw [e0]
        exact ⟨(by simp [own_dep, hc1, hc8, hc13]), N0, rfl⟩
      · skip
        refine Go.step (fun _ k => XS.icmpYes X0.here hx rfl (pc0 := 13) (pc' := 18) rfl (hb hby d6_13) rfl (feq hc13).2 (by decide) (by decide) k) ?_
        show Go _ _ _ _ _ _ _ (s₁.setTop (mkF m 18 #[.val (.int p0)] []))
        refine Go.step (fun _ k => XS.iloadN X0.here hx rfl (hb hby d6_18) rfl  k) ?_
        show Go _ _ _ _ _ _ _ (s₁.setTop (mkF m 19 #[.val (.int p0)] [(.int p0)]))
        refine Go.step (fun _ k => XS.iconst X0.here hx rfl (hb hby d6_19) k) ?_
        show Go _ _ _ _ _ _ _ (s₁.setTop (mkF m 20 #[.val (.int p0)] [(.int (3 : Int32)), (.int p0)]))
        by_cases hc20 : p0 = (3 : Int32)
        · skip
          refine Go.step (fun _ k => XS.icmpYes X0.here hx rfl (pc0 := 20) (pc' := 28) rfl (hb hby d6_20) rfl (teq hc20).1 (by decide) (by decide) k) ?_
          show Go _ _ _ _ _ _ _ (s₁.setTop (mkF m 28 #[.val (.int p0)] []))
          refine Go.step (fun _ k => XS.iconst X0.here hx rfl (hb hby d6_28) k) ?_
          show Go _ _ _ _ _ _ _ (s₁.setTop (mkF m 29 #[.val (.int p0)] [(.int (2 : Int32))]))
          refine Go.retI X0 hx Bd.returns hlk (hb hby d6_29) ?_ (by decide) (by decide)
          rw [e0]
          exact ⟨(by simp [own_dep, hc1, hc8, hc13, hc20]), N0, rfl⟩
        · skip
          refine Go.step (fun _ k => XS.icmpNo X0.here hx rfl (hb hby d6_20) rfl (feq hc20).1 k) ?_
          show Go _ _ _ _ _ _ _ (s₁.setTop (mkF m 23 #[.val (.int p0)] []))
          refine Go.step (fun _ k => XS.iloadN X0.here hx rfl (hb hby d6_23) rfl  k) ?_
          show Go _ _ _ _ _ _ _ (s₁.setTop (mkF m 24 #[.val (.int p0)] [(.int p0)]))
          refine Go.step (fun _ k => XS.iconst X0.here hx rfl (hb hby d6_24) k) ?_
          show Go _ _ _ _ _ _ _ (s₁.setTop (mkF m 25 #[.val (.int p0)] [(.int (4 : Int32)), (.int p0)]))
          by_cases hc25 : p0 = (4 : Int32)
          · skip
            refine Go.step (fun _ k => XS.icmpNo X0.here hx rfl (hb hby d6_25) rfl (teq hc25).2 k) ?_
            show Go _ _ _ _ _ _ _ (s₁.setTop (mkF m 28 #[.val (.int p0)] []))
            refine Go.step (fun _ k => XS.iconst X0.here hx rfl (hb hby d6_28) k) ?_
            show Go _ _ _ _ _ _ _ (s₁.setTop (mkF m 29 #[.val (.int p0)] [(.int (2 : Int32))]))
            refine Go.retI X0 hx Bd.returns hlk (hb hby d6_29) ?_ (by decide) (by decide)
            rw [e0]
            exact ⟨(by simp [own_dep, hc1, hc8, hc13, hc20, hc25]), N0, rfl⟩
          · skip
            refine Go.step (fun _ k => XS.icmpYes X0.here hx rfl (pc0 := 25) (pc' := 30) rfl (hb hby d6_25) rfl (feq hc25).2 (by decide) (by decide) k) ?_
            show Go _ _ _ _ _ _ _ (s₁.setTop (mkF m 30 #[.val (.int p0)] []))
            refine Go.step (fun _ k => XS.iconst X0.here hx rfl (hb hby d6_30) k) ?_
            show Go _ _ _ _ _ _ _ (s₁.setTop (mkF m 31 #[.val (.int p0)] [(.int (3 : Int32))]))
            refine Go.retI X0 hx Bd.returns hlk (hb hby d6_31) ?_ (by decide) (by decide)
            rw [e0]
            exact ⟨(by simp [own_dep, hc1, hc8, hc13, hc20, hc25]), N0, rfl⟩
theorem d7_0 : decode prog_90_method_8_code 0 = .ok (.aload_n 0, 1) := by decide +kernel
theorem d7_1 : decode prog_90_method_8_code 1 = .ok (.getfield 41, 3) := by decide +kernel
theorem d7_4 : decode prog_90_method_8_code 4 = .ok (.lreturn, 1) := by decide +kernel
theorem ef_7 (m : MethodId) (a0 : Addr) : entryFrame m #[(.ref a0)] 1 = mkF m 0 #[.val (.ref a0)] [] := by first | (simp [entryFrame, mkF, argsToLocals, Value.category]; done) | rfl
def Q7 (Z : State) (a0 : Addr) (w : Int64) (h0 : Heap) (n0 : Nat) (v : Option Value) (h : Heap) (L : List Loc) : Prop := (v = some (.long w)) ∧ (Fr n0 L) ∧ (h = h0)
set_option maxRecDepth 65536 in
set_option maxHeartbeats 40000000 in
theorem rm7 (l : Launch) (Z : State) (aZ : Array Value) (hw : ∀ d ∈ tables_1, d.before aZ Z = true) (ws : List Jvm.Cond) (a0 : Addr) (w : Int64) (h0 : Heap) (n0 : Nat) (Z0 : n0 ≤ h0.size) (F_0 : Fld Z h0 a0 "com/example/both_ways/bothways/equivalence/SplitHistory" "visits" "J" (.long w)) :
    MetFree l (⟨"com/example/both_ways/bothways/equivalence/SplitHistory", "getVisitCount", "()J"⟩ : MethodName) (head1 (Jvm.Cond.code (⟨"com/example/both_ways/bothways/equivalence/SplitHistory", "getVisitCount", "()J"⟩ : MethodName) prog_90_method_8_code 1 (some .long) :: ws) ({ frames := 0, cells := 0, slots := 0, locals := 0 } : Room)) (fun a U => a = #[(.ref a0)] ∧ Z.Warmed39 U.vm ∧ U.heap = h0) (fun _ _ _ _ _ => True) (fun _ U o U' => ∃ v L, o = .returned v ∧ Q7 Z a0 w h0 n0 v U'.heap L ∧ FrameEnd U o U' L ({ frames := 0, cells := 0, slots := 0, locals := 0 } : Room).cells ({ frames := 0, cells := 0, slots := 0, locals := 0 } : Room).slots) := by
  refine MetFree.of_bodySF (plainFor_of_name pn_7) hisR ?_
  intro p e s m args below meth c s₁ Bd hml0 hP hK
  obtain ⟨rfl, hZ, hh⟩ := hP
  have hx := Bd.exec
  have hby := Bd.bytes
  have hml : c.maxLocals = 1 := hml0
  have hown : s.vm.findClass "com/example/both_ways/bothways/equivalence/SplitHistory" = some m.cls := findClass_of_methodNamed Bd.named
  have hnm := (name_of_methodNamed Bd.named Bd.method).1
  have hlk : meth.locks = false := BodyLoose.notSynchronized Bd
  have X0 : Stand p l e ({ frames := 0, cells := 0, slots := 0, locals := 0 } : Room) s m #[(.ref a0)] below meth c s₁ [] 0 0 := Stand.of_body Bd
  have e0 : s₁.heap = h0 := by rw [← hh, Bd.state]; rfl
  have N0 := Fr.nil n0
  have sq0 : h0.size ≤ h0.size := Nat.le_refl _
  change Go p e below s ({ frames := 0, cells := 0, slots := 0, locals := 0 } : Room).cells ({ frames := 0, cells := 0, slots := 0, locals := 0 } : Room).slots (Q7 Z a0 w h0 n0) (s₁.setTop (entryFrame m #[(.ref a0)] 1))
  rw [ef_7 m a0]
  show Go _ _ _ _ _ _ _ (s₁.setTop (mkF m 0 #[.val (.ref a0)] []))
  refine Go.step (fun _ k => XS.aloadN X0.here hx rfl (hb hby d7_0) rfl rfl  k) ?_
  show Go _ _ _ _ _ _ _ (s₁.setTop (mkF m 1 #[.val (.ref a0)] [(.ref a0)]))
  obtain ⟨T1, X1, e1, st1⟩ := getF X0 hx hZ hown (host := "") (Or.inl (hw _ (List.mem_of_getElem? (i := 36) rfl))) Via.refl e0 F_0 (g := (mkF m 1 #[.val (.ref a0)] [(.ref a0)])) rfl rfl (hb hby d7_1)
  refine Go.step st1 ?_
  show Go _ _ _ _ _ _ _ (T1.setTop (mkF m 4 #[.val (.ref a0)] [(.long w)]))
  refine Go.retJ X1 hx Bd.returns hlk (hb hby d7_4) ?_ (by decide) (by decide)
  rw [e1]
  exact ⟨(rfl), N0, rfl⟩
theorem own_c5 {R P : Int32 → Int32} {q r1 r2 r3 : Int32} (R5 : R 5 = r3) (P5 : P 5 = 3) (R3 : R 3 = r2) (P3 : P 3 = 1) (R1 : R 1 = r1) (P1 : P 1 = 0) (R0 : R 0 = 0) (hq : ¬ q < 0) : own_ok R P q 3 5 ∧ own_climb R P q 3 5 = if q < r3 then if q < r2 then if q < r1 then 0 else 1 else 3 else 5 := by
  constructor
  · refine ⟨by decide, fun _ => ?_⟩
    rw [P5]
    refine ⟨by decide, fun _ => ?_⟩
    rw [P3]
    refine ⟨by decide, fun _ => ?_⟩
    rw [P1]
    exact ⟨by decide, by rw [R0]; exact hq⟩
  · simp only [own_climb, R5, P5, R3, P3, R1, P1]
theorem own_c4 {R P : Int32 → Int32} {q r1 r2 : Int32} (R4 : R 4 = r2) (P4 : P 4 = 1) (R1 : R 1 = r1) (P1 : P 1 = 0) (R0 : R 0 = 0) (hq : ¬ q < 0) : own_ok R P q 3 4 ∧ own_climb R P q 3 4 = if q < r2 then if q < r1 then 0 else 1 else 4 := by
  constructor
  · refine ⟨by decide, fun _ => ?_⟩
    rw [P4]
    refine ⟨by decide, fun _ => ?_⟩
    rw [P1]
    exact ⟨by decide, fun h => absurd h (by rw [R0]; exact hq)⟩
  · simp only [own_climb, R4, P4, R1, P1, R0]
    rw [if_neg hq]
theorem own_c2 {R P : Int32 → Int32} {q r1 : Int32} (R2 : R 2 = r1) (P2 : P 2 = 0) (R0 : R 0 = 0) (hq : ¬ q < 0) : own_ok R P q 3 2 ∧ own_climb R P q 3 2 = if q < r1 then 0 else 2 := by
  constructor
  · refine ⟨by decide, fun _ => ?_⟩
    rw [P2]
    exact ⟨by decide, fun h => absurd h (by rw [R0]; exact hq)⟩
  · simp only [own_climb, R2, P2, R0]
    rw [if_neg hq]
theorem own_mM (x : Int32) : ¬ (x &&& 2147483647) < 0 := by
  have h := c_mask x 2147483647 31 (by decide) (by decide)
  simp only [Int32.lt_iff_toInt_lt, own_i_0]; omega
theorem pd_0 : parseMethodDescriptor "(I)V" = some ⟨[.int], none⟩ := by decide +kernel
theorem pd_1 : parseMethodDescriptor "(II)I" = some ⟨[.int, .int], some .int⟩ := by decide +kernel
theorem pd_2 : parseMethodDescriptor "(II)V" = some ⟨[.int, .int], none⟩ := by decide +kernel
theorem pd_3 : parseMethodDescriptor "(I)I" = some ⟨[.int], some .int⟩ := by decide +kernel
theorem pd_4 : parseMethodDescriptor "()J" = some ⟨[], some .long⟩ := by decide +kernel
theorem ef_0 (m : MethodId) (qa : Int32) (qb : Int32) (qc : Int32) (qs : Int32) (qq : Int32) : entryFrame m #[(.int qa), (.int qb), (.int qc), (.int qs), (.int qq)] maxLocals = mkF m 0 #[.val (.int qa), .val (.int qb), .val (.int qc), .val (.int qs), .val (.int qq), .unset, .unset, .unset, .unset, .unset, .unset, .unset, .unset, .unset, .unset, .unset, .unset, .unset, .unset, .unset, .unset] [] := by first | (simp [entryFrame, mkF, argsToLocals, Value.category, maxLocals]; done) | rfl
def Q0 (Z : State) (qa : Int32) (qb : Int32) (qc : Int32) (qs : Int32) (qq : Int32) (h0 : Heap) (n0 : Nat) (v : Option Value) (h : Heap) (L : List Loc) : Prop := (v = some (.int 1)) ∧ (Fr n0 L)
set_option maxRecDepth 65536 in
set_option maxHeartbeats 40000000 in
theorem rm0 (l : Launch) (Z : State) (aZ : Array Value) (hw : ∀ d ∈ tables_1, d.before aZ Z = true) (ws : List Jvm.Cond) (qa : Int32) (qb : Int32) (qc : Int32) (qs : Int32) (qq : Int32) (h0 : Heap) (n0 : Nat) (Z0 : n0 ≤ h0.size)  :
    MetFree l x (head1 (Jvm.Cond.code x code maxLocals ret :: ws) room_1) (fun a U => a = #[(.int qa), (.int qb), (.int qc), (.int qs), (.int qq)] ∧ Z.Warmed39 U.vm ∧ U.heap = h0) (fun _ _ _ _ _ => True) (fun _ U o U' => ∃ v L, o = .returned v ∧ Q0 Z qa qb qc qs qq h0 n0 v U'.heap L ∧ FrameEnd U o U' L 5 56) := by
  refine MetFree.of_bodySF (plainFor_of_name pn_8) hisR ?_
  intro p e s m args below meth c s₁ Bd hml0 hP hK
  obtain ⟨rfl, hZ, hh⟩ := hP
  have hx := Bd.exec
  have hby := Bd.bytes
  have hml : c.maxLocals = 21 := hml0
  have hown : s.vm.findClass "com/example/both_ways/bothways/equivalence/SplitHistoryBlockAfterPinLaw" = some m.cls := findClass_of_methodNamed Bd.named
  have hnm := (name_of_methodNamed Bd.named Bd.method).1
  have hlk : meth.locks = false := BodyLoose.notSynchronized Bd
  have X0 : Stand p l e room_1 s m #[(.int qa), (.int qb), (.int qc), (.int qs), (.int qq)] below meth c s₁ [] 0 0 := Stand.of_body Bd
  have e0 : s₁.heap = h0 := by rw [← hh, Bd.state]; rfl
  have N0 := Fr.nil n0
  have sq0 : h0.size ≤ h0.size := Nat.le_refl _
  change Go p e below s 5 56 (Q0 Z qa qb qc qs qq h0 n0) (s₁.setTop (entryFrame m #[(.int qa), (.int qb), (.int qc), (.int qs), (.int qq)] maxLocals))
  rw [ef_0 m qa qb qc qs qq]
  show Go _ _ _ _ _ _ _ (s₁.setTop (mkF m 0 #[.val (.int qa), .val (.int qb), .val (.int qc), .val (.int qs), .val (.int qq), .unset, .unset, .unset, .unset, .unset, .unset, .unset, .unset, .unset, .unset, .unset, .unset, .unset, .unset, .unset, .unset] []))
  refine Go.step (fun _ k => XS.iconst X0.here hx rfl (hb hby at_0) k) ?_
  show Go _ _ _ _ _ _ _ (s₁.setTop (mkF m 1 #[.val (.int qa), .val (.int qb), .val (.int qc), .val (.int qs), .val (.int qq), .unset, .unset, .unset, .unset, .unset, .unset, .unset, .unset, .unset, .unset, .unset, .unset, .unset, .unset, .unset, .unset] [(.int (1 : Int32))]))
  refine Go.step (fun _ k => XS.iloadN X0.here hx rfl (hb hby at_1) rfl  k) ?_
  show Go _ _ _ _ _ _ _ (s₁.setTop (mkF m 2 #[.val (.int qa), .val (.int qb), .val (.int qc), .val (.int qs), .val (.int qq), .unset, .unset, .unset, .unset, .unset, .unset, .unset, .unset, .unset, .unset, .unset, .unset, .unset, .unset, .unset, .unset] [(.int qa), (.int (1 : Int32))]))
  refine Go.step (fun _ k => XS.bipush X0.here hx rfl (hb hby at_2) k) ?_
  show Go _ _ _ _ _ _ _ (s₁.setTop (mkF m 4 #[.val (.int qa), .val (.int qb), .val (.int qc), .val (.int qs), .val (.int qq), .unset, .unset, .unset, .unset, .unset, .unset, .unset, .unset, .unset, .unset, .unset, .unset, .unset, .unset, .unset, .unset] [(.int (7 : Int32)), (.int qa), (.int (1 : Int32))]))
  refine Go.step (fun _ k => XS.iand X0.here hx rfl (hb hby at_4) rfl k) ?_
  show Go _ _ _ _ _ _ _ (s₁.setTop (mkF m 5 #[.val (.int qa), .val (.int qb), .val (.int qc), .val (.int qs), .val (.int qq), .unset, .unset, .unset, .unset, .unset, .unset, .unset, .unset, .unset, .unset, .unset, .unset, .unset, .unset, .unset, .unset] [(.int (qa &&& (7 : Int32))), (.int (1 : Int32))]))
  refine Go.step (fun _ k => XS.iadd X0.here hx rfl (hb hby at_5) rfl k) ?_
  show Go _ _ _ _ _ _ _ (s₁.setTop (mkF m 6 #[.val (.int qa), .val (.int qb), .val (.int qc), .val (.int qs), .val (.int qq), .unset, .unset, .unset, .unset, .unset, .unset, .unset, .unset, .unset, .unset, .unset, .unset, .unset, .unset, .unset, .unset] [(.int ((1 : Int32) + (qa &&& (7 : Int32))))]))
  obtain ⟨r1, q_r1⟩ : ∃ z : Int32, z = ((1 : Int32) + (qa &&& (7 : Int32))) := ⟨_, rfl⟩
  rw [← q_r1]
  show Go _ _ _ _ _ _ _ (s₁.setTop (mkF m 6 #[.val (.int qa), .val (.int qb), .val (.int qc), .val (.int qs), .val (.int qq), .unset, .unset, .unset, .unset, .unset, .unset, .unset, .unset, .unset, .unset, .unset, .unset, .unset, .unset, .unset, .unset] [(.int r1)]))
  refine Go.step (fun _ k => XS.istore X0.here hx rfl (hb hby at_6) rfl (l' := #[.val (.int qa), .val (.int qb), .val (.int qc), .val (.int qs), .val (.int qq), .val (.int r1), .unset, .unset, .unset, .unset, .unset, .unset, .unset, .unset, .unset, .unset, .unset, .unset, .unset, .unset, .unset]) rfl k) ?_
  show Go _ _ _ _ _ _ _ (s₁.setTop (mkF m 8 #[.val (.int qa), .val (.int qb), .val (.int qc), .val (.int qs), .val (.int qq), .val (.int r1), .unset, .unset, .unset, .unset, .unset, .unset, .unset, .unset, .unset, .unset, .unset, .unset, .unset, .unset, .unset] []))
  refine Go.step (fun _ k => XS.iload X0.here hx rfl (hb hby at_8) rfl  k) ?_
  show Go _ _ _ _ _ _ _ (s₁.setTop (mkF m 10 #[.val (.int qa), .val (.int qb), .val (.int qc), .val (.int qs), .val (.int qq), .val (.int r1), .unset, .unset, .unset, .unset, .unset, .unset, .unset, .unset, .unset, .unset, .unset, .unset, .unset, .unset, .unset] [(.int r1)]))
  refine Go.step (fun _ k => XS.iconst X0.here hx rfl (hb hby at_10) k) ?_
  show Go _ _ _ _ _ _ _ (s₁.setTop (mkF m 11 #[.val (.int qa), .val (.int qb), .val (.int qc), .val (.int qs), .val (.int qq), .val (.int r1), .unset, .unset, .unset, .unset, .unset, .unset, .unset, .unset, .unset, .unset, .unset, .unset, .unset, .unset, .unset] [(.int (1 : Int32)), (.int r1)]))
  refine Go.step (fun _ k => XS.iadd X0.here hx rfl (hb hby at_11) rfl k) ?_
  show Go _ _ _ _ _ _ _ (s₁.setTop (mkF m 12 #[.val (.int qa), .val (.int qb), .val (.int qc), .val (.int qs), .val (.int qq), .val (.int r1), .unset, .unset, .unset, .unset, .unset, .unset, .unset, .unset, .unset, .unset, .unset, .unset, .unset, .unset, .unset] [(.int (r1 + (1 : Int32)))]))
  refine Go.step (fun _ k => XS.iloadN X0.here hx rfl (hb hby at_12) rfl  k) ?_
  show Go _ _ _ _ _ _ _ (s₁.setTop (mkF m 13 #[.val (.int qa), .val (.int qb), .val (.int qc), .val (.int qs), .val (.int qq), .val (.int r1), .unset, .unset, .unset, .unset, .unset, .unset, .unset, .unset, .unset, .unset, .unset, .unset, .unset, .unset, .unset] [(.int qb), (.int (r1 + (1 : Int32)))]))
  refine Go.step (fun _ k => XS.bipush X0.here hx rfl (hb hby at_13) k) ?_
  show Go _ _ _ _ _ _ _ (s₁.setTop (mkF m 15 #[.val (.int qa), .val (.int qb), .val (.int qc), .val (.int qs), .val (.int qq), .val (.int r1), .unset, .unset, .unset, .unset, .unset, .unset, .unset, .unset, .unset, .unset, .unset, .unset, .unset, .unset, .unset] [(.int (7 : Int32)), (.int qb), (.int (r1 + (1 : Int32)))]))
  refine Go.step (fun _ k => XS.iand X0.here hx rfl (hb hby at_15) rfl k) ?_
  show Go _ _ _ _ _ _ _ (s₁.setTop (mkF m 16 #[.val (.int qa), .val (.int qb), .val (.int qc), .val (.int qs), .val (.int qq), .val (.int r1), .unset, .unset, .unset, .unset, .unset, .unset, .unset, .unset, .unset, .unset, .unset, .unset, .unset, .unset, .unset] [(.int (qb &&& (7 : Int32))), (.int (r1 + (1 : Int32)))]))
  refine Go.step (fun _ k => XS.iadd X0.here hx rfl (hb hby at_16) rfl k) ?_
  show Go _ _ _ _ _ _ _ (s₁.setTop (mkF m 17 #[.val (.int qa), .val (.int qb), .val (.int qc), .val (.int qs), .val (.int qq), .val (.int r1), .unset, .unset, .unset, .unset, .unset, .unset, .unset, .unset, .unset, .unset, .unset, .unset, .unset, .unset, .unset] [(.int ((r1 + (1 : Int32)) + (qb &&& (7 : Int32))))]))
  obtain ⟨r2, q_r2⟩ : ∃ z : Int32, z = ((r1 + (1 : Int32)) + (qb &&& (7 : Int32))) := ⟨_, rfl⟩
  rw [← q_r2]
  show Go _ _ _ _ _ _ _ (s₁.setTop (mkF m 17 #[.val (.int qa), .val (.int qb), .val (.int qc), .val (.int qs), .val (.int qq), .val (.int r1), .unset, .unset, .unset, .unset, .unset, .unset, .unset, .unset, .unset, .unset, .unset, .unset, .unset, .unset, .unset] [(.int r2)]))
  refine Go.step (fun _ k => XS.istore X0.here hx rfl (hb hby at_17) rfl (l' := #[.val (.int qa), .val (.int qb), .val (.int qc), .val (.int qs), .val (.int qq), .val (.int r1), .val (.int r2), .unset, .unset, .unset, .unset, .unset, .unset, .unset, .unset, .unset, .unset, .unset, .unset, .unset, .unset]) rfl k) ?_
  show Go _ _ _ _ _ _ _ (s₁.setTop (mkF m 19 #[.val (.int qa), .val (.int qb), .val (.int qc), .val (.int qs), .val (.int qq), .val (.int r1), .val (.int r2), .unset, .unset, .unset, .unset, .unset, .unset, .unset, .unset, .unset, .unset, .unset, .unset, .unset, .unset] []))
  refine Go.step (fun _ k => XS.iload X0.here hx rfl (hb hby at_19) rfl  k) ?_
  show Go _ _ _ _ _ _ _ (s₁.setTop (mkF m 21 #[.val (.int qa), .val (.int qb), .val (.int qc), .val (.int qs), .val (.int qq), .val (.int r1), .val (.int r2), .unset, .unset, .unset, .unset, .unset, .unset, .unset, .unset, .unset, .unset, .unset, .unset, .unset, .unset] [(.int r2)]))
  refine Go.step (fun _ k => XS.iconst X0.here hx rfl (hb hby at_21) k) ?_
  show Go _ _ _ _ _ _ _ (s₁.setTop (mkF m 22 #[.val (.int qa), .val (.int qb), .val (.int qc), .val (.int qs), .val (.int qq), .val (.int r1), .val (.int r2), .unset, .unset, .unset, .unset, .unset, .unset, .unset, .unset, .unset, .unset, .unset, .unset, .unset, .unset] [(.int (1 : Int32)), (.int r2)]))
  refine Go.step (fun _ k => XS.iadd X0.here hx rfl (hb hby at_22) rfl k) ?_
  show Go _ _ _ _ _ _ _ (s₁.setTop (mkF m 23 #[.val (.int qa), .val (.int qb), .val (.int qc), .val (.int qs), .val (.int qq), .val (.int r1), .val (.int r2), .unset, .unset, .unset, .unset, .unset, .unset, .unset, .unset, .unset, .unset, .unset, .unset, .unset, .unset] [(.int (r2 + (1 : Int32)))]))
  refine Go.step (fun _ k => XS.iloadN X0.here hx rfl (hb hby at_23) rfl  k) ?_
  show Go _ _ _ _ _ _ _ (s₁.setTop (mkF m 24 #[.val (.int qa), .val (.int qb), .val (.int qc), .val (.int qs), .val (.int qq), .val (.int r1), .val (.int r2), .unset, .unset, .unset, .unset, .unset, .unset, .unset, .unset, .unset, .unset, .unset, .unset, .unset, .unset] [(.int qc), (.int (r2 + (1 : Int32)))]))
  refine Go.step (fun _ k => XS.bipush X0.here hx rfl (hb hby at_24) k) ?_
  show Go _ _ _ _ _ _ _ (s₁.setTop (mkF m 26 #[.val (.int qa), .val (.int qb), .val (.int qc), .val (.int qs), .val (.int qq), .val (.int r1), .val (.int r2), .unset, .unset, .unset, .unset, .unset, .unset, .unset, .unset, .unset, .unset, .unset, .unset, .unset, .unset] [(.int (7 : Int32)), (.int qc), (.int (r2 + (1 : Int32)))]))
  refine Go.step (fun _ k => XS.iand X0.here hx rfl (hb hby at_26) rfl k) ?_
  show Go _ _ _ _ _ _ _ (s₁.setTop (mkF m 27 #[.val (.int qa), .val (.int qb), .val (.int qc), .val (.int qs), .val (.int qq), .val (.int r1), .val (.int r2), .unset, .unset, .unset, .unset, .unset, .unset, .unset, .unset, .unset, .unset, .unset, .unset, .unset, .unset] [(.int (qc &&& (7 : Int32))), (.int (r2 + (1 : Int32)))]))
  refine Go.step (fun _ k => XS.iadd X0.here hx rfl (hb hby at_27) rfl k) ?_
  show Go _ _ _ _ _ _ _ (s₁.setTop (mkF m 28 #[.val (.int qa), .val (.int qb), .val (.int qc), .val (.int qs), .val (.int qq), .val (.int r1), .val (.int r2), .unset, .unset, .unset, .unset, .unset, .unset, .unset, .unset, .unset, .unset, .unset, .unset, .unset, .unset] [(.int ((r2 + (1 : Int32)) + (qc &&& (7 : Int32))))]))
  obtain ⟨r3, q_r3⟩ : ∃ z : Int32, z = ((r2 + (1 : Int32)) + (qc &&& (7 : Int32))) := ⟨_, rfl⟩
  rw [← q_r3]
  show Go _ _ _ _ _ _ _ (s₁.setTop (mkF m 28 #[.val (.int qa), .val (.int qb), .val (.int qc), .val (.int qs), .val (.int qq), .val (.int r1), .val (.int r2), .unset, .unset, .unset, .unset, .unset, .unset, .unset, .unset, .unset, .unset, .unset, .unset, .unset, .unset] [(.int r3)]))
  refine Go.step (fun _ k => XS.istore X0.here hx rfl (hb hby at_28) rfl (l' := #[.val (.int qa), .val (.int qb), .val (.int qc), .val (.int qs), .val (.int qq), .val (.int r1), .val (.int r2), .val (.int r3), .unset, .unset, .unset, .unset, .unset, .unset, .unset, .unset, .unset, .unset, .unset, .unset, .unset]) rfl k) ?_
  show Go _ _ _ _ _ _ _ (s₁.setTop (mkF m 30 #[.val (.int qa), .val (.int qb), .val (.int qc), .val (.int qs), .val (.int qq), .val (.int r1), .val (.int r2), .val (.int r3), .unset, .unset, .unset, .unset, .unset, .unset, .unset, .unset, .unset, .unset, .unset, .unset, .unset] []))
  refine Go.step (fun _ k => XS.iload X0.here hx rfl (hb hby at_30) rfl  k) ?_
  show Go _ _ _ _ _ _ _ (s₁.setTop (mkF m 32 #[.val (.int qa), .val (.int qb), .val (.int qc), .val (.int qs), .val (.int qq), .val (.int r1), .val (.int r2), .val (.int r3), .unset, .unset, .unset, .unset, .unset, .unset, .unset, .unset, .unset, .unset, .unset, .unset, .unset] [(.int qq)]))
  refine Go.step (X0.ldcInt hx hown (mvT hZ (hw _ (List.mem_of_getElem? (i := 0) rfl))) (g := (mkF m 32 #[.val (.int qa), .val (.int qb), .val (.int qc), .val (.int qs), .val (.int qq), .val (.int r1), .val (.int r2), .val (.int r3), .unset, .unset, .unset, .unset, .unset, .unset, .unset, .unset, .unset, .unset, .unset, .unset, .unset] [(.int qq)])) rfl (hb hby at_32)) ?_
  show Go _ _ _ _ _ _ _ (s₁.setTop (mkF m 34 #[.val (.int qa), .val (.int qb), .val (.int qc), .val (.int qs), .val (.int qq), .val (.int r1), .val (.int r2), .val (.int r3), .unset, .unset, .unset, .unset, .unset, .unset, .unset, .unset, .unset, .unset, .unset, .unset, .unset] [(.int (2147483647 : Int32)), (.int qq)]))
  refine Go.step (fun _ k => XS.iand X0.here hx rfl (hb hby at_34) rfl k) ?_
  show Go _ _ _ _ _ _ _ (s₁.setTop (mkF m 35 #[.val (.int qa), .val (.int qb), .val (.int qc), .val (.int qs), .val (.int qq), .val (.int r1), .val (.int r2), .val (.int r3), .unset, .unset, .unset, .unset, .unset, .unset, .unset, .unset, .unset, .unset, .unset, .unset, .unset] [(.int (qq &&& (2147483647 : Int32)))]))
  obtain ⟨rd, q_rd⟩ : ∃ z : Int32, z = (qq &&& (2147483647 : Int32)) := ⟨_, rfl⟩
  rw [← q_rd]
  have hrd : ¬ rd < 0 := by rw [q_rd]; exact own_mM qq
  show Go _ _ _ _ _ _ _ (s₁.setTop (mkF m 35 #[.val (.int qa), .val (.int qb), .val (.int qc), .val (.int qs), .val (.int qq), .val (.int r1), .val (.int r2), .val (.int r3), .unset, .unset, .unset, .unset, .unset, .unset, .unset, .unset, .unset, .unset, .unset, .unset, .unset] [(.int rd)]))
  refine Go.step (fun _ k => XS.istore X0.here hx rfl (hb hby at_35) rfl (l' := #[.val (.int qa), .val (.int qb), .val (.int qc), .val (.int qs), .val (.int qq), .val (.int r1), .val (.int r2), .val (.int r3), .val (.int rd), .unset, .unset, .unset, .unset, .unset, .unset, .unset, .unset, .unset, .unset, .unset, .unset]) rfl k) ?_
  show Go _ _ _ _ _ _ _ (s₁.setTop (mkF m 37 #[.val (.int qa), .val (.int qb), .val (.int qc), .val (.int qs), .val (.int qq), .val (.int r1), .val (.int r2), .val (.int r3), .val (.int rd), .unset, .unset, .unset, .unset, .unset, .unset, .unset, .unset, .unset, .unset, .unset, .unset] []))
  refine Go.step (fun _ k => XS.iloadN X0.here hx rfl (hb hby at_37) rfl  k) ?_
  show Go _ _ _ _ _ _ _ (s₁.setTop (mkF m 38 #[.val (.int qa), .val (.int qb), .val (.int qc), .val (.int qs), .val (.int qq), .val (.int r1), .val (.int r2), .val (.int r3), .val (.int rd), .unset, .unset, .unset, .unset, .unset, .unset, .unset, .unset, .unset, .unset, .unset, .unset] [(.int qs)]))
  refine Go.step (X0.ldcInt hx hown (mvT hZ (hw _ (List.mem_of_getElem? (i := 0) rfl))) (g := (mkF m 38 #[.val (.int qa), .val (.int qb), .val (.int qc), .val (.int qs), .val (.int qq), .val (.int r1), .val (.int r2), .val (.int r3), .val (.int rd), .unset, .unset, .unset, .unset, .unset, .unset, .unset, .unset, .unset, .unset, .unset, .unset] [(.int qs)])) rfl (hb hby at_38)) ?_
  show Go _ _ _ _ _ _ _ (s₁.setTop (mkF m 40 #[.val (.int qa), .val (.int qb), .val (.int qc), .val (.int qs), .val (.int qq), .val (.int r1), .val (.int r2), .val (.int r3), .val (.int rd), .unset, .unset, .unset, .unset, .unset, .unset, .unset, .unset, .unset, .unset, .unset, .unset] [(.int (2147483647 : Int32)), (.int qs)]))
  refine Go.step (fun _ k => XS.iand X0.here hx rfl (hb hby at_40) rfl k) ?_
  show Go _ _ _ _ _ _ _ (s₁.setTop (mkF m 41 #[.val (.int qa), .val (.int qb), .val (.int qc), .val (.int qs), .val (.int qq), .val (.int r1), .val (.int r2), .val (.int r3), .val (.int rd), .unset, .unset, .unset, .unset, .unset, .unset, .unset, .unset, .unset, .unset, .unset, .unset] [(.int (qs &&& (2147483647 : Int32)))]))
  refine Go.step (fun _ k => XS.iconst X0.here hx rfl (hb hby at_41) k) ?_
  show Go _ _ _ _ _ _ _ (s₁.setTop (mkF m 42 #[.val (.int qa), .val (.int qb), .val (.int qc), .val (.int qs), .val (.int qq), .val (.int r1), .val (.int r2), .val (.int r3), .val (.int rd), .unset, .unset, .unset, .unset, .unset, .unset, .unset, .unset, .unset, .unset, .unset, .unset] [(.int (3 : Int32)), (.int (qs &&& (2147483647 : Int32)))]))
  have nz42 : (3 : Int32) ≠ 0 := (by decide)
  refine Go.step (fun _ k => iremM X0 hx rfl (hb hby at_42) rfl nz42 k) ?_
  show Go _ _ _ _ _ _ _ (s₁.setTop (mkF m 43 #[.val (.int qa), .val (.int qb), .val (.int qc), .val (.int qs), .val (.int qq), .val (.int r1), .val (.int r2), .val (.int r3), .val (.int rd), .unset, .unset, .unset, .unset, .unset, .unset, .unset, .unset, .unset, .unset, .unset, .unset] [(.int ((qs &&& (2147483647 : Int32)) % (3 : Int32)))]))
  obtain ⟨ks, q_ks⟩ : ∃ z : Int32, z = ((qs &&& (2147483647 : Int32)) % (3 : Int32)) := ⟨_, rfl⟩
  rw [← q_ks]
  show Go _ _ _ _ _ _ _ (s₁.setTop (mkF m 43 #[.val (.int qa), .val (.int qb), .val (.int qc), .val (.int qs), .val (.int qq), .val (.int r1), .val (.int r2), .val (.int r3), .val (.int rd), .unset, .unset, .unset, .unset, .unset, .unset, .unset, .unset, .unset, .unset, .unset, .unset] [(.int ks)]))
  refine Go.step (fun _ k => XS.istore X0.here hx rfl (hb hby at_43) rfl (l' := #[.val (.int qa), .val (.int qb), .val (.int qc), .val (.int qs), .val (.int qq), .val (.int r1), .val (.int r2), .val (.int r3), .val (.int rd), .val (.int ks), .unset, .unset, .unset, .unset, .unset, .unset, .unset, .unset, .unset, .unset, .unset]) rfl k) ?_
  show Go _ _ _ _ _ _ _ (s₁.setTop (mkF m 45 #[.val (.int qa), .val (.int qb), .val (.int qc), .val (.int qs), .val (.int qq), .val (.int r1), .val (.int r2), .val (.int r3), .val (.int rd), .val (.int ks), .unset, .unset, .unset, .unset, .unset, .unset, .unset, .unset, .unset, .unset, .unset] []))
  obtain ⟨T1, h1, X1, e1, E1, A1, D1, -, st1⟩ := newO X0 hx hZ hown (hw _ (List.mem_of_getElem? (i := 1) rfl)) (hw _ (List.mem_of_getElem? (i := 2) rfl)) (hw _ (List.mem_of_getElem? (i := 3) rfl)) e0 (g := (mkF m 45 #[.val (.int qa), .val (.int qb), .val (.int qc), .val (.int qs), .val (.int qq), .val (.int r1), .val (.int r2), .val (.int r3), .val (.int rd), .val (.int ks), .unset, .unset, .unset, .unset, .unset, .unset, .unset, .unset, .unset, .unset, .unset] [])) rfl (hb hby at_45) (by decide) (by decide)
  obtain ⟨b1, g1⟩ : ∃ z, z = h0.size := ⟨_, rfl⟩
  rw [← g1] at A1 D1 st1
  refine Go.step st1 ?_
  have gn1 : n0 ≤ b1 := Nat.le_trans Z0 (Nat.le_of_eq g1.symm)
  have sz1 : h0.size ≤ b1 := Nat.le_trans sq0 (Nat.le_of_eq g1.symm)
  have z2 : n0 ≤ h1.size := Nat.le_trans Z0 E1.1
  have sqz2 : h0.size ≤ h1.size := Nat.le_trans sq0 E1.1
  have f4 : Fld Z h1 b1 "com/example/both_ways/bothways/equivalence/SplitHistory" "parents" "[I" .null := D1 (Or.inl (hw _ (List.mem_of_getElem? (i := 12) rfl))) (ty := (.array .int)) (by decide)
  have f5 : Fld Z h1 b1 "com/example/both_ways/bothways/equivalence/SplitHistory" "rounds" "[I" .null := D1 (Or.inl (hw _ (List.mem_of_getElem? (i := 14) rfl))) (ty := (.array .int)) (by decide)
  have f6 : Fld Z h1 b1 "com/example/both_ways/bothways/equivalence/SplitHistory" "depths" "[I" .null := D1 (Or.inl (hw _ (List.mem_of_getElem? (i := 16) rfl))) (ty := (.array .int)) (by decide)
  have f7 : Fld Z h1 b1 "com/example/both_ways/bothways/equivalence/SplitHistory" "leaves" "[I" .null := D1 (Or.inr (hw _ (List.mem_of_getElem? (i := 18) rfl))) (ty := (.array .int)) (by decide)
  have f8 : Fld Z h1 b1 "com/example/both_ways/bothways/equivalence/SplitHistory" "nodeCount" "I" (.int (0 : Int32)) := D1 (Or.inl (hw _ (List.mem_of_getElem? (i := 20) rfl))) (ty := .int) (by decide)
  have f9 : Fld Z h1 b1 "com/example/both_ways/bothways/equivalence/SplitHistory" "visits" "J" (.long (0 : Int64)) := D1 (Or.inl (hw _ (List.mem_of_getElem? (i := 37) rfl))) (ty := .long) (by decide)
  show Go _ _ _ _ _ _ _ (T1.setTop (mkF m 48 #[.val (.int qa), .val (.int qb), .val (.int qc), .val (.int qs), .val (.int qq), .val (.int r1), .val (.int r2), .val (.int r3), .val (.int rd), .val (.int ks), .unset, .unset, .unset, .unset, .unset, .unset, .unset, .unset, .unset, .unset, .unset] [(.ref b1)]))
  refine Go.step (fun _ k => XS.dup X1.here hx rfl (hb hby at_48) rfl rfl k) ?_
  show Go _ _ _ _ _ _ _ (T1.setTop (mkF m 49 #[.val (.int qa), .val (.int qb), .val (.int qc), .val (.int qs), .val (.int qq), .val (.int r1), .val (.int r2), .val (.int r3), .val (.int rd), .val (.int ks), .unset, .unset, .unset, .unset, .unset, .unset, .unset, .unset, .unset, .unset, .unset] [(.ref b1), (.ref b1)]))
  refine Go.step (fun _ k => XS.iconst X1.here hx rfl (hb hby at_49) k) ?_
  show Go _ _ _ _ _ _ _ (T1.setTop (mkF m 50 #[.val (.int qa), .val (.int qb), .val (.int qc), .val (.int qs), .val (.int qq), .val (.int r1), .val (.int r2), .val (.int r3), .val (.int rd), .val (.int ks), .unset, .unset, .unset, .unset, .unset, .unset, .unset, .unset, .unset, .unset, .unset] [(.int (1 : Int32)), (.ref b1), (.ref b1)]))
  have pq10 : (1 : Int32) = (1 : Int32) := rfl
  obtain ⟨_, _, ⟨T11, L11, k11, n11⟩, -, X11, ⟨Lc11, hQ11, l11, y11, z11⟩, st11⟩ := X1.specialBack hx (y := (⟨"com/example/both_ways/bothways/equivalence/SplitHistory", "<init>", "(I)V"⟩ : MethodName)) rfl hown (mvT hZ (hw _ (List.mem_of_getElem? (i := 4) rfl))) (mvT hZ (hw _ (List.mem_of_getElem? (i := 5) rfl))) (mvT hZ (hw _ (List.mem_of_getElem? (i := 6) rfl))) (by decide) (backOf (W := 1) (rm1 l Z aZ hw [] b1 (1 : Int32) h1 n0 z2 A1 f4 f5 f6 f7 f8 f9 gn1 pq10) hZ (hw _ (List.mem_of_getElem? (i := 6) rfl)) (hw _ (List.mem_of_getElem? (i := 3) rfl)) (by decide) (by decide)) (g := (mkF m 50 #[.val (.int qa), .val (.int qb), .val (.int qc), .val (.int qs), .val (.int qq), .val (.int r1), .val (.int r2), .val (.int r3), .val (.int rd), .val (.int ks), .unset, .unset, .unset, .unset, .unset, .unset, .unset, .unset, .unset, .unset, .unset] [(.int (1 : Int32)), (.ref b1), (.ref b1)])) rfl (by rw [hml]; rfl) (Steps.refl _) (a := b1) (argsL := [(.int (1 : Int32))]) (rest := [(.ref b1)]) (lenOf pd_0 rfl) rfl (by show 2 * 0 + _ ≤ _; exact Nat.le_of_eq rfl) (hb hby at_50) (fun _ _ => ⟨rfl, e1, (by decide : 1 + 4 ≤ _), (by decide : 7 + 49 ≤ _)⟩)
  dsimp only [Pt.U, Pt.locs, Pt.cells, Pt.slots] at X11 l11 y11 z11 st11 hQ11
  subst l11 y11 z11
  obtain ⟨bp_11, br_11, bd_11, bl_11, fp_11, rfl, Nq11, K11, c11_0, c11_1, c11_2, c11_3, c11_4, c11_5, c11_6, c11_7, c11_8, c11_9, c11_10, c11_11, c11_12, c11_13, c11_14, c11_15, c11_16, c11_17, c11_18, c11_19, c11_20, c11_21, c11_22, c11_23, c11_24⟩ := hQ11
  have N11 := Fr.app N0 Nq11
  refine Go.tr st11 ?_
  have ne12 : b1 ≠ bp_11 := Nat.ne_of_lt (Nat.lt_of_lt_of_le A1.lt c11_0)
  have gn11_0 : n0 ≤ bp_11 := Nat.le_trans z2 c11_0
  have sz11_0 : h0.size ≤ bp_11 := Nat.le_trans sqz2 c11_0
  have ne13 : b1 ≠ br_11 := Nat.ne_of_lt (Nat.lt_of_lt_of_le A1.lt c11_1)
  have gn11_1 : n0 ≤ br_11 := Nat.le_trans z2 c11_1
  have sz11_1 : h0.size ≤ br_11 := Nat.le_trans sqz2 c11_1
  have ne14 : b1 ≠ bd_11 := Nat.ne_of_lt (Nat.lt_of_lt_of_le A1.lt c11_2)
  have gn11_2 : n0 ≤ bd_11 := Nat.le_trans z2 c11_2
  have sz11_2 : h0.size ≤ bd_11 := Nat.le_trans sqz2 c11_2
  have ne15 : b1 ≠ bl_11 := Nat.ne_of_lt (Nat.lt_of_lt_of_le A1.lt c11_3)
  have gn11_3 : n0 ≤ bl_11 := Nat.le_trans z2 c11_3
  have sz11_3 : h0.size ≤ bl_11 := Nat.le_trans sqz2 c11_3
  have z16 : n0 ≤ T11.heap.size := Nat.le_trans z2 K11.1
  have sqz16 : h0.size ≤ T11.heap.size := Nat.le_trans sqz2 K11.1
  show Go _ _ _ _ _ _ _ (T11.setTop (mkF m 53 #[.val (.int qa), .val (.int qb), .val (.int qc), .val (.int qs), .val (.int qq), .val (.int r1), .val (.int r2), .val (.int r3), .val (.int rd), .val (.int ks), .unset, .unset, .unset, .unset, .unset, .unset, .unset, .unset, .unset, .unset, .unset] [(.ref b1)]))
  refine Go.step (fun _ k => XS.astore X11.here hx rfl (hb hby at_53) rfl rfl (l' := #[.val (.int qa), .val (.int qb), .val (.int qc), .val (.int qs), .val (.int qq), .val (.int r1), .val (.int r2), .val (.int r3), .val (.int rd), .val (.int ks), .val (.ref b1), .unset, .unset, .unset, .unset, .unset, .unset, .unset, .unset, .unset, .unset]) rfl k) ?_
  show Go _ _ _ _ _ _ _ (T11.setTop (mkF m 55 #[.val (.int qa), .val (.int qb), .val (.int qc), .val (.int qs), .val (.int qq), .val (.int r1), .val (.int r2), .val (.int r3), .val (.int rd), .val (.int ks), .val (.ref b1), .unset, .unset, .unset, .unset, .unset, .unset, .unset, .unset, .unset, .unset] []))
  refine Go.step (fun _ k => XS.aload X11.here hx rfl (hb hby at_55) rfl rfl  k) ?_
  show Go _ _ _ _ _ _ _ (T11.setTop (mkF m 57 #[.val (.int qa), .val (.int qb), .val (.int qc), .val (.int qs), .val (.int qq), .val (.int r1), .val (.int r2), .val (.int r3), .val (.int rd), .val (.int ks), .val (.ref b1), .unset, .unset, .unset, .unset, .unset, .unset, .unset, .unset, .unset, .unset] [(.ref b1)]))
  refine Go.step (fun _ k => XS.iconst X11.here hx rfl (hb hby at_57) k) ?_
  show Go _ _ _ _ _ _ _ (T11.setTop (mkF m 58 #[.val (.int qa), .val (.int qb), .val (.int qc), .val (.int qs), .val (.int qq), .val (.int r1), .val (.int r2), .val (.int r3), .val (.int rd), .val (.int ks), .val (.ref b1), .unset, .unset, .unset, .unset, .unset, .unset, .unset, .unset, .unset, .unset] [(.int (0 : Int32)), (.ref b1)]))
  refine Go.step (fun _ k => XS.iload X11.here hx rfl (hb hby at_58) rfl  k) ?_
  show Go _ _ _ _ _ _ _ (T11.setTop (mkF m 60 #[.val (.int qa), .val (.int qb), .val (.int qc), .val (.int qs), .val (.int qq), .val (.int r1), .val (.int r2), .val (.int r3), .val (.int rd), .val (.int ks), .val (.ref b1), .unset, .unset, .unset, .unset, .unset, .unset, .unset, .unset, .unset, .unset] [(.int r1), (.int (0 : Int32)), (.ref b1)]))
  have pq18 : ¬ (1 : Int32) < 0 ∧ (1 : Int32) < (16 : Int32) := (by decide)
  have pq19 : ¬ (0 : Int32) < 0 ∧ (0 : Int32) < (16 : Int32) := (by decide)
  obtain ⟨cq20, kq20, q20a, q20b, q20c⟩ := isOf hZ rfl c11_4
  obtain ⟨_, _, ⟨T20, L20, k20, n20⟩, -, X20, ⟨Lc20, hQ20, l20, y20, z20⟩, st20⟩ := X11.virtualBack hx (y := (⟨"com/example/both_ways/bothways/equivalence/SplitHistory", "split", "(II)I"⟩ : MethodName)) (z := (⟨"com/example/both_ways/bothways/equivalence/SplitHistory", "split", "(II)I"⟩ : MethodName)) hown (mvT hZ (hw _ (List.mem_of_getElem? (i := 21) rfl))) (mvT hZ (hw _ (List.mem_of_getElem? (i := 22) rfl))) (notFace_of_selects (args := #[]) (mvT hZ (hw _ (List.mem_of_getElem? (i := 24) rfl)))) (mvT hZ (hw _ (List.mem_of_getElem? (i := 24) rfl))) (mvT hZ (hw _ (List.mem_of_getElem? (i := 23) rfl))) (by decide) (backOf (W := 0) (rm3 l Z aZ hw [] b1 (0 : Int32) r1 bp_11 fp_11 br_11 (fun _ => 0) bd_11 (fun _ => 0) bl_11 (1 : Int32) T11.heap n0 z16 c11_4 c11_5 c11_6 c11_7 c11_8 c11_9 c11_11 c11_12 c11_13 c11_15 c11_16 c11_17 c11_18 c11_19 c11_20 c11_21 c11_22 c11_23 c11_24 gn1 gn11_0 gn11_1 gn11_2 pq18 pq19 c11_10) hZ (hw _ (List.mem_of_getElem? (i := 25) rfl)) (hw _ (List.mem_of_getElem? (i := 3) rfl)) (by decide) (by decide)) q20a q20c (g := (mkF m 60 #[.val (.int qa), .val (.int qb), .val (.int qc), .val (.int qs), .val (.int qq), .val (.int r1), .val (.int r2), .val (.int r3), .val (.int rd), .val (.int ks), .val (.ref b1), .unset, .unset, .unset, .unset, .unset, .unset, .unset, .unset, .unset, .unset] [(.int r1), (.int (0 : Int32)), (.ref b1)])) rfl (by rw [hml]; rfl) (Steps.refl _) (argsL := [(.int (0 : Int32)), (.int r1)]) (rest := []) (lenOf pd_1 rfl) rfl (by show 2 * 0 + _ ≤ _; exact Nat.le_of_eq rfl) (hb hby at_60) (fun _ _ => ⟨rfl, rfl, (by decide : 5 + 0 ≤ _), (by decide : 56 + 0 ≤ _)⟩)
  dsimp only [Pt.U, Pt.locs, Pt.cells, Pt.slots] at X20 l20 y20 z20 st20 hQ20
  subst l20 y20 z20
  obtain ⟨gp_20, gr_20, gd_20, rfl, Nq20, K20, c20_0, c20_1, c20_2, c20_3, c20_4, c20_5, c20_6, c20_7, c20_8, c20_9, u20_0, u20_1, u20_2⟩ := hQ20
  have N20 := Fr.app N11 Nq20
  refine Go.tr st20 ?_
  have z21 : n0 ≤ T20.heap.size := Nat.le_trans z16 K20.1
  have sqz21 : h0.size ≤ T20.heap.size := Nat.le_trans sqz16 K20.1
  have c20_5f : Fld Z T20.heap b1 "com/example/both_ways/bothways/equivalence/SplitHistory" "nodeCount" "I" (.int (2 : Int32)) := c20_5
  show Go _ _ _ _ _ _ _ (T20.setTop (mkF m 63 #[.val (.int qa), .val (.int qb), .val (.int qc), .val (.int qs), .val (.int qq), .val (.int r1), .val (.int r2), .val (.int r3), .val (.int rd), .val (.int ks), .val (.ref b1), .unset, .unset, .unset, .unset, .unset, .unset, .unset, .unset, .unset, .unset] [(.int (1 : Int32))]))
  refine Go.step (fun _ k => XS.istore X20.here hx rfl (hb hby at_63) rfl (l' := #[.val (.int qa), .val (.int qb), .val (.int qc), .val (.int qs), .val (.int qq), .val (.int r1), .val (.int r2), .val (.int r3), .val (.int rd), .val (.int ks), .val (.ref b1), .val (.int (1 : Int32)), .unset, .unset, .unset, .unset, .unset, .unset, .unset, .unset, .unset]) rfl k) ?_
  show Go _ _ _ _ _ _ _ (T20.setTop (mkF m 65 #[.val (.int qa), .val (.int qb), .val (.int qc), .val (.int qs), .val (.int qq), .val (.int r1), .val (.int r2), .val (.int r3), .val (.int rd), .val (.int ks), .val (.ref b1), .val (.int (1 : Int32)), .unset, .unset, .unset, .unset, .unset, .unset, .unset, .unset, .unset] []))
  refine Go.step (fun _ k => XS.aload X20.here hx rfl (hb hby at_65) rfl rfl  k) ?_
  show Go _ _ _ _ _ _ _ (T20.setTop (mkF m 67 #[.val (.int qa), .val (.int qb), .val (.int qc), .val (.int qs), .val (.int qq), .val (.int r1), .val (.int r2), .val (.int r3), .val (.int rd), .val (.int ks), .val (.ref b1), .val (.int (1 : Int32)), .unset, .unset, .unset, .unset, .unset, .unset, .unset, .unset, .unset] [(.ref b1)]))
  refine Go.step (fun _ k => XS.iconst X20.here hx rfl (hb hby at_67) k) ?_
  show Go _ _ _ _ _ _ _ (T20.setTop (mkF m 68 #[.val (.int qa), .val (.int qb), .val (.int qc), .val (.int qs), .val (.int qq), .val (.int r1), .val (.int r2), .val (.int r3), .val (.int rd), .val (.int ks), .val (.ref b1), .val (.int (1 : Int32)), .unset, .unset, .unset, .unset, .unset, .unset, .unset, .unset, .unset] [(.int (0 : Int32)), (.ref b1)]))
  refine Go.step (fun _ k => XS.iload X20.here hx rfl (hb hby at_68) rfl  k) ?_
  show Go _ _ _ _ _ _ _ (T20.setTop (mkF m 70 #[.val (.int qa), .val (.int qb), .val (.int qc), .val (.int qs), .val (.int qq), .val (.int r1), .val (.int r2), .val (.int r3), .val (.int rd), .val (.int ks), .val (.ref b1), .val (.int (1 : Int32)), .unset, .unset, .unset, .unset, .unset, .unset, .unset, .unset, .unset] [(.int r1), (.int (0 : Int32)), (.ref b1)]))
  have pq23 : ¬ (2 : Int32) < 0 ∧ (2 : Int32) < (16 : Int32) := (by decide)
  have pq24 : ¬ (0 : Int32) < 0 ∧ (0 : Int32) < (16 : Int32) := (by decide)
  obtain ⟨cq25, kq25, q25a, q25b, q25c⟩ := isOf hZ rfl c20_0
  obtain ⟨_, _, ⟨T25, L25, k25, n25⟩, -, X25, ⟨Lc25, hQ25, l25, y25, z25⟩, st25⟩ := X20.virtualBack hx (y := (⟨"com/example/both_ways/bothways/equivalence/SplitHistory", "split", "(II)I"⟩ : MethodName)) (z := (⟨"com/example/both_ways/bothways/equivalence/SplitHistory", "split", "(II)I"⟩ : MethodName)) hown (mvT hZ (hw _ (List.mem_of_getElem? (i := 21) rfl))) (mvT hZ (hw _ (List.mem_of_getElem? (i := 22) rfl))) (notFace_of_selects (args := #[]) (mvT hZ (hw _ (List.mem_of_getElem? (i := 24) rfl)))) (mvT hZ (hw _ (List.mem_of_getElem? (i := 24) rfl))) (mvT hZ (hw _ (List.mem_of_getElem? (i := 23) rfl))) (by decide) (backOf (W := 0) (rm3 l Z aZ hw [] b1 (0 : Int32) r1 bp_11 gp_20 br_11 gr_20 bd_11 gd_20 bl_11 (2 : Int32) T20.heap n0 z21 c20_0 c20_1 c20_2 c20_3 c20_4 c20_5f c20_7 c20_8 c20_9 c11_15 c11_16 c11_17 c11_18 c11_19 c11_20 c11_21 c11_22 c11_23 c11_24 gn1 gn11_0 gn11_1 gn11_2 pq23 pq24 c20_6) hZ (hw _ (List.mem_of_getElem? (i := 25) rfl)) (hw _ (List.mem_of_getElem? (i := 3) rfl)) (by decide) (by decide)) q25a q25c (g := (mkF m 70 #[.val (.int qa), .val (.int qb), .val (.int qc), .val (.int qs), .val (.int qq), .val (.int r1), .val (.int r2), .val (.int r3), .val (.int rd), .val (.int ks), .val (.ref b1), .val (.int (1 : Int32)), .unset, .unset, .unset, .unset, .unset, .unset, .unset, .unset, .unset] [(.int r1), (.int (0 : Int32)), (.ref b1)])) rfl (by rw [hml]; rfl) (Steps.refl _) (argsL := [(.int (0 : Int32)), (.int r1)]) (rest := []) (lenOf pd_1 rfl) rfl (by show 2 * 0 + _ ≤ _; exact Nat.le_of_eq rfl) (hb hby at_70) (fun _ _ => ⟨rfl, rfl, (by decide : 5 + 0 ≤ _), (by decide : 56 + 0 ≤ _)⟩)
  dsimp only [Pt.U, Pt.locs, Pt.cells, Pt.slots] at X25 l25 y25 z25 st25 hQ25
  subst l25 y25 z25
  obtain ⟨gp_25, gr_25, gd_25, rfl, Nq25, K25, c25_0, c25_1, c25_2, c25_3, c25_4, c25_5, c25_6, c25_7, c25_8, c25_9, u25_0, u25_1, u25_2⟩ := hQ25
  have N25 := Fr.app N20 Nq25
  refine Go.tr st25 ?_
  have z26 : n0 ≤ T25.heap.size := Nat.le_trans z21 K25.1
  have sqz26 : h0.size ≤ T25.heap.size := Nat.le_trans sqz21 K25.1
  have c25_5f : Fld Z T25.heap b1 "com/example/both_ways/bothways/equivalence/SplitHistory" "nodeCount" "I" (.int (3 : Int32)) := c25_5
  show Go _ _ _ _ _ _ _ (T25.setTop (mkF m 73 #[.val (.int qa), .val (.int qb), .val (.int qc), .val (.int qs), .val (.int qq), .val (.int r1), .val (.int r2), .val (.int r3), .val (.int rd), .val (.int ks), .val (.ref b1), .val (.int (1 : Int32)), .unset, .unset, .unset, .unset, .unset, .unset, .unset, .unset, .unset] [(.int (2 : Int32))]))
  refine Go.step (fun _ k => XS.istore X25.here hx rfl (hb hby at_73) rfl (l' := #[.val (.int qa), .val (.int qb), .val (.int qc), .val (.int qs), .val (.int qq), .val (.int r1), .val (.int r2), .val (.int r3), .val (.int rd), .val (.int ks), .val (.ref b1), .val (.int (1 : Int32)), .val (.int (2 : Int32)), .unset, .unset, .unset, .unset, .unset, .unset, .unset, .unset]) rfl k) ?_
  show Go _ _ _ _ _ _ _ (T25.setTop (mkF m 75 #[.val (.int qa), .val (.int qb), .val (.int qc), .val (.int qs), .val (.int qq), .val (.int r1), .val (.int r2), .val (.int r3), .val (.int rd), .val (.int ks), .val (.ref b1), .val (.int (1 : Int32)), .val (.int (2 : Int32)), .unset, .unset, .unset, .unset, .unset, .unset, .unset, .unset] []))
  refine Go.step (fun _ k => XS.aload X25.here hx rfl (hb hby at_75) rfl rfl  k) ?_
  show Go _ _ _ _ _ _ _ (T25.setTop (mkF m 77 #[.val (.int qa), .val (.int qb), .val (.int qc), .val (.int qs), .val (.int qq), .val (.int r1), .val (.int r2), .val (.int r3), .val (.int rd), .val (.int ks), .val (.ref b1), .val (.int (1 : Int32)), .val (.int (2 : Int32)), .unset, .unset, .unset, .unset, .unset, .unset, .unset, .unset] [(.ref b1)]))
  refine Go.step (fun _ k => XS.iload X25.here hx rfl (hb hby at_77) rfl  k) ?_
  show Go _ _ _ _ _ _ _ (T25.setTop (mkF m 79 #[.val (.int qa), .val (.int qb), .val (.int qc), .val (.int qs), .val (.int qq), .val (.int r1), .val (.int r2), .val (.int r3), .val (.int rd), .val (.int ks), .val (.ref b1), .val (.int (1 : Int32)), .val (.int (2 : Int32)), .unset, .unset, .unset, .unset, .unset, .unset, .unset, .unset] [(.int (1 : Int32)), (.ref b1)]))
  refine Go.step (fun _ k => XS.iload X25.here hx rfl (hb hby at_79) rfl  k) ?_
  show Go _ _ _ _ _ _ _ (T25.setTop (mkF m 81 #[.val (.int qa), .val (.int qb), .val (.int qc), .val (.int qs), .val (.int qq), .val (.int r1), .val (.int r2), .val (.int r3), .val (.int rd), .val (.int ks), .val (.ref b1), .val (.int (1 : Int32)), .val (.int (2 : Int32)), .unset, .unset, .unset, .unset, .unset, .unset, .unset, .unset] [(.int r2), (.int (1 : Int32)), (.ref b1)]))
  have pq28 : ¬ (3 : Int32) < 0 ∧ (3 : Int32) < (16 : Int32) := (by decide)
  have pq29 : ¬ (1 : Int32) < 0 ∧ (1 : Int32) < (16 : Int32) := (by decide)
  obtain ⟨cq30, kq30, q30a, q30b, q30c⟩ := isOf hZ rfl c25_0
  obtain ⟨_, _, ⟨T30, L30, k30, n30⟩, -, X30, ⟨Lc30, hQ30, l30, y30, z30⟩, st30⟩ := X25.virtualBack hx (y := (⟨"com/example/both_ways/bothways/equivalence/SplitHistory", "split", "(II)I"⟩ : MethodName)) (z := (⟨"com/example/both_ways/bothways/equivalence/SplitHistory", "split", "(II)I"⟩ : MethodName)) hown (mvT hZ (hw _ (List.mem_of_getElem? (i := 21) rfl))) (mvT hZ (hw _ (List.mem_of_getElem? (i := 22) rfl))) (notFace_of_selects (args := #[]) (mvT hZ (hw _ (List.mem_of_getElem? (i := 24) rfl)))) (mvT hZ (hw _ (List.mem_of_getElem? (i := 24) rfl))) (mvT hZ (hw _ (List.mem_of_getElem? (i := 23) rfl))) (by decide) (backOf (W := 0) (rm3 l Z aZ hw [] b1 (1 : Int32) r2 bp_11 gp_25 br_11 gr_25 bd_11 gd_25 bl_11 (3 : Int32) T25.heap n0 z26 c25_0 c25_1 c25_2 c25_3 c25_4 c25_5f c25_7 c25_8 c25_9 c11_15 c11_16 c11_17 c11_18 c11_19 c11_20 c11_21 c11_22 c11_23 c11_24 gn1 gn11_0 gn11_1 gn11_2 pq28 pq29 c25_6) hZ (hw _ (List.mem_of_getElem? (i := 25) rfl)) (hw _ (List.mem_of_getElem? (i := 3) rfl)) (by decide) (by decide)) q30a q30c (g := (mkF m 81 #[.val (.int qa), .val (.int qb), .val (.int qc), .val (.int qs), .val (.int qq), .val (.int r1), .val (.int r2), .val (.int r3), .val (.int rd), .val (.int ks), .val (.ref b1), .val (.int (1 : Int32)), .val (.int (2 : Int32)), .unset, .unset, .unset, .unset, .unset, .unset, .unset, .unset] [(.int r2), (.int (1 : Int32)), (.ref b1)])) rfl (by rw [hml]; rfl) (Steps.refl _) (argsL := [(.int (1 : Int32)), (.int r2)]) (rest := []) (lenOf pd_1 rfl) rfl (by show 2 * 0 + _ ≤ _; exact Nat.le_of_eq rfl) (hb hby at_81) (fun _ _ => ⟨rfl, rfl, (by decide : 5 + 0 ≤ _), (by decide : 56 + 0 ≤ _)⟩)
  dsimp only [Pt.U, Pt.locs, Pt.cells, Pt.slots] at X30 l30 y30 z30 st30 hQ30
  subst l30 y30 z30
  obtain ⟨gp_30, gr_30, gd_30, rfl, Nq30, K30, c30_0, c30_1, c30_2, c30_3, c30_4, c30_5, c30_6, c30_7, c30_8, c30_9, u30_0, u30_1, u30_2⟩ := hQ30
  have N30 := Fr.app N25 Nq30
  refine Go.tr st30 ?_
  have z31 : n0 ≤ T30.heap.size := Nat.le_trans z26 K30.1
  have sqz31 : h0.size ≤ T30.heap.size := Nat.le_trans sqz26 K30.1
  have c30_5f : Fld Z T30.heap b1 "com/example/both_ways/bothways/equivalence/SplitHistory" "nodeCount" "I" (.int (4 : Int32)) := c30_5
  show Go _ _ _ _ _ _ _ (T30.setTop (mkF m 84 #[.val (.int qa), .val (.int qb), .val (.int qc), .val (.int qs), .val (.int qq), .val (.int r1), .val (.int r2), .val (.int r3), .val (.int rd), .val (.int ks), .val (.ref b1), .val (.int (1 : Int32)), .val (.int (2 : Int32)), .unset, .unset, .unset, .unset, .unset, .unset, .unset, .unset] [(.int (3 : Int32))]))
  refine Go.step (fun _ k => XS.istore X30.here hx rfl (hb hby at_84) rfl (l' := #[.val (.int qa), .val (.int qb), .val (.int qc), .val (.int qs), .val (.int qq), .val (.int r1), .val (.int r2), .val (.int r3), .val (.int rd), .val (.int ks), .val (.ref b1), .val (.int (1 : Int32)), .val (.int (2 : Int32)), .val (.int (3 : Int32)), .unset, .unset, .unset, .unset, .unset, .unset, .unset]) rfl k) ?_
  show Go _ _ _ _ _ _ _ (T30.setTop (mkF m 86 #[.val (.int qa), .val (.int qb), .val (.int qc), .val (.int qs), .val (.int qq), .val (.int r1), .val (.int r2), .val (.int r3), .val (.int rd), .val (.int ks), .val (.ref b1), .val (.int (1 : Int32)), .val (.int (2 : Int32)), .val (.int (3 : Int32)), .unset, .unset, .unset, .unset, .unset, .unset, .unset] []))
  refine Go.step (fun _ k => XS.aload X30.here hx rfl (hb hby at_86) rfl rfl  k) ?_
  show Go _ _ _ _ _ _ _ (T30.setTop (mkF m 88 #[.val (.int qa), .val (.int qb), .val (.int qc), .val (.int qs), .val (.int qq), .val (.int r1), .val (.int r2), .val (.int r3), .val (.int rd), .val (.int ks), .val (.ref b1), .val (.int (1 : Int32)), .val (.int (2 : Int32)), .val (.int (3 : Int32)), .unset, .unset, .unset, .unset, .unset, .unset, .unset] [(.ref b1)]))
  refine Go.step (fun _ k => XS.iload X30.here hx rfl (hb hby at_88) rfl  k) ?_
  show Go _ _ _ _ _ _ _ (T30.setTop (mkF m 90 #[.val (.int qa), .val (.int qb), .val (.int qc), .val (.int qs), .val (.int qq), .val (.int r1), .val (.int r2), .val (.int r3), .val (.int rd), .val (.int ks), .val (.ref b1), .val (.int (1 : Int32)), .val (.int (2 : Int32)), .val (.int (3 : Int32)), .unset, .unset, .unset, .unset, .unset, .unset, .unset] [(.int (1 : Int32)), (.ref b1)]))
  refine Go.step (fun _ k => XS.iload X30.here hx rfl (hb hby at_90) rfl  k) ?_
  show Go _ _ _ _ _ _ _ (T30.setTop (mkF m 92 #[.val (.int qa), .val (.int qb), .val (.int qc), .val (.int qs), .val (.int qq), .val (.int r1), .val (.int r2), .val (.int r3), .val (.int rd), .val (.int ks), .val (.ref b1), .val (.int (1 : Int32)), .val (.int (2 : Int32)), .val (.int (3 : Int32)), .unset, .unset, .unset, .unset, .unset, .unset, .unset] [(.int r2), (.int (1 : Int32)), (.ref b1)]))
  have pq33 : ¬ (4 : Int32) < 0 ∧ (4 : Int32) < (16 : Int32) := (by decide)
  have pq34 : ¬ (1 : Int32) < 0 ∧ (1 : Int32) < (16 : Int32) := (by decide)
  obtain ⟨cq35, kq35, q35a, q35b, q35c⟩ := isOf hZ rfl c30_0
  obtain ⟨_, _, ⟨T35, L35, k35, n35⟩, -, X35, ⟨Lc35, hQ35, l35, y35, z35⟩, st35⟩ := X30.virtualBack hx (y := (⟨"com/example/both_ways/bothways/equivalence/SplitHistory", "split", "(II)I"⟩ : MethodName)) (z := (⟨"com/example/both_ways/bothways/equivalence/SplitHistory", "split", "(II)I"⟩ : MethodName)) hown (mvT hZ (hw _ (List.mem_of_getElem? (i := 21) rfl))) (mvT hZ (hw _ (List.mem_of_getElem? (i := 22) rfl))) (notFace_of_selects (args := #[]) (mvT hZ (hw _ (List.mem_of_getElem? (i := 24) rfl)))) (mvT hZ (hw _ (List.mem_of_getElem? (i := 24) rfl))) (mvT hZ (hw _ (List.mem_of_getElem? (i := 23) rfl))) (by decide) (backOf (W := 0) (rm3 l Z aZ hw [] b1 (1 : Int32) r2 bp_11 gp_30 br_11 gr_30 bd_11 gd_30 bl_11 (4 : Int32) T30.heap n0 z31 c30_0 c30_1 c30_2 c30_3 c30_4 c30_5f c30_7 c30_8 c30_9 c11_15 c11_16 c11_17 c11_18 c11_19 c11_20 c11_21 c11_22 c11_23 c11_24 gn1 gn11_0 gn11_1 gn11_2 pq33 pq34 c30_6) hZ (hw _ (List.mem_of_getElem? (i := 25) rfl)) (hw _ (List.mem_of_getElem? (i := 3) rfl)) (by decide) (by decide)) q35a q35c (g := (mkF m 92 #[.val (.int qa), .val (.int qb), .val (.int qc), .val (.int qs), .val (.int qq), .val (.int r1), .val (.int r2), .val (.int r3), .val (.int rd), .val (.int ks), .val (.ref b1), .val (.int (1 : Int32)), .val (.int (2 : Int32)), .val (.int (3 : Int32)), .unset, .unset, .unset, .unset, .unset, .unset, .unset] [(.int r2), (.int (1 : Int32)), (.ref b1)])) rfl (by rw [hml]; rfl) (Steps.refl _) (argsL := [(.int (1 : Int32)), (.int r2)]) (rest := []) (lenOf pd_1 rfl) rfl (by show 2 * 0 + _ ≤ _; exact Nat.le_of_eq rfl) (hb hby at_92) (fun _ _ => ⟨rfl, rfl, (by decide : 5 + 0 ≤ _), (by decide : 56 + 0 ≤ _)⟩)
  dsimp only [Pt.U, Pt.locs, Pt.cells, Pt.slots] at X35 l35 y35 z35 st35 hQ35
  subst l35 y35 z35
  obtain ⟨gp_35, gr_35, gd_35, rfl, Nq35, K35, c35_0, c35_1, c35_2, c35_3, c35_4, c35_5, c35_6, c35_7, c35_8, c35_9, u35_0, u35_1, u35_2⟩ := hQ35
  have N35 := Fr.app N30 Nq35
  refine Go.tr st35 ?_
  have z36 : n0 ≤ T35.heap.size := Nat.le_trans z31 K35.1
  have sqz36 : h0.size ≤ T35.heap.size := Nat.le_trans sqz31 K35.1
  have c35_5f : Fld Z T35.heap b1 "com/example/both_ways/bothways/equivalence/SplitHistory" "nodeCount" "I" (.int (5 : Int32)) := c35_5
  show Go _ _ _ _ _ _ _ (T35.setTop (mkF m 95 #[.val (.int qa), .val (.int qb), .val (.int qc), .val (.int qs), .val (.int qq), .val (.int r1), .val (.int r2), .val (.int r3), .val (.int rd), .val (.int ks), .val (.ref b1), .val (.int (1 : Int32)), .val (.int (2 : Int32)), .val (.int (3 : Int32)), .unset, .unset, .unset, .unset, .unset, .unset, .unset] [(.int (4 : Int32))]))
  refine Go.step (fun _ k => XS.istore X35.here hx rfl (hb hby at_95) rfl (l' := #[.val (.int qa), .val (.int qb), .val (.int qc), .val (.int qs), .val (.int qq), .val (.int r1), .val (.int r2), .val (.int r3), .val (.int rd), .val (.int ks), .val (.ref b1), .val (.int (1 : Int32)), .val (.int (2 : Int32)), .val (.int (3 : Int32)), .val (.int (4 : Int32)), .unset, .unset, .unset, .unset, .unset, .unset]) rfl k) ?_
  show Go _ _ _ _ _ _ _ (T35.setTop (mkF m 97 #[.val (.int qa), .val (.int qb), .val (.int qc), .val (.int qs), .val (.int qq), .val (.int r1), .val (.int r2), .val (.int r3), .val (.int rd), .val (.int ks), .val (.ref b1), .val (.int (1 : Int32)), .val (.int (2 : Int32)), .val (.int (3 : Int32)), .val (.int (4 : Int32)), .unset, .unset, .unset, .unset, .unset, .unset] []))
  refine Go.step (fun _ k => XS.aload X35.here hx rfl (hb hby at_97) rfl rfl  k) ?_
  show Go _ _ _ _ _ _ _ (T35.setTop (mkF m 99 #[.val (.int qa), .val (.int qb), .val (.int qc), .val (.int qs), .val (.int qq), .val (.int r1), .val (.int r2), .val (.int r3), .val (.int rd), .val (.int ks), .val (.ref b1), .val (.int (1 : Int32)), .val (.int (2 : Int32)), .val (.int (3 : Int32)), .val (.int (4 : Int32)), .unset, .unset, .unset, .unset, .unset, .unset] [(.ref b1)]))
  refine Go.step (fun _ k => XS.iload X35.here hx rfl (hb hby at_99) rfl  k) ?_
  show Go _ _ _ _ _ _ _ (T35.setTop (mkF m 101 #[.val (.int qa), .val (.int qb), .val (.int qc), .val (.int qs), .val (.int qq), .val (.int r1), .val (.int r2), .val (.int r3), .val (.int rd), .val (.int ks), .val (.ref b1), .val (.int (1 : Int32)), .val (.int (2 : Int32)), .val (.int (3 : Int32)), .val (.int (4 : Int32)), .unset, .unset, .unset, .unset, .unset, .unset] [(.int (3 : Int32)), (.ref b1)]))
  refine Go.step (fun _ k => XS.iload X35.here hx rfl (hb hby at_101) rfl  k) ?_
  show Go _ _ _ _ _ _ _ (T35.setTop (mkF m 103 #[.val (.int qa), .val (.int qb), .val (.int qc), .val (.int qs), .val (.int qq), .val (.int r1), .val (.int r2), .val (.int r3), .val (.int rd), .val (.int ks), .val (.ref b1), .val (.int (1 : Int32)), .val (.int (2 : Int32)), .val (.int (3 : Int32)), .val (.int (4 : Int32)), .unset, .unset, .unset, .unset, .unset, .unset] [(.int r3), (.int (3 : Int32)), (.ref b1)]))
  have pq38 : ¬ (5 : Int32) < 0 ∧ (5 : Int32) < (16 : Int32) := (by decide)
  have pq39 : ¬ (3 : Int32) < 0 ∧ (3 : Int32) < (16 : Int32) := (by decide)
  obtain ⟨cq40, kq40, q40a, q40b, q40c⟩ := isOf hZ rfl c35_0
  obtain ⟨_, _, ⟨T40, L40, k40, n40⟩, -, X40, ⟨Lc40, hQ40, l40, y40, z40⟩, st40⟩ := X35.virtualBack hx (y := (⟨"com/example/both_ways/bothways/equivalence/SplitHistory", "split", "(II)I"⟩ : MethodName)) (z := (⟨"com/example/both_ways/bothways/equivalence/SplitHistory", "split", "(II)I"⟩ : MethodName)) hown (mvT hZ (hw _ (List.mem_of_getElem? (i := 21) rfl))) (mvT hZ (hw _ (List.mem_of_getElem? (i := 22) rfl))) (notFace_of_selects (args := #[]) (mvT hZ (hw _ (List.mem_of_getElem? (i := 24) rfl)))) (mvT hZ (hw _ (List.mem_of_getElem? (i := 24) rfl))) (mvT hZ (hw _ (List.mem_of_getElem? (i := 23) rfl))) (by decide) (backOf (W := 0) (rm3 l Z aZ hw [] b1 (3 : Int32) r3 bp_11 gp_35 br_11 gr_35 bd_11 gd_35 bl_11 (5 : Int32) T35.heap n0 z36 c35_0 c35_1 c35_2 c35_3 c35_4 c35_5f c35_7 c35_8 c35_9 c11_15 c11_16 c11_17 c11_18 c11_19 c11_20 c11_21 c11_22 c11_23 c11_24 gn1 gn11_0 gn11_1 gn11_2 pq38 pq39 c35_6) hZ (hw _ (List.mem_of_getElem? (i := 25) rfl)) (hw _ (List.mem_of_getElem? (i := 3) rfl)) (by decide) (by decide)) q40a q40c (g := (mkF m 103 #[.val (.int qa), .val (.int qb), .val (.int qc), .val (.int qs), .val (.int qq), .val (.int r1), .val (.int r2), .val (.int r3), .val (.int rd), .val (.int ks), .val (.ref b1), .val (.int (1 : Int32)), .val (.int (2 : Int32)), .val (.int (3 : Int32)), .val (.int (4 : Int32)), .unset, .unset, .unset, .unset, .unset, .unset] [(.int r3), (.int (3 : Int32)), (.ref b1)])) rfl (by rw [hml]; rfl) (Steps.refl _) (argsL := [(.int (3 : Int32)), (.int r3)]) (rest := []) (lenOf pd_1 rfl) rfl (by show 2 * 0 + _ ≤ _; exact Nat.le_of_eq rfl) (hb hby at_103) (fun _ _ => ⟨rfl, rfl, (by decide : 5 + 0 ≤ _), (by decide : 56 + 0 ≤ _)⟩)
  dsimp only [Pt.U, Pt.locs, Pt.cells, Pt.slots] at X40 l40 y40 z40 st40 hQ40
  subst l40 y40 z40
  obtain ⟨gp_40, gr_40, gd_40, rfl, Nq40, K40, c40_0, c40_1, c40_2, c40_3, c40_4, c40_5, c40_6, c40_7, c40_8, c40_9, u40_0, u40_1, u40_2⟩ := hQ40
  have N40 := Fr.app N35 Nq40
  refine Go.tr st40 ?_
  have z41 : n0 ≤ T40.heap.size := Nat.le_trans z36 K40.1
  have sqz41 : h0.size ≤ T40.heap.size := Nat.le_trans sqz36 K40.1
  have c40_5f : Fld Z T40.heap b1 "com/example/both_ways/bothways/equivalence/SplitHistory" "nodeCount" "I" (.int (6 : Int32)) := c40_5
  show Go _ _ _ _ _ _ _ (T40.setTop (mkF m 106 #[.val (.int qa), .val (.int qb), .val (.int qc), .val (.int qs), .val (.int qq), .val (.int r1), .val (.int r2), .val (.int r3), .val (.int rd), .val (.int ks), .val (.ref b1), .val (.int (1 : Int32)), .val (.int (2 : Int32)), .val (.int (3 : Int32)), .val (.int (4 : Int32)), .unset, .unset, .unset, .unset, .unset, .unset] [(.int (5 : Int32))]))
  refine Go.step (fun _ k => XS.istore X40.here hx rfl (hb hby at_106) rfl (l' := #[.val (.int qa), .val (.int qb), .val (.int qc), .val (.int qs), .val (.int qq), .val (.int r1), .val (.int r2), .val (.int r3), .val (.int rd), .val (.int ks), .val (.ref b1), .val (.int (1 : Int32)), .val (.int (2 : Int32)), .val (.int (3 : Int32)), .val (.int (4 : Int32)), .val (.int (5 : Int32)), .unset, .unset, .unset, .unset, .unset]) rfl k) ?_
  show Go _ _ _ _ _ _ _ (T40.setTop (mkF m 108 #[.val (.int qa), .val (.int qb), .val (.int qc), .val (.int qs), .val (.int qq), .val (.int r1), .val (.int r2), .val (.int r3), .val (.int rd), .val (.int ks), .val (.ref b1), .val (.int (1 : Int32)), .val (.int (2 : Int32)), .val (.int (3 : Int32)), .val (.int (4 : Int32)), .val (.int (5 : Int32)), .unset, .unset, .unset, .unset, .unset] []))
  refine Go.step (fun _ k => XS.iload X40.here hx rfl (hb hby at_108) rfl  k) ?_
  show Go _ _ _ _ _ _ _ (T40.setTop (mkF m 110 #[.val (.int qa), .val (.int qb), .val (.int qc), .val (.int qs), .val (.int qq), .val (.int r1), .val (.int r2), .val (.int r3), .val (.int rd), .val (.int ks), .val (.ref b1), .val (.int (1 : Int32)), .val (.int (2 : Int32)), .val (.int (3 : Int32)), .val (.int (4 : Int32)), .val (.int (5 : Int32)), .unset, .unset, .unset, .unset, .unset] [(.int (1 : Int32))]))
  refine Go.step (fun _ k => XS.iconst X40.here hx rfl (hb hby at_110) k) ?_
  show Go _ _ _ _ _ _ _ (T40.setTop (mkF m 111 #[.val (.int qa), .val (.int qb), .val (.int qc), .val (.int qs), .val (.int qq), .val (.int r1), .val (.int r2), .val (.int r3), .val (.int rd), .val (.int ks), .val (.ref b1), .val (.int (1 : Int32)), .val (.int (2 : Int32)), .val (.int (3 : Int32)), .val (.int (4 : Int32)), .val (.int (5 : Int32)), .unset, .unset, .unset, .unset, .unset] [(.int (1 : Int32)), (.int (1 : Int32))]))
  have hc111 : (1 : Int32) = (1 : Int32) := by decide
  refine Go.step (fun _ k => XS.icmpNo X40.here hx rfl (hb hby at_111) rfl (teq hc111).2 k) ?_
  show Go _ _ _ _ _ _ _ (T40.setTop (mkF m 114 #[.val (.int qa), .val (.int qb), .val (.int qc), .val (.int qs), .val (.int qq), .val (.int r1), .val (.int r2), .val (.int r3), .val (.int rd), .val (.int ks), .val (.ref b1), .val (.int (1 : Int32)), .val (.int (2 : Int32)), .val (.int (3 : Int32)), .val (.int (4 : Int32)), .val (.int (5 : Int32)), .unset, .unset, .unset, .unset, .unset] []))
  refine Go.step (fun _ k => XS.iload X40.here hx rfl (hb hby at_114) rfl  k) ?_
  show Go _ _ _ _ _ _ _ (T40.setTop (mkF m 116 #[.val (.int qa), .val (.int qb), .val (.int qc), .val (.int qs), .val (.int qq), .val (.int r1), .val (.int r2), .val (.int r3), .val (.int rd), .val (.int ks), .val (.ref b1), .val (.int (1 : Int32)), .val (.int (2 : Int32)), .val (.int (3 : Int32)), .val (.int (4 : Int32)), .val (.int (5 : Int32)), .unset, .unset, .unset, .unset, .unset] [(.int (2 : Int32))]))
  refine Go.step (fun _ k => XS.iconst X40.here hx rfl (hb hby at_116) k) ?_
  show Go _ _ _ _ _ _ _ (T40.setTop (mkF m 117 #[.val (.int qa), .val (.int qb), .val (.int qc), .val (.int qs), .val (.int qq), .val (.int r1), .val (.int r2), .val (.int r3), .val (.int rd), .val (.int ks), .val (.ref b1), .val (.int (1 : Int32)), .val (.int (2 : Int32)), .val (.int (3 : Int32)), .val (.int (4 : Int32)), .val (.int (5 : Int32)), .unset, .unset, .unset, .unset, .unset] [(.int (2 : Int32)), (.int (2 : Int32))]))
  have hc117 : (2 : Int32) = (2 : Int32) := by decide
  refine Go.step (fun _ k => XS.icmpNo X40.here hx rfl (hb hby at_117) rfl (teq hc117).2 k) ?_
  show Go _ _ _ _ _ _ _ (T40.setTop (mkF m 120 #[.val (.int qa), .val (.int qb), .val (.int qc), .val (.int qs), .val (.int qq), .val (.int r1), .val (.int r2), .val (.int r3), .val (.int rd), .val (.int ks), .val (.ref b1), .val (.int (1 : Int32)), .val (.int (2 : Int32)), .val (.int (3 : Int32)), .val (.int (4 : Int32)), .val (.int (5 : Int32)), .unset, .unset, .unset, .unset, .unset] []))
  refine Go.step (fun _ k => XS.iload X40.here hx rfl (hb hby at_120) rfl  k) ?_
  show Go _ _ _ _ _ _ _ (T40.setTop (mkF m 122 #[.val (.int qa), .val (.int qb), .val (.int qc), .val (.int qs), .val (.int qq), .val (.int r1), .val (.int r2), .val (.int r3), .val (.int rd), .val (.int ks), .val (.ref b1), .val (.int (1 : Int32)), .val (.int (2 : Int32)), .val (.int (3 : Int32)), .val (.int (4 : Int32)), .val (.int (5 : Int32)), .unset, .unset, .unset, .unset, .unset] [(.int (3 : Int32))]))
  refine Go.step (fun _ k => XS.iconst X40.here hx rfl (hb hby at_122) k) ?_
  show Go _ _ _ _ _ _ _ (T40.setTop (mkF m 123 #[.val (.int qa), .val (.int qb), .val (.int qc), .val (.int qs), .val (.int qq), .val (.int r1), .val (.int r2), .val (.int r3), .val (.int rd), .val (.int ks), .val (.ref b1), .val (.int (1 : Int32)), .val (.int (2 : Int32)), .val (.int (3 : Int32)), .val (.int (4 : Int32)), .val (.int (5 : Int32)), .unset, .unset, .unset, .unset, .unset] [(.int (3 : Int32)), (.int (3 : Int32))]))
  have hc123 : (3 : Int32) = (3 : Int32) := by decide
  refine Go.step (fun _ k => XS.icmpNo X40.here hx rfl (hb hby at_123) rfl (teq hc123).2 k) ?_
  show Go _ _ _ _ _ _ _ (T40.setTop (mkF m 126 #[.val (.int qa), .val (.int qb), .val (.int qc), .val (.int qs), .val (.int qq), .val (.int r1), .val (.int r2), .val (.int r3), .val (.int rd), .val (.int ks), .val (.ref b1), .val (.int (1 : Int32)), .val (.int (2 : Int32)), .val (.int (3 : Int32)), .val (.int (4 : Int32)), .val (.int (5 : Int32)), .unset, .unset, .unset, .unset, .unset] []))
  refine Go.step (fun _ k => XS.iload X40.here hx rfl (hb hby at_126) rfl  k) ?_
  show Go _ _ _ _ _ _ _ (T40.setTop (mkF m 128 #[.val (.int qa), .val (.int qb), .val (.int qc), .val (.int qs), .val (.int qq), .val (.int r1), .val (.int r2), .val (.int r3), .val (.int rd), .val (.int ks), .val (.ref b1), .val (.int (1 : Int32)), .val (.int (2 : Int32)), .val (.int (3 : Int32)), .val (.int (4 : Int32)), .val (.int (5 : Int32)), .unset, .unset, .unset, .unset, .unset] [(.int (4 : Int32))]))
  refine Go.step (fun _ k => XS.iconst X40.here hx rfl (hb hby at_128) k) ?_
  show Go _ _ _ _ _ _ _ (T40.setTop (mkF m 129 #[.val (.int qa), .val (.int qb), .val (.int qc), .val (.int qs), .val (.int qq), .val (.int r1), .val (.int r2), .val (.int r3), .val (.int rd), .val (.int ks), .val (.ref b1), .val (.int (1 : Int32)), .val (.int (2 : Int32)), .val (.int (3 : Int32)), .val (.int (4 : Int32)), .val (.int (5 : Int32)), .unset, .unset, .unset, .unset, .unset] [(.int (4 : Int32)), (.int (4 : Int32))]))
  have hc129 : (4 : Int32) = (4 : Int32) := by decide
  refine Go.step (fun _ k => XS.icmpNo X40.here hx rfl (hb hby at_129) rfl (teq hc129).2 k) ?_
  show Go _ _ _ _ _ _ _ (T40.setTop (mkF m 132 #[.val (.int qa), .val (.int qb), .val (.int qc), .val (.int qs), .val (.int qq), .val (.int r1), .val (.int r2), .val (.int r3), .val (.int rd), .val (.int ks), .val (.ref b1), .val (.int (1 : Int32)), .val (.int (2 : Int32)), .val (.int (3 : Int32)), .val (.int (4 : Int32)), .val (.int (5 : Int32)), .unset, .unset, .unset, .unset, .unset] []))
  refine Go.step (fun _ k => XS.iload X40.here hx rfl (hb hby at_132) rfl  k) ?_
  show Go _ _ _ _ _ _ _ (T40.setTop (mkF m 134 #[.val (.int qa), .val (.int qb), .val (.int qc), .val (.int qs), .val (.int qq), .val (.int r1), .val (.int r2), .val (.int r3), .val (.int rd), .val (.int ks), .val (.ref b1), .val (.int (1 : Int32)), .val (.int (2 : Int32)), .val (.int (3 : Int32)), .val (.int (4 : Int32)), .val (.int (5 : Int32)), .unset, .unset, .unset, .unset, .unset] [(.int (5 : Int32))]))
  refine Go.step (fun _ k => XS.iconst X40.here hx rfl (hb hby at_134) k) ?_
  show Go _ _ _ _ _ _ _ (T40.setTop (mkF m 135 #[.val (.int qa), .val (.int qb), .val (.int qc), .val (.int qs), .val (.int qq), .val (.int r1), .val (.int r2), .val (.int r3), .val (.int rd), .val (.int ks), .val (.ref b1), .val (.int (1 : Int32)), .val (.int (2 : Int32)), .val (.int (3 : Int32)), .val (.int (4 : Int32)), .val (.int (5 : Int32)), .unset, .unset, .unset, .unset, .unset] [(.int (5 : Int32)), (.int (5 : Int32))]))
  have hc135 : (5 : Int32) = (5 : Int32) := by decide
  refine Go.step (fun _ k => XS.icmpYes X40.here hx rfl (pc0 := 135) (pc' := 140) rfl (hb hby at_135) rfl (teq hc135).1 (by decide) (by decide) k) ?_
  have vR0 : gr_40 (0 : Int32) = 0 := by simp +decide [u40_1, u35_1, u30_1, u25_1, u20_1]
  have vR1 : gr_40 (1 : Int32) = r1 := by simp +decide [u40_1, u35_1, u30_1, u25_1, u20_1]
  have vR2 : gr_40 (2 : Int32) = r1 := by simp +decide [u40_1, u35_1, u30_1, u25_1, u20_1]
  have vR3 : gr_40 (3 : Int32) = r2 := by simp +decide [u40_1, u35_1, u30_1, u25_1, u20_1]
  have vR4 : gr_40 (4 : Int32) = r2 := by simp +decide [u40_1, u35_1, u30_1, u25_1, u20_1]
  have vR5 : gr_40 (5 : Int32) = r3 := by simp +decide [u40_1, u35_1, u30_1, u25_1, u20_1]
  have vP1 : gp_40 (1 : Int32) = 0 := by simp +decide [u40_0, u35_0, u30_0, u25_0, u20_0]
  have vP2 : gp_40 (2 : Int32) = 0 := by simp +decide [u40_0, u35_0, u30_0, u25_0, u20_0]
  have vP3 : gp_40 (3 : Int32) = 1 := by simp +decide [u40_0, u35_0, u30_0, u25_0, u20_0]
  have vP4 : gp_40 (4 : Int32) = 1 := by simp +decide [u40_0, u35_0, u30_0, u25_0, u20_0]
  have vP5 : gp_40 (5 : Int32) = 3 := by simp +decide [u40_0, u35_0, u30_0, u25_0, u20_0]
  have vD0 : gd_40 (0 : Int32) = 0 := by simp +decide [u40_2, u35_2, u30_2, u25_2, u20_2]
  have vD1 : gd_40 (1 : Int32) = 1 := by simp +decide [u40_2, u35_2, u30_2, u25_2, u20_2]
  have vD2 : gd_40 (2 : Int32) = 1 := by simp +decide [u40_2, u35_2, u30_2, u25_2, u20_2]
  have vD3 : gd_40 (3 : Int32) = 2 := by simp +decide [u40_2, u35_2, u30_2, u25_2, u20_2]
  have vD4 : gd_40 (4 : Int32) = 2 := by simp +decide [u40_2, u35_2, u30_2, u25_2, u20_2]
  have vD5 : gd_40 (5 : Int32) = 3 := by simp +decide [u40_2, u35_2, u30_2, u25_2, u20_2]
  show Go _ _ _ _ _ _ _ (T40.setTop (mkF m 140 #[.val (.int qa), .val (.int qb), .val (.int qc), .val (.int qs), .val (.int qq), .val (.int r1), .val (.int r2), .val (.int r3), .val (.int rd), .val (.int ks), .val (.ref b1), .val (.int (1 : Int32)), .val (.int (2 : Int32)), .val (.int (3 : Int32)), .val (.int (4 : Int32)), .val (.int (5 : Int32)), .unset, .unset, .unset, .unset, .unset] []))
  refine Go.step (fun _ k => XS.iload X40.here hx rfl (hb hby at_140) rfl  k) ?_
  show Go _ _ _ _ _ _ _ (T40.setTop (mkF m 142 #[.val (.int qa), .val (.int qb), .val (.int qc), .val (.int qs), .val (.int qq), .val (.int r1), .val (.int r2), .val (.int r3), .val (.int rd), .val (.int ks), .val (.ref b1), .val (.int (1 : Int32)), .val (.int (2 : Int32)), .val (.int (3 : Int32)), .val (.int (4 : Int32)), .val (.int (5 : Int32)), .unset, .unset, .unset, .unset, .unset] [(.int ks)]))
  by_cases hc142 : ks = (0 : Int32)
  · skip
    refine Go.step (fun _ k => XS.ifNo X40.here hx rfl (hb hby at_142) rfl ((if0 _ _).trans (teq hc142).2) k) ?_
    show Go _ _ _ _ _ _ _ (T40.setTop (mkF m 145 #[.val (.int qa), .val (.int qb), .val (.int qc), .val (.int qs), .val (.int qq), .val (.int r1), .val (.int r2), .val (.int r3), .val (.int rd), .val (.int ks), .val (.ref b1), .val (.int (1 : Int32)), .val (.int (2 : Int32)), .val (.int (3 : Int32)), .val (.int (4 : Int32)), .val (.int (5 : Int32)), .unset, .unset, .unset, .unset, .unset] []))
    refine Go.step (fun _ k => XS.iconst X40.here hx rfl (hb hby at_145) k) ?_
    show Go _ _ _ _ _ _ _ (T40.setTop (mkF m 146 #[.val (.int qa), .val (.int qb), .val (.int qc), .val (.int qs), .val (.int qq), .val (.int r1), .val (.int r2), .val (.int r3), .val (.int rd), .val (.int ks), .val (.ref b1), .val (.int (1 : Int32)), .val (.int (2 : Int32)), .val (.int (3 : Int32)), .val (.int (4 : Int32)), .val (.int (5 : Int32)), .unset, .unset, .unset, .unset, .unset] [(.int (5 : Int32))]))
    refine Go.step (fun _ k => XS.istore X40.here hx rfl (hb hby at_146) rfl (l' := #[.val (.int qa), .val (.int qb), .val (.int qc), .val (.int qs), .val (.int qq), .val (.int r1), .val (.int r2), .val (.int r3), .val (.int rd), .val (.int ks), .val (.ref b1), .val (.int (1 : Int32)), .val (.int (2 : Int32)), .val (.int (3 : Int32)), .val (.int (4 : Int32)), .val (.int (5 : Int32)), .val (.int (5 : Int32)), .unset, .unset, .unset, .unset]) rfl k) ?_
    show Go _ _ _ _ _ _ _ (T40.setTop (mkF m 148 #[.val (.int qa), .val (.int qb), .val (.int qc), .val (.int qs), .val (.int qq), .val (.int r1), .val (.int r2), .val (.int r3), .val (.int rd), .val (.int ks), .val (.ref b1), .val (.int (1 : Int32)), .val (.int (2 : Int32)), .val (.int (3 : Int32)), .val (.int (4 : Int32)), .val (.int (5 : Int32)), .val (.int (5 : Int32)), .unset, .unset, .unset, .unset] []))
    refine Go.step (fun _ k => XS.iload X40.here hx rfl (hb hby at_148) rfl  k) ?_
    show Go _ _ _ _ _ _ _ (T40.setTop (mkF m 150 #[.val (.int qa), .val (.int qb), .val (.int qc), .val (.int qs), .val (.int qq), .val (.int r1), .val (.int r2), .val (.int r3), .val (.int rd), .val (.int ks), .val (.ref b1), .val (.int (1 : Int32)), .val (.int (2 : Int32)), .val (.int (3 : Int32)), .val (.int (4 : Int32)), .val (.int (5 : Int32)), .val (.int (5 : Int32)), .unset, .unset, .unset, .unset] [(.int rd)]))
    refine Go.step (fun _ k => XS.iload X40.here hx rfl (hb hby at_150) rfl  k) ?_
    show Go _ _ _ _ _ _ _ (T40.setTop (mkF m 152 #[.val (.int qa), .val (.int qb), .val (.int qc), .val (.int qs), .val (.int qq), .val (.int r1), .val (.int r2), .val (.int r3), .val (.int rd), .val (.int ks), .val (.ref b1), .val (.int (1 : Int32)), .val (.int (2 : Int32)), .val (.int (3 : Int32)), .val (.int (4 : Int32)), .val (.int (5 : Int32)), .val (.int (5 : Int32)), .unset, .unset, .unset, .unset] [(.int r3), (.int rd)]))
    by_cases hc152 : rd < r3
    · skip
      refine Go.step (fun _ k => XS.icmpYes X40.here hx rfl (pc0 := 152) (pc' := 161) rfl (hb hby at_152) rfl (tlt hc152).1 (by decide) (by decide) k) ?_
      show Go _ _ _ _ _ _ _ (T40.setTop (mkF m 161 #[.val (.int qa), .val (.int qb), .val (.int qc), .val (.int qs), .val (.int qq), .val (.int r1), .val (.int r2), .val (.int r3), .val (.int rd), .val (.int ks), .val (.ref b1), .val (.int (1 : Int32)), .val (.int (2 : Int32)), .val (.int (3 : Int32)), .val (.int (4 : Int32)), .val (.int (5 : Int32)), .val (.int (5 : Int32)), .unset, .unset, .unset, .unset] []))
      refine Go.step (fun _ k => XS.iload X40.here hx rfl (hb hby at_161) rfl  k) ?_
      show Go _ _ _ _ _ _ _ (T40.setTop (mkF m 163 #[.val (.int qa), .val (.int qb), .val (.int qc), .val (.int qs), .val (.int qq), .val (.int r1), .val (.int r2), .val (.int r3), .val (.int rd), .val (.int ks), .val (.ref b1), .val (.int (1 : Int32)), .val (.int (2 : Int32)), .val (.int (3 : Int32)), .val (.int (4 : Int32)), .val (.int (5 : Int32)), .val (.int (5 : Int32)), .unset, .unset, .unset, .unset] [(.int rd)]))
      refine Go.step (fun _ k => XS.iload X40.here hx rfl (hb hby at_163) rfl  k) ?_
      show Go _ _ _ _ _ _ _ (T40.setTop (mkF m 165 #[.val (.int qa), .val (.int qb), .val (.int qc), .val (.int qs), .val (.int qq), .val (.int r1), .val (.int r2), .val (.int r3), .val (.int rd), .val (.int ks), .val (.ref b1), .val (.int (1 : Int32)), .val (.int (2 : Int32)), .val (.int (3 : Int32)), .val (.int (4 : Int32)), .val (.int (5 : Int32)), .val (.int (5 : Int32)), .unset, .unset, .unset, .unset] [(.int r2), (.int rd)]))
      by_cases hc165 : rd < r2
      · skip
        refine Go.step (fun _ k => XS.icmpYes X40.here hx rfl (pc0 := 165) (pc' := 174) rfl (hb hby at_165) rfl (tlt hc165).1 (by decide) (by decide) k) ?_
        show Go _ _ _ _ _ _ _ (T40.setTop (mkF m 174 #[.val (.int qa), .val (.int qb), .val (.int qc), .val (.int qs), .val (.int qq), .val (.int r1), .val (.int r2), .val (.int r3), .val (.int rd), .val (.int ks), .val (.ref b1), .val (.int (1 : Int32)), .val (.int (2 : Int32)), .val (.int (3 : Int32)), .val (.int (4 : Int32)), .val (.int (5 : Int32)), .val (.int (5 : Int32)), .unset, .unset, .unset, .unset] []))
        refine Go.step (fun _ k => XS.iload X40.here hx rfl (hb hby at_174) rfl  k) ?_
        show Go _ _ _ _ _ _ _ (T40.setTop (mkF m 176 #[.val (.int qa), .val (.int qb), .val (.int qc), .val (.int qs), .val (.int qq), .val (.int r1), .val (.int r2), .val (.int r3), .val (.int rd), .val (.int ks), .val (.ref b1), .val (.int (1 : Int32)), .val (.int (2 : Int32)), .val (.int (3 : Int32)), .val (.int (4 : Int32)), .val (.int (5 : Int32)), .val (.int (5 : Int32)), .unset, .unset, .unset, .unset] [(.int rd)]))
        refine Go.step (fun _ k => XS.iload X40.here hx rfl (hb hby at_176) rfl  k) ?_
        show Go _ _ _ _ _ _ _ (T40.setTop (mkF m 178 #[.val (.int qa), .val (.int qb), .val (.int qc), .val (.int qs), .val (.int qq), .val (.int r1), .val (.int r2), .val (.int r3), .val (.int rd), .val (.int ks), .val (.ref b1), .val (.int (1 : Int32)), .val (.int (2 : Int32)), .val (.int (3 : Int32)), .val (.int (4 : Int32)), .val (.int (5 : Int32)), .val (.int (5 : Int32)), .unset, .unset, .unset, .unset] [(.int r1), (.int rd)]))
        by_cases hc178 : rd < r1
        · skip
          refine Go.step (fun _ k => XS.icmpYes X40.here hx rfl (pc0 := 178) (pc' := 187) rfl (hb hby at_178) rfl (tlt hc178).1 (by decide) (by decide) k) ?_
          show Go _ _ _ _ _ _ _ (T40.setTop (mkF m 187 #[.val (.int qa), .val (.int qb), .val (.int qc), .val (.int qs), .val (.int qq), .val (.int r1), .val (.int r2), .val (.int r3), .val (.int rd), .val (.int ks), .val (.ref b1), .val (.int (1 : Int32)), .val (.int (2 : Int32)), .val (.int (3 : Int32)), .val (.int (4 : Int32)), .val (.int (5 : Int32)), .val (.int (5 : Int32)), .unset, .unset, .unset, .unset] []))
          refine Go.step (fun _ k => XS.iconst X40.here hx rfl (hb hby at_187) k) ?_
          show Go _ _ _ _ _ _ _ (T40.setTop (mkF m 188 #[.val (.int qa), .val (.int qb), .val (.int qc), .val (.int qs), .val (.int qq), .val (.int r1), .val (.int r2), .val (.int r3), .val (.int rd), .val (.int ks), .val (.ref b1), .val (.int (1 : Int32)), .val (.int (2 : Int32)), .val (.int (3 : Int32)), .val (.int (4 : Int32)), .val (.int (5 : Int32)), .val (.int (5 : Int32)), .unset, .unset, .unset, .unset] [(.int (0 : Int32))]))
          refine Go.step (fun _ k => XS.istore X40.here hx rfl (hb hby at_188) rfl (l' := #[.val (.int qa), .val (.int qb), .val (.int qc), .val (.int qs), .val (.int qq), .val (.int r1), .val (.int r2), .val (.int r3), .val (.int rd), .val (.int ks), .val (.ref b1), .val (.int (1 : Int32)), .val (.int (2 : Int32)), .val (.int (3 : Int32)), .val (.int (4 : Int32)), .val (.int (5 : Int32)), .val (.int (5 : Int32)), .val (.int (0 : Int32)), .unset, .unset, .unset]) rfl k) ?_
          show Go _ _ _ _ _ _ _ (T40.setTop (mkF m 190 #[.val (.int qa), .val (.int qb), .val (.int qc), .val (.int qs), .val (.int qq), .val (.int r1), .val (.int r2), .val (.int r3), .val (.int rd), .val (.int ks), .val (.ref b1), .val (.int (1 : Int32)), .val (.int (2 : Int32)), .val (.int (3 : Int32)), .val (.int (4 : Int32)), .val (.int (5 : Int32)), .val (.int (5 : Int32)), .val (.int (0 : Int32)), .unset, .unset, .unset] []))
          refine Go.step (fun _ k => XS.goto X40.here hx rfl (pc0 := 190) (pc' := 253) rfl (hb hby at_190) (by decide) (by decide) k) ?_
          show Go _ _ _ _ _ _ _ (T40.setTop (mkF m 253 #[.val (.int qa), .val (.int qb), .val (.int qc), .val (.int qs), .val (.int qq), .val (.int r1), .val (.int r2), .val (.int r3), .val (.int rd), .val (.int ks), .val (.ref b1), .val (.int (1 : Int32)), .val (.int (2 : Int32)), .val (.int (3 : Int32)), .val (.int (4 : Int32)), .val (.int (5 : Int32)), .val (.int (5 : Int32)), .val (.int (0 : Int32)), .unset, .unset, .unset] []))
          refine Go.step (fun _ k => XS.aload X40.here hx rfl (hb hby at_253) rfl rfl  k) ?_
          show Go _ _ _ _ _ _ _ (T40.setTop (mkF m 255 #[.val (.int qa), .val (.int qb), .val (.int qc), .val (.int qs), .val (.int qq), .val (.int r1), .val (.int r2), .val (.int r3), .val (.int rd), .val (.int ks), .val (.ref b1), .val (.int (1 : Int32)), .val (.int (2 : Int32)), .val (.int (3 : Int32)), .val (.int (4 : Int32)), .val (.int (5 : Int32)), .val (.int (5 : Int32)), .val (.int (0 : Int32)), .unset, .unset, .unset] [(.ref b1)]))
          refine Go.step (fun _ k => XS.iconst X40.here hx rfl (hb hby at_255) k) ?_
          show Go _ _ _ _ _ _ _ (T40.setTop (mkF m 256 #[.val (.int qa), .val (.int qb), .val (.int qc), .val (.int qs), .val (.int qq), .val (.int r1), .val (.int r2), .val (.int r3), .val (.int rd), .val (.int ks), .val (.ref b1), .val (.int (1 : Int32)), .val (.int (2 : Int32)), .val (.int (3 : Int32)), .val (.int (4 : Int32)), .val (.int (5 : Int32)), .val (.int (5 : Int32)), .val (.int (0 : Int32)), .unset, .unset, .unset] [(.int (0 : Int32)), (.ref b1)]))
          refine Go.step (fun _ k => XS.iload X40.here hx rfl (hb hby at_256) rfl  k) ?_
          show Go _ _ _ _ _ _ _ (T40.setTop (mkF m 258 #[.val (.int qa), .val (.int qb), .val (.int qc), .val (.int qs), .val (.int qq), .val (.int r1), .val (.int r2), .val (.int r3), .val (.int rd), .val (.int ks), .val (.ref b1), .val (.int (1 : Int32)), .val (.int (2 : Int32)), .val (.int (3 : Int32)), .val (.int (4 : Int32)), .val (.int (5 : Int32)), .val (.int (5 : Int32)), .val (.int (0 : Int32)), .unset, .unset, .unset] [(.int (5 : Int32)), (.int (0 : Int32)), (.ref b1)]))
          have f43 : Ai Z T40.heap bl_11 .int (1 : Int32) (fun _ => 0) := (((((c11_14.keep K20 (ninS (Ne.symm c11_18) (ninS (Ne.symm c11_21) (ninS (Ne.symm c11_23) (ninS (Ne.symm c11_24) nin0))))).keep K25 (ninS (Ne.symm c11_18) (ninS (Ne.symm c11_21) (ninS (Ne.symm c11_23) (ninS (Ne.symm c11_24) nin0))))).keep K30 (ninS (Ne.symm c11_18) (ninS (Ne.symm c11_21) (ninS (Ne.symm c11_23) (ninS (Ne.symm c11_24) nin0))))).keep K35 (ninS (Ne.symm c11_18) (ninS (Ne.symm c11_21) (ninS (Ne.symm c11_23) (ninS (Ne.symm c11_24) nin0))))).keep K40 (ninS (Ne.symm c11_18) (ninS (Ne.symm c11_21) (ninS (Ne.symm c11_23) (ninS (Ne.symm c11_24) nin0)))))
          have pq44 : (0 : Int32) = (0 : Int32) := rfl
          obtain ⟨cq45, kq45, q45a, q45b, q45c⟩ := isOf hZ rfl c40_0
          obtain ⟨_, _, ⟨T45, L45, k45, n45⟩, -, X45, ⟨Lc45, hQ45, l45, y45, z45⟩, st45⟩ := X40.virtualBack hx (y := (⟨"com/example/both_ways/bothways/equivalence/SplitHistory", "place", "(II)V"⟩ : MethodName)) (z := (⟨"com/example/both_ways/bothways/equivalence/SplitHistory", "place", "(II)V"⟩ : MethodName)) hown (mvT hZ (hw _ (List.mem_of_getElem? (i := 26) rfl))) (mvT hZ (hw _ (List.mem_of_getElem? (i := 27) rfl))) (notFace_of_selects (args := #[]) (mvT hZ (hw _ (List.mem_of_getElem? (i := 29) rfl)))) (mvT hZ (hw _ (List.mem_of_getElem? (i := 29) rfl))) (mvT hZ (hw _ (List.mem_of_getElem? (i := 28) rfl))) (by decide) (backOf (W := 0) (rm4 l Z aZ hw [] b1 (0 : Int32) (5 : Int32) bl_11 (fun _ => 0) T40.heap n0 z41 c40_4 f43 gn11_3 pq44) hZ (hw _ (List.mem_of_getElem? (i := 30) rfl)) (hw _ (List.mem_of_getElem? (i := 3) rfl)) (by decide) (by decide)) q45a q45c (g := (mkF m 258 #[.val (.int qa), .val (.int qb), .val (.int qc), .val (.int qs), .val (.int qq), .val (.int r1), .val (.int r2), .val (.int r3), .val (.int rd), .val (.int ks), .val (.ref b1), .val (.int (1 : Int32)), .val (.int (2 : Int32)), .val (.int (3 : Int32)), .val (.int (4 : Int32)), .val (.int (5 : Int32)), .val (.int (5 : Int32)), .val (.int (0 : Int32)), .unset, .unset, .unset] [(.int (5 : Int32)), (.int (0 : Int32)), (.ref b1)])) rfl (by rw [hml]; rfl) (Steps.refl _) (argsL := [(.int (0 : Int32)), (.int (5 : Int32))]) (rest := []) (lenOf pd_2 rfl) rfl (by show 2 * 0 + _ ≤ _; exact Nat.le_of_eq rfl) (hb hby at_258) (fun _ _ => ⟨rfl, rfl, (by decide : 5 + 0 ≤ _), (by decide : 56 + 0 ≤ _)⟩)
          dsimp only [Pt.U, Pt.locs, Pt.cells, Pt.slots] at X45 l45 y45 z45 st45 hQ45
          subst l45 y45 z45
          obtain ⟨gl_45, rfl, Nq45, K45, c45_0, u45_0⟩ := hQ45
          have N45 := Fr.app N40 Nq45
          refine Go.tr st45 ?_
          have z46 : n0 ≤ T45.heap.size := Nat.le_trans z41 K45.1
          have sqz46 : h0.size ≤ T45.heap.size := Nat.le_trans sqz41 K45.1
          show Go _ _ _ _ _ _ _ (T45.setTop (mkF m 261 #[.val (.int qa), .val (.int qb), .val (.int qc), .val (.int qs), .val (.int qq), .val (.int r1), .val (.int r2), .val (.int r3), .val (.int rd), .val (.int ks), .val (.ref b1), .val (.int (1 : Int32)), .val (.int (2 : Int32)), .val (.int (3 : Int32)), .val (.int (4 : Int32)), .val (.int (5 : Int32)), .val (.int (5 : Int32)), .val (.int (0 : Int32)), .unset, .unset, .unset] []))
          refine Go.step (fun _ k => XS.aload X45.here hx rfl (hb hby at_261) rfl rfl  k) ?_
          show Go _ _ _ _ _ _ _ (T45.setTop (mkF m 263 #[.val (.int qa), .val (.int qb), .val (.int qc), .val (.int qs), .val (.int qq), .val (.int r1), .val (.int r2), .val (.int r3), .val (.int rd), .val (.int ks), .val (.ref b1), .val (.int (1 : Int32)), .val (.int (2 : Int32)), .val (.int (3 : Int32)), .val (.int (4 : Int32)), .val (.int (5 : Int32)), .val (.int (5 : Int32)), .val (.int (0 : Int32)), .unset, .unset, .unset] [(.ref b1)]))
          refine Go.step (fun _ k => XS.iconst X45.here hx rfl (hb hby at_263) k) ?_
          show Go _ _ _ _ _ _ _ (T45.setTop (mkF m 264 #[.val (.int qa), .val (.int qb), .val (.int qc), .val (.int qs), .val (.int qq), .val (.int r1), .val (.int r2), .val (.int r3), .val (.int rd), .val (.int ks), .val (.ref b1), .val (.int (1 : Int32)), .val (.int (2 : Int32)), .val (.int (3 : Int32)), .val (.int (4 : Int32)), .val (.int (5 : Int32)), .val (.int (5 : Int32)), .val (.int (0 : Int32)), .unset, .unset, .unset] [(.int (0 : Int32)), (.ref b1)]))
          refine Go.step (fun _ k => XS.iload X45.here hx rfl (hb hby at_264) rfl  k) ?_
          show Go _ _ _ _ _ _ _ (T45.setTop (mkF m 266 #[.val (.int qa), .val (.int qb), .val (.int qc), .val (.int qs), .val (.int qq), .val (.int r1), .val (.int r2), .val (.int r3), .val (.int rd), .val (.int ks), .val (.ref b1), .val (.int (1 : Int32)), .val (.int (2 : Int32)), .val (.int (3 : Int32)), .val (.int (4 : Int32)), .val (.int (5 : Int32)), .val (.int (5 : Int32)), .val (.int (0 : Int32)), .unset, .unset, .unset] [(.int rd), (.int (0 : Int32)), (.ref b1)]))
          have f48 : Exa Z T45.heap b1 "com/example/both_ways/bothways/equivalence/SplitHistory" := (c40_0.keep K45)
          have f49 : Fld Z T45.heap b1 "com/example/both_ways/bothways/equivalence/SplitHistory" "parents" "[I" (.ref bp_11) := (c40_1.keep K45 (ninS c11_18 nin0))
          have f50 : Fld Z T45.heap b1 "com/example/both_ways/bothways/equivalence/SplitHistory" "rounds" "[I" (.ref br_11) := (c40_2.keep K45 (ninS c11_18 nin0))
          have f51 : Fld Z T45.heap b1 "com/example/both_ways/bothways/equivalence/SplitHistory" "depths" "[I" (.ref bd_11) := (c40_3.keep K45 (ninS c11_18 nin0))
          have f52 : Fld Z T45.heap b1 "com/example/both_ways/bothways/equivalence/SplitHistory" "leaves" "[I" (.ref bl_11) := (c40_4.keep K45 (ninS c11_18 nin0))
          have f53 : Fld Z T45.heap b1 "com/example/both_ways/bothways/equivalence/SplitHistory" "visits" "J" (.long (0 : Int64)) := (c40_6.keep K45 (ninS c11_18 nin0))
          have f54 : Ai Z T45.heap bp_11 .int (16 : Int32) gp_40 := (c40_7.keep K45 (ninS c11_21 nin0))
          have f55 : Ai Z T45.heap br_11 .int (16 : Int32) gr_40 := (c40_8.keep K45 (ninS c11_23 nin0))
          have f56 : Ai Z T45.heap bd_11 .int (16 : Int32) gd_40 := (c40_9.keep K45 (ninS c11_24 nin0))
          have pq57 : (0 : Int32) = (0 : Int32) := rfl
          have pq58 : own_ok gr_40 gp_40 rd 3 (gl_45 (0 : Int32)) := (by rw [u45_0]; exact (own_c5 vR5 vP5 vR3 vP3 vR1 vP1 vR0 hrd).1)
          obtain ⟨cq59, kq59, q59a, q59b, q59c⟩ := isOf hZ rfl f48
          obtain ⟨_, _, ⟨T59, L59, k59, n59⟩, -, X59, ⟨Lc59, hQ59, l59, y59, z59⟩, st59⟩ := X45.virtualBack hx (y := (⟨"com/example/both_ways/bothways/equivalence/SplitHistory", "blockAfter", "(II)I"⟩ : MethodName)) (z := (⟨"com/example/both_ways/bothways/equivalence/SplitHistory", "blockAfter", "(II)I"⟩ : MethodName)) hown (mvT hZ (hw _ (List.mem_of_getElem? (i := 31) rfl))) (mvT hZ (hw _ (List.mem_of_getElem? (i := 32) rfl))) (notFace_of_selects (args := #[]) (mvT hZ (hw _ (List.mem_of_getElem? (i := 34) rfl)))) (mvT hZ (hw _ (List.mem_of_getElem? (i := 34) rfl))) (mvT hZ (hw _ (List.mem_of_getElem? (i := 33) rfl))) (by decide) (backOf (W := 0) (rm5 l Z aZ hw [] b1 (0 : Int32) rd bp_11 gp_40 br_11 gr_40 bd_11 gd_40 bl_11 gl_45 T45.heap n0 z46 f48 f49 f50 f51 f52 f53 f54 f55 f56 c45_0 gn1 pq57 pq58 c11_15 c11_16 c11_17 c11_18 c11_19 c11_20 c11_21 c11_22 c11_23 c11_24) hZ (hw _ (List.mem_of_getElem? (i := 35) rfl)) (hw _ (List.mem_of_getElem? (i := 3) rfl)) (by decide) (by decide)) q59a q59c (g := (mkF m 266 #[.val (.int qa), .val (.int qb), .val (.int qc), .val (.int qs), .val (.int qq), .val (.int r1), .val (.int r2), .val (.int r3), .val (.int rd), .val (.int ks), .val (.ref b1), .val (.int (1 : Int32)), .val (.int (2 : Int32)), .val (.int (3 : Int32)), .val (.int (4 : Int32)), .val (.int (5 : Int32)), .val (.int (5 : Int32)), .val (.int (0 : Int32)), .unset, .unset, .unset] [(.int rd), (.int (0 : Int32)), (.ref b1)])) rfl (by rw [hml]; rfl) (Steps.refl _) (argsL := [(.int (0 : Int32)), (.int rd)]) (rest := []) (lenOf pd_1 rfl) rfl (by show 2 * 0 + _ ≤ _; exact Nat.le_of_eq rfl) (hb hby at_266) (fun _ _ => ⟨rfl, rfl, (by decide : 5 + 0 ≤ _), (by decide : 56 + 0 ≤ _)⟩)
          dsimp only [Pt.U, Pt.locs, Pt.cells, Pt.slots] at X59 l59 y59 z59 st59 hQ59
          subst l59 y59 z59
          obtain ⟨rfl, Nq59, K59, c59_0, c59_1⟩ := hQ59
          have N59 := Fr.app N45 Nq59
          refine Go.tr st59 ?_
          have z60 : n0 ≤ T59.heap.size := Nat.le_trans z46 K59.1
          have sqz60 : h0.size ≤ T59.heap.size := Nat.le_trans sqz46 K59.1
          show Go _ _ _ _ _ _ _ (T59.setTop (mkF m 269 #[.val (.int qa), .val (.int qb), .val (.int qc), .val (.int qs), .val (.int qq), .val (.int r1), .val (.int r2), .val (.int r3), .val (.int rd), .val (.int ks), .val (.ref b1), .val (.int (1 : Int32)), .val (.int (2 : Int32)), .val (.int (3 : Int32)), .val (.int (4 : Int32)), .val (.int (5 : Int32)), .val (.int (5 : Int32)), .val (.int (0 : Int32)), .unset, .unset, .unset] [(.int (own_climb gr_40 gp_40 rd 3 (gl_45 (0 : Int32))))]))
          refine Go.step (fun _ k => XS.istore X59.here hx rfl (hb hby at_269) rfl (l' := #[.val (.int qa), .val (.int qb), .val (.int qc), .val (.int qs), .val (.int qq), .val (.int r1), .val (.int r2), .val (.int r3), .val (.int rd), .val (.int ks), .val (.ref b1), .val (.int (1 : Int32)), .val (.int (2 : Int32)), .val (.int (3 : Int32)), .val (.int (4 : Int32)), .val (.int (5 : Int32)), .val (.int (5 : Int32)), .val (.int (0 : Int32)), .val (.int (own_climb gr_40 gp_40 rd 3 (gl_45 (0 : Int32)))), .unset, .unset]) rfl k) ?_
          show Go _ _ _ _ _ _ _ (T59.setTop (mkF m 271 #[.val (.int qa), .val (.int qb), .val (.int qc), .val (.int qs), .val (.int qq), .val (.int r1), .val (.int r2), .val (.int r3), .val (.int rd), .val (.int ks), .val (.ref b1), .val (.int (1 : Int32)), .val (.int (2 : Int32)), .val (.int (3 : Int32)), .val (.int (4 : Int32)), .val (.int (5 : Int32)), .val (.int (5 : Int32)), .val (.int (0 : Int32)), .val (.int (own_climb gr_40 gp_40 rd 3 (gl_45 (0 : Int32)))), .unset, .unset] []))
          refine Go.step (fun _ k => XS.iload X59.here hx rfl (hb hby at_271) rfl  k) ?_
          show Go _ _ _ _ _ _ _ (T59.setTop (mkF m 273 #[.val (.int qa), .val (.int qb), .val (.int qc), .val (.int qs), .val (.int qq), .val (.int r1), .val (.int r2), .val (.int r3), .val (.int rd), .val (.int ks), .val (.ref b1), .val (.int (1 : Int32)), .val (.int (2 : Int32)), .val (.int (3 : Int32)), .val (.int (4 : Int32)), .val (.int (5 : Int32)), .val (.int (5 : Int32)), .val (.int (0 : Int32)), .val (.int (own_climb gr_40 gp_40 rd 3 (gl_45 (0 : Int32)))), .unset, .unset] [(.int (5 : Int32))]))
          obtain ⟨_, _, ⟨T62, L62, k62, n62⟩, -, X62, ⟨Lc62, hQ62, l62, y62, z62⟩, st62⟩ := Jvm.LawKit.callS X59 hx (y := (⟨"com/example/both_ways/bothways/equivalence/SplitHistoryBlockAfterPinLaw", "depthOf", "(I)I"⟩ : MethodName)) hown (mvT hZ (hw _ (List.mem_of_getElem? (i := 38) rfl))) (mvT hZ (hw _ (List.mem_of_getElem? (i := 39) rfl))) (mvT hZ (hw _ (List.mem_of_getElem? (i := 40) rfl))) (mvT hZ (hw _ (List.mem_of_getElem? (i := 41) rfl))) (by decide) (backOf (W := 0) (rm6 l Z aZ hw [] (5 : Int32) T59.heap n0 z60 ) hZ (hw _ (List.mem_of_getElem? (i := 41) rfl)) (hw _ (List.mem_of_getElem? (i := 40) rfl)) (by decide) (by decide)) (g := (mkF m 273 #[.val (.int qa), .val (.int qb), .val (.int qc), .val (.int qs), .val (.int qq), .val (.int r1), .val (.int r2), .val (.int r3), .val (.int rd), .val (.int ks), .val (.ref b1), .val (.int (1 : Int32)), .val (.int (2 : Int32)), .val (.int (3 : Int32)), .val (.int (4 : Int32)), .val (.int (5 : Int32)), .val (.int (5 : Int32)), .val (.int (0 : Int32)), .val (.int (own_climb gr_40 gp_40 rd 3 (gl_45 (0 : Int32)))), .unset, .unset] [(.int (5 : Int32))])) rfl (by rw [hml]; rfl) (argsL := [(.int (5 : Int32))]) (rest := []) (lenOf pd_3 rfl) rfl (by show 2 * 0 + _ ≤ _; exact Nat.le_of_eq rfl) (hb hby at_273) (fun _ _ => ⟨rfl, rfl, (by decide : 5 + 0 ≤ _), (by decide : 56 + 0 ≤ _)⟩)
          dsimp only [Pt.U, Pt.locs, Pt.cells, Pt.slots] at X62 l62 y62 z62 st62 hQ62
          subst l62 y62 z62
          obtain ⟨rfl, Nq62, e62⟩ := hQ62
          have N62 := Fr.app N59 Nq62
          refine Go.step st62 ?_
          show Go _ _ _ _ _ _ _ (T62.setTop (mkF m 276 #[.val (.int qa), .val (.int qb), .val (.int qc), .val (.int qs), .val (.int qq), .val (.int r1), .val (.int r2), .val (.int r3), .val (.int rd), .val (.int ks), .val (.ref b1), .val (.int (1 : Int32)), .val (.int (2 : Int32)), .val (.int (3 : Int32)), .val (.int (4 : Int32)), .val (.int (5 : Int32)), .val (.int (5 : Int32)), .val (.int (0 : Int32)), .val (.int (own_climb gr_40 gp_40 rd 3 (gl_45 (0 : Int32)))), .unset, .unset] [(.int (own_dep (5 : Int32)))]))
          refine Go.step (fun _ k => XS.iload X62.here hx rfl (hb hby at_276) rfl  k) ?_
          show Go _ _ _ _ _ _ _ (T62.setTop (mkF m 278 #[.val (.int qa), .val (.int qb), .val (.int qc), .val (.int qs), .val (.int qq), .val (.int r1), .val (.int r2), .val (.int r3), .val (.int rd), .val (.int ks), .val (.ref b1), .val (.int (1 : Int32)), .val (.int (2 : Int32)), .val (.int (3 : Int32)), .val (.int (4 : Int32)), .val (.int (5 : Int32)), .val (.int (5 : Int32)), .val (.int (0 : Int32)), .val (.int (own_climb gr_40 gp_40 rd 3 (gl_45 (0 : Int32)))), .unset, .unset] [(.int (0 : Int32)), (.int (own_dep (5 : Int32)))]))
          obtain ⟨_, _, ⟨T63, L63, k63, n63⟩, -, X63, ⟨Lc63, hQ63, l63, y63, z63⟩, st63⟩ := Jvm.LawKit.callS X62 hx (y := (⟨"com/example/both_ways/bothways/equivalence/SplitHistoryBlockAfterPinLaw", "depthOf", "(I)I"⟩ : MethodName)) hown (mvT hZ (hw _ (List.mem_of_getElem? (i := 38) rfl))) (mvT hZ (hw _ (List.mem_of_getElem? (i := 39) rfl))) (mvT hZ (hw _ (List.mem_of_getElem? (i := 40) rfl))) (mvT hZ (hw _ (List.mem_of_getElem? (i := 41) rfl))) (by decide) (backOf (W := 1) (rm6 l Z aZ hw [] (0 : Int32) T59.heap n0 z60 ) hZ (hw _ (List.mem_of_getElem? (i := 41) rfl)) (hw _ (List.mem_of_getElem? (i := 40) rfl)) (by decide) (by decide)) (g := (mkF m 278 #[.val (.int qa), .val (.int qb), .val (.int qc), .val (.int qs), .val (.int qq), .val (.int r1), .val (.int r2), .val (.int r3), .val (.int rd), .val (.int ks), .val (.ref b1), .val (.int (1 : Int32)), .val (.int (2 : Int32)), .val (.int (3 : Int32)), .val (.int (4 : Int32)), .val (.int (5 : Int32)), .val (.int (5 : Int32)), .val (.int (0 : Int32)), .val (.int (own_climb gr_40 gp_40 rd 3 (gl_45 (0 : Int32)))), .unset, .unset] [(.int (0 : Int32)), (.int (own_dep (5 : Int32)))])) rfl (by rw [hml]; rfl) (argsL := [(.int (0 : Int32))]) (rest := [(.int (own_dep (5 : Int32)))]) (lenOf pd_3 rfl) rfl (by show 2 * 0 + _ ≤ _; exact Nat.le_of_eq rfl) (hb hby at_278) (fun _ _ => ⟨rfl, e62, (by decide : 5 + 0 ≤ _), (by decide : 56 + 0 ≤ _)⟩)
          dsimp only [Pt.U, Pt.locs, Pt.cells, Pt.slots] at X63 l63 y63 z63 st63 hQ63
          subst l63 y63 z63
          obtain ⟨rfl, Nq63, e63⟩ := hQ63
          have N63 := Fr.app N62 Nq63
          refine Go.step st63 ?_
          show Go _ _ _ _ _ _ _ (T63.setTop (mkF m 281 #[.val (.int qa), .val (.int qb), .val (.int qc), .val (.int qs), .val (.int qq), .val (.int r1), .val (.int r2), .val (.int r3), .val (.int rd), .val (.int ks), .val (.ref b1), .val (.int (1 : Int32)), .val (.int (2 : Int32)), .val (.int (3 : Int32)), .val (.int (4 : Int32)), .val (.int (5 : Int32)), .val (.int (5 : Int32)), .val (.int (0 : Int32)), .val (.int (own_climb gr_40 gp_40 rd 3 (gl_45 (0 : Int32)))), .unset, .unset] [(.int (own_dep (0 : Int32))), (.int (own_dep (5 : Int32)))]))
          refine Go.step (fun _ k => XS.isub X63.here hx rfl (hb hby at_281) rfl k) ?_
          show Go _ _ _ _ _ _ _ (T63.setTop (mkF m 282 #[.val (.int qa), .val (.int qb), .val (.int qc), .val (.int qs), .val (.int qq), .val (.int r1), .val (.int r2), .val (.int r3), .val (.int rd), .val (.int ks), .val (.ref b1), .val (.int (1 : Int32)), .val (.int (2 : Int32)), .val (.int (3 : Int32)), .val (.int (4 : Int32)), .val (.int (5 : Int32)), .val (.int (5 : Int32)), .val (.int (0 : Int32)), .val (.int (own_climb gr_40 gp_40 rd 3 (gl_45 (0 : Int32)))), .unset, .unset] [(.int ((own_dep (5 : Int32)) - (own_dep (0 : Int32))))]))
          refine Go.step (fun _ k => XS.iconst X63.here hx rfl (hb hby at_282) k) ?_
          show Go _ _ _ _ _ _ _ (T63.setTop (mkF m 283 #[.val (.int qa), .val (.int qb), .val (.int qc), .val (.int qs), .val (.int qq), .val (.int r1), .val (.int r2), .val (.int r3), .val (.int rd), .val (.int ks), .val (.ref b1), .val (.int (1 : Int32)), .val (.int (2 : Int32)), .val (.int (3 : Int32)), .val (.int (4 : Int32)), .val (.int (5 : Int32)), .val (.int (5 : Int32)), .val (.int (0 : Int32)), .val (.int (own_climb gr_40 gp_40 rd 3 (gl_45 (0 : Int32)))), .unset, .unset] [(.int (1 : Int32)), (.int ((own_dep (5 : Int32)) - (own_dep (0 : Int32))))]))
          refine Go.step (fun _ k => XS.iadd X63.here hx rfl (hb hby at_283) rfl k) ?_
          show Go _ _ _ _ _ _ _ (T63.setTop (mkF m 284 #[.val (.int qa), .val (.int qb), .val (.int qc), .val (.int qs), .val (.int qq), .val (.int r1), .val (.int r2), .val (.int r3), .val (.int rd), .val (.int ks), .val (.ref b1), .val (.int (1 : Int32)), .val (.int (2 : Int32)), .val (.int (3 : Int32)), .val (.int (4 : Int32)), .val (.int (5 : Int32)), .val (.int (5 : Int32)), .val (.int (0 : Int32)), .val (.int (own_climb gr_40 gp_40 rd 3 (gl_45 (0 : Int32)))), .unset, .unset] [(.int (((own_dep (5 : Int32)) - (own_dep (0 : Int32))) + (1 : Int32)))]))
          refine Go.step (fun _ k => XS.i2l X63.here hx rfl (hb hby at_284) rfl k) ?_
          show Go _ _ _ _ _ _ _ (T63.setTop (mkF m 285 #[.val (.int qa), .val (.int qb), .val (.int qc), .val (.int qs), .val (.int qq), .val (.int r1), .val (.int r2), .val (.int r3), .val (.int rd), .val (.int ks), .val (.ref b1), .val (.int (1 : Int32)), .val (.int (2 : Int32)), .val (.int (3 : Int32)), .val (.int (4 : Int32)), .val (.int (5 : Int32)), .val (.int (5 : Int32)), .val (.int (0 : Int32)), .val (.int (own_climb gr_40 gp_40 rd 3 (gl_45 (0 : Int32)))), .unset, .unset] [(.long (Int32.toInt64 (((own_dep (5 : Int32)) - (own_dep (0 : Int32))) + (1 : Int32))))]))
          refine Go.step (fun _ k => XS.lstore X63.here hx rfl (hb hby at_285) rfl (l' := #[.val (.int qa), .val (.int qb), .val (.int qc), .val (.int qs), .val (.int qq), .val (.int r1), .val (.int r2), .val (.int r3), .val (.int rd), .val (.int ks), .val (.ref b1), .val (.int (1 : Int32)), .val (.int (2 : Int32)), .val (.int (3 : Int32)), .val (.int (4 : Int32)), .val (.int (5 : Int32)), .val (.int (5 : Int32)), .val (.int (0 : Int32)), .val (.int (own_climb gr_40 gp_40 rd 3 (gl_45 (0 : Int32)))), .val (.long (Int32.toInt64 (((own_dep (5 : Int32)) - (own_dep (0 : Int32))) + (1 : Int32)))), .second]) rfl k) ?_
          show Go _ _ _ _ _ _ _ (T63.setTop (mkF m 287 #[.val (.int qa), .val (.int qb), .val (.int qc), .val (.int qs), .val (.int qq), .val (.int r1), .val (.int r2), .val (.int r3), .val (.int rd), .val (.int ks), .val (.ref b1), .val (.int (1 : Int32)), .val (.int (2 : Int32)), .val (.int (3 : Int32)), .val (.int (4 : Int32)), .val (.int (5 : Int32)), .val (.int (5 : Int32)), .val (.int (0 : Int32)), .val (.int (own_climb gr_40 gp_40 rd 3 (gl_45 (0 : Int32)))), .val (.long (Int32.toInt64 (((own_dep (5 : Int32)) - (own_dep (0 : Int32))) + (1 : Int32)))), .second] []))
          refine Go.step (fun _ k => XS.iload X63.here hx rfl (hb hby at_287) rfl  k) ?_
          show Go _ _ _ _ _ _ _ (T63.setTop (mkF m 289 #[.val (.int qa), .val (.int qb), .val (.int qc), .val (.int qs), .val (.int qq), .val (.int r1), .val (.int r2), .val (.int r3), .val (.int rd), .val (.int ks), .val (.ref b1), .val (.int (1 : Int32)), .val (.int (2 : Int32)), .val (.int (3 : Int32)), .val (.int (4 : Int32)), .val (.int (5 : Int32)), .val (.int (5 : Int32)), .val (.int (0 : Int32)), .val (.int (own_climb gr_40 gp_40 rd 3 (gl_45 (0 : Int32)))), .val (.long (Int32.toInt64 (((own_dep (5 : Int32)) - (own_dep (0 : Int32))) + (1 : Int32)))), .second] [(.int (own_climb gr_40 gp_40 rd 3 (gl_45 (0 : Int32))))]))
          refine Go.step (fun _ k => XS.iload X63.here hx rfl (hb hby at_289) rfl  k) ?_
          show Go _ _ _ _ _ _ _ (T63.setTop (mkF m 291 #[.val (.int qa), .val (.int qb), .val (.int qc), .val (.int qs), .val (.int qq), .val (.int r1), .val (.int r2), .val (.int r3), .val (.int rd), .val (.int ks), .val (.ref b1), .val (.int (1 : Int32)), .val (.int (2 : Int32)), .val (.int (3 : Int32)), .val (.int (4 : Int32)), .val (.int (5 : Int32)), .val (.int (5 : Int32)), .val (.int (0 : Int32)), .val (.int (own_climb gr_40 gp_40 rd 3 (gl_45 (0 : Int32)))), .val (.long (Int32.toInt64 (((own_dep (5 : Int32)) - (own_dep (0 : Int32))) + (1 : Int32)))), .second] [(.int (0 : Int32)), (.int (own_climb gr_40 gp_40 rd 3 (gl_45 (0 : Int32))))]))
          have hc291 : (own_climb gr_40 gp_40 rd 3 (gl_45 (0 : Int32))) = (0 : Int32) := by rw [u45_0, (own_c5 vR5 vP5 vR3 vP3 vR1 vP1 vR0 hrd).2, if_pos hc152, if_pos hc165, if_pos hc178]
          refine Go.step (fun _ k => XS.icmpNo X63.here hx rfl (hb hby at_291) rfl (teq hc291).2 k) ?_
          show Go _ _ _ _ _ _ _ (T63.setTop (mkF m 294 #[.val (.int qa), .val (.int qb), .val (.int qc), .val (.int qs), .val (.int qq), .val (.int r1), .val (.int r2), .val (.int r3), .val (.int rd), .val (.int ks), .val (.ref b1), .val (.int (1 : Int32)), .val (.int (2 : Int32)), .val (.int (3 : Int32)), .val (.int (4 : Int32)), .val (.int (5 : Int32)), .val (.int (5 : Int32)), .val (.int (0 : Int32)), .val (.int (own_climb gr_40 gp_40 rd 3 (gl_45 (0 : Int32)))), .val (.long (Int32.toInt64 (((own_dep (5 : Int32)) - (own_dep (0 : Int32))) + (1 : Int32)))), .second] []))
          refine Go.step (fun _ k => XS.aload X63.here hx rfl (hb hby at_294) rfl rfl  k) ?_
          show Go _ _ _ _ _ _ _ (T63.setTop (mkF m 296 #[.val (.int qa), .val (.int qb), .val (.int qc), .val (.int qs), .val (.int qq), .val (.int r1), .val (.int r2), .val (.int r3), .val (.int rd), .val (.int ks), .val (.ref b1), .val (.int (1 : Int32)), .val (.int (2 : Int32)), .val (.int (3 : Int32)), .val (.int (4 : Int32)), .val (.int (5 : Int32)), .val (.int (5 : Int32)), .val (.int (0 : Int32)), .val (.int (own_climb gr_40 gp_40 rd 3 (gl_45 (0 : Int32)))), .val (.long (Int32.toInt64 (((own_dep (5 : Int32)) - (own_dep (0 : Int32))) + (1 : Int32)))), .second] [(.ref b1)]))
          obtain ⟨cq64, kq64, q64a, q64b, q64c⟩ := isOf hZ e63 c59_0
          obtain ⟨_, _, ⟨T64, L64, k64, n64⟩, -, X64, ⟨Lc64, hQ64, l64, y64, z64⟩, st64⟩ := X63.virtualBack hx (y := (⟨"com/example/both_ways/bothways/equivalence/SplitHistory", "getVisitCount", "()J"⟩ : MethodName)) (z := (⟨"com/example/both_ways/bothways/equivalence/SplitHistory", "getVisitCount", "()J"⟩ : MethodName)) hown (mvT hZ (hw _ (List.mem_of_getElem? (i := 42) rfl))) (mvT hZ (hw _ (List.mem_of_getElem? (i := 43) rfl))) (notFace_of_selects (args := #[]) (mvT hZ (hw _ (List.mem_of_getElem? (i := 45) rfl)))) (mvT hZ (hw _ (List.mem_of_getElem? (i := 45) rfl))) (mvT hZ (hw _ (List.mem_of_getElem? (i := 44) rfl))) (by decide) (backOf (W := 0) (rm7 l Z aZ hw [] b1 ((0 : Int64) + Int32.toInt64 (((gd_40 (gl_45 (0 : Int32))) - (gd_40 (own_climb gr_40 gp_40 rd 3 (gl_45 (0 : Int32))))) + (1 : Int32))) T59.heap n0 z60 c59_1) hZ (hw _ (List.mem_of_getElem? (i := 46) rfl)) (hw _ (List.mem_of_getElem? (i := 3) rfl)) (by decide) (by decide)) q64a q64c (g := (mkF m 296 #[.val (.int qa), .val (.int qb), .val (.int qc), .val (.int qs), .val (.int qq), .val (.int r1), .val (.int r2), .val (.int r3), .val (.int rd), .val (.int ks), .val (.ref b1), .val (.int (1 : Int32)), .val (.int (2 : Int32)), .val (.int (3 : Int32)), .val (.int (4 : Int32)), .val (.int (5 : Int32)), .val (.int (5 : Int32)), .val (.int (0 : Int32)), .val (.int (own_climb gr_40 gp_40 rd 3 (gl_45 (0 : Int32)))), .val (.long (Int32.toInt64 (((own_dep (5 : Int32)) - (own_dep (0 : Int32))) + (1 : Int32)))), .second] [(.ref b1)])) rfl (by rw [hml]; rfl) (Steps.refl _) (argsL := []) (rest := []) (lenOf pd_4 rfl) rfl (by show 2 * 0 + _ ≤ _; exact Nat.le_of_eq rfl) (hb hby at_296) (fun _ _ => ⟨rfl, e63, (by decide : 5 + 0 ≤ _), (by decide : 56 + 0 ≤ _)⟩)
          dsimp only [Pt.U, Pt.locs, Pt.cells, Pt.slots] at X64 l64 y64 z64 st64 hQ64
          subst l64 y64 z64
          obtain ⟨rfl, Nq64, e64⟩ := hQ64
          have N64 := Fr.app N63 Nq64
          refine Go.tr st64 ?_
          show Go _ _ _ _ _ _ _ (T64.setTop (mkF m 299 #[.val (.int qa), .val (.int qb), .val (.int qc), .val (.int qs), .val (.int qq), .val (.int r1), .val (.int r2), .val (.int r3), .val (.int rd), .val (.int ks), .val (.ref b1), .val (.int (1 : Int32)), .val (.int (2 : Int32)), .val (.int (3 : Int32)), .val (.int (4 : Int32)), .val (.int (5 : Int32)), .val (.int (5 : Int32)), .val (.int (0 : Int32)), .val (.int (own_climb gr_40 gp_40 rd 3 (gl_45 (0 : Int32)))), .val (.long (Int32.toInt64 (((own_dep (5 : Int32)) - (own_dep (0 : Int32))) + (1 : Int32)))), .second] [(.long ((0 : Int64) + Int32.toInt64 (((gd_40 (gl_45 (0 : Int32))) - (gd_40 (own_climb gr_40 gp_40 rd 3 (gl_45 (0 : Int32))))) + (1 : Int32))))]))
          refine Go.step (fun _ k => XS.lload X64.here hx rfl (hb hby at_299) rfl  k) ?_
          show Go _ _ _ _ _ _ _ (T64.setTop (mkF m 301 #[.val (.int qa), .val (.int qb), .val (.int qc), .val (.int qs), .val (.int qq), .val (.int r1), .val (.int r2), .val (.int r3), .val (.int rd), .val (.int ks), .val (.ref b1), .val (.int (1 : Int32)), .val (.int (2 : Int32)), .val (.int (3 : Int32)), .val (.int (4 : Int32)), .val (.int (5 : Int32)), .val (.int (5 : Int32)), .val (.int (0 : Int32)), .val (.int (own_climb gr_40 gp_40 rd 3 (gl_45 (0 : Int32)))), .val (.long (Int32.toInt64 (((own_dep (5 : Int32)) - (own_dep (0 : Int32))) + (1 : Int32)))), .second] [(.long (Int32.toInt64 (((own_dep (5 : Int32)) - (own_dep (0 : Int32))) + (1 : Int32)))), (.long ((0 : Int64) + Int32.toInt64 (((gd_40 (gl_45 (0 : Int32))) - (gd_40 (own_climb gr_40 gp_40 rd 3 (gl_45 (0 : Int32))))) + (1 : Int32))))]))
          refine Go.step (fun _ k => XS.lcmp X64.here hx rfl (hb hby at_301) rfl k) ?_
          show Go _ _ _ _ _ _ _ (T64.setTop (mkF m 302 #[.val (.int qa), .val (.int qb), .val (.int qc), .val (.int qs), .val (.int qq), .val (.int r1), .val (.int r2), .val (.int r3), .val (.int rd), .val (.int ks), .val (.ref b1), .val (.int (1 : Int32)), .val (.int (2 : Int32)), .val (.int (3 : Int32)), .val (.int (4 : Int32)), .val (.int (5 : Int32)), .val (.int (5 : Int32)), .val (.int (0 : Int32)), .val (.int (own_climb gr_40 gp_40 rd 3 (gl_45 (0 : Int32)))), .val (.long (Int32.toInt64 (((own_dep (5 : Int32)) - (own_dep (0 : Int32))) + (1 : Int32)))), .second] [(.int (lcmpW ((0 : Int64) + Int32.toInt64 (((gd_40 (gl_45 (0 : Int32))) - (gd_40 (own_climb gr_40 gp_40 rd 3 (gl_45 (0 : Int32))))) + (1 : Int32))) (Int32.toInt64 (((own_dep (5 : Int32)) - (own_dep (0 : Int32))) + (1 : Int32)))))]))
          have hc302 : (lcmpW ((0 : Int64) + Int32.toInt64 (((gd_40 (gl_45 (0 : Int32))) - (gd_40 (own_climb gr_40 gp_40 rd 3 (gl_45 (0 : Int32))))) + (1 : Int32))) (Int32.toInt64 (((own_dep (5 : Int32)) - (own_dep (0 : Int32))) + (1 : Int32)))) = (0 : Int32) := by
            rw [hc291, u45_0, vD5, vD0]
            decide
          refine Go.step (fun _ k => XS.ifNo X64.here hx rfl (hb hby at_302) rfl ((if0 _ _).trans (teq hc302).2) k) ?_
          show Go _ _ _ _ _ _ _ (T64.setTop (mkF m 305 #[.val (.int qa), .val (.int qb), .val (.int qc), .val (.int qs), .val (.int qq), .val (.int r1), .val (.int r2), .val (.int r3), .val (.int rd), .val (.int ks), .val (.ref b1), .val (.int (1 : Int32)), .val (.int (2 : Int32)), .val (.int (3 : Int32)), .val (.int (4 : Int32)), .val (.int (5 : Int32)), .val (.int (5 : Int32)), .val (.int (0 : Int32)), .val (.int (own_climb gr_40 gp_40 rd 3 (gl_45 (0 : Int32)))), .val (.long (Int32.toInt64 (((own_dep (5 : Int32)) - (own_dep (0 : Int32))) + (1 : Int32)))), .second] []))
          refine Go.step (fun _ k => XS.iconst X64.here hx rfl (hb hby at_305) k) ?_
          show Go _ _ _ _ _ _ _ (T64.setTop (mkF m 306 #[.val (.int qa), .val (.int qb), .val (.int qc), .val (.int qs), .val (.int qq), .val (.int r1), .val (.int r2), .val (.int r3), .val (.int rd), .val (.int ks), .val (.ref b1), .val (.int (1 : Int32)), .val (.int (2 : Int32)), .val (.int (3 : Int32)), .val (.int (4 : Int32)), .val (.int (5 : Int32)), .val (.int (5 : Int32)), .val (.int (0 : Int32)), .val (.int (own_climb gr_40 gp_40 rd 3 (gl_45 (0 : Int32)))), .val (.long (Int32.toInt64 (((own_dep (5 : Int32)) - (own_dep (0 : Int32))) + (1 : Int32)))), .second] [(.int (1 : Int32))]))
          refine Go.step (fun _ k => XS.goto X64.here hx rfl (pc0 := 306) (pc' := 310) rfl (hb hby at_306) (by decide) (by decide) k) ?_
          show Go _ _ _ _ _ _ _ (T64.setTop (mkF m 310 #[.val (.int qa), .val (.int qb), .val (.int qc), .val (.int qs), .val (.int qq), .val (.int r1), .val (.int r2), .val (.int r3), .val (.int rd), .val (.int ks), .val (.ref b1), .val (.int (1 : Int32)), .val (.int (2 : Int32)), .val (.int (3 : Int32)), .val (.int (4 : Int32)), .val (.int (5 : Int32)), .val (.int (5 : Int32)), .val (.int (0 : Int32)), .val (.int (own_climb gr_40 gp_40 rd 3 (gl_45 (0 : Int32)))), .val (.long (Int32.toInt64 (((own_dep (5 : Int32)) - (own_dep (0 : Int32))) + (1 : Int32)))), .second] [(.int (1 : Int32))]))
          refine Go.retN X64 hx (t := .boolean) Bd.returns (by simp) hlk (hb hby at_310) ?_ (by decide) (by decide)
          rw [e64]
          exact ⟨(by first | rfl | (simp_all [own_nb1, own_nb0]; done)), N64⟩
        · skip
          refine Go.step (fun _ k => XS.icmpNo X40.here hx rfl (hb hby at_178) rfl (flt hc178).1 k) ?_
          show Go _ _ _ _ _ _ _ (T40.setTop (mkF m 181 #[.val (.int qa), .val (.int qb), .val (.int qc), .val (.int qs), .val (.int qq), .val (.int r1), .val (.int r2), .val (.int r3), .val (.int rd), .val (.int ks), .val (.ref b1), .val (.int (1 : Int32)), .val (.int (2 : Int32)), .val (.int (3 : Int32)), .val (.int (4 : Int32)), .val (.int (5 : Int32)), .val (.int (5 : Int32)), .unset, .unset, .unset, .unset] []))
          refine Go.step (fun _ k => XS.iconst X40.here hx rfl (hb hby at_181) k) ?_
          show Go _ _ _ _ _ _ _ (T40.setTop (mkF m 182 #[.val (.int qa), .val (.int qb), .val (.int qc), .val (.int qs), .val (.int qq), .val (.int r1), .val (.int r2), .val (.int r3), .val (.int rd), .val (.int ks), .val (.ref b1), .val (.int (1 : Int32)), .val (.int (2 : Int32)), .val (.int (3 : Int32)), .val (.int (4 : Int32)), .val (.int (5 : Int32)), .val (.int (5 : Int32)), .unset, .unset, .unset, .unset] [(.int (1 : Int32))]))
          refine Go.step (fun _ k => XS.istore X40.here hx rfl (hb hby at_182) rfl (l' := #[.val (.int qa), .val (.int qb), .val (.int qc), .val (.int qs), .val (.int qq), .val (.int r1), .val (.int r2), .val (.int r3), .val (.int rd), .val (.int ks), .val (.ref b1), .val (.int (1 : Int32)), .val (.int (2 : Int32)), .val (.int (3 : Int32)), .val (.int (4 : Int32)), .val (.int (5 : Int32)), .val (.int (5 : Int32)), .val (.int (1 : Int32)), .unset, .unset, .unset]) rfl k) ?_
          show Go _ _ _ _ _ _ _ (T40.setTop (mkF m 184 #[.val (.int qa), .val (.int qb), .val (.int qc), .val (.int qs), .val (.int qq), .val (.int r1), .val (.int r2), .val (.int r3), .val (.int rd), .val (.int ks), .val (.ref b1), .val (.int (1 : Int32)), .val (.int (2 : Int32)), .val (.int (3 : Int32)), .val (.int (4 : Int32)), .val (.int (5 : Int32)), .val (.int (5 : Int32)), .val (.int (1 : Int32)), .unset, .unset, .unset] []))
          refine Go.step (fun _ k => XS.goto X40.here hx rfl (pc0 := 184) (pc' := 253) rfl (hb hby at_184) (by decide) (by decide) k) ?_
          show Go _ _ _ _ _ _ _ (T40.setTop (mkF m 253 #[.val (.int qa), .val (.int qb), .val (.int qc), .val (.int qs), .val (.int qq), .val (.int r1), .val (.int r2), .val (.int r3), .val (.int rd), .val (.int ks), .val (.ref b1), .val (.int (1 : Int32)), .val (.int (2 : Int32)), .val (.int (3 : Int32)), .val (.int (4 : Int32)), .val (.int (5 : Int32)), .val (.int (5 : Int32)), .val (.int (1 : Int32)), .unset, .unset, .unset] []))
          refine Go.step (fun _ k => XS.aload X40.here hx rfl (hb hby at_253) rfl rfl  k) ?_
          show Go _ _ _ _ _ _ _ (T40.setTop (mkF m 255 #[.val (.int qa), .val (.int qb), .val (.int qc), .val (.int qs), .val (.int qq), .val (.int r1), .val (.int r2), .val (.int r3), .val (.int rd), .val (.int ks), .val (.ref b1), .val (.int (1 : Int32)), .val (.int (2 : Int32)), .val (.int (3 : Int32)), .val (.int (4 : Int32)), .val (.int (5 : Int32)), .val (.int (5 : Int32)), .val (.int (1 : Int32)), .unset, .unset, .unset] [(.ref b1)]))
          refine Go.step (fun _ k => XS.iconst X40.here hx rfl (hb hby at_255) k) ?_
          show Go _ _ _ _ _ _ _ (T40.setTop (mkF m 256 #[.val (.int qa), .val (.int qb), .val (.int qc), .val (.int qs), .val (.int qq), .val (.int r1), .val (.int r2), .val (.int r3), .val (.int rd), .val (.int ks), .val (.ref b1), .val (.int (1 : Int32)), .val (.int (2 : Int32)), .val (.int (3 : Int32)), .val (.int (4 : Int32)), .val (.int (5 : Int32)), .val (.int (5 : Int32)), .val (.int (1 : Int32)), .unset, .unset, .unset] [(.int (0 : Int32)), (.ref b1)]))
          refine Go.step (fun _ k => XS.iload X40.here hx rfl (hb hby at_256) rfl  k) ?_
          show Go _ _ _ _ _ _ _ (T40.setTop (mkF m 258 #[.val (.int qa), .val (.int qb), .val (.int qc), .val (.int qs), .val (.int qq), .val (.int r1), .val (.int r2), .val (.int r3), .val (.int rd), .val (.int ks), .val (.ref b1), .val (.int (1 : Int32)), .val (.int (2 : Int32)), .val (.int (3 : Int32)), .val (.int (4 : Int32)), .val (.int (5 : Int32)), .val (.int (5 : Int32)), .val (.int (1 : Int32)), .unset, .unset, .unset] [(.int (5 : Int32)), (.int (0 : Int32)), (.ref b1)]))
          have f65 : Ai Z T40.heap bl_11 .int (1 : Int32) (fun _ => 0) := (((((c11_14.keep K20 (ninS (Ne.symm c11_18) (ninS (Ne.symm c11_21) (ninS (Ne.symm c11_23) (ninS (Ne.symm c11_24) nin0))))).keep K25 (ninS (Ne.symm c11_18) (ninS (Ne.symm c11_21) (ninS (Ne.symm c11_23) (ninS (Ne.symm c11_24) nin0))))).keep K30 (ninS (Ne.symm c11_18) (ninS (Ne.symm c11_21) (ninS (Ne.symm c11_23) (ninS (Ne.symm c11_24) nin0))))).keep K35 (ninS (Ne.symm c11_18) (ninS (Ne.symm c11_21) (ninS (Ne.symm c11_23) (ninS (Ne.symm c11_24) nin0))))).keep K40 (ninS (Ne.symm c11_18) (ninS (Ne.symm c11_21) (ninS (Ne.symm c11_23) (ninS (Ne.symm c11_24) nin0)))))
          have pq66 : (0 : Int32) = (0 : Int32) := rfl
          obtain ⟨cq67, kq67, q67a, q67b, q67c⟩ := isOf hZ rfl c40_0
          obtain ⟨_, _, ⟨T67, L67, k67, n67⟩, -, X67, ⟨Lc67, hQ67, l67, y67, z67⟩, st67⟩ := X40.virtualBack hx (y := (⟨"com/example/both_ways/bothways/equivalence/SplitHistory", "place", "(II)V"⟩ : MethodName)) (z := (⟨"com/example/both_ways/bothways/equivalence/SplitHistory", "place", "(II)V"⟩ : MethodName)) hown (mvT hZ (hw _ (List.mem_of_getElem? (i := 26) rfl))) (mvT hZ (hw _ (List.mem_of_getElem? (i := 27) rfl))) (notFace_of_selects (args := #[]) (mvT hZ (hw _ (List.mem_of_getElem? (i := 29) rfl)))) (mvT hZ (hw _ (List.mem_of_getElem? (i := 29) rfl))) (mvT hZ (hw _ (List.mem_of_getElem? (i := 28) rfl))) (by decide) (backOf (W := 0) (rm4 l Z aZ hw [] b1 (0 : Int32) (5 : Int32) bl_11 (fun _ => 0) T40.heap n0 z41 c40_4 f65 gn11_3 pq66) hZ (hw _ (List.mem_of_getElem? (i := 30) rfl)) (hw _ (List.mem_of_getElem? (i := 3) rfl)) (by decide) (by decide)) q67a q67c (g := (mkF m 258 #[.val (.int qa), .val (.int qb), .val (.int qc), .val (.int qs), .val (.int qq), .val (.int r1), .val (.int r2), .val (.int r3), .val (.int rd), .val (.int ks), .val (.ref b1), .val (.int (1 : Int32)), .val (.int (2 : Int32)), .val (.int (3 : Int32)), .val (.int (4 : Int32)), .val (.int (5 : Int32)), .val (.int (5 : Int32)), .val (.int (1 : Int32)), .unset, .unset, .unset] [(.int (5 : Int32)), (.int (0 : Int32)), (.ref b1)])) rfl (by rw [hml]; rfl) (Steps.refl _) (argsL := [(.int (0 : Int32)), (.int (5 : Int32))]) (rest := []) (lenOf pd_2 rfl) rfl (by show 2 * 0 + _ ≤ _; exact Nat.le_of_eq rfl) (hb hby at_258) (fun _ _ => ⟨rfl, rfl, (by decide : 5 + 0 ≤ _), (by decide : 56 + 0 ≤ _)⟩)
          dsimp only [Pt.U, Pt.locs, Pt.cells, Pt.slots] at X67 l67 y67 z67 st67 hQ67
          subst l67 y67 z67
          obtain ⟨gl_67, rfl, Nq67, K67, c67_0, u67_0⟩ := hQ67
          have N67 := Fr.app N40 Nq67
          refine Go.tr st67 ?_
          have z68 : n0 ≤ T67.heap.size := Nat.le_trans z41 K67.1
          have sqz68 : h0.size ≤ T67.heap.size := Nat.le_trans sqz41 K67.1
          show Go _ _ _ _ _ _ _ (T67.setTop (mkF m 261 #[.val (.int qa), .val (.int qb), .val (.int qc), .val (.int qs), .val (.int qq), .val (.int r1), .val (.int r2), .val (.int r3), .val (.int rd), .val (.int ks), .val (.ref b1), .val (.int (1 : Int32)), .val (.int (2 : Int32)), .val (.int (3 : Int32)), .val (.int (4 : Int32)), .val (.int (5 : Int32)), .val (.int (5 : Int32)), .val (.int (1 : Int32)), .unset, .unset, .unset] []))
          refine Go.step (fun _ k => XS.aload X67.here hx rfl (hb hby at_261) rfl rfl  k) ?_
          show Go _ _ _ _ _ _ _ (T67.setTop (mkF m 263 #[.val (.int qa), .val (.int qb), .val (.int qc), .val (.int qs), .val (.int qq), .val (.int r1), .val (.int r2), .val (.int r3), .val (.int rd), .val (.int ks), .val (.ref b1), .val (.int (1 : Int32)), .val (.int (2 : Int32)), .val (.int (3 : Int32)), .val (.int (4 : Int32)), .val (.int (5 : Int32)), .val (.int (5 : Int32)), .val (.int (1 : Int32)), .unset, .unset, .unset] [(.ref b1)]))
          refine Go.step (fun _ k => XS.iconst X67.here hx rfl (hb hby at_263) k) ?_
          show Go _ _ _ _ _ _ _ (T67.setTop (mkF m 264 #[.val (.int qa), .val (.int qb), .val (.int qc), .val (.int qs), .val (.int qq), .val (.int r1), .val (.int r2), .val (.int r3), .val (.int rd), .val (.int ks), .val (.ref b1), .val (.int (1 : Int32)), .val (.int (2 : Int32)), .val (.int (3 : Int32)), .val (.int (4 : Int32)), .val (.int (5 : Int32)), .val (.int (5 : Int32)), .val (.int (1 : Int32)), .unset, .unset, .unset] [(.int (0 : Int32)), (.ref b1)]))
          refine Go.step (fun _ k => XS.iload X67.here hx rfl (hb hby at_264) rfl  k) ?_
          show Go _ _ _ _ _ _ _ (T67.setTop (mkF m 266 #[.val (.int qa), .val (.int qb), .val (.int qc), .val (.int qs), .val (.int qq), .val (.int r1), .val (.int r2), .val (.int r3), .val (.int rd), .val (.int ks), .val (.ref b1), .val (.int (1 : Int32)), .val (.int (2 : Int32)), .val (.int (3 : Int32)), .val (.int (4 : Int32)), .val (.int (5 : Int32)), .val (.int (5 : Int32)), .val (.int (1 : Int32)), .unset, .unset, .unset] [(.int rd), (.int (0 : Int32)), (.ref b1)]))
          have f70 : Exa Z T67.heap b1 "com/example/both_ways/bothways/equivalence/SplitHistory" := (c40_0.keep K67)
          have f71 : Fld Z T67.heap b1 "com/example/both_ways/bothways/equivalence/SplitHistory" "parents" "[I" (.ref bp_11) := (c40_1.keep K67 (ninS c11_18 nin0))
          have f72 : Fld Z T67.heap b1 "com/example/both_ways/bothways/equivalence/SplitHistory" "rounds" "[I" (.ref br_11) := (c40_2.keep K67 (ninS c11_18 nin0))
          have f73 : Fld Z T67.heap b1 "com/example/both_ways/bothways/equivalence/SplitHistory" "depths" "[I" (.ref bd_11) := (c40_3.keep K67 (ninS c11_18 nin0))
          have f74 : Fld Z T67.heap b1 "com/example/both_ways/bothways/equivalence/SplitHistory" "leaves" "[I" (.ref bl_11) := (c40_4.keep K67 (ninS c11_18 nin0))
          have f75 : Fld Z T67.heap b1 "com/example/both_ways/bothways/equivalence/SplitHistory" "visits" "J" (.long (0 : Int64)) := (c40_6.keep K67 (ninS c11_18 nin0))
          have f76 : Ai Z T67.heap bp_11 .int (16 : Int32) gp_40 := (c40_7.keep K67 (ninS c11_21 nin0))
          have f77 : Ai Z T67.heap br_11 .int (16 : Int32) gr_40 := (c40_8.keep K67 (ninS c11_23 nin0))
          have f78 : Ai Z T67.heap bd_11 .int (16 : Int32) gd_40 := (c40_9.keep K67 (ninS c11_24 nin0))
          have pq79 : (0 : Int32) = (0 : Int32) := rfl
          have pq80 : own_ok gr_40 gp_40 rd 3 (gl_67 (0 : Int32)) := (by rw [u67_0]; exact (own_c5 vR5 vP5 vR3 vP3 vR1 vP1 vR0 hrd).1)
          obtain ⟨cq81, kq81, q81a, q81b, q81c⟩ := isOf hZ rfl f70
          obtain ⟨_, _, ⟨T81, L81, k81, n81⟩, -, X81, ⟨Lc81, hQ81, l81, y81, z81⟩, st81⟩ := X67.virtualBack hx (y := (⟨"com/example/both_ways/bothways/equivalence/SplitHistory", "blockAfter", "(II)I"⟩ : MethodName)) (z := (⟨"com/example/both_ways/bothways/equivalence/SplitHistory", "blockAfter", "(II)I"⟩ : MethodName)) hown (mvT hZ (hw _ (List.mem_of_getElem? (i := 31) rfl))) (mvT hZ (hw _ (List.mem_of_getElem? (i := 32) rfl))) (notFace_of_selects (args := #[]) (mvT hZ (hw _ (List.mem_of_getElem? (i := 34) rfl)))) (mvT hZ (hw _ (List.mem_of_getElem? (i := 34) rfl))) (mvT hZ (hw _ (List.mem_of_getElem? (i := 33) rfl))) (by decide) (backOf (W := 0) (rm5 l Z aZ hw [] b1 (0 : Int32) rd bp_11 gp_40 br_11 gr_40 bd_11 gd_40 bl_11 gl_67 T67.heap n0 z68 f70 f71 f72 f73 f74 f75 f76 f77 f78 c67_0 gn1 pq79 pq80 c11_15 c11_16 c11_17 c11_18 c11_19 c11_20 c11_21 c11_22 c11_23 c11_24) hZ (hw _ (List.mem_of_getElem? (i := 35) rfl)) (hw _ (List.mem_of_getElem? (i := 3) rfl)) (by decide) (by decide)) q81a q81c (g := (mkF m 266 #[.val (.int qa), .val (.int qb), .val (.int qc), .val (.int qs), .val (.int qq), .val (.int r1), .val (.int r2), .val (.int r3), .val (.int rd), .val (.int ks), .val (.ref b1), .val (.int (1 : Int32)), .val (.int (2 : Int32)), .val (.int (3 : Int32)), .val (.int (4 : Int32)), .val (.int (5 : Int32)), .val (.int (5 : Int32)), .val (.int (1 : Int32)), .unset, .unset, .unset] [(.int rd), (.int (0 : Int32)), (.ref b1)])) rfl (by rw [hml]; rfl) (Steps.refl _) (argsL := [(.int (0 : Int32)), (.int rd)]) (rest := []) (lenOf pd_1 rfl) rfl (by show 2 * 0 + _ ≤ _; exact Nat.le_of_eq rfl) (hb hby at_266) (fun _ _ => ⟨rfl, rfl, (by decide : 5 + 0 ≤ _), (by decide : 56 + 0 ≤ _)⟩)
          dsimp only [Pt.U, Pt.locs, Pt.cells, Pt.slots] at X81 l81 y81 z81 st81 hQ81
          subst l81 y81 z81
          obtain ⟨rfl, Nq81, K81, c81_0, c81_1⟩ := hQ81
          have N81 := Fr.app N67 Nq81
          refine Go.tr st81 ?_
          have z82 : n0 ≤ T81.heap.size := Nat.le_trans z68 K81.1
          have sqz82 : h0.size ≤ T81.heap.size := Nat.le_trans sqz68 K81.1
          show Go _ _ _ _ _ _ _ (T81.setTop (mkF m 269 #[.val (.int qa), .val (.int qb), .val (.int qc), .val (.int qs), .val (.int qq), .val (.int r1), .val (.int r2), .val (.int r3), .val (.int rd), .val (.int ks), .val (.ref b1), .val (.int (1 : Int32)), .val (.int (2 : Int32)), .val (.int (3 : Int32)), .val (.int (4 : Int32)), .val (.int (5 : Int32)), .val (.int (5 : Int32)), .val (.int (1 : Int32)), .unset, .unset, .unset] [(.int (own_climb gr_40 gp_40 rd 3 (gl_67 (0 : Int32))))]))
          refine Go.step (fun _ k => XS.istore X81.here hx rfl (hb hby at_269) rfl (l' := #[.val (.int qa), .val (.int qb), .val (.int qc), .val (.int qs), .val (.int qq), .val (.int r1), .val (.int r2), .val (.int r3), .val (.int rd), .val (.int ks), .val (.ref b1), .val (.int (1 : Int32)), .val (.int (2 : Int32)), .val (.int (3 : Int32)), .val (.int (4 : Int32)), .val (.int (5 : Int32)), .val (.int (5 : Int32)), .val (.int (1 : Int32)), .val (.int (own_climb gr_40 gp_40 rd 3 (gl_67 (0 : Int32)))), .unset, .unset]) rfl k) ?_
          show Go _ _ _ _ _ _ _ (T81.setTop (mkF m 271 #[.val (.int qa), .val (.int qb), .val (.int qc), .val (.int qs), .val (.int qq), .val (.int r1), .val (.int r2), .val (.int r3), .val (.int rd), .val (.int ks), .val (.ref b1), .val (.int (1 : Int32)), .val (.int (2 : Int32)), .val (.int (3 : Int32)), .val (.int (4 : Int32)), .val (.int (5 : Int32)), .val (.int (5 : Int32)), .val (.int (1 : Int32)), .val (.int (own_climb gr_40 gp_40 rd 3 (gl_67 (0 : Int32)))), .unset, .unset] []))
          refine Go.step (fun _ k => XS.iload X81.here hx rfl (hb hby at_271) rfl  k) ?_
          show Go _ _ _ _ _ _ _ (T81.setTop (mkF m 273 #[.val (.int qa), .val (.int qb), .val (.int qc), .val (.int qs), .val (.int qq), .val (.int r1), .val (.int r2), .val (.int r3), .val (.int rd), .val (.int ks), .val (.ref b1), .val (.int (1 : Int32)), .val (.int (2 : Int32)), .val (.int (3 : Int32)), .val (.int (4 : Int32)), .val (.int (5 : Int32)), .val (.int (5 : Int32)), .val (.int (1 : Int32)), .val (.int (own_climb gr_40 gp_40 rd 3 (gl_67 (0 : Int32)))), .unset, .unset] [(.int (5 : Int32))]))
          obtain ⟨_, _, ⟨T84, L84, k84, n84⟩, -, X84, ⟨Lc84, hQ84, l84, y84, z84⟩, st84⟩ := Jvm.LawKit.callS X81 hx (y := (⟨"com/example/both_ways/bothways/equivalence/SplitHistoryBlockAfterPinLaw", "depthOf", "(I)I"⟩ : MethodName)) hown (mvT hZ (hw _ (List.mem_of_getElem? (i := 38) rfl))) (mvT hZ (hw _ (List.mem_of_getElem? (i := 39) rfl))) (mvT hZ (hw _ (List.mem_of_getElem? (i := 40) rfl))) (mvT hZ (hw _ (List.mem_of_getElem? (i := 41) rfl))) (by decide) (backOf (W := 0) (rm6 l Z aZ hw [] (5 : Int32) T81.heap n0 z82 ) hZ (hw _ (List.mem_of_getElem? (i := 41) rfl)) (hw _ (List.mem_of_getElem? (i := 40) rfl)) (by decide) (by decide)) (g := (mkF m 273 #[.val (.int qa), .val (.int qb), .val (.int qc), .val (.int qs), .val (.int qq), .val (.int r1), .val (.int r2), .val (.int r3), .val (.int rd), .val (.int ks), .val (.ref b1), .val (.int (1 : Int32)), .val (.int (2 : Int32)), .val (.int (3 : Int32)), .val (.int (4 : Int32)), .val (.int (5 : Int32)), .val (.int (5 : Int32)), .val (.int (1 : Int32)), .val (.int (own_climb gr_40 gp_40 rd 3 (gl_67 (0 : Int32)))), .unset, .unset] [(.int (5 : Int32))])) rfl (by rw [hml]; rfl) (argsL := [(.int (5 : Int32))]) (rest := []) (lenOf pd_3 rfl) rfl (by show 2 * 0 + _ ≤ _; exact Nat.le_of_eq rfl) (hb hby at_273) (fun _ _ => ⟨rfl, rfl, (by decide : 5 + 0 ≤ _), (by decide : 56 + 0 ≤ _)⟩)
          dsimp only [Pt.U, Pt.locs, Pt.cells, Pt.slots] at X84 l84 y84 z84 st84 hQ84
          subst l84 y84 z84
          obtain ⟨rfl, Nq84, e84⟩ := hQ84
          have N84 := Fr.app N81 Nq84
          refine Go.step st84 ?_
          show Go _ _ _ _ _ _ _ (T84.setTop (mkF m 276 #[.val (.int qa), .val (.int qb), .val (.int qc), .val (.int qs), .val (.int qq), .val (.int r1), .val (.int r2), .val (.int r3), .val (.int rd), .val (.int ks), .val (.ref b1), .val (.int (1 : Int32)), .val (.int (2 : Int32)), .val (.int (3 : Int32)), .val (.int (4 : Int32)), .val (.int (5 : Int32)), .val (.int (5 : Int32)), .val (.int (1 : Int32)), .val (.int (own_climb gr_40 gp_40 rd 3 (gl_67 (0 : Int32)))), .unset, .unset] [(.int (own_dep (5 : Int32)))]))
          refine Go.step (fun _ k => XS.iload X84.here hx rfl (hb hby at_276) rfl  k) ?_
          show Go _ _ _ _ _ _ _ (T84.setTop (mkF m 278 #[.val (.int qa), .val (.int qb), .val (.int qc), .val (.int qs), .val (.int qq), .val (.int r1), .val (.int r2), .val (.int r3), .val (.int rd), .val (.int ks), .val (.ref b1), .val (.int (1 : Int32)), .val (.int (2 : Int32)), .val (.int (3 : Int32)), .val (.int (4 : Int32)), .val (.int (5 : Int32)), .val (.int (5 : Int32)), .val (.int (1 : Int32)), .val (.int (own_climb gr_40 gp_40 rd 3 (gl_67 (0 : Int32)))), .unset, .unset] [(.int (1 : Int32)), (.int (own_dep (5 : Int32)))]))
          obtain ⟨_, _, ⟨T85, L85, k85, n85⟩, -, X85, ⟨Lc85, hQ85, l85, y85, z85⟩, st85⟩ := Jvm.LawKit.callS X84 hx (y := (⟨"com/example/both_ways/bothways/equivalence/SplitHistoryBlockAfterPinLaw", "depthOf", "(I)I"⟩ : MethodName)) hown (mvT hZ (hw _ (List.mem_of_getElem? (i := 38) rfl))) (mvT hZ (hw _ (List.mem_of_getElem? (i := 39) rfl))) (mvT hZ (hw _ (List.mem_of_getElem? (i := 40) rfl))) (mvT hZ (hw _ (List.mem_of_getElem? (i := 41) rfl))) (by decide) (backOf (W := 1) (rm6 l Z aZ hw [] (1 : Int32) T81.heap n0 z82 ) hZ (hw _ (List.mem_of_getElem? (i := 41) rfl)) (hw _ (List.mem_of_getElem? (i := 40) rfl)) (by decide) (by decide)) (g := (mkF m 278 #[.val (.int qa), .val (.int qb), .val (.int qc), .val (.int qs), .val (.int qq), .val (.int r1), .val (.int r2), .val (.int r3), .val (.int rd), .val (.int ks), .val (.ref b1), .val (.int (1 : Int32)), .val (.int (2 : Int32)), .val (.int (3 : Int32)), .val (.int (4 : Int32)), .val (.int (5 : Int32)), .val (.int (5 : Int32)), .val (.int (1 : Int32)), .val (.int (own_climb gr_40 gp_40 rd 3 (gl_67 (0 : Int32)))), .unset, .unset] [(.int (1 : Int32)), (.int (own_dep (5 : Int32)))])) rfl (by rw [hml]; rfl) (argsL := [(.int (1 : Int32))]) (rest := [(.int (own_dep (5 : Int32)))]) (lenOf pd_3 rfl) rfl (by show 2 * 0 + _ ≤ _; exact Nat.le_of_eq rfl) (hb hby at_278) (fun _ _ => ⟨rfl, e84, (by decide : 5 + 0 ≤ _), (by decide : 56 + 0 ≤ _)⟩)
          dsimp only [Pt.U, Pt.locs, Pt.cells, Pt.slots] at X85 l85 y85 z85 st85 hQ85
          subst l85 y85 z85
          obtain ⟨rfl, Nq85, e85⟩ := hQ85
          have N85 := Fr.app N84 Nq85
          refine Go.step st85 ?_
          show Go _ _ _ _ _ _ _ (T85.setTop (mkF m 281 #[.val (.int qa), .val (.int qb), .val (.int qc), .val (.int qs), .val (.int qq), .val (.int r1), .val (.int r2), .val (.int r3), .val (.int rd), .val (.int ks), .val (.ref b1), .val (.int (1 : Int32)), .val (.int (2 : Int32)), .val (.int (3 : Int32)), .val (.int (4 : Int32)), .val (.int (5 : Int32)), .val (.int (5 : Int32)), .val (.int (1 : Int32)), .val (.int (own_climb gr_40 gp_40 rd 3 (gl_67 (0 : Int32)))), .unset, .unset] [(.int (own_dep (1 : Int32))), (.int (own_dep (5 : Int32)))]))
          refine Go.step (fun _ k => XS.isub X85.here hx rfl (hb hby at_281) rfl k) ?_
          show Go _ _ _ _ _ _ _ (T85.setTop (mkF m 282 #[.val (.int qa), .val (.int qb), .val (.int qc), .val (.int qs), .val (.int qq), .val (.int r1), .val (.int r2), .val (.int r3), .val (.int rd), .val (.int ks), .val (.ref b1), .val (.int (1 : Int32)), .val (.int (2 : Int32)), .val (.int (3 : Int32)), .val (.int (4 : Int32)), .val (.int (5 : Int32)), .val (.int (5 : Int32)), .val (.int (1 : Int32)), .val (.int (own_climb gr_40 gp_40 rd 3 (gl_67 (0 : Int32)))), .unset, .unset] [(.int ((own_dep (5 : Int32)) - (own_dep (1 : Int32))))]))
          refine Go.step (fun _ k => XS.iconst X85.here hx rfl (hb hby at_282) k) ?_
          show Go _ _ _ _ _ _ _ (T85.setTop (mkF m 283 #[.val (.int qa), .val (.int qb), .val (.int qc), .val (.int qs), .val (.int qq), .val (.int r1), .val (.int r2), .val (.int r3), .val (.int rd), .val (.int ks), .val (.ref b1), .val (.int (1 : Int32)), .val (.int (2 : Int32)), .val (.int (3 : Int32)), .val (.int (4 : Int32)), .val (.int (5 : Int32)), .val (.int (5 : Int32)), .val (.int (1 : Int32)), .val (.int (own_climb gr_40 gp_40 rd 3 (gl_67 (0 : Int32)))), .unset, .unset] [(.int (1 : Int32)), (.int ((own_dep (5 : Int32)) - (own_dep (1 : Int32))))]))
          refine Go.step (fun _ k => XS.iadd X85.here hx rfl (hb hby at_283) rfl k) ?_
          show Go _ _ _ _ _ _ _ (T85.setTop (mkF m 284 #[.val (.int qa), .val (.int qb), .val (.int qc), .val (.int qs), .val (.int qq), .val (.int r1), .val (.int r2), .val (.int r3), .val (.int rd), .val (.int ks), .val (.ref b1), .val (.int (1 : Int32)), .val (.int (2 : Int32)), .val (.int (3 : Int32)), .val (.int (4 : Int32)), .val (.int (5 : Int32)), .val (.int (5 : Int32)), .val (.int (1 : Int32)), .val (.int (own_climb gr_40 gp_40 rd 3 (gl_67 (0 : Int32)))), .unset, .unset] [(.int (((own_dep (5 : Int32)) - (own_dep (1 : Int32))) + (1 : Int32)))]))
          refine Go.step (fun _ k => XS.i2l X85.here hx rfl (hb hby at_284) rfl k) ?_
          show Go _ _ _ _ _ _ _ (T85.setTop (mkF m 285 #[.val (.int qa), .val (.int qb), .val (.int qc), .val (.int qs), .val (.int qq), .val (.int r1), .val (.int r2), .val (.int r3), .val (.int rd), .val (.int ks), .val (.ref b1), .val (.int (1 : Int32)), .val (.int (2 : Int32)), .val (.int (3 : Int32)), .val (.int (4 : Int32)), .val (.int (5 : Int32)), .val (.int (5 : Int32)), .val (.int (1 : Int32)), .val (.int (own_climb gr_40 gp_40 rd 3 (gl_67 (0 : Int32)))), .unset, .unset] [(.long (Int32.toInt64 (((own_dep (5 : Int32)) - (own_dep (1 : Int32))) + (1 : Int32))))]))
          refine Go.step (fun _ k => XS.lstore X85.here hx rfl (hb hby at_285) rfl (l' := #[.val (.int qa), .val (.int qb), .val (.int qc), .val (.int qs), .val (.int qq), .val (.int r1), .val (.int r2), .val (.int r3), .val (.int rd), .val (.int ks), .val (.ref b1), .val (.int (1 : Int32)), .val (.int (2 : Int32)), .val (.int (3 : Int32)), .val (.int (4 : Int32)), .val (.int (5 : Int32)), .val (.int (5 : Int32)), .val (.int (1 : Int32)), .val (.int (own_climb gr_40 gp_40 rd 3 (gl_67 (0 : Int32)))), .val (.long (Int32.toInt64 (((own_dep (5 : Int32)) - (own_dep (1 : Int32))) + (1 : Int32)))), .second]) rfl k) ?_
          show Go _ _ _ _ _ _ _ (T85.setTop (mkF m 287 #[.val (.int qa), .val (.int qb), .val (.int qc), .val (.int qs), .val (.int qq), .val (.int r1), .val (.int r2), .val (.int r3), .val (.int rd), .val (.int ks), .val (.ref b1), .val (.int (1 : Int32)), .val (.int (2 : Int32)), .val (.int (3 : Int32)), .val (.int (4 : Int32)), .val (.int (5 : Int32)), .val (.int (5 : Int32)), .val (.int (1 : Int32)), .val (.int (own_climb gr_40 gp_40 rd 3 (gl_67 (0 : Int32)))), .val (.long (Int32.toInt64 (((own_dep (5 : Int32)) - (own_dep (1 : Int32))) + (1 : Int32)))), .second] []))
          refine Go.step (fun _ k => XS.iload X85.here hx rfl (hb hby at_287) rfl  k) ?_
          show Go _ _ _ _ _ _ _ (T85.setTop (mkF m 289 #[.val (.int qa), .val (.int qb), .val (.int qc), .val (.int qs), .val (.int qq), .val (.int r1), .val (.int r2), .val (.int r3), .val (.int rd), .val (.int ks), .val (.ref b1), .val (.int (1 : Int32)), .val (.int (2 : Int32)), .val (.int (3 : Int32)), .val (.int (4 : Int32)), .val (.int (5 : Int32)), .val (.int (5 : Int32)), .val (.int (1 : Int32)), .val (.int (own_climb gr_40 gp_40 rd 3 (gl_67 (0 : Int32)))), .val (.long (Int32.toInt64 (((own_dep (5 : Int32)) - (own_dep (1 : Int32))) + (1 : Int32)))), .second] [(.int (own_climb gr_40 gp_40 rd 3 (gl_67 (0 : Int32))))]))
          refine Go.step (fun _ k => XS.iload X85.here hx rfl (hb hby at_289) rfl  k) ?_
          show Go _ _ _ _ _ _ _ (T85.setTop (mkF m 291 #[.val (.int qa), .val (.int qb), .val (.int qc), .val (.int qs), .val (.int qq), .val (.int r1), .val (.int r2), .val (.int r3), .val (.int rd), .val (.int ks), .val (.ref b1), .val (.int (1 : Int32)), .val (.int (2 : Int32)), .val (.int (3 : Int32)), .val (.int (4 : Int32)), .val (.int (5 : Int32)), .val (.int (5 : Int32)), .val (.int (1 : Int32)), .val (.int (own_climb gr_40 gp_40 rd 3 (gl_67 (0 : Int32)))), .val (.long (Int32.toInt64 (((own_dep (5 : Int32)) - (own_dep (1 : Int32))) + (1 : Int32)))), .second] [(.int (1 : Int32)), (.int (own_climb gr_40 gp_40 rd 3 (gl_67 (0 : Int32))))]))
          have hc291 : (own_climb gr_40 gp_40 rd 3 (gl_67 (0 : Int32))) = (1 : Int32) := by rw [u67_0, (own_c5 vR5 vP5 vR3 vP3 vR1 vP1 vR0 hrd).2, if_pos hc152, if_pos hc165, if_neg hc178]
          refine Go.step (fun _ k => XS.icmpNo X85.here hx rfl (hb hby at_291) rfl (teq hc291).2 k) ?_
          show Go _ _ _ _ _ _ _ (T85.setTop (mkF m 294 #[.val (.int qa), .val (.int qb), .val (.int qc), .val (.int qs), .val (.int qq), .val (.int r1), .val (.int r2), .val (.int r3), .val (.int rd), .val (.int ks), .val (.ref b1), .val (.int (1 : Int32)), .val (.int (2 : Int32)), .val (.int (3 : Int32)), .val (.int (4 : Int32)), .val (.int (5 : Int32)), .val (.int (5 : Int32)), .val (.int (1 : Int32)), .val (.int (own_climb gr_40 gp_40 rd 3 (gl_67 (0 : Int32)))), .val (.long (Int32.toInt64 (((own_dep (5 : Int32)) - (own_dep (1 : Int32))) + (1 : Int32)))), .second] []))
          refine Go.step (fun _ k => XS.aload X85.here hx rfl (hb hby at_294) rfl rfl  k) ?_
          show Go _ _ _ _ _ _ _ (T85.setTop (mkF m 296 #[.val (.int qa), .val (.int qb), .val (.int qc), .val (.int qs), .val (.int qq), .val (.int r1), .val (.int r2), .val (.int r3), .val (.int rd), .val (.int ks), .val (.ref b1), .val (.int (1 : Int32)), .val (.int (2 : Int32)), .val (.int (3 : Int32)), .val (.int (4 : Int32)), .val (.int (5 : Int32)), .val (.int (5 : Int32)), .val (.int (1 : Int32)), .val (.int (own_climb gr_40 gp_40 rd 3 (gl_67 (0 : Int32)))), .val (.long (Int32.toInt64 (((own_dep (5 : Int32)) - (own_dep (1 : Int32))) + (1 : Int32)))), .second] [(.ref b1)]))
          obtain ⟨cq86, kq86, q86a, q86b, q86c⟩ := isOf hZ e85 c81_0
          obtain ⟨_, _, ⟨T86, L86, k86, n86⟩, -, X86, ⟨Lc86, hQ86, l86, y86, z86⟩, st86⟩ := X85.virtualBack hx (y := (⟨"com/example/both_ways/bothways/equivalence/SplitHistory", "getVisitCount", "()J"⟩ : MethodName)) (z := (⟨"com/example/both_ways/bothways/equivalence/SplitHistory", "getVisitCount", "()J"⟩ : MethodName)) hown (mvT hZ (hw _ (List.mem_of_getElem? (i := 42) rfl))) (mvT hZ (hw _ (List.mem_of_getElem? (i := 43) rfl))) (notFace_of_selects (args := #[]) (mvT hZ (hw _ (List.mem_of_getElem? (i := 45) rfl)))) (mvT hZ (hw _ (List.mem_of_getElem? (i := 45) rfl))) (mvT hZ (hw _ (List.mem_of_getElem? (i := 44) rfl))) (by decide) (backOf (W := 0) (rm7 l Z aZ hw [] b1 ((0 : Int64) + Int32.toInt64 (((gd_40 (gl_67 (0 : Int32))) - (gd_40 (own_climb gr_40 gp_40 rd 3 (gl_67 (0 : Int32))))) + (1 : Int32))) T81.heap n0 z82 c81_1) hZ (hw _ (List.mem_of_getElem? (i := 46) rfl)) (hw _ (List.mem_of_getElem? (i := 3) rfl)) (by decide) (by decide)) q86a q86c (g := (mkF m 296 #[.val (.int qa), .val (.int qb), .val (.int qc), .val (.int qs), .val (.int qq), .val (.int r1), .val (.int r2), .val (.int r3), .val (.int rd), .val (.int ks), .val (.ref b1), .val (.int (1 : Int32)), .val (.int (2 : Int32)), .val (.int (3 : Int32)), .val (.int (4 : Int32)), .val (.int (5 : Int32)), .val (.int (5 : Int32)), .val (.int (1 : Int32)), .val (.int (own_climb gr_40 gp_40 rd 3 (gl_67 (0 : Int32)))), .val (.long (Int32.toInt64 (((own_dep (5 : Int32)) - (own_dep (1 : Int32))) + (1 : Int32)))), .second] [(.ref b1)])) rfl (by rw [hml]; rfl) (Steps.refl _) (argsL := []) (rest := []) (lenOf pd_4 rfl) rfl (by show 2 * 0 + _ ≤ _; exact Nat.le_of_eq rfl) (hb hby at_296) (fun _ _ => ⟨rfl, e85, (by decide : 5 + 0 ≤ _), (by decide : 56 + 0 ≤ _)⟩)
          dsimp only [Pt.U, Pt.locs, Pt.cells, Pt.slots] at X86 l86 y86 z86 st86 hQ86
          subst l86 y86 z86
          obtain ⟨rfl, Nq86, e86⟩ := hQ86
          have N86 := Fr.app N85 Nq86
          refine Go.tr st86 ?_
          show Go _ _ _ _ _ _ _ (T86.setTop (mkF m 299 #[.val (.int qa), .val (.int qb), .val (.int qc), .val (.int qs), .val (.int qq), .val (.int r1), .val (.int r2), .val (.int r3), .val (.int rd), .val (.int ks), .val (.ref b1), .val (.int (1 : Int32)), .val (.int (2 : Int32)), .val (.int (3 : Int32)), .val (.int (4 : Int32)), .val (.int (5 : Int32)), .val (.int (5 : Int32)), .val (.int (1 : Int32)), .val (.int (own_climb gr_40 gp_40 rd 3 (gl_67 (0 : Int32)))), .val (.long (Int32.toInt64 (((own_dep (5 : Int32)) - (own_dep (1 : Int32))) + (1 : Int32)))), .second] [(.long ((0 : Int64) + Int32.toInt64 (((gd_40 (gl_67 (0 : Int32))) - (gd_40 (own_climb gr_40 gp_40 rd 3 (gl_67 (0 : Int32))))) + (1 : Int32))))]))
          refine Go.step (fun _ k => XS.lload X86.here hx rfl (hb hby at_299) rfl  k) ?_
          show Go _ _ _ _ _ _ _ (T86.setTop (mkF m 301 #[.val (.int qa), .val (.int qb), .val (.int qc), .val (.int qs), .val (.int qq), .val (.int r1), .val (.int r2), .val (.int r3), .val (.int rd), .val (.int ks), .val (.ref b1), .val (.int (1 : Int32)), .val (.int (2 : Int32)), .val (.int (3 : Int32)), .val (.int (4 : Int32)), .val (.int (5 : Int32)), .val (.int (5 : Int32)), .val (.int (1 : Int32)), .val (.int (own_climb gr_40 gp_40 rd 3 (gl_67 (0 : Int32)))), .val (.long (Int32.toInt64 (((own_dep (5 : Int32)) - (own_dep (1 : Int32))) + (1 : Int32)))), .second] [(.long (Int32.toInt64 (((own_dep (5 : Int32)) - (own_dep (1 : Int32))) + (1 : Int32)))), (.long ((0 : Int64) + Int32.toInt64 (((gd_40 (gl_67 (0 : Int32))) - (gd_40 (own_climb gr_40 gp_40 rd 3 (gl_67 (0 : Int32))))) + (1 : Int32))))]))
          refine Go.step (fun _ k => XS.lcmp X86.here hx rfl (hb hby at_301) rfl k) ?_
          show Go _ _ _ _ _ _ _ (T86.setTop (mkF m 302 #[.val (.int qa), .val (.int qb), .val (.int qc), .val (.int qs), .val (.int qq), .val (.int r1), .val (.int r2), .val (.int r3), .val (.int rd), .val (.int ks), .val (.ref b1), .val (.int (1 : Int32)), .val (.int (2 : Int32)), .val (.int (3 : Int32)), .val (.int (4 : Int32)), .val (.int (5 : Int32)), .val (.int (5 : Int32)), .val (.int (1 : Int32)), .val (.int (own_climb gr_40 gp_40 rd 3 (gl_67 (0 : Int32)))), .val (.long (Int32.toInt64 (((own_dep (5 : Int32)) - (own_dep (1 : Int32))) + (1 : Int32)))), .second] [(.int (lcmpW ((0 : Int64) + Int32.toInt64 (((gd_40 (gl_67 (0 : Int32))) - (gd_40 (own_climb gr_40 gp_40 rd 3 (gl_67 (0 : Int32))))) + (1 : Int32))) (Int32.toInt64 (((own_dep (5 : Int32)) - (own_dep (1 : Int32))) + (1 : Int32)))))]))
          have hc302 : (lcmpW ((0 : Int64) + Int32.toInt64 (((gd_40 (gl_67 (0 : Int32))) - (gd_40 (own_climb gr_40 gp_40 rd 3 (gl_67 (0 : Int32))))) + (1 : Int32))) (Int32.toInt64 (((own_dep (5 : Int32)) - (own_dep (1 : Int32))) + (1 : Int32)))) = (0 : Int32) := by
            rw [hc291, u67_0, vD5, vD1]
            decide
          refine Go.step (fun _ k => XS.ifNo X86.here hx rfl (hb hby at_302) rfl ((if0 _ _).trans (teq hc302).2) k) ?_
          show Go _ _ _ _ _ _ _ (T86.setTop (mkF m 305 #[.val (.int qa), .val (.int qb), .val (.int qc), .val (.int qs), .val (.int qq), .val (.int r1), .val (.int r2), .val (.int r3), .val (.int rd), .val (.int ks), .val (.ref b1), .val (.int (1 : Int32)), .val (.int (2 : Int32)), .val (.int (3 : Int32)), .val (.int (4 : Int32)), .val (.int (5 : Int32)), .val (.int (5 : Int32)), .val (.int (1 : Int32)), .val (.int (own_climb gr_40 gp_40 rd 3 (gl_67 (0 : Int32)))), .val (.long (Int32.toInt64 (((own_dep (5 : Int32)) - (own_dep (1 : Int32))) + (1 : Int32)))), .second] []))
          refine Go.step (fun _ k => XS.iconst X86.here hx rfl (hb hby at_305) k) ?_
          show Go _ _ _ _ _ _ _ (T86.setTop (mkF m 306 #[.val (.int qa), .val (.int qb), .val (.int qc), .val (.int qs), .val (.int qq), .val (.int r1), .val (.int r2), .val (.int r3), .val (.int rd), .val (.int ks), .val (.ref b1), .val (.int (1 : Int32)), .val (.int (2 : Int32)), .val (.int (3 : Int32)), .val (.int (4 : Int32)), .val (.int (5 : Int32)), .val (.int (5 : Int32)), .val (.int (1 : Int32)), .val (.int (own_climb gr_40 gp_40 rd 3 (gl_67 (0 : Int32)))), .val (.long (Int32.toInt64 (((own_dep (5 : Int32)) - (own_dep (1 : Int32))) + (1 : Int32)))), .second] [(.int (1 : Int32))]))
          refine Go.step (fun _ k => XS.goto X86.here hx rfl (pc0 := 306) (pc' := 310) rfl (hb hby at_306) (by decide) (by decide) k) ?_
          show Go _ _ _ _ _ _ _ (T86.setTop (mkF m 310 #[.val (.int qa), .val (.int qb), .val (.int qc), .val (.int qs), .val (.int qq), .val (.int r1), .val (.int r2), .val (.int r3), .val (.int rd), .val (.int ks), .val (.ref b1), .val (.int (1 : Int32)), .val (.int (2 : Int32)), .val (.int (3 : Int32)), .val (.int (4 : Int32)), .val (.int (5 : Int32)), .val (.int (5 : Int32)), .val (.int (1 : Int32)), .val (.int (own_climb gr_40 gp_40 rd 3 (gl_67 (0 : Int32)))), .val (.long (Int32.toInt64 (((own_dep (5 : Int32)) - (own_dep (1 : Int32))) + (1 : Int32)))), .second] [(.int (1 : Int32))]))
          refine Go.retN X86 hx (t := .boolean) Bd.returns (by simp) hlk (hb hby at_310) ?_ (by decide) (by decide)
          rw [e86]
          exact ⟨(by first | rfl | (simp_all [own_nb1, own_nb0]; done)), N86⟩
      · skip
        refine Go.step (fun _ k => XS.icmpNo X40.here hx rfl (hb hby at_165) rfl (flt hc165).1 k) ?_
        show Go _ _ _ _ _ _ _ (T40.setTop (mkF m 168 #[.val (.int qa), .val (.int qb), .val (.int qc), .val (.int qs), .val (.int qq), .val (.int r1), .val (.int r2), .val (.int r3), .val (.int rd), .val (.int ks), .val (.ref b1), .val (.int (1 : Int32)), .val (.int (2 : Int32)), .val (.int (3 : Int32)), .val (.int (4 : Int32)), .val (.int (5 : Int32)), .val (.int (5 : Int32)), .unset, .unset, .unset, .unset] []))
        refine Go.step (fun _ k => XS.iconst X40.here hx rfl (hb hby at_168) k) ?_
        show Go _ _ _ _ _ _ _ (T40.setTop (mkF m 169 #[.val (.int qa), .val (.int qb), .val (.int qc), .val (.int qs), .val (.int qq), .val (.int r1), .val (.int r2), .val (.int r3), .val (.int rd), .val (.int ks), .val (.ref b1), .val (.int (1 : Int32)), .val (.int (2 : Int32)), .val (.int (3 : Int32)), .val (.int (4 : Int32)), .val (.int (5 : Int32)), .val (.int (5 : Int32)), .unset, .unset, .unset, .unset] [(.int (3 : Int32))]))
        refine Go.step (fun _ k => XS.istore X40.here hx rfl (hb hby at_169) rfl (l' := #[.val (.int qa), .val (.int qb), .val (.int qc), .val (.int qs), .val (.int qq), .val (.int r1), .val (.int r2), .val (.int r3), .val (.int rd), .val (.int ks), .val (.ref b1), .val (.int (1 : Int32)), .val (.int (2 : Int32)), .val (.int (3 : Int32)), .val (.int (4 : Int32)), .val (.int (5 : Int32)), .val (.int (5 : Int32)), .val (.int (3 : Int32)), .unset, .unset, .unset]) rfl k) ?_
        show Go _ _ _ _ _ _ _ (T40.setTop (mkF m 171 #[.val (.int qa), .val (.int qb), .val (.int qc), .val (.int qs), .val (.int qq), .val (.int r1), .val (.int r2), .val (.int r3), .val (.int rd), .val (.int ks), .val (.ref b1), .val (.int (1 : Int32)), .val (.int (2 : Int32)), .val (.int (3 : Int32)), .val (.int (4 : Int32)), .val (.int (5 : Int32)), .val (.int (5 : Int32)), .val (.int (3 : Int32)), .unset, .unset, .unset] []))
        refine Go.step (fun _ k => XS.goto X40.here hx rfl (pc0 := 171) (pc' := 253) rfl (hb hby at_171) (by decide) (by decide) k) ?_
        show Go _ _ _ _ _ _ _ (T40.setTop (mkF m 253 #[.val (.int qa), .val (.int qb), .val (.int qc), .val (.int qs), .val (.int qq), .val (.int r1), .val (.int r2), .val (.int r3), .val (.int rd), .val (.int ks), .val (.ref b1), .val (.int (1 : Int32)), .val (.int (2 : Int32)), .val (.int (3 : Int32)), .val (.int (4 : Int32)), .val (.int (5 : Int32)), .val (.int (5 : Int32)), .val (.int (3 : Int32)), .unset, .unset, .unset] []))
        refine Go.step (fun _ k => XS.aload X40.here hx rfl (hb hby at_253) rfl rfl  k) ?_
        show Go _ _ _ _ _ _ _ (T40.setTop (mkF m 255 #[.val (.int qa), .val (.int qb), .val (.int qc), .val (.int qs), .val (.int qq), .val (.int r1), .val (.int r2), .val (.int r3), .val (.int rd), .val (.int ks), .val (.ref b1), .val (.int (1 : Int32)), .val (.int (2 : Int32)), .val (.int (3 : Int32)), .val (.int (4 : Int32)), .val (.int (5 : Int32)), .val (.int (5 : Int32)), .val (.int (3 : Int32)), .unset, .unset, .unset] [(.ref b1)]))
        refine Go.step (fun _ k => XS.iconst X40.here hx rfl (hb hby at_255) k) ?_
        show Go _ _ _ _ _ _ _ (T40.setTop (mkF m 256 #[.val (.int qa), .val (.int qb), .val (.int qc), .val (.int qs), .val (.int qq), .val (.int r1), .val (.int r2), .val (.int r3), .val (.int rd), .val (.int ks), .val (.ref b1), .val (.int (1 : Int32)), .val (.int (2 : Int32)), .val (.int (3 : Int32)), .val (.int (4 : Int32)), .val (.int (5 : Int32)), .val (.int (5 : Int32)), .val (.int (3 : Int32)), .unset, .unset, .unset] [(.int (0 : Int32)), (.ref b1)]))
        refine Go.step (fun _ k => XS.iload X40.here hx rfl (hb hby at_256) rfl  k) ?_
        show Go _ _ _ _ _ _ _ (T40.setTop (mkF m 258 #[.val (.int qa), .val (.int qb), .val (.int qc), .val (.int qs), .val (.int qq), .val (.int r1), .val (.int r2), .val (.int r3), .val (.int rd), .val (.int ks), .val (.ref b1), .val (.int (1 : Int32)), .val (.int (2 : Int32)), .val (.int (3 : Int32)), .val (.int (4 : Int32)), .val (.int (5 : Int32)), .val (.int (5 : Int32)), .val (.int (3 : Int32)), .unset, .unset, .unset] [(.int (5 : Int32)), (.int (0 : Int32)), (.ref b1)]))
        have f87 : Ai Z T40.heap bl_11 .int (1 : Int32) (fun _ => 0) := (((((c11_14.keep K20 (ninS (Ne.symm c11_18) (ninS (Ne.symm c11_21) (ninS (Ne.symm c11_23) (ninS (Ne.symm c11_24) nin0))))).keep K25 (ninS (Ne.symm c11_18) (ninS (Ne.symm c11_21) (ninS (Ne.symm c11_23) (ninS (Ne.symm c11_24) nin0))))).keep K30 (ninS (Ne.symm c11_18) (ninS (Ne.symm c11_21) (ninS (Ne.symm c11_23) (ninS (Ne.symm c11_24) nin0))))).keep K35 (ninS (Ne.symm c11_18) (ninS (Ne.symm c11_21) (ninS (Ne.symm c11_23) (ninS (Ne.symm c11_24) nin0))))).keep K40 (ninS (Ne.symm c11_18) (ninS (Ne.symm c11_21) (ninS (Ne.symm c11_23) (ninS (Ne.symm c11_24) nin0)))))
        have pq88 : (0 : Int32) = (0 : Int32) := rfl
        obtain ⟨cq89, kq89, q89a, q89b, q89c⟩ := isOf hZ rfl c40_0
        obtain ⟨_, _, ⟨T89, L89, k89, n89⟩, -, X89, ⟨Lc89, hQ89, l89, y89, z89⟩, st89⟩ := X40.virtualBack hx (y := (⟨"com/example/both_ways/bothways/equivalence/SplitHistory", "place", "(II)V"⟩ : MethodName)) (z := (⟨"com/example/both_ways/bothways/equivalence/SplitHistory", "place", "(II)V"⟩ : MethodName)) hown (mvT hZ (hw _ (List.mem_of_getElem? (i := 26) rfl))) (mvT hZ (hw _ (List.mem_of_getElem? (i := 27) rfl))) (notFace_of_selects (args := #[]) (mvT hZ (hw _ (List.mem_of_getElem? (i := 29) rfl)))) (mvT hZ (hw _ (List.mem_of_getElem? (i := 29) rfl))) (mvT hZ (hw _ (List.mem_of_getElem? (i := 28) rfl))) (by decide) (backOf (W := 0) (rm4 l Z aZ hw [] b1 (0 : Int32) (5 : Int32) bl_11 (fun _ => 0) T40.heap n0 z41 c40_4 f87 gn11_3 pq88) hZ (hw _ (List.mem_of_getElem? (i := 30) rfl)) (hw _ (List.mem_of_getElem? (i := 3) rfl)) (by decide) (by decide)) q89a q89c (g := (mkF m 258 #[.val (.int qa), .val (.int qb), .val (.int qc), .val (.int qs), .val (.int qq), .val (.int r1), .val (.int r2), .val (.int r3), .val (.int rd), .val (.int ks), .val (.ref b1), .val (.int (1 : Int32)), .val (.int (2 : Int32)), .val (.int (3 : Int32)), .val (.int (4 : Int32)), .val (.int (5 : Int32)), .val (.int (5 : Int32)), .val (.int (3 : Int32)), .unset, .unset, .unset] [(.int (5 : Int32)), (.int (0 : Int32)), (.ref b1)])) rfl (by rw [hml]; rfl) (Steps.refl _) (argsL := [(.int (0 : Int32)), (.int (5 : Int32))]) (rest := []) (lenOf pd_2 rfl) rfl (by show 2 * 0 + _ ≤ _; exact Nat.le_of_eq rfl) (hb hby at_258) (fun _ _ => ⟨rfl, rfl, (by decide : 5 + 0 ≤ _), (by decide : 56 + 0 ≤ _)⟩)
        dsimp only [Pt.U, Pt.locs, Pt.cells, Pt.slots] at X89 l89 y89 z89 st89 hQ89
        subst l89 y89 z89
        obtain ⟨gl_89, rfl, Nq89, K89, c89_0, u89_0⟩ := hQ89
        have N89 := Fr.app N40 Nq89
        refine Go.tr st89 ?_
        have z90 : n0 ≤ T89.heap.size := Nat.le_trans z41 K89.1
        have sqz90 : h0.size ≤ T89.heap.size := Nat.le_trans sqz41 K89.1
        show Go _ _ _ _ _ _ _ (T89.setTop (mkF m 261 #[.val (.int qa), .val (.int qb), .val (.int qc), .val (.int qs), .val (.int qq), .val (.int r1), .val (.int r2), .val (.int r3), .val (.int rd), .val (.int ks), .val (.ref b1), .val (.int (1 : Int32)), .val (.int (2 : Int32)), .val (.int (3 : Int32)), .val (.int (4 : Int32)), .val (.int (5 : Int32)), .val (.int (5 : Int32)), .val (.int (3 : Int32)), .unset, .unset, .unset] []))
        refine Go.step (fun _ k => XS.aload X89.here hx rfl (hb hby at_261) rfl rfl  k) ?_
        show Go _ _ _ _ _ _ _ (T89.setTop (mkF m 263 #[.val (.int qa), .val (.int qb), .val (.int qc), .val (.int qs), .val (.int qq), .val (.int r1), .val (.int r2), .val (.int r3), .val (.int rd), .val (.int ks), .val (.ref b1), .val (.int (1 : Int32)), .val (.int (2 : Int32)), .val (.int (3 : Int32)), .val (.int (4 : Int32)), .val (.int (5 : Int32)), .val (.int (5 : Int32)), .val (.int (3 : Int32)), .unset, .unset, .unset] [(.ref b1)]))
        refine Go.step (fun _ k => XS.iconst X89.here hx rfl (hb hby at_263) k) ?_
        show Go _ _ _ _ _ _ _ (T89.setTop (mkF m 264 #[.val (.int qa), .val (.int qb), .val (.int qc), .val (.int qs), .val (.int qq), .val (.int r1), .val (.int r2), .val (.int r3), .val (.int rd), .val (.int ks), .val (.ref b1), .val (.int (1 : Int32)), .val (.int (2 : Int32)), .val (.int (3 : Int32)), .val (.int (4 : Int32)), .val (.int (5 : Int32)), .val (.int (5 : Int32)), .val (.int (3 : Int32)), .unset, .unset, .unset] [(.int (0 : Int32)), (.ref b1)]))
        refine Go.step (fun _ k => XS.iload X89.here hx rfl (hb hby at_264) rfl  k) ?_
        show Go _ _ _ _ _ _ _ (T89.setTop (mkF m 266 #[.val (.int qa), .val (.int qb), .val (.int qc), .val (.int qs), .val (.int qq), .val (.int r1), .val (.int r2), .val (.int r3), .val (.int rd), .val (.int ks), .val (.ref b1), .val (.int (1 : Int32)), .val (.int (2 : Int32)), .val (.int (3 : Int32)), .val (.int (4 : Int32)), .val (.int (5 : Int32)), .val (.int (5 : Int32)), .val (.int (3 : Int32)), .unset, .unset, .unset] [(.int rd), (.int (0 : Int32)), (.ref b1)]))
        have f92 : Exa Z T89.heap b1 "com/example/both_ways/bothways/equivalence/SplitHistory" := (c40_0.keep K89)
        have f93 : Fld Z T89.heap b1 "com/example/both_ways/bothways/equivalence/SplitHistory" "parents" "[I" (.ref bp_11) := (c40_1.keep K89 (ninS c11_18 nin0))
        have f94 : Fld Z T89.heap b1 "com/example/both_ways/bothways/equivalence/SplitHistory" "rounds" "[I" (.ref br_11) := (c40_2.keep K89 (ninS c11_18 nin0))
        have f95 : Fld Z T89.heap b1 "com/example/both_ways/bothways/equivalence/SplitHistory" "depths" "[I" (.ref bd_11) := (c40_3.keep K89 (ninS c11_18 nin0))
        have f96 : Fld Z T89.heap b1 "com/example/both_ways/bothways/equivalence/SplitHistory" "leaves" "[I" (.ref bl_11) := (c40_4.keep K89 (ninS c11_18 nin0))
        have f97 : Fld Z T89.heap b1 "com/example/both_ways/bothways/equivalence/SplitHistory" "visits" "J" (.long (0 : Int64)) := (c40_6.keep K89 (ninS c11_18 nin0))
        have f98 : Ai Z T89.heap bp_11 .int (16 : Int32) gp_40 := (c40_7.keep K89 (ninS c11_21 nin0))
        have f99 : Ai Z T89.heap br_11 .int (16 : Int32) gr_40 := (c40_8.keep K89 (ninS c11_23 nin0))
        have f100 : Ai Z T89.heap bd_11 .int (16 : Int32) gd_40 := (c40_9.keep K89 (ninS c11_24 nin0))
        have pq101 : (0 : Int32) = (0 : Int32) := rfl
        have pq102 : own_ok gr_40 gp_40 rd 3 (gl_89 (0 : Int32)) := (by rw [u89_0]; exact (own_c5 vR5 vP5 vR3 vP3 vR1 vP1 vR0 hrd).1)
        obtain ⟨cq103, kq103, q103a, q103b, q103c⟩ := isOf hZ rfl f92
        obtain ⟨_, _, ⟨T103, L103, k103, n103⟩, -, X103, ⟨Lc103, hQ103, l103, y103, z103⟩, st103⟩ := X89.virtualBack hx (y := (⟨"com/example/both_ways/bothways/equivalence/SplitHistory", "blockAfter", "(II)I"⟩ : MethodName)) (z := (⟨"com/example/both_ways/bothways/equivalence/SplitHistory", "blockAfter", "(II)I"⟩ : MethodName)) hown (mvT hZ (hw _ (List.mem_of_getElem? (i := 31) rfl))) (mvT hZ (hw _ (List.mem_of_getElem? (i := 32) rfl))) (notFace_of_selects (args := #[]) (mvT hZ (hw _ (List.mem_of_getElem? (i := 34) rfl)))) (mvT hZ (hw _ (List.mem_of_getElem? (i := 34) rfl))) (mvT hZ (hw _ (List.mem_of_getElem? (i := 33) rfl))) (by decide) (backOf (W := 0) (rm5 l Z aZ hw [] b1 (0 : Int32) rd bp_11 gp_40 br_11 gr_40 bd_11 gd_40 bl_11 gl_89 T89.heap n0 z90 f92 f93 f94 f95 f96 f97 f98 f99 f100 c89_0 gn1 pq101 pq102 c11_15 c11_16 c11_17 c11_18 c11_19 c11_20 c11_21 c11_22 c11_23 c11_24) hZ (hw _ (List.mem_of_getElem? (i := 35) rfl)) (hw _ (List.mem_of_getElem? (i := 3) rfl)) (by decide) (by decide)) q103a q103c (g := (mkF m 266 #[.val (.int qa), .val (.int qb), .val (.int qc), .val (.int qs), .val (.int qq), .val (.int r1), .val (.int r2), .val (.int r3), .val (.int rd), .val (.int ks), .val (.ref b1), .val (.int (1 : Int32)), .val (.int (2 : Int32)), .val (.int (3 : Int32)), .val (.int (4 : Int32)), .val (.int (5 : Int32)), .val (.int (5 : Int32)), .val (.int (3 : Int32)), .unset, .unset, .unset] [(.int rd), (.int (0 : Int32)), (.ref b1)])) rfl (by rw [hml]; rfl) (Steps.refl _) (argsL := [(.int (0 : Int32)), (.int rd)]) (rest := []) (lenOf pd_1 rfl) rfl (by show 2 * 0 + _ ≤ _; exact Nat.le_of_eq rfl) (hb hby at_266) (fun _ _ => ⟨rfl, rfl, (by decide : 5 + 0 ≤ _), (by decide : 56 + 0 ≤ _)⟩)
        dsimp only [Pt.U, Pt.locs, Pt.cells, Pt.slots] at X103 l103 y103 z103 st103 hQ103
        subst l103 y103 z103
        obtain ⟨rfl, Nq103, K103, c103_0, c103_1⟩ := hQ103
        have N103 := Fr.app N89 Nq103
        refine Go.tr st103 ?_
        have z104 : n0 ≤ T103.heap.size := Nat.le_trans z90 K103.1
        have sqz104 : h0.size ≤ T103.heap.size := Nat.le_trans sqz90 K103.1
        show Go _ _ _ _ _ _ _ (T103.setTop (mkF m 269 #[.val (.int qa), .val (.int qb), .val (.int qc), .val (.int qs), .val (.int qq), .val (.int r1), .val (.int r2), .val (.int r3), .val (.int rd), .val (.int ks), .val (.ref b1), .val (.int (1 : Int32)), .val (.int (2 : Int32)), .val (.int (3 : Int32)), .val (.int (4 : Int32)), .val (.int (5 : Int32)), .val (.int (5 : Int32)), .val (.int (3 : Int32)), .unset, .unset, .unset] [(.int (own_climb gr_40 gp_40 rd 3 (gl_89 (0 : Int32))))]))
        refine Go.step (fun _ k => XS.istore X103.here hx rfl (hb hby at_269) rfl (l' := #[.val (.int qa), .val (.int qb), .val (.int qc), .val (.int qs), .val (.int qq), .val (.int r1), .val (.int r2), .val (.int r3), .val (.int rd), .val (.int ks), .val (.ref b1), .val (.int (1 : Int32)), .val (.int (2 : Int32)), .val (.int (3 : Int32)), .val (.int (4 : Int32)), .val (.int (5 : Int32)), .val (.int (5 : Int32)), .val (.int (3 : Int32)), .val (.int (own_climb gr_40 gp_40 rd 3 (gl_89 (0 : Int32)))), .unset, .unset]) rfl k) ?_
        show Go _ _ _ _ _ _ _ (T103.setTop (mkF m 271 #[.val (.int qa), .val (.int qb), .val (.int qc), .val (.int qs), .val (.int qq), .val (.int r1), .val (.int r2), .val (.int r3), .val (.int rd), .val (.int ks), .val (.ref b1), .val (.int (1 : Int32)), .val (.int (2 : Int32)), .val (.int (3 : Int32)), .val (.int (4 : Int32)), .val (.int (5 : Int32)), .val (.int (5 : Int32)), .val (.int (3 : Int32)), .val (.int (own_climb gr_40 gp_40 rd 3 (gl_89 (0 : Int32)))), .unset, .unset] []))
        refine Go.step (fun _ k => XS.iload X103.here hx rfl (hb hby at_271) rfl  k) ?_
        show Go _ _ _ _ _ _ _ (T103.setTop (mkF m 273 #[.val (.int qa), .val (.int qb), .val (.int qc), .val (.int qs), .val (.int qq), .val (.int r1), .val (.int r2), .val (.int r3), .val (.int rd), .val (.int ks), .val (.ref b1), .val (.int (1 : Int32)), .val (.int (2 : Int32)), .val (.int (3 : Int32)), .val (.int (4 : Int32)), .val (.int (5 : Int32)), .val (.int (5 : Int32)), .val (.int (3 : Int32)), .val (.int (own_climb gr_40 gp_40 rd 3 (gl_89 (0 : Int32)))), .unset, .unset] [(.int (5 : Int32))]))
        obtain ⟨_, _, ⟨T106, L106, k106, n106⟩, -, X106, ⟨Lc106, hQ106, l106, y106, z106⟩, st106⟩ := Jvm.LawKit.callS X103 hx (y := (⟨"com/example/both_ways/bothways/equivalence/SplitHistoryBlockAfterPinLaw", "depthOf", "(I)I"⟩ : MethodName)) hown (mvT hZ (hw _ (List.mem_of_getElem? (i := 38) rfl))) (mvT hZ (hw _ (List.mem_of_getElem? (i := 39) rfl))) (mvT hZ (hw _ (List.mem_of_getElem? (i := 40) rfl))) (mvT hZ (hw _ (List.mem_of_getElem? (i := 41) rfl))) (by decide) (backOf (W := 0) (rm6 l Z aZ hw [] (5 : Int32) T103.heap n0 z104 ) hZ (hw _ (List.mem_of_getElem? (i := 41) rfl)) (hw _ (List.mem_of_getElem? (i := 40) rfl)) (by decide) (by decide)) (g := (mkF m 273 #[.val (.int qa), .val (.int qb), .val (.int qc), .val (.int qs), .val (.int qq), .val (.int r1), .val (.int r2), .val (.int r3), .val (.int rd), .val (.int ks), .val (.ref b1), .val (.int (1 : Int32)), .val (.int (2 : Int32)), .val (.int (3 : Int32)), .val (.int (4 : Int32)), .val (.int (5 : Int32)), .val (.int (5 : Int32)), .val (.int (3 : Int32)), .val (.int (own_climb gr_40 gp_40 rd 3 (gl_89 (0 : Int32)))), .unset, .unset] [(.int (5 : Int32))])) rfl (by rw [hml]; rfl) (argsL := [(.int (5 : Int32))]) (rest := []) (lenOf pd_3 rfl) rfl (by show 2 * 0 + _ ≤ _; exact Nat.le_of_eq rfl) (hb hby at_273) (fun _ _ => ⟨rfl, rfl, (by decide : 5 + 0 ≤ _), (by decide : 56 + 0 ≤ _)⟩)
        dsimp only [Pt.U, Pt.locs, Pt.cells, Pt.slots] at X106 l106 y106 z106 st106 hQ106
        subst l106 y106 z106
        obtain ⟨rfl, Nq106, e106⟩ := hQ106
        have N106 := Fr.app N103 Nq106
        refine Go.step st106 ?_
        show Go _ _ _ _ _ _ _ (T106.setTop (mkF m 276 #[.val (.int qa), .val (.int qb), .val (.int qc), .val (.int qs), .val (.int qq), .val (.int r1), .val (.int r2), .val (.int r3), .val (.int rd), .val (.int ks), .val (.ref b1), .val (.int (1 : Int32)), .val (.int (2 : Int32)), .val (.int (3 : Int32)), .val (.int (4 : Int32)), .val (.int (5 : Int32)), .val (.int (5 : Int32)), .val (.int (3 : Int32)), .val (.int (own_climb gr_40 gp_40 rd 3 (gl_89 (0 : Int32)))), .unset, .unset] [(.int (own_dep (5 : Int32)))]))
        refine Go.step (fun _ k => XS.iload X106.here hx rfl (hb hby at_276) rfl  k) ?_
        show Go _ _ _ _ _ _ _ (T106.setTop (mkF m 278 #[.val (.int qa), .val (.int qb), .val (.int qc), .val (.int qs), .val (.int qq), .val (.int r1), .val (.int r2), .val (.int r3), .val (.int rd), .val (.int ks), .val (.ref b1), .val (.int (1 : Int32)), .val (.int (2 : Int32)), .val (.int (3 : Int32)), .val (.int (4 : Int32)), .val (.int (5 : Int32)), .val (.int (5 : Int32)), .val (.int (3 : Int32)), .val (.int (own_climb gr_40 gp_40 rd 3 (gl_89 (0 : Int32)))), .unset, .unset] [(.int (3 : Int32)), (.int (own_dep (5 : Int32)))]))
        obtain ⟨_, _, ⟨T107, L107, k107, n107⟩, -, X107, ⟨Lc107, hQ107, l107, y107, z107⟩, st107⟩ := Jvm.LawKit.callS X106 hx (y := (⟨"com/example/both_ways/bothways/equivalence/SplitHistoryBlockAfterPinLaw", "depthOf", "(I)I"⟩ : MethodName)) hown (mvT hZ (hw _ (List.mem_of_getElem? (i := 38) rfl))) (mvT hZ (hw _ (List.mem_of_getElem? (i := 39) rfl))) (mvT hZ (hw _ (List.mem_of_getElem? (i := 40) rfl))) (mvT hZ (hw _ (List.mem_of_getElem? (i := 41) rfl))) (by decide) (backOf (W := 1) (rm6 l Z aZ hw [] (3 : Int32) T103.heap n0 z104 ) hZ (hw _ (List.mem_of_getElem? (i := 41) rfl)) (hw _ (List.mem_of_getElem? (i := 40) rfl)) (by decide) (by decide)) (g := (mkF m 278 #[.val (.int qa), .val (.int qb), .val (.int qc), .val (.int qs), .val (.int qq), .val (.int r1), .val (.int r2), .val (.int r3), .val (.int rd), .val (.int ks), .val (.ref b1), .val (.int (1 : Int32)), .val (.int (2 : Int32)), .val (.int (3 : Int32)), .val (.int (4 : Int32)), .val (.int (5 : Int32)), .val (.int (5 : Int32)), .val (.int (3 : Int32)), .val (.int (own_climb gr_40 gp_40 rd 3 (gl_89 (0 : Int32)))), .unset, .unset] [(.int (3 : Int32)), (.int (own_dep (5 : Int32)))])) rfl (by rw [hml]; rfl) (argsL := [(.int (3 : Int32))]) (rest := [(.int (own_dep (5 : Int32)))]) (lenOf pd_3 rfl) rfl (by show 2 * 0 + _ ≤ _; exact Nat.le_of_eq rfl) (hb hby at_278) (fun _ _ => ⟨rfl, e106, (by decide : 5 + 0 ≤ _), (by decide : 56 + 0 ≤ _)⟩)
        dsimp only [Pt.U, Pt.locs, Pt.cells, Pt.slots] at X107 l107 y107 z107 st107 hQ107
        subst l107 y107 z107
        obtain ⟨rfl, Nq107, e107⟩ := hQ107
        have N107 := Fr.app N106 Nq107
        refine Go.step st107 ?_
        show Go _ _ _ _ _ _ _ (T107.setTop (mkF m 281 #[.val (.int qa), .val (.int qb), .val (.int qc), .val (.int qs), .val (.int qq), .val (.int r1), .val (.int r2), .val (.int r3), .val (.int rd), .val (.int ks), .val (.ref b1), .val (.int (1 : Int32)), .val (.int (2 : Int32)), .val (.int (3 : Int32)), .val (.int (4 : Int32)), .val (.int (5 : Int32)), .val (.int (5 : Int32)), .val (.int (3 : Int32)), .val (.int (own_climb gr_40 gp_40 rd 3 (gl_89 (0 : Int32)))), .unset, .unset] [(.int (own_dep (3 : Int32))), (.int (own_dep (5 : Int32)))]))
        refine Go.step (fun _ k => XS.isub X107.here hx rfl (hb hby at_281) rfl k) ?_
        show Go _ _ _ _ _ _ _ (T107.setTop (mkF m 282 #[.val (.int qa), .val (.int qb), .val (.int qc), .val (.int qs), .val (.int qq), .val (.int r1), .val (.int r2), .val (.int r3), .val (.int rd), .val (.int ks), .val (.ref b1), .val (.int (1 : Int32)), .val (.int (2 : Int32)), .val (.int (3 : Int32)), .val (.int (4 : Int32)), .val (.int (5 : Int32)), .val (.int (5 : Int32)), .val (.int (3 : Int32)), .val (.int (own_climb gr_40 gp_40 rd 3 (gl_89 (0 : Int32)))), .unset, .unset] [(.int ((own_dep (5 : Int32)) - (own_dep (3 : Int32))))]))
        refine Go.step (fun _ k => XS.iconst X107.here hx rfl (hb hby at_282) k) ?_
        show Go _ _ _ _ _ _ _ (T107.setTop (mkF m 283 #[.val (.int qa), .val (.int qb), .val (.int qc), .val (.int qs), .val (.int qq), .val (.int r1), .val (.int r2), .val (.int r3), .val (.int rd), .val (.int ks), .val (.ref b1), .val (.int (1 : Int32)), .val (.int (2 : Int32)), .val (.int (3 : Int32)), .val (.int (4 : Int32)), .val (.int (5 : Int32)), .val (.int (5 : Int32)), .val (.int (3 : Int32)), .val (.int (own_climb gr_40 gp_40 rd 3 (gl_89 (0 : Int32)))), .unset, .unset] [(.int (1 : Int32)), (.int ((own_dep (5 : Int32)) - (own_dep (3 : Int32))))]))
        refine Go.step (fun _ k => XS.iadd X107.here hx rfl (hb hby at_283) rfl k) ?_
        show Go _ _ _ _ _ _ _ (T107.setTop (mkF m 284 #[.val (.int qa), .val (.int qb), .val (.int qc), .val (.int qs), .val (.int qq), .val (.int r1), .val (.int r2), .val (.int r3), .val (.int rd), .val (.int ks), .val (.ref b1), .val (.int (1 : Int32)), .val (.int (2 : Int32)), .val (.int (3 : Int32)), .val (.int (4 : Int32)), .val (.int (5 : Int32)), .val (.int (5 : Int32)), .val (.int (3 : Int32)), .val (.int (own_climb gr_40 gp_40 rd 3 (gl_89 (0 : Int32)))), .unset, .unset] [(.int (((own_dep (5 : Int32)) - (own_dep (3 : Int32))) + (1 : Int32)))]))
        refine Go.step (fun _ k => XS.i2l X107.here hx rfl (hb hby at_284) rfl k) ?_
        show Go _ _ _ _ _ _ _ (T107.setTop (mkF m 285 #[.val (.int qa), .val (.int qb), .val (.int qc), .val (.int qs), .val (.int qq), .val (.int r1), .val (.int r2), .val (.int r3), .val (.int rd), .val (.int ks), .val (.ref b1), .val (.int (1 : Int32)), .val (.int (2 : Int32)), .val (.int (3 : Int32)), .val (.int (4 : Int32)), .val (.int (5 : Int32)), .val (.int (5 : Int32)), .val (.int (3 : Int32)), .val (.int (own_climb gr_40 gp_40 rd 3 (gl_89 (0 : Int32)))), .unset, .unset] [(.long (Int32.toInt64 (((own_dep (5 : Int32)) - (own_dep (3 : Int32))) + (1 : Int32))))]))
        refine Go.step (fun _ k => XS.lstore X107.here hx rfl (hb hby at_285) rfl (l' := #[.val (.int qa), .val (.int qb), .val (.int qc), .val (.int qs), .val (.int qq), .val (.int r1), .val (.int r2), .val (.int r3), .val (.int rd), .val (.int ks), .val (.ref b1), .val (.int (1 : Int32)), .val (.int (2 : Int32)), .val (.int (3 : Int32)), .val (.int (4 : Int32)), .val (.int (5 : Int32)), .val (.int (5 : Int32)), .val (.int (3 : Int32)), .val (.int (own_climb gr_40 gp_40 rd 3 (gl_89 (0 : Int32)))), .val (.long (Int32.toInt64 (((own_dep (5 : Int32)) - (own_dep (3 : Int32))) + (1 : Int32)))), .second]) rfl k) ?_
        show Go _ _ _ _ _ _ _ (T107.setTop (mkF m 287 #[.val (.int qa), .val (.int qb), .val (.int qc), .val (.int qs), .val (.int qq), .val (.int r1), .val (.int r2), .val (.int r3), .val (.int rd), .val (.int ks), .val (.ref b1), .val (.int (1 : Int32)), .val (.int (2 : Int32)), .val (.int (3 : Int32)), .val (.int (4 : Int32)), .val (.int (5 : Int32)), .val (.int (5 : Int32)), .val (.int (3 : Int32)), .val (.int (own_climb gr_40 gp_40 rd 3 (gl_89 (0 : Int32)))), .val (.long (Int32.toInt64 (((own_dep (5 : Int32)) - (own_dep (3 : Int32))) + (1 : Int32)))), .second] []))
        refine Go.step (fun _ k => XS.iload X107.here hx rfl (hb hby at_287) rfl  k) ?_
        show Go _ _ _ _ _ _ _ (T107.setTop (mkF m 289 #[.val (.int qa), .val (.int qb), .val (.int qc), .val (.int qs), .val (.int qq), .val (.int r1), .val (.int r2), .val (.int r3), .val (.int rd), .val (.int ks), .val (.ref b1), .val (.int (1 : Int32)), .val (.int (2 : Int32)), .val (.int (3 : Int32)), .val (.int (4 : Int32)), .val (.int (5 : Int32)), .val (.int (5 : Int32)), .val (.int (3 : Int32)), .val (.int (own_climb gr_40 gp_40 rd 3 (gl_89 (0 : Int32)))), .val (.long (Int32.toInt64 (((own_dep (5 : Int32)) - (own_dep (3 : Int32))) + (1 : Int32)))), .second] [(.int (own_climb gr_40 gp_40 rd 3 (gl_89 (0 : Int32))))]))
        refine Go.step (fun _ k => XS.iload X107.here hx rfl (hb hby at_289) rfl  k) ?_
        show Go _ _ _ _ _ _ _ (T107.setTop (mkF m 291 #[.val (.int qa), .val (.int qb), .val (.int qc), .val (.int qs), .val (.int qq), .val (.int r1), .val (.int r2), .val (.int r3), .val (.int rd), .val (.int ks), .val (.ref b1), .val (.int (1 : Int32)), .val (.int (2 : Int32)), .val (.int (3 : Int32)), .val (.int (4 : Int32)), .val (.int (5 : Int32)), .val (.int (5 : Int32)), .val (.int (3 : Int32)), .val (.int (own_climb gr_40 gp_40 rd 3 (gl_89 (0 : Int32)))), .val (.long (Int32.toInt64 (((own_dep (5 : Int32)) - (own_dep (3 : Int32))) + (1 : Int32)))), .second] [(.int (3 : Int32)), (.int (own_climb gr_40 gp_40 rd 3 (gl_89 (0 : Int32))))]))
        have hc291 : (own_climb gr_40 gp_40 rd 3 (gl_89 (0 : Int32))) = (3 : Int32) := by rw [u89_0, (own_c5 vR5 vP5 vR3 vP3 vR1 vP1 vR0 hrd).2, if_pos hc152, if_neg hc165]
        refine Go.step (fun _ k => XS.icmpNo X107.here hx rfl (hb hby at_291) rfl (teq hc291).2 k) ?_
        show Go _ _ _ _ _ _ _ (T107.setTop (mkF m 294 #[.val (.int qa), .val (.int qb), .val (.int qc), .val (.int qs), .val (.int qq), .val (.int r1), .val (.int r2), .val (.int r3), .val (.int rd), .val (.int ks), .val (.ref b1), .val (.int (1 : Int32)), .val (.int (2 : Int32)), .val (.int (3 : Int32)), .val (.int (4 : Int32)), .val (.int (5 : Int32)), .val (.int (5 : Int32)), .val (.int (3 : Int32)), .val (.int (own_climb gr_40 gp_40 rd 3 (gl_89 (0 : Int32)))), .val (.long (Int32.toInt64 (((own_dep (5 : Int32)) - (own_dep (3 : Int32))) + (1 : Int32)))), .second] []))
        refine Go.step (fun _ k => XS.aload X107.here hx rfl (hb hby at_294) rfl rfl  k) ?_
        show Go _ _ _ _ _ _ _ (T107.setTop (mkF m 296 #[.val (.int qa), .val (.int qb), .val (.int qc), .val (.int qs), .val (.int qq), .val (.int r1), .val (.int r2), .val (.int r3), .val (.int rd), .val (.int ks), .val (.ref b1), .val (.int (1 : Int32)), .val (.int (2 : Int32)), .val (.int (3 : Int32)), .val (.int (4 : Int32)), .val (.int (5 : Int32)), .val (.int (5 : Int32)), .val (.int (3 : Int32)), .val (.int (own_climb gr_40 gp_40 rd 3 (gl_89 (0 : Int32)))), .val (.long (Int32.toInt64 (((own_dep (5 : Int32)) - (own_dep (3 : Int32))) + (1 : Int32)))), .second] [(.ref b1)]))
        obtain ⟨cq108, kq108, q108a, q108b, q108c⟩ := isOf hZ e107 c103_0
        obtain ⟨_, _, ⟨T108, L108, k108, n108⟩, -, X108, ⟨Lc108, hQ108, l108, y108, z108⟩, st108⟩ := X107.virtualBack hx (y := (⟨"com/example/both_ways/bothways/equivalence/SplitHistory", "getVisitCount", "()J"⟩ : MethodName)) (z := (⟨"com/example/both_ways/bothways/equivalence/SplitHistory", "getVisitCount", "()J"⟩ : MethodName)) hown (mvT hZ (hw _ (List.mem_of_getElem? (i := 42) rfl))) (mvT hZ (hw _ (List.mem_of_getElem? (i := 43) rfl))) (notFace_of_selects (args := #[]) (mvT hZ (hw _ (List.mem_of_getElem? (i := 45) rfl)))) (mvT hZ (hw _ (List.mem_of_getElem? (i := 45) rfl))) (mvT hZ (hw _ (List.mem_of_getElem? (i := 44) rfl))) (by decide) (backOf (W := 0) (rm7 l Z aZ hw [] b1 ((0 : Int64) + Int32.toInt64 (((gd_40 (gl_89 (0 : Int32))) - (gd_40 (own_climb gr_40 gp_40 rd 3 (gl_89 (0 : Int32))))) + (1 : Int32))) T103.heap n0 z104 c103_1) hZ (hw _ (List.mem_of_getElem? (i := 46) rfl)) (hw _ (List.mem_of_getElem? (i := 3) rfl)) (by decide) (by decide)) q108a q108c (g := (mkF m 296 #[.val (.int qa), .val (.int qb), .val (.int qc), .val (.int qs), .val (.int qq), .val (.int r1), .val (.int r2), .val (.int r3), .val (.int rd), .val (.int ks), .val (.ref b1), .val (.int (1 : Int32)), .val (.int (2 : Int32)), .val (.int (3 : Int32)), .val (.int (4 : Int32)), .val (.int (5 : Int32)), .val (.int (5 : Int32)), .val (.int (3 : Int32)), .val (.int (own_climb gr_40 gp_40 rd 3 (gl_89 (0 : Int32)))), .val (.long (Int32.toInt64 (((own_dep (5 : Int32)) - (own_dep (3 : Int32))) + (1 : Int32)))), .second] [(.ref b1)])) rfl (by rw [hml]; rfl) (Steps.refl _) (argsL := []) (rest := []) (lenOf pd_4 rfl) rfl (by show 2 * 0 + _ ≤ _; exact Nat.le_of_eq rfl) (hb hby at_296) (fun _ _ => ⟨rfl, e107, (by decide : 5 + 0 ≤ _), (by decide : 56 + 0 ≤ _)⟩)
        dsimp only [Pt.U, Pt.locs, Pt.cells, Pt.slots] at X108 l108 y108 z108 st108 hQ108
        subst l108 y108 z108
        obtain ⟨rfl, Nq108, e108⟩ := hQ108
        have N108 := Fr.app N107 Nq108
        refine Go.tr st108 ?_
        show Go _ _ _ _ _ _ _ (T108.setTop (mkF m 299 #[.val (.int qa), .val (.int qb), .val (.int qc), .val (.int qs), .val (.int qq), .val (.int r1), .val (.int r2), .val (.int r3), .val (.int rd), .val (.int ks), .val (.ref b1), .val (.int (1 : Int32)), .val (.int (2 : Int32)), .val (.int (3 : Int32)), .val (.int (4 : Int32)), .val (.int (5 : Int32)), .val (.int (5 : Int32)), .val (.int (3 : Int32)), .val (.int (own_climb gr_40 gp_40 rd 3 (gl_89 (0 : Int32)))), .val (.long (Int32.toInt64 (((own_dep (5 : Int32)) - (own_dep (3 : Int32))) + (1 : Int32)))), .second] [(.long ((0 : Int64) + Int32.toInt64 (((gd_40 (gl_89 (0 : Int32))) - (gd_40 (own_climb gr_40 gp_40 rd 3 (gl_89 (0 : Int32))))) + (1 : Int32))))]))
        refine Go.step (fun _ k => XS.lload X108.here hx rfl (hb hby at_299) rfl  k) ?_
        show Go _ _ _ _ _ _ _ (T108.setTop (mkF m 301 #[.val (.int qa), .val (.int qb), .val (.int qc), .val (.int qs), .val (.int qq), .val (.int r1), .val (.int r2), .val (.int r3), .val (.int rd), .val (.int ks), .val (.ref b1), .val (.int (1 : Int32)), .val (.int (2 : Int32)), .val (.int (3 : Int32)), .val (.int (4 : Int32)), .val (.int (5 : Int32)), .val (.int (5 : Int32)), .val (.int (3 : Int32)), .val (.int (own_climb gr_40 gp_40 rd 3 (gl_89 (0 : Int32)))), .val (.long (Int32.toInt64 (((own_dep (5 : Int32)) - (own_dep (3 : Int32))) + (1 : Int32)))), .second] [(.long (Int32.toInt64 (((own_dep (5 : Int32)) - (own_dep (3 : Int32))) + (1 : Int32)))), (.long ((0 : Int64) + Int32.toInt64 (((gd_40 (gl_89 (0 : Int32))) - (gd_40 (own_climb gr_40 gp_40 rd 3 (gl_89 (0 : Int32))))) + (1 : Int32))))]))
        refine Go.step (fun _ k => XS.lcmp X108.here hx rfl (hb hby at_301) rfl k) ?_
        show Go _ _ _ _ _ _ _ (T108.setTop (mkF m 302 #[.val (.int qa), .val (.int qb), .val (.int qc), .val (.int qs), .val (.int qq), .val (.int r1), .val (.int r2), .val (.int r3), .val (.int rd), .val (.int ks), .val (.ref b1), .val (.int (1 : Int32)), .val (.int (2 : Int32)), .val (.int (3 : Int32)), .val (.int (4 : Int32)), .val (.int (5 : Int32)), .val (.int (5 : Int32)), .val (.int (3 : Int32)), .val (.int (own_climb gr_40 gp_40 rd 3 (gl_89 (0 : Int32)))), .val (.long (Int32.toInt64 (((own_dep (5 : Int32)) - (own_dep (3 : Int32))) + (1 : Int32)))), .second] [(.int (lcmpW ((0 : Int64) + Int32.toInt64 (((gd_40 (gl_89 (0 : Int32))) - (gd_40 (own_climb gr_40 gp_40 rd 3 (gl_89 (0 : Int32))))) + (1 : Int32))) (Int32.toInt64 (((own_dep (5 : Int32)) - (own_dep (3 : Int32))) + (1 : Int32)))))]))
        have hc302 : (lcmpW ((0 : Int64) + Int32.toInt64 (((gd_40 (gl_89 (0 : Int32))) - (gd_40 (own_climb gr_40 gp_40 rd 3 (gl_89 (0 : Int32))))) + (1 : Int32))) (Int32.toInt64 (((own_dep (5 : Int32)) - (own_dep (3 : Int32))) + (1 : Int32)))) = (0 : Int32) := by
          rw [hc291, u89_0, vD5, vD3]
          decide
        refine Go.step (fun _ k => XS.ifNo X108.here hx rfl (hb hby at_302) rfl ((if0 _ _).trans (teq hc302).2) k) ?_
        show Go _ _ _ _ _ _ _ (T108.setTop (mkF m 305 #[.val (.int qa), .val (.int qb), .val (.int qc), .val (.int qs), .val (.int qq), .val (.int r1), .val (.int r2), .val (.int r3), .val (.int rd), .val (.int ks), .val (.ref b1), .val (.int (1 : Int32)), .val (.int (2 : Int32)), .val (.int (3 : Int32)), .val (.int (4 : Int32)), .val (.int (5 : Int32)), .val (.int (5 : Int32)), .val (.int (3 : Int32)), .val (.int (own_climb gr_40 gp_40 rd 3 (gl_89 (0 : Int32)))), .val (.long (Int32.toInt64 (((own_dep (5 : Int32)) - (own_dep (3 : Int32))) + (1 : Int32)))), .second] []))
        refine Go.step (fun _ k => XS.iconst X108.here hx rfl (hb hby at_305) k) ?_
        show Go _ _ _ _ _ _ _ (T108.setTop (mkF m 306 #[.val (.int qa), .val (.int qb), .val (.int qc), .val (.int qs), .val (.int qq), .val (.int r1), .val (.int r2), .val (.int r3), .val (.int rd), .val (.int ks), .val (.ref b1), .val (.int (1 : Int32)), .val (.int (2 : Int32)), .val (.int (3 : Int32)), .val (.int (4 : Int32)), .val (.int (5 : Int32)), .val (.int (5 : Int32)), .val (.int (3 : Int32)), .val (.int (own_climb gr_40 gp_40 rd 3 (gl_89 (0 : Int32)))), .val (.long (Int32.toInt64 (((own_dep (5 : Int32)) - (own_dep (3 : Int32))) + (1 : Int32)))), .second] [(.int (1 : Int32))]))
        refine Go.step (fun _ k => XS.goto X108.here hx rfl (pc0 := 306) (pc' := 310) rfl (hb hby at_306) (by decide) (by decide) k) ?_
        show Go _ _ _ _ _ _ _ (T108.setTop (mkF m 310 #[.val (.int qa), .val (.int qb), .val (.int qc), .val (.int qs), .val (.int qq), .val (.int r1), .val (.int r2), .val (.int r3), .val (.int rd), .val (.int ks), .val (.ref b1), .val (.int (1 : Int32)), .val (.int (2 : Int32)), .val (.int (3 : Int32)), .val (.int (4 : Int32)), .val (.int (5 : Int32)), .val (.int (5 : Int32)), .val (.int (3 : Int32)), .val (.int (own_climb gr_40 gp_40 rd 3 (gl_89 (0 : Int32)))), .val (.long (Int32.toInt64 (((own_dep (5 : Int32)) - (own_dep (3 : Int32))) + (1 : Int32)))), .second] [(.int (1 : Int32))]))
        refine Go.retN X108 hx (t := .boolean) Bd.returns (by simp) hlk (hb hby at_310) ?_ (by decide) (by decide)
        rw [e108]
        exact ⟨(by first | rfl | (simp_all [own_nb1, own_nb0]; done)), N108⟩
    · skip
      refine Go.step (fun _ k => XS.icmpNo X40.here hx rfl (hb hby at_152) rfl (flt hc152).1 k) ?_
      show Go _ _ _ _ _ _ _ (T40.setTop (mkF m 155 #[.val (.int qa), .val (.int qb), .val (.int qc), .val (.int qs), .val (.int qq), .val (.int r1), .val (.int r2), .val (.int r3), .val (.int rd), .val (.int ks), .val (.ref b1), .val (.int (1 : Int32)), .val (.int (2 : Int32)), .val (.int (3 : Int32)), .val (.int (4 : Int32)), .val (.int (5 : Int32)), .val (.int (5 : Int32)), .unset, .unset, .unset, .unset] []))
      refine Go.step (fun _ k => XS.iconst X40.here hx rfl (hb hby at_155) k) ?_
      show Go _ _ _ _ _ _ _ (T40.setTop (mkF m 156 #[.val (.int qa), .val (.int qb), .val (.int qc), .val (.int qs), .val (.int qq), .val (.int r1), .val (.int r2), .val (.int r3), .val (.int rd), .val (.int ks), .val (.ref b1), .val (.int (1 : Int32)), .val (.int (2 : Int32)), .val (.int (3 : Int32)), .val (.int (4 : Int32)), .val (.int (5 : Int32)), .val (.int (5 : Int32)), .unset, .unset, .unset, .unset] [(.int (5 : Int32))]))
      refine Go.step (fun _ k => XS.istore X40.here hx rfl (hb hby at_156) rfl (l' := #[.val (.int qa), .val (.int qb), .val (.int qc), .val (.int qs), .val (.int qq), .val (.int r1), .val (.int r2), .val (.int r3), .val (.int rd), .val (.int ks), .val (.ref b1), .val (.int (1 : Int32)), .val (.int (2 : Int32)), .val (.int (3 : Int32)), .val (.int (4 : Int32)), .val (.int (5 : Int32)), .val (.int (5 : Int32)), .val (.int (5 : Int32)), .unset, .unset, .unset]) rfl k) ?_
      show Go _ _ _ _ _ _ _ (T40.setTop (mkF m 158 #[.val (.int qa), .val (.int qb), .val (.int qc), .val (.int qs), .val (.int qq), .val (.int r1), .val (.int r2), .val (.int r3), .val (.int rd), .val (.int ks), .val (.ref b1), .val (.int (1 : Int32)), .val (.int (2 : Int32)), .val (.int (3 : Int32)), .val (.int (4 : Int32)), .val (.int (5 : Int32)), .val (.int (5 : Int32)), .val (.int (5 : Int32)), .unset, .unset, .unset] []))
      refine Go.step (fun _ k => XS.goto X40.here hx rfl (pc0 := 158) (pc' := 253) rfl (hb hby at_158) (by decide) (by decide) k) ?_
      show Go _ _ _ _ _ _ _ (T40.setTop (mkF m 253 #[.val (.int qa), .val (.int qb), .val (.int qc), .val (.int qs), .val (.int qq), .val (.int r1), .val (.int r2), .val (.int r3), .val (.int rd), .val (.int ks), .val (.ref b1), .val (.int (1 : Int32)), .val (.int (2 : Int32)), .val (.int (3 : Int32)), .val (.int (4 : Int32)), .val (.int (5 : Int32)), .val (.int (5 : Int32)), .val (.int (5 : Int32)), .unset, .unset, .unset] []))
      refine Go.step (fun _ k => XS.aload X40.here hx rfl (hb hby at_253) rfl rfl  k) ?_
      show Go _ _ _ _ _ _ _ (T40.setTop (mkF m 255 #[.val (.int qa), .val (.int qb), .val (.int qc), .val (.int qs), .val (.int qq), .val (.int r1), .val (.int r2), .val (.int r3), .val (.int rd), .val (.int ks), .val (.ref b1), .val (.int (1 : Int32)), .val (.int (2 : Int32)), .val (.int (3 : Int32)), .val (.int (4 : Int32)), .val (.int (5 : Int32)), .val (.int (5 : Int32)), .val (.int (5 : Int32)), .unset, .unset, .unset] [(.ref b1)]))
      refine Go.step (fun _ k => XS.iconst X40.here hx rfl (hb hby at_255) k) ?_
      show Go _ _ _ _ _ _ _ (T40.setTop (mkF m 256 #[.val (.int qa), .val (.int qb), .val (.int qc), .val (.int qs), .val (.int qq), .val (.int r1), .val (.int r2), .val (.int r3), .val (.int rd), .val (.int ks), .val (.ref b1), .val (.int (1 : Int32)), .val (.int (2 : Int32)), .val (.int (3 : Int32)), .val (.int (4 : Int32)), .val (.int (5 : Int32)), .val (.int (5 : Int32)), .val (.int (5 : Int32)), .unset, .unset, .unset] [(.int (0 : Int32)), (.ref b1)]))
      refine Go.step (fun _ k => XS.iload X40.here hx rfl (hb hby at_256) rfl  k) ?_
      show Go _ _ _ _ _ _ _ (T40.setTop (mkF m 258 #[.val (.int qa), .val (.int qb), .val (.int qc), .val (.int qs), .val (.int qq), .val (.int r1), .val (.int r2), .val (.int r3), .val (.int rd), .val (.int ks), .val (.ref b1), .val (.int (1 : Int32)), .val (.int (2 : Int32)), .val (.int (3 : Int32)), .val (.int (4 : Int32)), .val (.int (5 : Int32)), .val (.int (5 : Int32)), .val (.int (5 : Int32)), .unset, .unset, .unset] [(.int (5 : Int32)), (.int (0 : Int32)), (.ref b1)]))
      have f109 : Ai Z T40.heap bl_11 .int (1 : Int32) (fun _ => 0) := (((((c11_14.keep K20 (ninS (Ne.symm c11_18) (ninS (Ne.symm c11_21) (ninS (Ne.symm c11_23) (ninS (Ne.symm c11_24) nin0))))).keep K25 (ninS (Ne.symm c11_18) (ninS (Ne.symm c11_21) (ninS (Ne.symm c11_23) (ninS (Ne.symm c11_24) nin0))))).keep K30 (ninS (Ne.symm c11_18) (ninS (Ne.symm c11_21) (ninS (Ne.symm c11_23) (ninS (Ne.symm c11_24) nin0))))).keep K35 (ninS (Ne.symm c11_18) (ninS (Ne.symm c11_21) (ninS (Ne.symm c11_23) (ninS (Ne.symm c11_24) nin0))))).keep K40 (ninS (Ne.symm c11_18) (ninS (Ne.symm c11_21) (ninS (Ne.symm c11_23) (ninS (Ne.symm c11_24) nin0)))))
      have pq110 : (0 : Int32) = (0 : Int32) := rfl
      obtain ⟨cq111, kq111, q111a, q111b, q111c⟩ := isOf hZ rfl c40_0
      obtain ⟨_, _, ⟨T111, L111, k111, n111⟩, -, X111, ⟨Lc111, hQ111, l111, y111, z111⟩, st111⟩ := X40.virtualBack hx (y := (⟨"com/example/both_ways/bothways/equivalence/SplitHistory", "place", "(II)V"⟩ : MethodName)) (z := (⟨"com/example/both_ways/bothways/equivalence/SplitHistory", "place", "(II)V"⟩ : MethodName)) hown (mvT hZ (hw _ (List.mem_of_getElem? (i := 26) rfl))) (mvT hZ (hw _ (List.mem_of_getElem? (i := 27) rfl))) (notFace_of_selects (args := #[]) (mvT hZ (hw _ (List.mem_of_getElem? (i := 29) rfl)))) (mvT hZ (hw _ (List.mem_of_getElem? (i := 29) rfl))) (mvT hZ (hw _ (List.mem_of_getElem? (i := 28) rfl))) (by decide) (backOf (W := 0) (rm4 l Z aZ hw [] b1 (0 : Int32) (5 : Int32) bl_11 (fun _ => 0) T40.heap n0 z41 c40_4 f109 gn11_3 pq110) hZ (hw _ (List.mem_of_getElem? (i := 30) rfl)) (hw _ (List.mem_of_getElem? (i := 3) rfl)) (by decide) (by decide)) q111a q111c (g := (mkF m 258 #[.val (.int qa), .val (.int qb), .val (.int qc), .val (.int qs), .val (.int qq), .val (.int r1), .val (.int r2), .val (.int r3), .val (.int rd), .val (.int ks), .val (.ref b1), .val (.int (1 : Int32)), .val (.int (2 : Int32)), .val (.int (3 : Int32)), .val (.int (4 : Int32)), .val (.int (5 : Int32)), .val (.int (5 : Int32)), .val (.int (5 : Int32)), .unset, .unset, .unset] [(.int (5 : Int32)), (.int (0 : Int32)), (.ref b1)])) rfl (by rw [hml]; rfl) (Steps.refl _) (argsL := [(.int (0 : Int32)), (.int (5 : Int32))]) (rest := []) (lenOf pd_2 rfl) rfl (by show 2 * 0 + _ ≤ _; exact Nat.le_of_eq rfl) (hb hby at_258) (fun _ _ => ⟨rfl, rfl, (by decide : 5 + 0 ≤ _), (by decide : 56 + 0 ≤ _)⟩)
      dsimp only [Pt.U, Pt.locs, Pt.cells, Pt.slots] at X111 l111 y111 z111 st111 hQ111
      subst l111 y111 z111
      obtain ⟨gl_111, rfl, Nq111, K111, c111_0, u111_0⟩ := hQ111
      have N111 := Fr.app N40 Nq111
      refine Go.tr st111 ?_
      have z112 : n0 ≤ T111.heap.size := Nat.le_trans z41 K111.1
      have sqz112 : h0.size ≤ T111.heap.size := Nat.le_trans sqz41 K111.1
      show Go _ _ _ _ _ _ _ (T111.setTop (mkF m 261 #[.val (.int qa), .val (.int qb), .val (.int qc), .val (.int qs), .val (.int qq), .val (.int r1), .val (.int r2), .val (.int r3), .val (.int rd), .val (.int ks), .val (.ref b1), .val (.int (1 : Int32)), .val (.int (2 : Int32)), .val (.int (3 : Int32)), .val (.int (4 : Int32)), .val (.int (5 : Int32)), .val (.int (5 : Int32)), .val (.int (5 : Int32)), .unset, .unset, .unset] []))
      refine Go.step (fun _ k => XS.aload X111.here hx rfl (hb hby at_261) rfl rfl  k) ?_
      show Go _ _ _ _ _ _ _ (T111.setTop (mkF m 263 #[.val (.int qa), .val (.int qb), .val (.int qc), .val (.int qs), .val (.int qq), .val (.int r1), .val (.int r2), .val (.int r3), .val (.int rd), .val (.int ks), .val (.ref b1), .val (.int (1 : Int32)), .val (.int (2 : Int32)), .val (.int (3 : Int32)), .val (.int (4 : Int32)), .val (.int (5 : Int32)), .val (.int (5 : Int32)), .val (.int (5 : Int32)), .unset, .unset, .unset] [(.ref b1)]))
      refine Go.step (fun _ k => XS.iconst X111.here hx rfl (hb hby at_263) k) ?_
      show Go _ _ _ _ _ _ _ (T111.setTop (mkF m 264 #[.val (.int qa), .val (.int qb), .val (.int qc), .val (.int qs), .val (.int qq), .val (.int r1), .val (.int r2), .val (.int r3), .val (.int rd), .val (.int ks), .val (.ref b1), .val (.int (1 : Int32)), .val (.int (2 : Int32)), .val (.int (3 : Int32)), .val (.int (4 : Int32)), .val (.int (5 : Int32)), .val (.int (5 : Int32)), .val (.int (5 : Int32)), .unset, .unset, .unset] [(.int (0 : Int32)), (.ref b1)]))
      refine Go.step (fun _ k => XS.iload X111.here hx rfl (hb hby at_264) rfl  k) ?_
      show Go _ _ _ _ _ _ _ (T111.setTop (mkF m 266 #[.val (.int qa), .val (.int qb), .val (.int qc), .val (.int qs), .val (.int qq), .val (.int r1), .val (.int r2), .val (.int r3), .val (.int rd), .val (.int ks), .val (.ref b1), .val (.int (1 : Int32)), .val (.int (2 : Int32)), .val (.int (3 : Int32)), .val (.int (4 : Int32)), .val (.int (5 : Int32)), .val (.int (5 : Int32)), .val (.int (5 : Int32)), .unset, .unset, .unset] [(.int rd), (.int (0 : Int32)), (.ref b1)]))
      have f114 : Exa Z T111.heap b1 "com/example/both_ways/bothways/equivalence/SplitHistory" := (c40_0.keep K111)
      have f115 : Fld Z T111.heap b1 "com/example/both_ways/bothways/equivalence/SplitHistory" "parents" "[I" (.ref bp_11) := (c40_1.keep K111 (ninS c11_18 nin0))
      have f116 : Fld Z T111.heap b1 "com/example/both_ways/bothways/equivalence/SplitHistory" "rounds" "[I" (.ref br_11) := (c40_2.keep K111 (ninS c11_18 nin0))
      have f117 : Fld Z T111.heap b1 "com/example/both_ways/bothways/equivalence/SplitHistory" "depths" "[I" (.ref bd_11) := (c40_3.keep K111 (ninS c11_18 nin0))
      have f118 : Fld Z T111.heap b1 "com/example/both_ways/bothways/equivalence/SplitHistory" "leaves" "[I" (.ref bl_11) := (c40_4.keep K111 (ninS c11_18 nin0))
      have f119 : Fld Z T111.heap b1 "com/example/both_ways/bothways/equivalence/SplitHistory" "visits" "J" (.long (0 : Int64)) := (c40_6.keep K111 (ninS c11_18 nin0))
      have f120 : Ai Z T111.heap bp_11 .int (16 : Int32) gp_40 := (c40_7.keep K111 (ninS c11_21 nin0))
      have f121 : Ai Z T111.heap br_11 .int (16 : Int32) gr_40 := (c40_8.keep K111 (ninS c11_23 nin0))
      have f122 : Ai Z T111.heap bd_11 .int (16 : Int32) gd_40 := (c40_9.keep K111 (ninS c11_24 nin0))
      have pq123 : (0 : Int32) = (0 : Int32) := rfl
      have pq124 : own_ok gr_40 gp_40 rd 3 (gl_111 (0 : Int32)) := (by rw [u111_0]; exact (own_c5 vR5 vP5 vR3 vP3 vR1 vP1 vR0 hrd).1)
      obtain ⟨cq125, kq125, q125a, q125b, q125c⟩ := isOf hZ rfl f114
      obtain ⟨_, _, ⟨T125, L125, k125, n125⟩, -, X125, ⟨Lc125, hQ125, l125, y125, z125⟩, st125⟩ := X111.virtualBack hx (y := (⟨"com/example/both_ways/bothways/equivalence/SplitHistory", "blockAfter", "(II)I"⟩ : MethodName)) (z := (⟨"com/example/both_ways/bothways/equivalence/SplitHistory", "blockAfter", "(II)I"⟩ : MethodName)) hown (mvT hZ (hw _ (List.mem_of_getElem? (i := 31) rfl))) (mvT hZ (hw _ (List.mem_of_getElem? (i := 32) rfl))) (notFace_of_selects (args := #[]) (mvT hZ (hw _ (List.mem_of_getElem? (i := 34) rfl)))) (mvT hZ (hw _ (List.mem_of_getElem? (i := 34) rfl))) (mvT hZ (hw _ (List.mem_of_getElem? (i := 33) rfl))) (by decide) (backOf (W := 0) (rm5 l Z aZ hw [] b1 (0 : Int32) rd bp_11 gp_40 br_11 gr_40 bd_11 gd_40 bl_11 gl_111 T111.heap n0 z112 f114 f115 f116 f117 f118 f119 f120 f121 f122 c111_0 gn1 pq123 pq124 c11_15 c11_16 c11_17 c11_18 c11_19 c11_20 c11_21 c11_22 c11_23 c11_24) hZ (hw _ (List.mem_of_getElem? (i := 35) rfl)) (hw _ (List.mem_of_getElem? (i := 3) rfl)) (by decide) (by decide)) q125a q125c (g := (mkF m 266 #[.val (.int qa), .val (.int qb), .val (.int qc), .val (.int qs), .val (.int qq), .val (.int r1), .val (.int r2), .val (.int r3), .val (.int rd), .val (.int ks), .val (.ref b1), .val (.int (1 : Int32)), .val (.int (2 : Int32)), .val (.int (3 : Int32)), .val (.int (4 : Int32)), .val (.int (5 : Int32)), .val (.int (5 : Int32)), .val (.int (5 : Int32)), .unset, .unset, .unset] [(.int rd), (.int (0 : Int32)), (.ref b1)])) rfl (by rw [hml]; rfl) (Steps.refl _) (argsL := [(.int (0 : Int32)), (.int rd)]) (rest := []) (lenOf pd_1 rfl) rfl (by show 2 * 0 + _ ≤ _; exact Nat.le_of_eq rfl) (hb hby at_266) (fun _ _ => ⟨rfl, rfl, (by decide : 5 + 0 ≤ _), (by decide : 56 + 0 ≤ _)⟩)
      dsimp only [Pt.U, Pt.locs, Pt.cells, Pt.slots] at X125 l125 y125 z125 st125 hQ125
      subst l125 y125 z125
      obtain ⟨rfl, Nq125, K125, c125_0, c125_1⟩ := hQ125
      have N125 := Fr.app N111 Nq125
      refine Go.tr st125 ?_
      have z126 : n0 ≤ T125.heap.size := Nat.le_trans z112 K125.1
      have sqz126 : h0.size ≤ T125.heap.size := Nat.le_trans sqz112 K125.1
      show Go _ _ _ _ _ _ _ (T125.setTop (mkF m 269 #[.val (.int qa), .val (.int qb), .val (.int qc), .val (.int qs), .val (.int qq), .val (.int r1), .val (.int r2), .val (.int r3), .val (.int rd), .val (.int ks), .val (.ref b1), .val (.int (1 : Int32)), .val (.int (2 : Int32)), .val (.int (3 : Int32)), .val (.int (4 : Int32)), .val (.int (5 : Int32)), .val (.int (5 : Int32)), .val (.int (5 : Int32)), .unset, .unset, .unset] [(.int (own_climb gr_40 gp_40 rd 3 (gl_111 (0 : Int32))))]))
      refine Go.step (fun _ k => XS.istore X125.here hx rfl (hb hby at_269) rfl (l' := #[.val (.int qa), .val (.int qb), .val (.int qc), .val (.int qs), .val (.int qq), .val (.int r1), .val (.int r2), .val (.int r3), .val (.int rd), .val (.int ks), .val (.ref b1), .val (.int (1 : Int32)), .val (.int (2 : Int32)), .val (.int (3 : Int32)), .val (.int (4 : Int32)), .val (.int (5 : Int32)), .val (.int (5 : Int32)), .val (.int (5 : Int32)), .val (.int (own_climb gr_40 gp_40 rd 3 (gl_111 (0 : Int32)))), .unset, .unset]) rfl k) ?_
      show Go _ _ _ _ _ _ _ (T125.setTop (mkF m 271 #[.val (.int qa), .val (.int qb), .val (.int qc), .val (.int qs), .val (.int qq), .val (.int r1), .val (.int r2), .val (.int r3), .val (.int rd), .val (.int ks), .val (.ref b1), .val (.int (1 : Int32)), .val (.int (2 : Int32)), .val (.int (3 : Int32)), .val (.int (4 : Int32)), .val (.int (5 : Int32)), .val (.int (5 : Int32)), .val (.int (5 : Int32)), .val (.int (own_climb gr_40 gp_40 rd 3 (gl_111 (0 : Int32)))), .unset, .unset] []))
      refine Go.step (fun _ k => XS.iload X125.here hx rfl (hb hby at_271) rfl  k) ?_
      show Go _ _ _ _ _ _ _ (T125.setTop (mkF m 273 #[.val (.int qa), .val (.int qb), .val (.int qc), .val (.int qs), .val (.int qq), .val (.int r1), .val (.int r2), .val (.int r3), .val (.int rd), .val (.int ks), .val (.ref b1), .val (.int (1 : Int32)), .val (.int (2 : Int32)), .val (.int (3 : Int32)), .val (.int (4 : Int32)), .val (.int (5 : Int32)), .val (.int (5 : Int32)), .val (.int (5 : Int32)), .val (.int (own_climb gr_40 gp_40 rd 3 (gl_111 (0 : Int32)))), .unset, .unset] [(.int (5 : Int32))]))
      obtain ⟨_, _, ⟨T128, L128, k128, n128⟩, -, X128, ⟨Lc128, hQ128, l128, y128, z128⟩, st128⟩ := Jvm.LawKit.callS X125 hx (y := (⟨"com/example/both_ways/bothways/equivalence/SplitHistoryBlockAfterPinLaw", "depthOf", "(I)I"⟩ : MethodName)) hown (mvT hZ (hw _ (List.mem_of_getElem? (i := 38) rfl))) (mvT hZ (hw _ (List.mem_of_getElem? (i := 39) rfl))) (mvT hZ (hw _ (List.mem_of_getElem? (i := 40) rfl))) (mvT hZ (hw _ (List.mem_of_getElem? (i := 41) rfl))) (by decide) (backOf (W := 0) (rm6 l Z aZ hw [] (5 : Int32) T125.heap n0 z126 ) hZ (hw _ (List.mem_of_getElem? (i := 41) rfl)) (hw _ (List.mem_of_getElem? (i := 40) rfl)) (by decide) (by decide)) (g := (mkF m 273 #[.val (.int qa), .val (.int qb), .val (.int qc), .val (.int qs), .val (.int qq), .val (.int r1), .val (.int r2), .val (.int r3), .val (.int rd), .val (.int ks), .val (.ref b1), .val (.int (1 : Int32)), .val (.int (2 : Int32)), .val (.int (3 : Int32)), .val (.int (4 : Int32)), .val (.int (5 : Int32)), .val (.int (5 : Int32)), .val (.int (5 : Int32)), .val (.int (own_climb gr_40 gp_40 rd 3 (gl_111 (0 : Int32)))), .unset, .unset] [(.int (5 : Int32))])) rfl (by rw [hml]; rfl) (argsL := [(.int (5 : Int32))]) (rest := []) (lenOf pd_3 rfl) rfl (by show 2 * 0 + _ ≤ _; exact Nat.le_of_eq rfl) (hb hby at_273) (fun _ _ => ⟨rfl, rfl, (by decide : 5 + 0 ≤ _), (by decide : 56 + 0 ≤ _)⟩)
      dsimp only [Pt.U, Pt.locs, Pt.cells, Pt.slots] at X128 l128 y128 z128 st128 hQ128
      subst l128 y128 z128
      obtain ⟨rfl, Nq128, e128⟩ := hQ128
      have N128 := Fr.app N125 Nq128
      refine Go.step st128 ?_
      show Go _ _ _ _ _ _ _ (T128.setTop (mkF m 276 #[.val (.int qa), .val (.int qb), .val (.int qc), .val (.int qs), .val (.int qq), .val (.int r1), .val (.int r2), .val (.int r3), .val (.int rd), .val (.int ks), .val (.ref b1), .val (.int (1 : Int32)), .val (.int (2 : Int32)), .val (.int (3 : Int32)), .val (.int (4 : Int32)), .val (.int (5 : Int32)), .val (.int (5 : Int32)), .val (.int (5 : Int32)), .val (.int (own_climb gr_40 gp_40 rd 3 (gl_111 (0 : Int32)))), .unset, .unset] [(.int (own_dep (5 : Int32)))]))
      refine Go.step (fun _ k => XS.iload X128.here hx rfl (hb hby at_276) rfl  k) ?_
      show Go _ _ _ _ _ _ _ (T128.setTop (mkF m 278 #[.val (.int qa), .val (.int qb), .val (.int qc), .val (.int qs), .val (.int qq), .val (.int r1), .val (.int r2), .val (.int r3), .val (.int rd), .val (.int ks), .val (.ref b1), .val (.int (1 : Int32)), .val (.int (2 : Int32)), .val (.int (3 : Int32)), .val (.int (4 : Int32)), .val (.int (5 : Int32)), .val (.int (5 : Int32)), .val (.int (5 : Int32)), .val (.int (own_climb gr_40 gp_40 rd 3 (gl_111 (0 : Int32)))), .unset, .unset] [(.int (5 : Int32)), (.int (own_dep (5 : Int32)))]))
      obtain ⟨_, _, ⟨T129, L129, k129, n129⟩, -, X129, ⟨Lc129, hQ129, l129, y129, z129⟩, st129⟩ := Jvm.LawKit.callS X128 hx (y := (⟨"com/example/both_ways/bothways/equivalence/SplitHistoryBlockAfterPinLaw", "depthOf", "(I)I"⟩ : MethodName)) hown (mvT hZ (hw _ (List.mem_of_getElem? (i := 38) rfl))) (mvT hZ (hw _ (List.mem_of_getElem? (i := 39) rfl))) (mvT hZ (hw _ (List.mem_of_getElem? (i := 40) rfl))) (mvT hZ (hw _ (List.mem_of_getElem? (i := 41) rfl))) (by decide) (backOf (W := 1) (rm6 l Z aZ hw [] (5 : Int32) T125.heap n0 z126 ) hZ (hw _ (List.mem_of_getElem? (i := 41) rfl)) (hw _ (List.mem_of_getElem? (i := 40) rfl)) (by decide) (by decide)) (g := (mkF m 278 #[.val (.int qa), .val (.int qb), .val (.int qc), .val (.int qs), .val (.int qq), .val (.int r1), .val (.int r2), .val (.int r3), .val (.int rd), .val (.int ks), .val (.ref b1), .val (.int (1 : Int32)), .val (.int (2 : Int32)), .val (.int (3 : Int32)), .val (.int (4 : Int32)), .val (.int (5 : Int32)), .val (.int (5 : Int32)), .val (.int (5 : Int32)), .val (.int (own_climb gr_40 gp_40 rd 3 (gl_111 (0 : Int32)))), .unset, .unset] [(.int (5 : Int32)), (.int (own_dep (5 : Int32)))])) rfl (by rw [hml]; rfl) (argsL := [(.int (5 : Int32))]) (rest := [(.int (own_dep (5 : Int32)))]) (lenOf pd_3 rfl) rfl (by show 2 * 0 + _ ≤ _; exact Nat.le_of_eq rfl) (hb hby at_278) (fun _ _ => ⟨rfl, e128, (by decide : 5 + 0 ≤ _), (by decide : 56 + 0 ≤ _)⟩)
      dsimp only [Pt.U, Pt.locs, Pt.cells, Pt.slots] at X129 l129 y129 z129 st129 hQ129
      subst l129 y129 z129
      obtain ⟨rfl, Nq129, e129⟩ := hQ129
      have N129 := Fr.app N128 Nq129
      refine Go.step st129 ?_
      show Go _ _ _ _ _ _ _ (T129.setTop (mkF m 281 #[.val (.int qa), .val (.int qb), .val (.int qc), .val (.int qs), .val (.int qq), .val (.int r1), .val (.int r2), .val (.int r3), .val (.int rd), .val (.int ks), .val (.ref b1), .val (.int (1 : Int32)), .val (.int (2 : Int32)), .val (.int (3 : Int32)), .val (.int (4 : Int32)), .val (.int (5 : Int32)), .val (.int (5 : Int32)), .val (.int (5 : Int32)), .val (.int (own_climb gr_40 gp_40 rd 3 (gl_111 (0 : Int32)))), .unset, .unset] [(.int (own_dep (5 : Int32))), (.int (own_dep (5 : Int32)))]))
      refine Go.step (fun _ k => XS.isub X129.here hx rfl (hb hby at_281) rfl k) ?_
      show Go _ _ _ _ _ _ _ (T129.setTop (mkF m 282 #[.val (.int qa), .val (.int qb), .val (.int qc), .val (.int qs), .val (.int qq), .val (.int r1), .val (.int r2), .val (.int r3), .val (.int rd), .val (.int ks), .val (.ref b1), .val (.int (1 : Int32)), .val (.int (2 : Int32)), .val (.int (3 : Int32)), .val (.int (4 : Int32)), .val (.int (5 : Int32)), .val (.int (5 : Int32)), .val (.int (5 : Int32)), .val (.int (own_climb gr_40 gp_40 rd 3 (gl_111 (0 : Int32)))), .unset, .unset] [(.int ((own_dep (5 : Int32)) - (own_dep (5 : Int32))))]))
      refine Go.step (fun _ k => XS.iconst X129.here hx rfl (hb hby at_282) k) ?_
      show Go _ _ _ _ _ _ _ (T129.setTop (mkF m 283 #[.val (.int qa), .val (.int qb), .val (.int qc), .val (.int qs), .val (.int qq), .val (.int r1), .val (.int r2), .val (.int r3), .val (.int rd), .val (.int ks), .val (.ref b1), .val (.int (1 : Int32)), .val (.int (2 : Int32)), .val (.int (3 : Int32)), .val (.int (4 : Int32)), .val (.int (5 : Int32)), .val (.int (5 : Int32)), .val (.int (5 : Int32)), .val (.int (own_climb gr_40 gp_40 rd 3 (gl_111 (0 : Int32)))), .unset, .unset] [(.int (1 : Int32)), (.int ((own_dep (5 : Int32)) - (own_dep (5 : Int32))))]))
      refine Go.step (fun _ k => XS.iadd X129.here hx rfl (hb hby at_283) rfl k) ?_
      show Go _ _ _ _ _ _ _ (T129.setTop (mkF m 284 #[.val (.int qa), .val (.int qb), .val (.int qc), .val (.int qs), .val (.int qq), .val (.int r1), .val (.int r2), .val (.int r3), .val (.int rd), .val (.int ks), .val (.ref b1), .val (.int (1 : Int32)), .val (.int (2 : Int32)), .val (.int (3 : Int32)), .val (.int (4 : Int32)), .val (.int (5 : Int32)), .val (.int (5 : Int32)), .val (.int (5 : Int32)), .val (.int (own_climb gr_40 gp_40 rd 3 (gl_111 (0 : Int32)))), .unset, .unset] [(.int (((own_dep (5 : Int32)) - (own_dep (5 : Int32))) + (1 : Int32)))]))
      refine Go.step (fun _ k => XS.i2l X129.here hx rfl (hb hby at_284) rfl k) ?_
      show Go _ _ _ _ _ _ _ (T129.setTop (mkF m 285 #[.val (.int qa), .val (.int qb), .val (.int qc), .val (.int qs), .val (.int qq), .val (.int r1), .val (.int r2), .val (.int r3), .val (.int rd), .val (.int ks), .val (.ref b1), .val (.int (1 : Int32)), .val (.int (2 : Int32)), .val (.int (3 : Int32)), .val (.int (4 : Int32)), .val (.int (5 : Int32)), .val (.int (5 : Int32)), .val (.int (5 : Int32)), .val (.int (own_climb gr_40 gp_40 rd 3 (gl_111 (0 : Int32)))), .unset, .unset] [(.long (Int32.toInt64 (((own_dep (5 : Int32)) - (own_dep (5 : Int32))) + (1 : Int32))))]))
      refine Go.step (fun _ k => XS.lstore X129.here hx rfl (hb hby at_285) rfl (l' := #[.val (.int qa), .val (.int qb), .val (.int qc), .val (.int qs), .val (.int qq), .val (.int r1), .val (.int r2), .val (.int r3), .val (.int rd), .val (.int ks), .val (.ref b1), .val (.int (1 : Int32)), .val (.int (2 : Int32)), .val (.int (3 : Int32)), .val (.int (4 : Int32)), .val (.int (5 : Int32)), .val (.int (5 : Int32)), .val (.int (5 : Int32)), .val (.int (own_climb gr_40 gp_40 rd 3 (gl_111 (0 : Int32)))), .val (.long (Int32.toInt64 (((own_dep (5 : Int32)) - (own_dep (5 : Int32))) + (1 : Int32)))), .second]) rfl k) ?_
      show Go _ _ _ _ _ _ _ (T129.setTop (mkF m 287 #[.val (.int qa), .val (.int qb), .val (.int qc), .val (.int qs), .val (.int qq), .val (.int r1), .val (.int r2), .val (.int r3), .val (.int rd), .val (.int ks), .val (.ref b1), .val (.int (1 : Int32)), .val (.int (2 : Int32)), .val (.int (3 : Int32)), .val (.int (4 : Int32)), .val (.int (5 : Int32)), .val (.int (5 : Int32)), .val (.int (5 : Int32)), .val (.int (own_climb gr_40 gp_40 rd 3 (gl_111 (0 : Int32)))), .val (.long (Int32.toInt64 (((own_dep (5 : Int32)) - (own_dep (5 : Int32))) + (1 : Int32)))), .second] []))
      refine Go.step (fun _ k => XS.iload X129.here hx rfl (hb hby at_287) rfl  k) ?_
      show Go _ _ _ _ _ _ _ (T129.setTop (mkF m 289 #[.val (.int qa), .val (.int qb), .val (.int qc), .val (.int qs), .val (.int qq), .val (.int r1), .val (.int r2), .val (.int r3), .val (.int rd), .val (.int ks), .val (.ref b1), .val (.int (1 : Int32)), .val (.int (2 : Int32)), .val (.int (3 : Int32)), .val (.int (4 : Int32)), .val (.int (5 : Int32)), .val (.int (5 : Int32)), .val (.int (5 : Int32)), .val (.int (own_climb gr_40 gp_40 rd 3 (gl_111 (0 : Int32)))), .val (.long (Int32.toInt64 (((own_dep (5 : Int32)) - (own_dep (5 : Int32))) + (1 : Int32)))), .second] [(.int (own_climb gr_40 gp_40 rd 3 (gl_111 (0 : Int32))))]))
      refine Go.step (fun _ k => XS.iload X129.here hx rfl (hb hby at_289) rfl  k) ?_
      show Go _ _ _ _ _ _ _ (T129.setTop (mkF m 291 #[.val (.int qa), .val (.int qb), .val (.int qc), .val (.int qs), .val (.int qq), .val (.int r1), .val (.int r2), .val (.int r3), .val (.int rd), .val (.int ks), .val (.ref b1), .val (.int (1 : Int32)), .val (.int (2 : Int32)), .val (.int (3 : Int32)), .val (.int (4 : Int32)), .val (.int (5 : Int32)), .val (.int (5 : Int32)), .val (.int (5 : Int32)), .val (.int (own_climb gr_40 gp_40 rd 3 (gl_111 (0 : Int32)))), .val (.long (Int32.toInt64 (((own_dep (5 : Int32)) - (own_dep (5 : Int32))) + (1 : Int32)))), .second] [(.int (5 : Int32)), (.int (own_climb gr_40 gp_40 rd 3 (gl_111 (0 : Int32))))]))
      have hc291 : (own_climb gr_40 gp_40 rd 3 (gl_111 (0 : Int32))) = (5 : Int32) := by rw [u111_0, (own_c5 vR5 vP5 vR3 vP3 vR1 vP1 vR0 hrd).2, if_neg hc152]
      refine Go.step (fun _ k => XS.icmpNo X129.here hx rfl (hb hby at_291) rfl (teq hc291).2 k) ?_
      show Go _ _ _ _ _ _ _ (T129.setTop (mkF m 294 #[.val (.int qa), .val (.int qb), .val (.int qc), .val (.int qs), .val (.int qq), .val (.int r1), .val (.int r2), .val (.int r3), .val (.int rd), .val (.int ks), .val (.ref b1), .val (.int (1 : Int32)), .val (.int (2 : Int32)), .val (.int (3 : Int32)), .val (.int (4 : Int32)), .val (.int (5 : Int32)), .val (.int (5 : Int32)), .val (.int (5 : Int32)), .val (.int (own_climb gr_40 gp_40 rd 3 (gl_111 (0 : Int32)))), .val (.long (Int32.toInt64 (((own_dep (5 : Int32)) - (own_dep (5 : Int32))) + (1 : Int32)))), .second] []))
      refine Go.step (fun _ k => XS.aload X129.here hx rfl (hb hby at_294) rfl rfl  k) ?_
      show Go _ _ _ _ _ _ _ (T129.setTop (mkF m 296 #[.val (.int qa), .val (.int qb), .val (.int qc), .val (.int qs), .val (.int qq), .val (.int r1), .val (.int r2), .val (.int r3), .val (.int rd), .val (.int ks), .val (.ref b1), .val (.int (1 : Int32)), .val (.int (2 : Int32)), .val (.int (3 : Int32)), .val (.int (4 : Int32)), .val (.int (5 : Int32)), .val (.int (5 : Int32)), .val (.int (5 : Int32)), .val (.int (own_climb gr_40 gp_40 rd 3 (gl_111 (0 : Int32)))), .val (.long (Int32.toInt64 (((own_dep (5 : Int32)) - (own_dep (5 : Int32))) + (1 : Int32)))), .second] [(.ref b1)]))
      obtain ⟨cq130, kq130, q130a, q130b, q130c⟩ := isOf hZ e129 c125_0
      obtain ⟨_, _, ⟨T130, L130, k130, n130⟩, -, X130, ⟨Lc130, hQ130, l130, y130, z130⟩, st130⟩ := X129.virtualBack hx (y := (⟨"com/example/both_ways/bothways/equivalence/SplitHistory", "getVisitCount", "()J"⟩ : MethodName)) (z := (⟨"com/example/both_ways/bothways/equivalence/SplitHistory", "getVisitCount", "()J"⟩ : MethodName)) hown (mvT hZ (hw _ (List.mem_of_getElem? (i := 42) rfl))) (mvT hZ (hw _ (List.mem_of_getElem? (i := 43) rfl))) (notFace_of_selects (args := #[]) (mvT hZ (hw _ (List.mem_of_getElem? (i := 45) rfl)))) (mvT hZ (hw _ (List.mem_of_getElem? (i := 45) rfl))) (mvT hZ (hw _ (List.mem_of_getElem? (i := 44) rfl))) (by decide) (backOf (W := 0) (rm7 l Z aZ hw [] b1 ((0 : Int64) + Int32.toInt64 (((gd_40 (gl_111 (0 : Int32))) - (gd_40 (own_climb gr_40 gp_40 rd 3 (gl_111 (0 : Int32))))) + (1 : Int32))) T125.heap n0 z126 c125_1) hZ (hw _ (List.mem_of_getElem? (i := 46) rfl)) (hw _ (List.mem_of_getElem? (i := 3) rfl)) (by decide) (by decide)) q130a q130c (g := (mkF m 296 #[.val (.int qa), .val (.int qb), .val (.int qc), .val (.int qs), .val (.int qq), .val (.int r1), .val (.int r2), .val (.int r3), .val (.int rd), .val (.int ks), .val (.ref b1), .val (.int (1 : Int32)), .val (.int (2 : Int32)), .val (.int (3 : Int32)), .val (.int (4 : Int32)), .val (.int (5 : Int32)), .val (.int (5 : Int32)), .val (.int (5 : Int32)), .val (.int (own_climb gr_40 gp_40 rd 3 (gl_111 (0 : Int32)))), .val (.long (Int32.toInt64 (((own_dep (5 : Int32)) - (own_dep (5 : Int32))) + (1 : Int32)))), .second] [(.ref b1)])) rfl (by rw [hml]; rfl) (Steps.refl _) (argsL := []) (rest := []) (lenOf pd_4 rfl) rfl (by show 2 * 0 + _ ≤ _; exact Nat.le_of_eq rfl) (hb hby at_296) (fun _ _ => ⟨rfl, e129, (by decide : 5 + 0 ≤ _), (by decide : 56 + 0 ≤ _)⟩)
      dsimp only [Pt.U, Pt.locs, Pt.cells, Pt.slots] at X130 l130 y130 z130 st130 hQ130
      subst l130 y130 z130
      obtain ⟨rfl, Nq130, e130⟩ := hQ130
      have N130 := Fr.app N129 Nq130
      refine Go.tr st130 ?_
      show Go _ _ _ _ _ _ _ (T130.setTop (mkF m 299 #[.val (.int qa), .val (.int qb), .val (.int qc), .val (.int qs), .val (.int qq), .val (.int r1), .val (.int r2), .val (.int r3), .val (.int rd), .val (.int ks), .val (.ref b1), .val (.int (1 : Int32)), .val (.int (2 : Int32)), .val (.int (3 : Int32)), .val (.int (4 : Int32)), .val (.int (5 : Int32)), .val (.int (5 : Int32)), .val (.int (5 : Int32)), .val (.int (own_climb gr_40 gp_40 rd 3 (gl_111 (0 : Int32)))), .val (.long (Int32.toInt64 (((own_dep (5 : Int32)) - (own_dep (5 : Int32))) + (1 : Int32)))), .second] [(.long ((0 : Int64) + Int32.toInt64 (((gd_40 (gl_111 (0 : Int32))) - (gd_40 (own_climb gr_40 gp_40 rd 3 (gl_111 (0 : Int32))))) + (1 : Int32))))]))
      refine Go.step (fun _ k => XS.lload X130.here hx rfl (hb hby at_299) rfl  k) ?_
      show Go _ _ _ _ _ _ _ (T130.setTop (mkF m 301 #[.val (.int qa), .val (.int qb), .val (.int qc), .val (.int qs), .val (.int qq), .val (.int r1), .val (.int r2), .val (.int r3), .val (.int rd), .val (.int ks), .val (.ref b1), .val (.int (1 : Int32)), .val (.int (2 : Int32)), .val (.int (3 : Int32)), .val (.int (4 : Int32)), .val (.int (5 : Int32)), .val (.int (5 : Int32)), .val (.int (5 : Int32)), .val (.int (own_climb gr_40 gp_40 rd 3 (gl_111 (0 : Int32)))), .val (.long (Int32.toInt64 (((own_dep (5 : Int32)) - (own_dep (5 : Int32))) + (1 : Int32)))), .second] [(.long (Int32.toInt64 (((own_dep (5 : Int32)) - (own_dep (5 : Int32))) + (1 : Int32)))), (.long ((0 : Int64) + Int32.toInt64 (((gd_40 (gl_111 (0 : Int32))) - (gd_40 (own_climb gr_40 gp_40 rd 3 (gl_111 (0 : Int32))))) + (1 : Int32))))]))
      refine Go.step (fun _ k => XS.lcmp X130.here hx rfl (hb hby at_301) rfl k) ?_
      show Go _ _ _ _ _ _ _ (T130.setTop (mkF m 302 #[.val (.int qa), .val (.int qb), .val (.int qc), .val (.int qs), .val (.int qq), .val (.int r1), .val (.int r2), .val (.int r3), .val (.int rd), .val (.int ks), .val (.ref b1), .val (.int (1 : Int32)), .val (.int (2 : Int32)), .val (.int (3 : Int32)), .val (.int (4 : Int32)), .val (.int (5 : Int32)), .val (.int (5 : Int32)), .val (.int (5 : Int32)), .val (.int (own_climb gr_40 gp_40 rd 3 (gl_111 (0 : Int32)))), .val (.long (Int32.toInt64 (((own_dep (5 : Int32)) - (own_dep (5 : Int32))) + (1 : Int32)))), .second] [(.int (lcmpW ((0 : Int64) + Int32.toInt64 (((gd_40 (gl_111 (0 : Int32))) - (gd_40 (own_climb gr_40 gp_40 rd 3 (gl_111 (0 : Int32))))) + (1 : Int32))) (Int32.toInt64 (((own_dep (5 : Int32)) - (own_dep (5 : Int32))) + (1 : Int32)))))]))
      have hc302 : (lcmpW ((0 : Int64) + Int32.toInt64 (((gd_40 (gl_111 (0 : Int32))) - (gd_40 (own_climb gr_40 gp_40 rd 3 (gl_111 (0 : Int32))))) + (1 : Int32))) (Int32.toInt64 (((own_dep (5 : Int32)) - (own_dep (5 : Int32))) + (1 : Int32)))) = (0 : Int32) := by
        rw [hc291, u111_0, vD5]
        decide
      refine Go.step (fun _ k => XS.ifNo X130.here hx rfl (hb hby at_302) rfl ((if0 _ _).trans (teq hc302).2) k) ?_
      show Go _ _ _ _ _ _ _ (T130.setTop (mkF m 305 #[.val (.int qa), .val (.int qb), .val (.int qc), .val (.int qs), .val (.int qq), .val (.int r1), .val (.int r2), .val (.int r3), .val (.int rd), .val (.int ks), .val (.ref b1), .val (.int (1 : Int32)), .val (.int (2 : Int32)), .val (.int (3 : Int32)), .val (.int (4 : Int32)), .val (.int (5 : Int32)), .val (.int (5 : Int32)), .val (.int (5 : Int32)), .val (.int (own_climb gr_40 gp_40 rd 3 (gl_111 (0 : Int32)))), .val (.long (Int32.toInt64 (((own_dep (5 : Int32)) - (own_dep (5 : Int32))) + (1 : Int32)))), .second] []))
      refine Go.step (fun _ k => XS.iconst X130.here hx rfl (hb hby at_305) k) ?_
      show Go _ _ _ _ _ _ _ (T130.setTop (mkF m 306 #[.val (.int qa), .val (.int qb), .val (.int qc), .val (.int qs), .val (.int qq), .val (.int r1), .val (.int r2), .val (.int r3), .val (.int rd), .val (.int ks), .val (.ref b1), .val (.int (1 : Int32)), .val (.int (2 : Int32)), .val (.int (3 : Int32)), .val (.int (4 : Int32)), .val (.int (5 : Int32)), .val (.int (5 : Int32)), .val (.int (5 : Int32)), .val (.int (own_climb gr_40 gp_40 rd 3 (gl_111 (0 : Int32)))), .val (.long (Int32.toInt64 (((own_dep (5 : Int32)) - (own_dep (5 : Int32))) + (1 : Int32)))), .second] [(.int (1 : Int32))]))
      refine Go.step (fun _ k => XS.goto X130.here hx rfl (pc0 := 306) (pc' := 310) rfl (hb hby at_306) (by decide) (by decide) k) ?_
      show Go _ _ _ _ _ _ _ (T130.setTop (mkF m 310 #[.val (.int qa), .val (.int qb), .val (.int qc), .val (.int qs), .val (.int qq), .val (.int r1), .val (.int r2), .val (.int r3), .val (.int rd), .val (.int ks), .val (.ref b1), .val (.int (1 : Int32)), .val (.int (2 : Int32)), .val (.int (3 : Int32)), .val (.int (4 : Int32)), .val (.int (5 : Int32)), .val (.int (5 : Int32)), .val (.int (5 : Int32)), .val (.int (own_climb gr_40 gp_40 rd 3 (gl_111 (0 : Int32)))), .val (.long (Int32.toInt64 (((own_dep (5 : Int32)) - (own_dep (5 : Int32))) + (1 : Int32)))), .second] [(.int (1 : Int32))]))
      refine Go.retN X130 hx (t := .boolean) Bd.returns (by simp) hlk (hb hby at_310) ?_ (by decide) (by decide)
      rw [e130]
      exact ⟨(by first | rfl | (simp_all [own_nb1, own_nb0]; done)), N130⟩
  · skip
    refine Go.step (fun _ k => XS.ifYes X40.here hx rfl (pc0 := 142) (pc' := 193) rfl (hb hby at_142) rfl ((if0 _ _).trans (feq hc142).2) (by decide) (by decide) k) ?_
    show Go _ _ _ _ _ _ _ (T40.setTop (mkF m 193 #[.val (.int qa), .val (.int qb), .val (.int qc), .val (.int qs), .val (.int qq), .val (.int r1), .val (.int r2), .val (.int r3), .val (.int rd), .val (.int ks), .val (.ref b1), .val (.int (1 : Int32)), .val (.int (2 : Int32)), .val (.int (3 : Int32)), .val (.int (4 : Int32)), .val (.int (5 : Int32)), .unset, .unset, .unset, .unset, .unset] []))
    refine Go.step (fun _ k => XS.iload X40.here hx rfl (hb hby at_193) rfl  k) ?_
    show Go _ _ _ _ _ _ _ (T40.setTop (mkF m 195 #[.val (.int qa), .val (.int qb), .val (.int qc), .val (.int qs), .val (.int qq), .val (.int r1), .val (.int r2), .val (.int r3), .val (.int rd), .val (.int ks), .val (.ref b1), .val (.int (1 : Int32)), .val (.int (2 : Int32)), .val (.int (3 : Int32)), .val (.int (4 : Int32)), .val (.int (5 : Int32)), .unset, .unset, .unset, .unset, .unset] [(.int ks)]))
    refine Go.step (fun _ k => XS.iconst X40.here hx rfl (hb hby at_195) k) ?_
    show Go _ _ _ _ _ _ _ (T40.setTop (mkF m 196 #[.val (.int qa), .val (.int qb), .val (.int qc), .val (.int qs), .val (.int qq), .val (.int r1), .val (.int r2), .val (.int r3), .val (.int rd), .val (.int ks), .val (.ref b1), .val (.int (1 : Int32)), .val (.int (2 : Int32)), .val (.int (3 : Int32)), .val (.int (4 : Int32)), .val (.int (5 : Int32)), .unset, .unset, .unset, .unset, .unset] [(.int (1 : Int32)), (.int ks)]))
    by_cases hc196 : ks = (1 : Int32)
    · skip
      refine Go.step (fun _ k => XS.icmpNo X40.here hx rfl (hb hby at_196) rfl (teq hc196).2 k) ?_
      show Go _ _ _ _ _ _ _ (T40.setTop (mkF m 199 #[.val (.int qa), .val (.int qb), .val (.int qc), .val (.int qs), .val (.int qq), .val (.int r1), .val (.int r2), .val (.int r3), .val (.int rd), .val (.int ks), .val (.ref b1), .val (.int (1 : Int32)), .val (.int (2 : Int32)), .val (.int (3 : Int32)), .val (.int (4 : Int32)), .val (.int (5 : Int32)), .unset, .unset, .unset, .unset, .unset] []))
      refine Go.step (fun _ k => XS.iconst X40.here hx rfl (hb hby at_199) k) ?_
      show Go _ _ _ _ _ _ _ (T40.setTop (mkF m 200 #[.val (.int qa), .val (.int qb), .val (.int qc), .val (.int qs), .val (.int qq), .val (.int r1), .val (.int r2), .val (.int r3), .val (.int rd), .val (.int ks), .val (.ref b1), .val (.int (1 : Int32)), .val (.int (2 : Int32)), .val (.int (3 : Int32)), .val (.int (4 : Int32)), .val (.int (5 : Int32)), .unset, .unset, .unset, .unset, .unset] [(.int (4 : Int32))]))
      refine Go.step (fun _ k => XS.istore X40.here hx rfl (hb hby at_200) rfl (l' := #[.val (.int qa), .val (.int qb), .val (.int qc), .val (.int qs), .val (.int qq), .val (.int r1), .val (.int r2), .val (.int r3), .val (.int rd), .val (.int ks), .val (.ref b1), .val (.int (1 : Int32)), .val (.int (2 : Int32)), .val (.int (3 : Int32)), .val (.int (4 : Int32)), .val (.int (5 : Int32)), .val (.int (4 : Int32)), .unset, .unset, .unset, .unset]) rfl k) ?_
      show Go _ _ _ _ _ _ _ (T40.setTop (mkF m 202 #[.val (.int qa), .val (.int qb), .val (.int qc), .val (.int qs), .val (.int qq), .val (.int r1), .val (.int r2), .val (.int r3), .val (.int rd), .val (.int ks), .val (.ref b1), .val (.int (1 : Int32)), .val (.int (2 : Int32)), .val (.int (3 : Int32)), .val (.int (4 : Int32)), .val (.int (5 : Int32)), .val (.int (4 : Int32)), .unset, .unset, .unset, .unset] []))
      refine Go.step (fun _ k => XS.iload X40.here hx rfl (hb hby at_202) rfl  k) ?_
      show Go _ _ _ _ _ _ _ (T40.setTop (mkF m 204 #[.val (.int qa), .val (.int qb), .val (.int qc), .val (.int qs), .val (.int qq), .val (.int r1), .val (.int r2), .val (.int r3), .val (.int rd), .val (.int ks), .val (.ref b1), .val (.int (1 : Int32)), .val (.int (2 : Int32)), .val (.int (3 : Int32)), .val (.int (4 : Int32)), .val (.int (5 : Int32)), .val (.int (4 : Int32)), .unset, .unset, .unset, .unset] [(.int rd)]))
      refine Go.step (fun _ k => XS.iload X40.here hx rfl (hb hby at_204) rfl  k) ?_
      show Go _ _ _ _ _ _ _ (T40.setTop (mkF m 206 #[.val (.int qa), .val (.int qb), .val (.int qc), .val (.int qs), .val (.int qq), .val (.int r1), .val (.int r2), .val (.int r3), .val (.int rd), .val (.int ks), .val (.ref b1), .val (.int (1 : Int32)), .val (.int (2 : Int32)), .val (.int (3 : Int32)), .val (.int (4 : Int32)), .val (.int (5 : Int32)), .val (.int (4 : Int32)), .unset, .unset, .unset, .unset] [(.int r2), (.int rd)]))
      by_cases hc206 : rd < r2
      · skip
        refine Go.step (fun _ k => XS.icmpYes X40.here hx rfl (pc0 := 206) (pc' := 215) rfl (hb hby at_206) rfl (tlt hc206).1 (by decide) (by decide) k) ?_
        show Go _ _ _ _ _ _ _ (T40.setTop (mkF m 215 #[.val (.int qa), .val (.int qb), .val (.int qc), .val (.int qs), .val (.int qq), .val (.int r1), .val (.int r2), .val (.int r3), .val (.int rd), .val (.int ks), .val (.ref b1), .val (.int (1 : Int32)), .val (.int (2 : Int32)), .val (.int (3 : Int32)), .val (.int (4 : Int32)), .val (.int (5 : Int32)), .val (.int (4 : Int32)), .unset, .unset, .unset, .unset] []))
        refine Go.step (fun _ k => XS.iload X40.here hx rfl (hb hby at_215) rfl  k) ?_
        show Go _ _ _ _ _ _ _ (T40.setTop (mkF m 217 #[.val (.int qa), .val (.int qb), .val (.int qc), .val (.int qs), .val (.int qq), .val (.int r1), .val (.int r2), .val (.int r3), .val (.int rd), .val (.int ks), .val (.ref b1), .val (.int (1 : Int32)), .val (.int (2 : Int32)), .val (.int (3 : Int32)), .val (.int (4 : Int32)), .val (.int (5 : Int32)), .val (.int (4 : Int32)), .unset, .unset, .unset, .unset] [(.int rd)]))
        refine Go.step (fun _ k => XS.iload X40.here hx rfl (hb hby at_217) rfl  k) ?_
        show Go _ _ _ _ _ _ _ (T40.setTop (mkF m 219 #[.val (.int qa), .val (.int qb), .val (.int qc), .val (.int qs), .val (.int qq), .val (.int r1), .val (.int r2), .val (.int r3), .val (.int rd), .val (.int ks), .val (.ref b1), .val (.int (1 : Int32)), .val (.int (2 : Int32)), .val (.int (3 : Int32)), .val (.int (4 : Int32)), .val (.int (5 : Int32)), .val (.int (4 : Int32)), .unset, .unset, .unset, .unset] [(.int r1), (.int rd)]))
        by_cases hc219 : rd < r1
        · skip
          refine Go.step (fun _ k => XS.icmpYes X40.here hx rfl (pc0 := 219) (pc' := 228) rfl (hb hby at_219) rfl (tlt hc219).1 (by decide) (by decide) k) ?_
          show Go _ _ _ _ _ _ _ (T40.setTop (mkF m 228 #[.val (.int qa), .val (.int qb), .val (.int qc), .val (.int qs), .val (.int qq), .val (.int r1), .val (.int r2), .val (.int r3), .val (.int rd), .val (.int ks), .val (.ref b1), .val (.int (1 : Int32)), .val (.int (2 : Int32)), .val (.int (3 : Int32)), .val (.int (4 : Int32)), .val (.int (5 : Int32)), .val (.int (4 : Int32)), .unset, .unset, .unset, .unset] []))
          refine Go.step (fun _ k => XS.iconst X40.here hx rfl (hb hby at_228) k) ?_
          show Go _ _ _ _ _ _ _ (T40.setTop (mkF m 229 #[.val (.int qa), .val (.int qb), .val (.int qc), .val (.int qs), .val (.int qq), .val (.int r1), .val (.int r2), .val (.int r3), .val (.int rd), .val (.int ks), .val (.ref b1), .val (.int (1 : Int32)), .val (.int (2 : Int32)), .val (.int (3 : Int32)), .val (.int (4 : Int32)), .val (.int (5 : Int32)), .val (.int (4 : Int32)), .unset, .unset, .unset, .unset] [(.int (0 : Int32))]))
          refine Go.step (fun _ k => XS.istore X40.here hx rfl (hb hby at_229) rfl (l' := #[.val (.int qa), .val (.int qb), .val (.int qc), .val (.int qs), .val (.int qq), .val (.int r1), .val (.int r2), .val (.int r3), .val (.int rd), .val (.int ks), .val (.ref b1), .val (.int (1 : Int32)), .val (.int (2 : Int32)), .val (.int (3 : Int32)), .val (.int (4 : Int32)), .val (.int (5 : Int32)), .val (.int (4 : Int32)), .val (.int (0 : Int32)), .unset, .unset, .unset]) rfl k) ?_
          show Go _ _ _ _ _ _ _ (T40.setTop (mkF m 231 #[.val (.int qa), .val (.int qb), .val (.int qc), .val (.int qs), .val (.int qq), .val (.int r1), .val (.int r2), .val (.int r3), .val (.int rd), .val (.int ks), .val (.ref b1), .val (.int (1 : Int32)), .val (.int (2 : Int32)), .val (.int (3 : Int32)), .val (.int (4 : Int32)), .val (.int (5 : Int32)), .val (.int (4 : Int32)), .val (.int (0 : Int32)), .unset, .unset, .unset] []))
          refine Go.step (fun _ k => XS.goto X40.here hx rfl (pc0 := 231) (pc' := 253) rfl (hb hby at_231) (by decide) (by decide) k) ?_
          show Go _ _ _ _ _ _ _ (T40.setTop (mkF m 253 #[.val (.int qa), .val (.int qb), .val (.int qc), .val (.int qs), .val (.int qq), .val (.int r1), .val (.int r2), .val (.int r3), .val (.int rd), .val (.int ks), .val (.ref b1), .val (.int (1 : Int32)), .val (.int (2 : Int32)), .val (.int (3 : Int32)), .val (.int (4 : Int32)), .val (.int (5 : Int32)), .val (.int (4 : Int32)), .val (.int (0 : Int32)), .unset, .unset, .unset] []))
          refine Go.step (fun _ k => XS.aload X40.here hx rfl (hb hby at_253) rfl rfl  k) ?_
          show Go _ _ _ _ _ _ _ (T40.setTop (mkF m 255 #[.val (.int qa), .val (.int qb), .val (.int qc), .val (.int qs), .val (.int qq), .val (.int r1), .val (.int r2), .val (.int r3), .val (.int rd), .val (.int ks), .val (.ref b1), .val (.int (1 : Int32)), .val (.int (2 : Int32)), .val (.int (3 : Int32)), .val (.int (4 : Int32)), .val (.int (5 : Int32)), .val (.int (4 : Int32)), .val (.int (0 : Int32)), .unset, .unset, .unset] [(.ref b1)]))
          refine Go.step (fun _ k => XS.iconst X40.here hx rfl (hb hby at_255) k) ?_
          show Go _ _ _ _ _ _ _ (T40.setTop (mkF m 256 #[.val (.int qa), .val (.int qb), .val (.int qc), .val (.int qs), .val (.int qq), .val (.int r1), .val (.int r2), .val (.int r3), .val (.int rd), .val (.int ks), .val (.ref b1), .val (.int (1 : Int32)), .val (.int (2 : Int32)), .val (.int (3 : Int32)), .val (.int (4 : Int32)), .val (.int (5 : Int32)), .val (.int (4 : Int32)), .val (.int (0 : Int32)), .unset, .unset, .unset] [(.int (0 : Int32)), (.ref b1)]))
          refine Go.step (fun _ k => XS.iload X40.here hx rfl (hb hby at_256) rfl  k) ?_
          show Go _ _ _ _ _ _ _ (T40.setTop (mkF m 258 #[.val (.int qa), .val (.int qb), .val (.int qc), .val (.int qs), .val (.int qq), .val (.int r1), .val (.int r2), .val (.int r3), .val (.int rd), .val (.int ks), .val (.ref b1), .val (.int (1 : Int32)), .val (.int (2 : Int32)), .val (.int (3 : Int32)), .val (.int (4 : Int32)), .val (.int (5 : Int32)), .val (.int (4 : Int32)), .val (.int (0 : Int32)), .unset, .unset, .unset] [(.int (4 : Int32)), (.int (0 : Int32)), (.ref b1)]))
          have f131 : Ai Z T40.heap bl_11 .int (1 : Int32) (fun _ => 0) := (((((c11_14.keep K20 (ninS (Ne.symm c11_18) (ninS (Ne.symm c11_21) (ninS (Ne.symm c11_23) (ninS (Ne.symm c11_24) nin0))))).keep K25 (ninS (Ne.symm c11_18) (ninS (Ne.symm c11_21) (ninS (Ne.symm c11_23) (ninS (Ne.symm c11_24) nin0))))).keep K30 (ninS (Ne.symm c11_18) (ninS (Ne.symm c11_21) (ninS (Ne.symm c11_23) (ninS (Ne.symm c11_24) nin0))))).keep K35 (ninS (Ne.symm c11_18) (ninS (Ne.symm c11_21) (ninS (Ne.symm c11_23) (ninS (Ne.symm c11_24) nin0))))).keep K40 (ninS (Ne.symm c11_18) (ninS (Ne.symm c11_21) (ninS (Ne.symm c11_23) (ninS (Ne.symm c11_24) nin0)))))
          have pq132 : (0 : Int32) = (0 : Int32) := rfl
          obtain ⟨cq133, kq133, q133a, q133b, q133c⟩ := isOf hZ rfl c40_0
          obtain ⟨_, _, ⟨T133, L133, k133, n133⟩, -, X133, ⟨Lc133, hQ133, l133, y133, z133⟩, st133⟩ := X40.virtualBack hx (y := (⟨"com/example/both_ways/bothways/equivalence/SplitHistory", "place", "(II)V"⟩ : MethodName)) (z := (⟨"com/example/both_ways/bothways/equivalence/SplitHistory", "place", "(II)V"⟩ : MethodName)) hown (mvT hZ (hw _ (List.mem_of_getElem? (i := 26) rfl))) (mvT hZ (hw _ (List.mem_of_getElem? (i := 27) rfl))) (notFace_of_selects (args := #[]) (mvT hZ (hw _ (List.mem_of_getElem? (i := 29) rfl)))) (mvT hZ (hw _ (List.mem_of_getElem? (i := 29) rfl))) (mvT hZ (hw _ (List.mem_of_getElem? (i := 28) rfl))) (by decide) (backOf (W := 0) (rm4 l Z aZ hw [] b1 (0 : Int32) (4 : Int32) bl_11 (fun _ => 0) T40.heap n0 z41 c40_4 f131 gn11_3 pq132) hZ (hw _ (List.mem_of_getElem? (i := 30) rfl)) (hw _ (List.mem_of_getElem? (i := 3) rfl)) (by decide) (by decide)) q133a q133c (g := (mkF m 258 #[.val (.int qa), .val (.int qb), .val (.int qc), .val (.int qs), .val (.int qq), .val (.int r1), .val (.int r2), .val (.int r3), .val (.int rd), .val (.int ks), .val (.ref b1), .val (.int (1 : Int32)), .val (.int (2 : Int32)), .val (.int (3 : Int32)), .val (.int (4 : Int32)), .val (.int (5 : Int32)), .val (.int (4 : Int32)), .val (.int (0 : Int32)), .unset, .unset, .unset] [(.int (4 : Int32)), (.int (0 : Int32)), (.ref b1)])) rfl (by rw [hml]; rfl) (Steps.refl _) (argsL := [(.int (0 : Int32)), (.int (4 : Int32))]) (rest := []) (lenOf pd_2 rfl) rfl (by show 2 * 0 + _ ≤ _; exact Nat.le_of_eq rfl) (hb hby at_258) (fun _ _ => ⟨rfl, rfl, (by decide : 5 + 0 ≤ _), (by decide : 56 + 0 ≤ _)⟩)
          dsimp only [Pt.U, Pt.locs, Pt.cells, Pt.slots] at X133 l133 y133 z133 st133 hQ133
          subst l133 y133 z133
          obtain ⟨gl_133, rfl, Nq133, K133, c133_0, u133_0⟩ := hQ133
          have N133 := Fr.app N40 Nq133
          refine Go.tr st133 ?_
          have z134 : n0 ≤ T133.heap.size := Nat.le_trans z41 K133.1
          have sqz134 : h0.size ≤ T133.heap.size := Nat.le_trans sqz41 K133.1
          show Go _ _ _ _ _ _ _ (T133.setTop (mkF m 261 #[.val (.int qa), .val (.int qb), .val (.int qc), .val (.int qs), .val (.int qq), .val (.int r1), .val (.int r2), .val (.int r3), .val (.int rd), .val (.int ks), .val (.ref b1), .val (.int (1 : Int32)), .val (.int (2 : Int32)), .val (.int (3 : Int32)), .val (.int (4 : Int32)), .val (.int (5 : Int32)), .val (.int (4 : Int32)), .val (.int (0 : Int32)), .unset, .unset, .unset] []))
          refine Go.step (fun _ k => XS.aload X133.here hx rfl (hb hby at_261) rfl rfl  k) ?_
          show Go _ _ _ _ _ _ _ (T133.setTop (mkF m 263 #[.val (.int qa), .val (.int qb), .val (.int qc), .val (.int qs), .val (.int qq), .val (.int r1), .val (.int r2), .val (.int r3), .val (.int rd), .val (.int ks), .val (.ref b1), .val (.int (1 : Int32)), .val (.int (2 : Int32)), .val (.int (3 : Int32)), .val (.int (4 : Int32)), .val (.int (5 : Int32)), .val (.int (4 : Int32)), .val (.int (0 : Int32)), .unset, .unset, .unset] [(.ref b1)]))
          refine Go.step (fun _ k => XS.iconst X133.here hx rfl (hb hby at_263) k) ?_
          show Go _ _ _ _ _ _ _ (T133.setTop (mkF m 264 #[.val (.int qa), .val (.int qb), .val (.int qc), .val (.int qs), .val (.int qq), .val (.int r1), .val (.int r2), .val (.int r3), .val (.int rd), .val (.int ks), .val (.ref b1), .val (.int (1 : Int32)), .val (.int (2 : Int32)), .val (.int (3 : Int32)), .val (.int (4 : Int32)), .val (.int (5 : Int32)), .val (.int (4 : Int32)), .val (.int (0 : Int32)), .unset, .unset, .unset] [(.int (0 : Int32)), (.ref b1)]))
          refine Go.step (fun _ k => XS.iload X133.here hx rfl (hb hby at_264) rfl  k) ?_
          show Go _ _ _ _ _ _ _ (T133.setTop (mkF m 266 #[.val (.int qa), .val (.int qb), .val (.int qc), .val (.int qs), .val (.int qq), .val (.int r1), .val (.int r2), .val (.int r3), .val (.int rd), .val (.int ks), .val (.ref b1), .val (.int (1 : Int32)), .val (.int (2 : Int32)), .val (.int (3 : Int32)), .val (.int (4 : Int32)), .val (.int (5 : Int32)), .val (.int (4 : Int32)), .val (.int (0 : Int32)), .unset, .unset, .unset] [(.int rd), (.int (0 : Int32)), (.ref b1)]))
          have f136 : Exa Z T133.heap b1 "com/example/both_ways/bothways/equivalence/SplitHistory" := (c40_0.keep K133)
          have f137 : Fld Z T133.heap b1 "com/example/both_ways/bothways/equivalence/SplitHistory" "parents" "[I" (.ref bp_11) := (c40_1.keep K133 (ninS c11_18 nin0))
          have f138 : Fld Z T133.heap b1 "com/example/both_ways/bothways/equivalence/SplitHistory" "rounds" "[I" (.ref br_11) := (c40_2.keep K133 (ninS c11_18 nin0))
          have f139 : Fld Z T133.heap b1 "com/example/both_ways/bothways/equivalence/SplitHistory" "depths" "[I" (.ref bd_11) := (c40_3.keep K133 (ninS c11_18 nin0))
          have f140 : Fld Z T133.heap b1 "com/example/both_ways/bothways/equivalence/SplitHistory" "leaves" "[I" (.ref bl_11) := (c40_4.keep K133 (ninS c11_18 nin0))
          have f141 : Fld Z T133.heap b1 "com/example/both_ways/bothways/equivalence/SplitHistory" "visits" "J" (.long (0 : Int64)) := (c40_6.keep K133 (ninS c11_18 nin0))
          have f142 : Ai Z T133.heap bp_11 .int (16 : Int32) gp_40 := (c40_7.keep K133 (ninS c11_21 nin0))
          have f143 : Ai Z T133.heap br_11 .int (16 : Int32) gr_40 := (c40_8.keep K133 (ninS c11_23 nin0))
          have f144 : Ai Z T133.heap bd_11 .int (16 : Int32) gd_40 := (c40_9.keep K133 (ninS c11_24 nin0))
          have pq145 : (0 : Int32) = (0 : Int32) := rfl
          have pq146 : own_ok gr_40 gp_40 rd 3 (gl_133 (0 : Int32)) := (by rw [u133_0]; exact (own_c4 vR4 vP4 vR1 vP1 vR0 hrd).1)
          obtain ⟨cq147, kq147, q147a, q147b, q147c⟩ := isOf hZ rfl f136
          obtain ⟨_, _, ⟨T147, L147, k147, n147⟩, -, X147, ⟨Lc147, hQ147, l147, y147, z147⟩, st147⟩ := X133.virtualBack hx (y := (⟨"com/example/both_ways/bothways/equivalence/SplitHistory", "blockAfter", "(II)I"⟩ : MethodName)) (z := (⟨"com/example/both_ways/bothways/equivalence/SplitHistory", "blockAfter", "(II)I"⟩ : MethodName)) hown (mvT hZ (hw _ (List.mem_of_getElem? (i := 31) rfl))) (mvT hZ (hw _ (List.mem_of_getElem? (i := 32) rfl))) (notFace_of_selects (args := #[]) (mvT hZ (hw _ (List.mem_of_getElem? (i := 34) rfl)))) (mvT hZ (hw _ (List.mem_of_getElem? (i := 34) rfl))) (mvT hZ (hw _ (List.mem_of_getElem? (i := 33) rfl))) (by decide) (backOf (W := 0) (rm5 l Z aZ hw [] b1 (0 : Int32) rd bp_11 gp_40 br_11 gr_40 bd_11 gd_40 bl_11 gl_133 T133.heap n0 z134 f136 f137 f138 f139 f140 f141 f142 f143 f144 c133_0 gn1 pq145 pq146 c11_15 c11_16 c11_17 c11_18 c11_19 c11_20 c11_21 c11_22 c11_23 c11_24) hZ (hw _ (List.mem_of_getElem? (i := 35) rfl)) (hw _ (List.mem_of_getElem? (i := 3) rfl)) (by decide) (by decide)) q147a q147c (g := (mkF m 266 #[.val (.int qa), .val (.int qb), .val (.int qc), .val (.int qs), .val (.int qq), .val (.int r1), .val (.int r2), .val (.int r3), .val (.int rd), .val (.int ks), .val (.ref b1), .val (.int (1 : Int32)), .val (.int (2 : Int32)), .val (.int (3 : Int32)), .val (.int (4 : Int32)), .val (.int (5 : Int32)), .val (.int (4 : Int32)), .val (.int (0 : Int32)), .unset, .unset, .unset] [(.int rd), (.int (0 : Int32)), (.ref b1)])) rfl (by rw [hml]; rfl) (Steps.refl _) (argsL := [(.int (0 : Int32)), (.int rd)]) (rest := []) (lenOf pd_1 rfl) rfl (by show 2 * 0 + _ ≤ _; exact Nat.le_of_eq rfl) (hb hby at_266) (fun _ _ => ⟨rfl, rfl, (by decide : 5 + 0 ≤ _), (by decide : 56 + 0 ≤ _)⟩)
          dsimp only [Pt.U, Pt.locs, Pt.cells, Pt.slots] at X147 l147 y147 z147 st147 hQ147
          subst l147 y147 z147
          obtain ⟨rfl, Nq147, K147, c147_0, c147_1⟩ := hQ147
          have N147 := Fr.app N133 Nq147
          refine Go.tr st147 ?_
          have z148 : n0 ≤ T147.heap.size := Nat.le_trans z134 K147.1
          have sqz148 : h0.size ≤ T147.heap.size := Nat.le_trans sqz134 K147.1
          show Go _ _ _ _ _ _ _ (T147.setTop (mkF m 269 #[.val (.int qa), .val (.int qb), .val (.int qc), .val (.int qs), .val (.int qq), .val (.int r1), .val (.int r2), .val (.int r3), .val (.int rd), .val (.int ks), .val (.ref b1), .val (.int (1 : Int32)), .val (.int (2 : Int32)), .val (.int (3 : Int32)), .val (.int (4 : Int32)), .val (.int (5 : Int32)), .val (.int (4 : Int32)), .val (.int (0 : Int32)), .unset, .unset, .unset] [(.int (own_climb gr_40 gp_40 rd 3 (gl_133 (0 : Int32))))]))
          refine Go.step (fun _ k => XS.istore X147.here hx rfl (hb hby at_269) rfl (l' := #[.val (.int qa), .val (.int qb), .val (.int qc), .val (.int qs), .val (.int qq), .val (.int r1), .val (.int r2), .val (.int r3), .val (.int rd), .val (.int ks), .val (.ref b1), .val (.int (1 : Int32)), .val (.int (2 : Int32)), .val (.int (3 : Int32)), .val (.int (4 : Int32)), .val (.int (5 : Int32)), .val (.int (4 : Int32)), .val (.int (0 : Int32)), .val (.int (own_climb gr_40 gp_40 rd 3 (gl_133 (0 : Int32)))), .unset, .unset]) rfl k) ?_
          show Go _ _ _ _ _ _ _ (T147.setTop (mkF m 271 #[.val (.int qa), .val (.int qb), .val (.int qc), .val (.int qs), .val (.int qq), .val (.int r1), .val (.int r2), .val (.int r3), .val (.int rd), .val (.int ks), .val (.ref b1), .val (.int (1 : Int32)), .val (.int (2 : Int32)), .val (.int (3 : Int32)), .val (.int (4 : Int32)), .val (.int (5 : Int32)), .val (.int (4 : Int32)), .val (.int (0 : Int32)), .val (.int (own_climb gr_40 gp_40 rd 3 (gl_133 (0 : Int32)))), .unset, .unset] []))
          refine Go.step (fun _ k => XS.iload X147.here hx rfl (hb hby at_271) rfl  k) ?_
          show Go _ _ _ _ _ _ _ (T147.setTop (mkF m 273 #[.val (.int qa), .val (.int qb), .val (.int qc), .val (.int qs), .val (.int qq), .val (.int r1), .val (.int r2), .val (.int r3), .val (.int rd), .val (.int ks), .val (.ref b1), .val (.int (1 : Int32)), .val (.int (2 : Int32)), .val (.int (3 : Int32)), .val (.int (4 : Int32)), .val (.int (5 : Int32)), .val (.int (4 : Int32)), .val (.int (0 : Int32)), .val (.int (own_climb gr_40 gp_40 rd 3 (gl_133 (0 : Int32)))), .unset, .unset] [(.int (4 : Int32))]))
          obtain ⟨_, _, ⟨T150, L150, k150, n150⟩, -, X150, ⟨Lc150, hQ150, l150, y150, z150⟩, st150⟩ := Jvm.LawKit.callS X147 hx (y := (⟨"com/example/both_ways/bothways/equivalence/SplitHistoryBlockAfterPinLaw", "depthOf", "(I)I"⟩ : MethodName)) hown (mvT hZ (hw _ (List.mem_of_getElem? (i := 38) rfl))) (mvT hZ (hw _ (List.mem_of_getElem? (i := 39) rfl))) (mvT hZ (hw _ (List.mem_of_getElem? (i := 40) rfl))) (mvT hZ (hw _ (List.mem_of_getElem? (i := 41) rfl))) (by decide) (backOf (W := 0) (rm6 l Z aZ hw [] (4 : Int32) T147.heap n0 z148 ) hZ (hw _ (List.mem_of_getElem? (i := 41) rfl)) (hw _ (List.mem_of_getElem? (i := 40) rfl)) (by decide) (by decide)) (g := (mkF m 273 #[.val (.int qa), .val (.int qb), .val (.int qc), .val (.int qs), .val (.int qq), .val (.int r1), .val (.int r2), .val (.int r3), .val (.int rd), .val (.int ks), .val (.ref b1), .val (.int (1 : Int32)), .val (.int (2 : Int32)), .val (.int (3 : Int32)), .val (.int (4 : Int32)), .val (.int (5 : Int32)), .val (.int (4 : Int32)), .val (.int (0 : Int32)), .val (.int (own_climb gr_40 gp_40 rd 3 (gl_133 (0 : Int32)))), .unset, .unset] [(.int (4 : Int32))])) rfl (by rw [hml]; rfl) (argsL := [(.int (4 : Int32))]) (rest := []) (lenOf pd_3 rfl) rfl (by show 2 * 0 + _ ≤ _; exact Nat.le_of_eq rfl) (hb hby at_273) (fun _ _ => ⟨rfl, rfl, (by decide : 5 + 0 ≤ _), (by decide : 56 + 0 ≤ _)⟩)
          dsimp only [Pt.U, Pt.locs, Pt.cells, Pt.slots] at X150 l150 y150 z150 st150 hQ150
          subst l150 y150 z150
          obtain ⟨rfl, Nq150, e150⟩ := hQ150
          have N150 := Fr.app N147 Nq150
          refine Go.step st150 ?_
          show Go _ _ _ _ _ _ _ (T150.setTop (mkF m 276 #[.val (.int qa), .val (.int qb), .val (.int qc), .val (.int qs), .val (.int qq), .val (.int r1), .val (.int r2), .val (.int r3), .val (.int rd), .val (.int ks), .val (.ref b1), .val (.int (1 : Int32)), .val (.int (2 : Int32)), .val (.int (3 : Int32)), .val (.int (4 : Int32)), .val (.int (5 : Int32)), .val (.int (4 : Int32)), .val (.int (0 : Int32)), .val (.int (own_climb gr_40 gp_40 rd 3 (gl_133 (0 : Int32)))), .unset, .unset] [(.int (own_dep (4 : Int32)))]))
          refine Go.step (fun _ k => XS.iload X150.here hx rfl (hb hby at_276) rfl  k) ?_
          show Go _ _ _ _ _ _ _ (T150.setTop (mkF m 278 #[.val (.int qa), .val (.int qb), .val (.int qc), .val (.int qs), .val (.int qq), .val (.int r1), .val (.int r2), .val (.int r3), .val (.int rd), .val (.int ks), .val (.ref b1), .val (.int (1 : Int32)), .val (.int (2 : Int32)), .val (.int (3 : Int32)), .val (.int (4 : Int32)), .val (.int (5 : Int32)), .val (.int (4 : Int32)), .val (.int (0 : Int32)), .val (.int (own_climb gr_40 gp_40 rd 3 (gl_133 (0 : Int32)))), .unset, .unset] [(.int (0 : Int32)), (.int (own_dep (4 : Int32)))]))
          obtain ⟨_, _, ⟨T151, L151, k151, n151⟩, -, X151, ⟨Lc151, hQ151, l151, y151, z151⟩, st151⟩ := Jvm.LawKit.callS X150 hx (y := (⟨"com/example/both_ways/bothways/equivalence/SplitHistoryBlockAfterPinLaw", "depthOf", "(I)I"⟩ : MethodName)) hown (mvT hZ (hw _ (List.mem_of_getElem? (i := 38) rfl))) (mvT hZ (hw _ (List.mem_of_getElem? (i := 39) rfl))) (mvT hZ (hw _ (List.mem_of_getElem? (i := 40) rfl))) (mvT hZ (hw _ (List.mem_of_getElem? (i := 41) rfl))) (by decide) (backOf (W := 1) (rm6 l Z aZ hw [] (0 : Int32) T147.heap n0 z148 ) hZ (hw _ (List.mem_of_getElem? (i := 41) rfl)) (hw _ (List.mem_of_getElem? (i := 40) rfl)) (by decide) (by decide)) (g := (mkF m 278 #[.val (.int qa), .val (.int qb), .val (.int qc), .val (.int qs), .val (.int qq), .val (.int r1), .val (.int r2), .val (.int r3), .val (.int rd), .val (.int ks), .val (.ref b1), .val (.int (1 : Int32)), .val (.int (2 : Int32)), .val (.int (3 : Int32)), .val (.int (4 : Int32)), .val (.int (5 : Int32)), .val (.int (4 : Int32)), .val (.int (0 : Int32)), .val (.int (own_climb gr_40 gp_40 rd 3 (gl_133 (0 : Int32)))), .unset, .unset] [(.int (0 : Int32)), (.int (own_dep (4 : Int32)))])) rfl (by rw [hml]; rfl) (argsL := [(.int (0 : Int32))]) (rest := [(.int (own_dep (4 : Int32)))]) (lenOf pd_3 rfl) rfl (by show 2 * 0 + _ ≤ _; exact Nat.le_of_eq rfl) (hb hby at_278) (fun _ _ => ⟨rfl, e150, (by decide : 5 + 0 ≤ _), (by decide : 56 + 0 ≤ _)⟩)
          dsimp only [Pt.U, Pt.locs, Pt.cells, Pt.slots] at X151 l151 y151 z151 st151 hQ151
          subst l151 y151 z151
          obtain ⟨rfl, Nq151, e151⟩ := hQ151
          have N151 := Fr.app N150 Nq151
          refine Go.step st151 ?_
          show Go _ _ _ _ _ _ _ (T151.setTop (mkF m 281 #[.val (.int qa), .val (.int qb), .val (.int qc), .val (.int qs), .val (.int qq), .val (.int r1), .val (.int r2), .val (.int r3), .val (.int rd), .val (.int ks), .val (.ref b1), .val (.int (1 : Int32)), .val (.int (2 : Int32)), .val (.int (3 : Int32)), .val (.int (4 : Int32)), .val (.int (5 : Int32)), .val (.int (4 : Int32)), .val (.int (0 : Int32)), .val (.int (own_climb gr_40 gp_40 rd 3 (gl_133 (0 : Int32)))), .unset, .unset] [(.int (own_dep (0 : Int32))), (.int (own_dep (4 : Int32)))]))
          refine Go.step (fun _ k => XS.isub X151.here hx rfl (hb hby at_281) rfl k) ?_
          show Go _ _ _ _ _ _ _ (T151.setTop (mkF m 282 #[.val (.int qa), .val (.int qb), .val (.int qc), .val (.int qs), .val (.int qq), .val (.int r1), .val (.int r2), .val (.int r3), .val (.int rd), .val (.int ks), .val (.ref b1), .val (.int (1 : Int32)), .val (.int (2 : Int32)), .val (.int (3 : Int32)), .val (.int (4 : Int32)), .val (.int (5 : Int32)), .val (.int (4 : Int32)), .val (.int (0 : Int32)), .val (.int (own_climb gr_40 gp_40 rd 3 (gl_133 (0 : Int32)))), .unset, .unset] [(.int ((own_dep (4 : Int32)) - (own_dep (0 : Int32))))]))
          refine Go.step (fun _ k => XS.iconst X151.here hx rfl (hb hby at_282) k) ?_
          show Go _ _ _ _ _ _ _ (T151.setTop (mkF m 283 #[.val (.int qa), .val (.int qb), .val (.int qc), .val (.int qs), .val (.int qq), .val (.int r1), .val (.int r2), .val (.int r3), .val (.int rd), .val (.int ks), .val (.ref b1), .val (.int (1 : Int32)), .val (.int (2 : Int32)), .val (.int (3 : Int32)), .val (.int (4 : Int32)), .val (.int (5 : Int32)), .val (.int (4 : Int32)), .val (.int (0 : Int32)), .val (.int (own_climb gr_40 gp_40 rd 3 (gl_133 (0 : Int32)))), .unset, .unset] [(.int (1 : Int32)), (.int ((own_dep (4 : Int32)) - (own_dep (0 : Int32))))]))
          refine Go.step (fun _ k => XS.iadd X151.here hx rfl (hb hby at_283) rfl k) ?_
          show Go _ _ _ _ _ _ _ (T151.setTop (mkF m 284 #[.val (.int qa), .val (.int qb), .val (.int qc), .val (.int qs), .val (.int qq), .val (.int r1), .val (.int r2), .val (.int r3), .val (.int rd), .val (.int ks), .val (.ref b1), .val (.int (1 : Int32)), .val (.int (2 : Int32)), .val (.int (3 : Int32)), .val (.int (4 : Int32)), .val (.int (5 : Int32)), .val (.int (4 : Int32)), .val (.int (0 : Int32)), .val (.int (own_climb gr_40 gp_40 rd 3 (gl_133 (0 : Int32)))), .unset, .unset] [(.int (((own_dep (4 : Int32)) - (own_dep (0 : Int32))) + (1 : Int32)))]))
          refine Go.step (fun _ k => XS.i2l X151.here hx rfl (hb hby at_284) rfl k) ?_
          show Go _ _ _ _ _ _ _ (T151.setTop (mkF m 285 #[.val (.int qa), .val (.int qb), .val (.int qc), .val (.int qs), .val (.int qq), .val (.int r1), .val (.int r2), .val (.int r3), .val (.int rd), .val (.int ks), .val (.ref b1), .val (.int (1 : Int32)), .val (.int (2 : Int32)), .val (.int (3 : Int32)), .val (.int (4 : Int32)), .val (.int (5 : Int32)), .val (.int (4 : Int32)), .val (.int (0 : Int32)), .val (.int (own_climb gr_40 gp_40 rd 3 (gl_133 (0 : Int32)))), .unset, .unset] [(.long (Int32.toInt64 (((own_dep (4 : Int32)) - (own_dep (0 : Int32))) + (1 : Int32))))]))
          refine Go.step (fun _ k => XS.lstore X151.here hx rfl (hb hby at_285) rfl (l' := #[.val (.int qa), .val (.int qb), .val (.int qc), .val (.int qs), .val (.int qq), .val (.int r1), .val (.int r2), .val (.int r3), .val (.int rd), .val (.int ks), .val (.ref b1), .val (.int (1 : Int32)), .val (.int (2 : Int32)), .val (.int (3 : Int32)), .val (.int (4 : Int32)), .val (.int (5 : Int32)), .val (.int (4 : Int32)), .val (.int (0 : Int32)), .val (.int (own_climb gr_40 gp_40 rd 3 (gl_133 (0 : Int32)))), .val (.long (Int32.toInt64 (((own_dep (4 : Int32)) - (own_dep (0 : Int32))) + (1 : Int32)))), .second]) rfl k) ?_
          show Go _ _ _ _ _ _ _ (T151.setTop (mkF m 287 #[.val (.int qa), .val (.int qb), .val (.int qc), .val (.int qs), .val (.int qq), .val (.int r1), .val (.int r2), .val (.int r3), .val (.int rd), .val (.int ks), .val (.ref b1), .val (.int (1 : Int32)), .val (.int (2 : Int32)), .val (.int (3 : Int32)), .val (.int (4 : Int32)), .val (.int (5 : Int32)), .val (.int (4 : Int32)), .val (.int (0 : Int32)), .val (.int (own_climb gr_40 gp_40 rd 3 (gl_133 (0 : Int32)))), .val (.long (Int32.toInt64 (((own_dep (4 : Int32)) - (own_dep (0 : Int32))) + (1 : Int32)))), .second] []))
          refine Go.step (fun _ k => XS.iload X151.here hx rfl (hb hby at_287) rfl  k) ?_
          show Go _ _ _ _ _ _ _ (T151.setTop (mkF m 289 #[.val (.int qa), .val (.int qb), .val (.int qc), .val (.int qs), .val (.int qq), .val (.int r1), .val (.int r2), .val (.int r3), .val (.int rd), .val (.int ks), .val (.ref b1), .val (.int (1 : Int32)), .val (.int (2 : Int32)), .val (.int (3 : Int32)), .val (.int (4 : Int32)), .val (.int (5 : Int32)), .val (.int (4 : Int32)), .val (.int (0 : Int32)), .val (.int (own_climb gr_40 gp_40 rd 3 (gl_133 (0 : Int32)))), .val (.long (Int32.toInt64 (((own_dep (4 : Int32)) - (own_dep (0 : Int32))) + (1 : Int32)))), .second] [(.int (own_climb gr_40 gp_40 rd 3 (gl_133 (0 : Int32))))]))
          refine Go.step (fun _ k => XS.iload X151.here hx rfl (hb hby at_289) rfl  k) ?_
          show Go _ _ _ _ _ _ _ (T151.setTop (mkF m 291 #[.val (.int qa), .val (.int qb), .val (.int qc), .val (.int qs), .val (.int qq), .val (.int r1), .val (.int r2), .val (.int r3), .val (.int rd), .val (.int ks), .val (.ref b1), .val (.int (1 : Int32)), .val (.int (2 : Int32)), .val (.int (3 : Int32)), .val (.int (4 : Int32)), .val (.int (5 : Int32)), .val (.int (4 : Int32)), .val (.int (0 : Int32)), .val (.int (own_climb gr_40 gp_40 rd 3 (gl_133 (0 : Int32)))), .val (.long (Int32.toInt64 (((own_dep (4 : Int32)) - (own_dep (0 : Int32))) + (1 : Int32)))), .second] [(.int (0 : Int32)), (.int (own_climb gr_40 gp_40 rd 3 (gl_133 (0 : Int32))))]))
          have hc291 : (own_climb gr_40 gp_40 rd 3 (gl_133 (0 : Int32))) = (0 : Int32) := by rw [u133_0, (own_c4 vR4 vP4 vR1 vP1 vR0 hrd).2, if_pos hc206, if_pos hc219]
          refine Go.step (fun _ k => XS.icmpNo X151.here hx rfl (hb hby at_291) rfl (teq hc291).2 k) ?_
          show Go _ _ _ _ _ _ _ (T151.setTop (mkF m 294 #[.val (.int qa), .val (.int qb), .val (.int qc), .val (.int qs), .val (.int qq), .val (.int r1), .val (.int r2), .val (.int r3), .val (.int rd), .val (.int ks), .val (.ref b1), .val (.int (1 : Int32)), .val (.int (2 : Int32)), .val (.int (3 : Int32)), .val (.int (4 : Int32)), .val (.int (5 : Int32)), .val (.int (4 : Int32)), .val (.int (0 : Int32)), .val (.int (own_climb gr_40 gp_40 rd 3 (gl_133 (0 : Int32)))), .val (.long (Int32.toInt64 (((own_dep (4 : Int32)) - (own_dep (0 : Int32))) + (1 : Int32)))), .second] []))
          refine Go.step (fun _ k => XS.aload X151.here hx rfl (hb hby at_294) rfl rfl  k) ?_
          show Go _ _ _ _ _ _ _ (T151.setTop (mkF m 296 #[.val (.int qa), .val (.int qb), .val (.int qc), .val (.int qs), .val (.int qq), .val (.int r1), .val (.int r2), .val (.int r3), .val (.int rd), .val (.int ks), .val (.ref b1), .val (.int (1 : Int32)), .val (.int (2 : Int32)), .val (.int (3 : Int32)), .val (.int (4 : Int32)), .val (.int (5 : Int32)), .val (.int (4 : Int32)), .val (.int (0 : Int32)), .val (.int (own_climb gr_40 gp_40 rd 3 (gl_133 (0 : Int32)))), .val (.long (Int32.toInt64 (((own_dep (4 : Int32)) - (own_dep (0 : Int32))) + (1 : Int32)))), .second] [(.ref b1)]))
          obtain ⟨cq152, kq152, q152a, q152b, q152c⟩ := isOf hZ e151 c147_0
          obtain ⟨_, _, ⟨T152, L152, k152, n152⟩, -, X152, ⟨Lc152, hQ152, l152, y152, z152⟩, st152⟩ := X151.virtualBack hx (y := (⟨"com/example/both_ways/bothways/equivalence/SplitHistory", "getVisitCount", "()J"⟩ : MethodName)) (z := (⟨"com/example/both_ways/bothways/equivalence/SplitHistory", "getVisitCount", "()J"⟩ : MethodName)) hown (mvT hZ (hw _ (List.mem_of_getElem? (i := 42) rfl))) (mvT hZ (hw _ (List.mem_of_getElem? (i := 43) rfl))) (notFace_of_selects (args := #[]) (mvT hZ (hw _ (List.mem_of_getElem? (i := 45) rfl)))) (mvT hZ (hw _ (List.mem_of_getElem? (i := 45) rfl))) (mvT hZ (hw _ (List.mem_of_getElem? (i := 44) rfl))) (by decide) (backOf (W := 0) (rm7 l Z aZ hw [] b1 ((0 : Int64) + Int32.toInt64 (((gd_40 (gl_133 (0 : Int32))) - (gd_40 (own_climb gr_40 gp_40 rd 3 (gl_133 (0 : Int32))))) + (1 : Int32))) T147.heap n0 z148 c147_1) hZ (hw _ (List.mem_of_getElem? (i := 46) rfl)) (hw _ (List.mem_of_getElem? (i := 3) rfl)) (by decide) (by decide)) q152a q152c (g := (mkF m 296 #[.val (.int qa), .val (.int qb), .val (.int qc), .val (.int qs), .val (.int qq), .val (.int r1), .val (.int r2), .val (.int r3), .val (.int rd), .val (.int ks), .val (.ref b1), .val (.int (1 : Int32)), .val (.int (2 : Int32)), .val (.int (3 : Int32)), .val (.int (4 : Int32)), .val (.int (5 : Int32)), .val (.int (4 : Int32)), .val (.int (0 : Int32)), .val (.int (own_climb gr_40 gp_40 rd 3 (gl_133 (0 : Int32)))), .val (.long (Int32.toInt64 (((own_dep (4 : Int32)) - (own_dep (0 : Int32))) + (1 : Int32)))), .second] [(.ref b1)])) rfl (by rw [hml]; rfl) (Steps.refl _) (argsL := []) (rest := []) (lenOf pd_4 rfl) rfl (by show 2 * 0 + _ ≤ _; exact Nat.le_of_eq rfl) (hb hby at_296) (fun _ _ => ⟨rfl, e151, (by decide : 5 + 0 ≤ _), (by decide : 56 + 0 ≤ _)⟩)
          dsimp only [Pt.U, Pt.locs, Pt.cells, Pt.slots] at X152 l152 y152 z152 st152 hQ152
          subst l152 y152 z152
          obtain ⟨rfl, Nq152, e152⟩ := hQ152
          have N152 := Fr.app N151 Nq152
          refine Go.tr st152 ?_
          show Go _ _ _ _ _ _ _ (T152.setTop (mkF m 299 #[.val (.int qa), .val (.int qb), .val (.int qc), .val (.int qs), .val (.int qq), .val (.int r1), .val (.int r2), .val (.int r3), .val (.int rd), .val (.int ks), .val (.ref b1), .val (.int (1 : Int32)), .val (.int (2 : Int32)), .val (.int (3 : Int32)), .val (.int (4 : Int32)), .val (.int (5 : Int32)), .val (.int (4 : Int32)), .val (.int (0 : Int32)), .val (.int (own_climb gr_40 gp_40 rd 3 (gl_133 (0 : Int32)))), .val (.long (Int32.toInt64 (((own_dep (4 : Int32)) - (own_dep (0 : Int32))) + (1 : Int32)))), .second] [(.long ((0 : Int64) + Int32.toInt64 (((gd_40 (gl_133 (0 : Int32))) - (gd_40 (own_climb gr_40 gp_40 rd 3 (gl_133 (0 : Int32))))) + (1 : Int32))))]))
          refine Go.step (fun _ k => XS.lload X152.here hx rfl (hb hby at_299) rfl  k) ?_
          show Go _ _ _ _ _ _ _ (T152.setTop (mkF m 301 #[.val (.int qa), .val (.int qb), .val (.int qc), .val (.int qs), .val (.int qq), .val (.int r1), .val (.int r2), .val (.int r3), .val (.int rd), .val (.int ks), .val (.ref b1), .val (.int (1 : Int32)), .val (.int (2 : Int32)), .val (.int (3 : Int32)), .val (.int (4 : Int32)), .val (.int (5 : Int32)), .val (.int (4 : Int32)), .val (.int (0 : Int32)), .val (.int (own_climb gr_40 gp_40 rd 3 (gl_133 (0 : Int32)))), .val (.long (Int32.toInt64 (((own_dep (4 : Int32)) - (own_dep (0 : Int32))) + (1 : Int32)))), .second] [(.long (Int32.toInt64 (((own_dep (4 : Int32)) - (own_dep (0 : Int32))) + (1 : Int32)))), (.long ((0 : Int64) + Int32.toInt64 (((gd_40 (gl_133 (0 : Int32))) - (gd_40 (own_climb gr_40 gp_40 rd 3 (gl_133 (0 : Int32))))) + (1 : Int32))))]))
          refine Go.step (fun _ k => XS.lcmp X152.here hx rfl (hb hby at_301) rfl k) ?_
          show Go _ _ _ _ _ _ _ (T152.setTop (mkF m 302 #[.val (.int qa), .val (.int qb), .val (.int qc), .val (.int qs), .val (.int qq), .val (.int r1), .val (.int r2), .val (.int r3), .val (.int rd), .val (.int ks), .val (.ref b1), .val (.int (1 : Int32)), .val (.int (2 : Int32)), .val (.int (3 : Int32)), .val (.int (4 : Int32)), .val (.int (5 : Int32)), .val (.int (4 : Int32)), .val (.int (0 : Int32)), .val (.int (own_climb gr_40 gp_40 rd 3 (gl_133 (0 : Int32)))), .val (.long (Int32.toInt64 (((own_dep (4 : Int32)) - (own_dep (0 : Int32))) + (1 : Int32)))), .second] [(.int (lcmpW ((0 : Int64) + Int32.toInt64 (((gd_40 (gl_133 (0 : Int32))) - (gd_40 (own_climb gr_40 gp_40 rd 3 (gl_133 (0 : Int32))))) + (1 : Int32))) (Int32.toInt64 (((own_dep (4 : Int32)) - (own_dep (0 : Int32))) + (1 : Int32)))))]))
          have hc302 : (lcmpW ((0 : Int64) + Int32.toInt64 (((gd_40 (gl_133 (0 : Int32))) - (gd_40 (own_climb gr_40 gp_40 rd 3 (gl_133 (0 : Int32))))) + (1 : Int32))) (Int32.toInt64 (((own_dep (4 : Int32)) - (own_dep (0 : Int32))) + (1 : Int32)))) = (0 : Int32) := by
            rw [hc291, u133_0, vD4, vD0]
            decide
          refine Go.step (fun _ k => XS.ifNo X152.here hx rfl (hb hby at_302) rfl ((if0 _ _).trans (teq hc302).2) k) ?_
          show Go _ _ _ _ _ _ _ (T152.setTop (mkF m 305 #[.val (.int qa), .val (.int qb), .val (.int qc), .val (.int qs), .val (.int qq), .val (.int r1), .val (.int r2), .val (.int r3), .val (.int rd), .val (.int ks), .val (.ref b1), .val (.int (1 : Int32)), .val (.int (2 : Int32)), .val (.int (3 : Int32)), .val (.int (4 : Int32)), .val (.int (5 : Int32)), .val (.int (4 : Int32)), .val (.int (0 : Int32)), .val (.int (own_climb gr_40 gp_40 rd 3 (gl_133 (0 : Int32)))), .val (.long (Int32.toInt64 (((own_dep (4 : Int32)) - (own_dep (0 : Int32))) + (1 : Int32)))), .second] []))
          refine Go.step (fun _ k => XS.iconst X152.here hx rfl (hb hby at_305) k) ?_
          show Go _ _ _ _ _ _ _ (T152.setTop (mkF m 306 #[.val (.int qa), .val (.int qb), .val (.int qc), .val (.int qs), .val (.int qq), .val (.int r1), .val (.int r2), .val (.int r3), .val (.int rd), .val (.int ks), .val (.ref b1), .val (.int (1 : Int32)), .val (.int (2 : Int32)), .val (.int (3 : Int32)), .val (.int (4 : Int32)), .val (.int (5 : Int32)), .val (.int (4 : Int32)), .val (.int (0 : Int32)), .val (.int (own_climb gr_40 gp_40 rd 3 (gl_133 (0 : Int32)))), .val (.long (Int32.toInt64 (((own_dep (4 : Int32)) - (own_dep (0 : Int32))) + (1 : Int32)))), .second] [(.int (1 : Int32))]))
          refine Go.step (fun _ k => XS.goto X152.here hx rfl (pc0 := 306) (pc' := 310) rfl (hb hby at_306) (by decide) (by decide) k) ?_
          show Go _ _ _ _ _ _ _ (T152.setTop (mkF m 310 #[.val (.int qa), .val (.int qb), .val (.int qc), .val (.int qs), .val (.int qq), .val (.int r1), .val (.int r2), .val (.int r3), .val (.int rd), .val (.int ks), .val (.ref b1), .val (.int (1 : Int32)), .val (.int (2 : Int32)), .val (.int (3 : Int32)), .val (.int (4 : Int32)), .val (.int (5 : Int32)), .val (.int (4 : Int32)), .val (.int (0 : Int32)), .val (.int (own_climb gr_40 gp_40 rd 3 (gl_133 (0 : Int32)))), .val (.long (Int32.toInt64 (((own_dep (4 : Int32)) - (own_dep (0 : Int32))) + (1 : Int32)))), .second] [(.int (1 : Int32))]))
          refine Go.retN X152 hx (t := .boolean) Bd.returns (by simp) hlk (hb hby at_310) ?_ (by decide) (by decide)
          rw [e152]
          exact ⟨(by first | rfl | (simp_all [own_nb1, own_nb0]; done)), N152⟩
        · skip
          refine Go.step (fun _ k => XS.icmpNo X40.here hx rfl (hb hby at_219) rfl (flt hc219).1 k) ?_
          show Go _ _ _ _ _ _ _ (T40.setTop (mkF m 222 #[.val (.int qa), .val (.int qb), .val (.int qc), .val (.int qs), .val (.int qq), .val (.int r1), .val (.int r2), .val (.int r3), .val (.int rd), .val (.int ks), .val (.ref b1), .val (.int (1 : Int32)), .val (.int (2 : Int32)), .val (.int (3 : Int32)), .val (.int (4 : Int32)), .val (.int (5 : Int32)), .val (.int (4 : Int32)), .unset, .unset, .unset, .unset] []))
          refine Go.step (fun _ k => XS.iconst X40.here hx rfl (hb hby at_222) k) ?_
          show Go _ _ _ _ _ _ _ (T40.setTop (mkF m 223 #[.val (.int qa), .val (.int qb), .val (.int qc), .val (.int qs), .val (.int qq), .val (.int r1), .val (.int r2), .val (.int r3), .val (.int rd), .val (.int ks), .val (.ref b1), .val (.int (1 : Int32)), .val (.int (2 : Int32)), .val (.int (3 : Int32)), .val (.int (4 : Int32)), .val (.int (5 : Int32)), .val (.int (4 : Int32)), .unset, .unset, .unset, .unset] [(.int (1 : Int32))]))
          refine Go.step (fun _ k => XS.istore X40.here hx rfl (hb hby at_223) rfl (l' := #[.val (.int qa), .val (.int qb), .val (.int qc), .val (.int qs), .val (.int qq), .val (.int r1), .val (.int r2), .val (.int r3), .val (.int rd), .val (.int ks), .val (.ref b1), .val (.int (1 : Int32)), .val (.int (2 : Int32)), .val (.int (3 : Int32)), .val (.int (4 : Int32)), .val (.int (5 : Int32)), .val (.int (4 : Int32)), .val (.int (1 : Int32)), .unset, .unset, .unset]) rfl k) ?_
          show Go _ _ _ _ _ _ _ (T40.setTop (mkF m 225 #[.val (.int qa), .val (.int qb), .val (.int qc), .val (.int qs), .val (.int qq), .val (.int r1), .val (.int r2), .val (.int r3), .val (.int rd), .val (.int ks), .val (.ref b1), .val (.int (1 : Int32)), .val (.int (2 : Int32)), .val (.int (3 : Int32)), .val (.int (4 : Int32)), .val (.int (5 : Int32)), .val (.int (4 : Int32)), .val (.int (1 : Int32)), .unset, .unset, .unset] []))
          refine Go.step (fun _ k => XS.goto X40.here hx rfl (pc0 := 225) (pc' := 253) rfl (hb hby at_225) (by decide) (by decide) k) ?_
          show Go _ _ _ _ _ _ _ (T40.setTop (mkF m 253 #[.val (.int qa), .val (.int qb), .val (.int qc), .val (.int qs), .val (.int qq), .val (.int r1), .val (.int r2), .val (.int r3), .val (.int rd), .val (.int ks), .val (.ref b1), .val (.int (1 : Int32)), .val (.int (2 : Int32)), .val (.int (3 : Int32)), .val (.int (4 : Int32)), .val (.int (5 : Int32)), .val (.int (4 : Int32)), .val (.int (1 : Int32)), .unset, .unset, .unset] []))
          refine Go.step (fun _ k => XS.aload X40.here hx rfl (hb hby at_253) rfl rfl  k) ?_
          show Go _ _ _ _ _ _ _ (T40.setTop (mkF m 255 #[.val (.int qa), .val (.int qb), .val (.int qc), .val (.int qs), .val (.int qq), .val (.int r1), .val (.int r2), .val (.int r3), .val (.int rd), .val (.int ks), .val (.ref b1), .val (.int (1 : Int32)), .val (.int (2 : Int32)), .val (.int (3 : Int32)), .val (.int (4 : Int32)), .val (.int (5 : Int32)), .val (.int (4 : Int32)), .val (.int (1 : Int32)), .unset, .unset, .unset] [(.ref b1)]))
          refine Go.step (fun _ k => XS.iconst X40.here hx rfl (hb hby at_255) k) ?_
          show Go _ _ _ _ _ _ _ (T40.setTop (mkF m 256 #[.val (.int qa), .val (.int qb), .val (.int qc), .val (.int qs), .val (.int qq), .val (.int r1), .val (.int r2), .val (.int r3), .val (.int rd), .val (.int ks), .val (.ref b1), .val (.int (1 : Int32)), .val (.int (2 : Int32)), .val (.int (3 : Int32)), .val (.int (4 : Int32)), .val (.int (5 : Int32)), .val (.int (4 : Int32)), .val (.int (1 : Int32)), .unset, .unset, .unset] [(.int (0 : Int32)), (.ref b1)]))
          refine Go.step (fun _ k => XS.iload X40.here hx rfl (hb hby at_256) rfl  k) ?_
          show Go _ _ _ _ _ _ _ (T40.setTop (mkF m 258 #[.val (.int qa), .val (.int qb), .val (.int qc), .val (.int qs), .val (.int qq), .val (.int r1), .val (.int r2), .val (.int r3), .val (.int rd), .val (.int ks), .val (.ref b1), .val (.int (1 : Int32)), .val (.int (2 : Int32)), .val (.int (3 : Int32)), .val (.int (4 : Int32)), .val (.int (5 : Int32)), .val (.int (4 : Int32)), .val (.int (1 : Int32)), .unset, .unset, .unset] [(.int (4 : Int32)), (.int (0 : Int32)), (.ref b1)]))
          have f153 : Ai Z T40.heap bl_11 .int (1 : Int32) (fun _ => 0) := (((((c11_14.keep K20 (ninS (Ne.symm c11_18) (ninS (Ne.symm c11_21) (ninS (Ne.symm c11_23) (ninS (Ne.symm c11_24) nin0))))).keep K25 (ninS (Ne.symm c11_18) (ninS (Ne.symm c11_21) (ninS (Ne.symm c11_23) (ninS (Ne.symm c11_24) nin0))))).keep K30 (ninS (Ne.symm c11_18) (ninS (Ne.symm c11_21) (ninS (Ne.symm c11_23) (ninS (Ne.symm c11_24) nin0))))).keep K35 (ninS (Ne.symm c11_18) (ninS (Ne.symm c11_21) (ninS (Ne.symm c11_23) (ninS (Ne.symm c11_24) nin0))))).keep K40 (ninS (Ne.symm c11_18) (ninS (Ne.symm c11_21) (ninS (Ne.symm c11_23) (ninS (Ne.symm c11_24) nin0)))))
          have pq154 : (0 : Int32) = (0 : Int32) := rfl
          obtain ⟨cq155, kq155, q155a, q155b, q155c⟩ := isOf hZ rfl c40_0
          obtain ⟨_, _, ⟨T155, L155, k155, n155⟩, -, X155, ⟨Lc155, hQ155, l155, y155, z155⟩, st155⟩ := X40.virtualBack hx (y := (⟨"com/example/both_ways/bothways/equivalence/SplitHistory", "place", "(II)V"⟩ : MethodName)) (z := (⟨"com/example/both_ways/bothways/equivalence/SplitHistory", "place", "(II)V"⟩ : MethodName)) hown (mvT hZ (hw _ (List.mem_of_getElem? (i := 26) rfl))) (mvT hZ (hw _ (List.mem_of_getElem? (i := 27) rfl))) (notFace_of_selects (args := #[]) (mvT hZ (hw _ (List.mem_of_getElem? (i := 29) rfl)))) (mvT hZ (hw _ (List.mem_of_getElem? (i := 29) rfl))) (mvT hZ (hw _ (List.mem_of_getElem? (i := 28) rfl))) (by decide) (backOf (W := 0) (rm4 l Z aZ hw [] b1 (0 : Int32) (4 : Int32) bl_11 (fun _ => 0) T40.heap n0 z41 c40_4 f153 gn11_3 pq154) hZ (hw _ (List.mem_of_getElem? (i := 30) rfl)) (hw _ (List.mem_of_getElem? (i := 3) rfl)) (by decide) (by decide)) q155a q155c (g := (mkF m 258 #[.val (.int qa), .val (.int qb), .val (.int qc), .val (.int qs), .val (.int qq), .val (.int r1), .val (.int r2), .val (.int r3), .val (.int rd), .val (.int ks), .val (.ref b1), .val (.int (1 : Int32)), .val (.int (2 : Int32)), .val (.int (3 : Int32)), .val (.int (4 : Int32)), .val (.int (5 : Int32)), .val (.int (4 : Int32)), .val (.int (1 : Int32)), .unset, .unset, .unset] [(.int (4 : Int32)), (.int (0 : Int32)), (.ref b1)])) rfl (by rw [hml]; rfl) (Steps.refl _) (argsL := [(.int (0 : Int32)), (.int (4 : Int32))]) (rest := []) (lenOf pd_2 rfl) rfl (by show 2 * 0 + _ ≤ _; exact Nat.le_of_eq rfl) (hb hby at_258) (fun _ _ => ⟨rfl, rfl, (by decide : 5 + 0 ≤ _), (by decide : 56 + 0 ≤ _)⟩)
          dsimp only [Pt.U, Pt.locs, Pt.cells, Pt.slots] at X155 l155 y155 z155 st155 hQ155
          subst l155 y155 z155
          obtain ⟨gl_155, rfl, Nq155, K155, c155_0, u155_0⟩ := hQ155
          have N155 := Fr.app N40 Nq155
          refine Go.tr st155 ?_
          have z156 : n0 ≤ T155.heap.size := Nat.le_trans z41 K155.1
          have sqz156 : h0.size ≤ T155.heap.size := Nat.le_trans sqz41 K155.1
          show Go _ _ _ _ _ _ _ (T155.setTop (mkF m 261 #[.val (.int qa), .val (.int qb), .val (.int qc), .val (.int qs), .val (.int qq), .val (.int r1), .val (.int r2), .val (.int r3), .val (.int rd), .val (.int ks), .val (.ref b1), .val (.int (1 : Int32)), .val (.int (2 : Int32)), .val (.int (3 : Int32)), .val (.int (4 : Int32)), .val (.int (5 : Int32)), .val (.int (4 : Int32)), .val (.int (1 : Int32)), .unset, .unset, .unset] []))
          refine Go.step (fun _ k => XS.aload X155.here hx rfl (hb hby at_261) rfl rfl  k) ?_
          show Go _ _ _ _ _ _ _ (T155.setTop (mkF m 263 #[.val (.int qa), .val (.int qb), .val (.int qc), .val (.int qs), .val (.int qq), .val (.int r1), .val (.int r2), .val (.int r3), .val (.int rd), .val (.int ks), .val (.ref b1), .val (.int (1 : Int32)), .val (.int (2 : Int32)), .val (.int (3 : Int32)), .val (.int (4 : Int32)), .val (.int (5 : Int32)), .val (.int (4 : Int32)), .val (.int (1 : Int32)), .unset, .unset, .unset] [(.ref b1)]))
          refine Go.step (fun _ k => XS.iconst X155.here hx rfl (hb hby at_263) k) ?_
          show Go _ _ _ _ _ _ _ (T155.setTop (mkF m 264 #[.val (.int qa), .val (.int qb), .val (.int qc), .val (.int qs), .val (.int qq), .val (.int r1), .val (.int r2), .val (.int r3), .val (.int rd), .val (.int ks), .val (.ref b1), .val (.int (1 : Int32)), .val (.int (2 : Int32)), .val (.int (3 : Int32)), .val (.int (4 : Int32)), .val (.int (5 : Int32)), .val (.int (4 : Int32)), .val (.int (1 : Int32)), .unset, .unset, .unset] [(.int (0 : Int32)), (.ref b1)]))
          refine Go.step (fun _ k => XS.iload X155.here hx rfl (hb hby at_264) rfl  k) ?_
          show Go _ _ _ _ _ _ _ (T155.setTop (mkF m 266 #[.val (.int qa), .val (.int qb), .val (.int qc), .val (.int qs), .val (.int qq), .val (.int r1), .val (.int r2), .val (.int r3), .val (.int rd), .val (.int ks), .val (.ref b1), .val (.int (1 : Int32)), .val (.int (2 : Int32)), .val (.int (3 : Int32)), .val (.int (4 : Int32)), .val (.int (5 : Int32)), .val (.int (4 : Int32)), .val (.int (1 : Int32)), .unset, .unset, .unset] [(.int rd), (.int (0 : Int32)), (.ref b1)]))
          have f158 : Exa Z T155.heap b1 "com/example/both_ways/bothways/equivalence/SplitHistory" := (c40_0.keep K155)
          have f159 : Fld Z T155.heap b1 "com/example/both_ways/bothways/equivalence/SplitHistory" "parents" "[I" (.ref bp_11) := (c40_1.keep K155 (ninS c11_18 nin0))
          have f160 : Fld Z T155.heap b1 "com/example/both_ways/bothways/equivalence/SplitHistory" "rounds" "[I" (.ref br_11) := (c40_2.keep K155 (ninS c11_18 nin0))
          have f161 : Fld Z T155.heap b1 "com/example/both_ways/bothways/equivalence/SplitHistory" "depths" "[I" (.ref bd_11) := (c40_3.keep K155 (ninS c11_18 nin0))
          have f162 : Fld Z T155.heap b1 "com/example/both_ways/bothways/equivalence/SplitHistory" "leaves" "[I" (.ref bl_11) := (c40_4.keep K155 (ninS c11_18 nin0))
          have f163 : Fld Z T155.heap b1 "com/example/both_ways/bothways/equivalence/SplitHistory" "visits" "J" (.long (0 : Int64)) := (c40_6.keep K155 (ninS c11_18 nin0))
          have f164 : Ai Z T155.heap bp_11 .int (16 : Int32) gp_40 := (c40_7.keep K155 (ninS c11_21 nin0))
          have f165 : Ai Z T155.heap br_11 .int (16 : Int32) gr_40 := (c40_8.keep K155 (ninS c11_23 nin0))
          have f166 : Ai Z T155.heap bd_11 .int (16 : Int32) gd_40 := (c40_9.keep K155 (ninS c11_24 nin0))
          have pq167 : (0 : Int32) = (0 : Int32) := rfl
          have pq168 : own_ok gr_40 gp_40 rd 3 (gl_155 (0 : Int32)) := (by rw [u155_0]; exact (own_c4 vR4 vP4 vR1 vP1 vR0 hrd).1)
          obtain ⟨cq169, kq169, q169a, q169b, q169c⟩ := isOf hZ rfl f158
          obtain ⟨_, _, ⟨T169, L169, k169, n169⟩, -, X169, ⟨Lc169, hQ169, l169, y169, z169⟩, st169⟩ := X155.virtualBack hx (y := (⟨"com/example/both_ways/bothways/equivalence/SplitHistory", "blockAfter", "(II)I"⟩ : MethodName)) (z := (⟨"com/example/both_ways/bothways/equivalence/SplitHistory", "blockAfter", "(II)I"⟩ : MethodName)) hown (mvT hZ (hw _ (List.mem_of_getElem? (i := 31) rfl))) (mvT hZ (hw _ (List.mem_of_getElem? (i := 32) rfl))) (notFace_of_selects (args := #[]) (mvT hZ (hw _ (List.mem_of_getElem? (i := 34) rfl)))) (mvT hZ (hw _ (List.mem_of_getElem? (i := 34) rfl))) (mvT hZ (hw _ (List.mem_of_getElem? (i := 33) rfl))) (by decide) (backOf (W := 0) (rm5 l Z aZ hw [] b1 (0 : Int32) rd bp_11 gp_40 br_11 gr_40 bd_11 gd_40 bl_11 gl_155 T155.heap n0 z156 f158 f159 f160 f161 f162 f163 f164 f165 f166 c155_0 gn1 pq167 pq168 c11_15 c11_16 c11_17 c11_18 c11_19 c11_20 c11_21 c11_22 c11_23 c11_24) hZ (hw _ (List.mem_of_getElem? (i := 35) rfl)) (hw _ (List.mem_of_getElem? (i := 3) rfl)) (by decide) (by decide)) q169a q169c (g := (mkF m 266 #[.val (.int qa), .val (.int qb), .val (.int qc), .val (.int qs), .val (.int qq), .val (.int r1), .val (.int r2), .val (.int r3), .val (.int rd), .val (.int ks), .val (.ref b1), .val (.int (1 : Int32)), .val (.int (2 : Int32)), .val (.int (3 : Int32)), .val (.int (4 : Int32)), .val (.int (5 : Int32)), .val (.int (4 : Int32)), .val (.int (1 : Int32)), .unset, .unset, .unset] [(.int rd), (.int (0 : Int32)), (.ref b1)])) rfl (by rw [hml]; rfl) (Steps.refl _) (argsL := [(.int (0 : Int32)), (.int rd)]) (rest := []) (lenOf pd_1 rfl) rfl (by show 2 * 0 + _ ≤ _; exact Nat.le_of_eq rfl) (hb hby at_266) (fun _ _ => ⟨rfl, rfl, (by decide : 5 + 0 ≤ _), (by decide : 56 + 0 ≤ _)⟩)
          dsimp only [Pt.U, Pt.locs, Pt.cells, Pt.slots] at X169 l169 y169 z169 st169 hQ169
          subst l169 y169 z169
          obtain ⟨rfl, Nq169, K169, c169_0, c169_1⟩ := hQ169
          have N169 := Fr.app N155 Nq169
          refine Go.tr st169 ?_
          have z170 : n0 ≤ T169.heap.size := Nat.le_trans z156 K169.1
          have sqz170 : h0.size ≤ T169.heap.size := Nat.le_trans sqz156 K169.1
          show Go _ _ _ _ _ _ _ (T169.setTop (mkF m 269 #[.val (.int qa), .val (.int qb), .val (.int qc), .val (.int qs), .val (.int qq), .val (.int r1), .val (.int r2), .val (.int r3), .val (.int rd), .val (.int ks), .val (.ref b1), .val (.int (1 : Int32)), .val (.int (2 : Int32)), .val (.int (3 : Int32)), .val (.int (4 : Int32)), .val (.int (5 : Int32)), .val (.int (4 : Int32)), .val (.int (1 : Int32)), .unset, .unset, .unset] [(.int (own_climb gr_40 gp_40 rd 3 (gl_155 (0 : Int32))))]))
          refine Go.step (fun _ k => XS.istore X169.here hx rfl (hb hby at_269) rfl (l' := #[.val (.int qa), .val (.int qb), .val (.int qc), .val (.int qs), .val (.int qq), .val (.int r1), .val (.int r2), .val (.int r3), .val (.int rd), .val (.int ks), .val (.ref b1), .val (.int (1 : Int32)), .val (.int (2 : Int32)), .val (.int (3 : Int32)), .val (.int (4 : Int32)), .val (.int (5 : Int32)), .val (.int (4 : Int32)), .val (.int (1 : Int32)), .val (.int (own_climb gr_40 gp_40 rd 3 (gl_155 (0 : Int32)))), .unset, .unset]) rfl k) ?_
          show Go _ _ _ _ _ _ _ (T169.setTop (mkF m 271 #[.val (.int qa), .val (.int qb), .val (.int qc), .val (.int qs), .val (.int qq), .val (.int r1), .val (.int r2), .val (.int r3), .val (.int rd), .val (.int ks), .val (.ref b1), .val (.int (1 : Int32)), .val (.int (2 : Int32)), .val (.int (3 : Int32)), .val (.int (4 : Int32)), .val (.int (5 : Int32)), .val (.int (4 : Int32)), .val (.int (1 : Int32)), .val (.int (own_climb gr_40 gp_40 rd 3 (gl_155 (0 : Int32)))), .unset, .unset] []))
          refine Go.step (fun _ k => XS.iload X169.here hx rfl (hb hby at_271) rfl  k) ?_
          show Go _ _ _ _ _ _ _ (T169.setTop (mkF m 273 #[.val (.int qa), .val (.int qb), .val (.int qc), .val (.int qs), .val (.int qq), .val (.int r1), .val (.int r2), .val (.int r3), .val (.int rd), .val (.int ks), .val (.ref b1), .val (.int (1 : Int32)), .val (.int (2 : Int32)), .val (.int (3 : Int32)), .val (.int (4 : Int32)), .val (.int (5 : Int32)), .val (.int (4 : Int32)), .val (.int (1 : Int32)), .val (.int (own_climb gr_40 gp_40 rd 3 (gl_155 (0 : Int32)))), .unset, .unset] [(.int (4 : Int32))]))
          obtain ⟨_, _, ⟨T172, L172, k172, n172⟩, -, X172, ⟨Lc172, hQ172, l172, y172, z172⟩, st172⟩ := Jvm.LawKit.callS X169 hx (y := (⟨"com/example/both_ways/bothways/equivalence/SplitHistoryBlockAfterPinLaw", "depthOf", "(I)I"⟩ : MethodName)) hown (mvT hZ (hw _ (List.mem_of_getElem? (i := 38) rfl))) (mvT hZ (hw _ (List.mem_of_getElem? (i := 39) rfl))) (mvT hZ (hw _ (List.mem_of_getElem? (i := 40) rfl))) (mvT hZ (hw _ (List.mem_of_getElem? (i := 41) rfl))) (by decide) (backOf (W := 0) (rm6 l Z aZ hw [] (4 : Int32) T169.heap n0 z170 ) hZ (hw _ (List.mem_of_getElem? (i := 41) rfl)) (hw _ (List.mem_of_getElem? (i := 40) rfl)) (by decide) (by decide)) (g := (mkF m 273 #[.val (.int qa), .val (.int qb), .val (.int qc), .val (.int qs), .val (.int qq), .val (.int r1), .val (.int r2), .val (.int r3), .val (.int rd), .val (.int ks), .val (.ref b1), .val (.int (1 : Int32)), .val (.int (2 : Int32)), .val (.int (3 : Int32)), .val (.int (4 : Int32)), .val (.int (5 : Int32)), .val (.int (4 : Int32)), .val (.int (1 : Int32)), .val (.int (own_climb gr_40 gp_40 rd 3 (gl_155 (0 : Int32)))), .unset, .unset] [(.int (4 : Int32))])) rfl (by rw [hml]; rfl) (argsL := [(.int (4 : Int32))]) (rest := []) (lenOf pd_3 rfl) rfl (by show 2 * 0 + _ ≤ _; exact Nat.le_of_eq rfl) (hb hby at_273) (fun _ _ => ⟨rfl, rfl, (by decide : 5 + 0 ≤ _), (by decide : 56 + 0 ≤ _)⟩)
          dsimp only [Pt.U, Pt.locs, Pt.cells, Pt.slots] at X172 l172 y172 z172 st172 hQ172
          subst l172 y172 z172
          obtain ⟨rfl, Nq172, e172⟩ := hQ172
          have N172 := Fr.app N169 Nq172
          refine Go.step st172 ?_
          show Go _ _ _ _ _ _ _ (T172.setTop (mkF m 276 #[.val (.int qa), .val (.int qb), .val (.int qc), .val (.int qs), .val (.int qq), .val (.int r1), .val (.int r2), .val (.int r3), .val (.int rd), .val (.int ks), .val (.ref b1), .val (.int (1 : Int32)), .val (.int (2 : Int32)), .val (.int (3 : Int32)), .val (.int (4 : Int32)), .val (.int (5 : Int32)), .val (.int (4 : Int32)), .val (.int (1 : Int32)), .val (.int (own_climb gr_40 gp_40 rd 3 (gl_155 (0 : Int32)))), .unset, .unset] [(.int (own_dep (4 : Int32)))]))
          refine Go.step (fun _ k => XS.iload X172.here hx rfl (hb hby at_276) rfl  k) ?_
          show Go _ _ _ _ _ _ _ (T172.setTop (mkF m 278 #[.val (.int qa), .val (.int qb), .val (.int qc), .val (.int qs), .val (.int qq), .val (.int r1), .val (.int r2), .val (.int r3), .val (.int rd), .val (.int ks), .val (.ref b1), .val (.int (1 : Int32)), .val (.int (2 : Int32)), .val (.int (3 : Int32)), .val (.int (4 : Int32)), .val (.int (5 : Int32)), .val (.int (4 : Int32)), .val (.int (1 : Int32)), .val (.int (own_climb gr_40 gp_40 rd 3 (gl_155 (0 : Int32)))), .unset, .unset] [(.int (1 : Int32)), (.int (own_dep (4 : Int32)))]))
          obtain ⟨_, _, ⟨T173, L173, k173, n173⟩, -, X173, ⟨Lc173, hQ173, l173, y173, z173⟩, st173⟩ := Jvm.LawKit.callS X172 hx (y := (⟨"com/example/both_ways/bothways/equivalence/SplitHistoryBlockAfterPinLaw", "depthOf", "(I)I"⟩ : MethodName)) hown (mvT hZ (hw _ (List.mem_of_getElem? (i := 38) rfl))) (mvT hZ (hw _ (List.mem_of_getElem? (i := 39) rfl))) (mvT hZ (hw _ (List.mem_of_getElem? (i := 40) rfl))) (mvT hZ (hw _ (List.mem_of_getElem? (i := 41) rfl))) (by decide) (backOf (W := 1) (rm6 l Z aZ hw [] (1 : Int32) T169.heap n0 z170 ) hZ (hw _ (List.mem_of_getElem? (i := 41) rfl)) (hw _ (List.mem_of_getElem? (i := 40) rfl)) (by decide) (by decide)) (g := (mkF m 278 #[.val (.int qa), .val (.int qb), .val (.int qc), .val (.int qs), .val (.int qq), .val (.int r1), .val (.int r2), .val (.int r3), .val (.int rd), .val (.int ks), .val (.ref b1), .val (.int (1 : Int32)), .val (.int (2 : Int32)), .val (.int (3 : Int32)), .val (.int (4 : Int32)), .val (.int (5 : Int32)), .val (.int (4 : Int32)), .val (.int (1 : Int32)), .val (.int (own_climb gr_40 gp_40 rd 3 (gl_155 (0 : Int32)))), .unset, .unset] [(.int (1 : Int32)), (.int (own_dep (4 : Int32)))])) rfl (by rw [hml]; rfl) (argsL := [(.int (1 : Int32))]) (rest := [(.int (own_dep (4 : Int32)))]) (lenOf pd_3 rfl) rfl (by show 2 * 0 + _ ≤ _; exact Nat.le_of_eq rfl) (hb hby at_278) (fun _ _ => ⟨rfl, e172, (by decide : 5 + 0 ≤ _), (by decide : 56 + 0 ≤ _)⟩)
          dsimp only [Pt.U, Pt.locs, Pt.cells, Pt.slots] at X173 l173 y173 z173 st173 hQ173
          subst l173 y173 z173
          obtain ⟨rfl, Nq173, e173⟩ := hQ173
          have N173 := Fr.app N172 Nq173
          refine Go.step st173 ?_
          show Go _ _ _ _ _ _ _ (T173.setTop (mkF m 281 #[.val (.int qa), .val (.int qb), .val (.int qc), .val (.int qs), .val (.int qq), .val (.int r1), .val (.int r2), .val (.int r3), .val (.int rd), .val (.int ks), .val (.ref b1), .val (.int (1 : Int32)), .val (.int (2 : Int32)), .val (.int (3 : Int32)), .val (.int (4 : Int32)), .val (.int (5 : Int32)), .val (.int (4 : Int32)), .val (.int (1 : Int32)), .val (.int (own_climb gr_40 gp_40 rd 3 (gl_155 (0 : Int32)))), .unset, .unset] [(.int (own_dep (1 : Int32))), (.int (own_dep (4 : Int32)))]))
          refine Go.step (fun _ k => XS.isub X173.here hx rfl (hb hby at_281) rfl k) ?_
          show Go _ _ _ _ _ _ _ (T173.setTop (mkF m 282 #[.val (.int qa), .val (.int qb), .val (.int qc), .val (.int qs), .val (.int qq), .val (.int r1), .val (.int r2), .val (.int r3), .val (.int rd), .val (.int ks), .val (.ref b1), .val (.int (1 : Int32)), .val (.int (2 : Int32)), .val (.int (3 : Int32)), .val (.int (4 : Int32)), .val (.int (5 : Int32)), .val (.int (4 : Int32)), .val (.int (1 : Int32)), .val (.int (own_climb gr_40 gp_40 rd 3 (gl_155 (0 : Int32)))), .unset, .unset] [(.int ((own_dep (4 : Int32)) - (own_dep (1 : Int32))))]))
          refine Go.step (fun _ k => XS.iconst X173.here hx rfl (hb hby at_282) k) ?_
          show Go _ _ _ _ _ _ _ (T173.setTop (mkF m 283 #[.val (.int qa), .val (.int qb), .val (.int qc), .val (.int qs), .val (.int qq), .val (.int r1), .val (.int r2), .val (.int r3), .val (.int rd), .val (.int ks), .val (.ref b1), .val (.int (1 : Int32)), .val (.int (2 : Int32)), .val (.int (3 : Int32)), .val (.int (4 : Int32)), .val (.int (5 : Int32)), .val (.int (4 : Int32)), .val (.int (1 : Int32)), .val (.int (own_climb gr_40 gp_40 rd 3 (gl_155 (0 : Int32)))), .unset, .unset] [(.int (1 : Int32)), (.int ((own_dep (4 : Int32)) - (own_dep (1 : Int32))))]))
          refine Go.step (fun _ k => XS.iadd X173.here hx rfl (hb hby at_283) rfl k) ?_
          show Go _ _ _ _ _ _ _ (T173.setTop (mkF m 284 #[.val (.int qa), .val (.int qb), .val (.int qc), .val (.int qs), .val (.int qq), .val (.int r1), .val (.int r2), .val (.int r3), .val (.int rd), .val (.int ks), .val (.ref b1), .val (.int (1 : Int32)), .val (.int (2 : Int32)), .val (.int (3 : Int32)), .val (.int (4 : Int32)), .val (.int (5 : Int32)), .val (.int (4 : Int32)), .val (.int (1 : Int32)), .val (.int (own_climb gr_40 gp_40 rd 3 (gl_155 (0 : Int32)))), .unset, .unset] [(.int (((own_dep (4 : Int32)) - (own_dep (1 : Int32))) + (1 : Int32)))]))
          refine Go.step (fun _ k => XS.i2l X173.here hx rfl (hb hby at_284) rfl k) ?_
          show Go _ _ _ _ _ _ _ (T173.setTop (mkF m 285 #[.val (.int qa), .val (.int qb), .val (.int qc), .val (.int qs), .val (.int qq), .val (.int r1), .val (.int r2), .val (.int r3), .val (.int rd), .val (.int ks), .val (.ref b1), .val (.int (1 : Int32)), .val (.int (2 : Int32)), .val (.int (3 : Int32)), .val (.int (4 : Int32)), .val (.int (5 : Int32)), .val (.int (4 : Int32)), .val (.int (1 : Int32)), .val (.int (own_climb gr_40 gp_40 rd 3 (gl_155 (0 : Int32)))), .unset, .unset] [(.long (Int32.toInt64 (((own_dep (4 : Int32)) - (own_dep (1 : Int32))) + (1 : Int32))))]))
          refine Go.step (fun _ k => XS.lstore X173.here hx rfl (hb hby at_285) rfl (l' := #[.val (.int qa), .val (.int qb), .val (.int qc), .val (.int qs), .val (.int qq), .val (.int r1), .val (.int r2), .val (.int r3), .val (.int rd), .val (.int ks), .val (.ref b1), .val (.int (1 : Int32)), .val (.int (2 : Int32)), .val (.int (3 : Int32)), .val (.int (4 : Int32)), .val (.int (5 : Int32)), .val (.int (4 : Int32)), .val (.int (1 : Int32)), .val (.int (own_climb gr_40 gp_40 rd 3 (gl_155 (0 : Int32)))), .val (.long (Int32.toInt64 (((own_dep (4 : Int32)) - (own_dep (1 : Int32))) + (1 : Int32)))), .second]) rfl k) ?_
          show Go _ _ _ _ _ _ _ (T173.setTop (mkF m 287 #[.val (.int qa), .val (.int qb), .val (.int qc), .val (.int qs), .val (.int qq), .val (.int r1), .val (.int r2), .val (.int r3), .val (.int rd), .val (.int ks), .val (.ref b1), .val (.int (1 : Int32)), .val (.int (2 : Int32)), .val (.int (3 : Int32)), .val (.int (4 : Int32)), .val (.int (5 : Int32)), .val (.int (4 : Int32)), .val (.int (1 : Int32)), .val (.int (own_climb gr_40 gp_40 rd 3 (gl_155 (0 : Int32)))), .val (.long (Int32.toInt64 (((own_dep (4 : Int32)) - (own_dep (1 : Int32))) + (1 : Int32)))), .second] []))
          refine Go.step (fun _ k => XS.iload X173.here hx rfl (hb hby at_287) rfl  k) ?_
          show Go _ _ _ _ _ _ _ (T173.setTop (mkF m 289 #[.val (.int qa), .val (.int qb), .val (.int qc), .val (.int qs), .val (.int qq), .val (.int r1), .val (.int r2), .val (.int r3), .val (.int rd), .val (.int ks), .val (.ref b1), .val (.int (1 : Int32)), .val (.int (2 : Int32)), .val (.int (3 : Int32)), .val (.int (4 : Int32)), .val (.int (5 : Int32)), .val (.int (4 : Int32)), .val (.int (1 : Int32)), .val (.int (own_climb gr_40 gp_40 rd 3 (gl_155 (0 : Int32)))), .val (.long (Int32.toInt64 (((own_dep (4 : Int32)) - (own_dep (1 : Int32))) + (1 : Int32)))), .second] [(.int (own_climb gr_40 gp_40 rd 3 (gl_155 (0 : Int32))))]))
          refine Go.step (fun _ k => XS.iload X173.here hx rfl (hb hby at_289) rfl  k) ?_
          show Go _ _ _ _ _ _ _ (T173.setTop (mkF m 291 #[.val (.int qa), .val (.int qb), .val (.int qc), .val (.int qs), .val (.int qq), .val (.int r1), .val (.int r2), .val (.int r3), .val (.int rd), .val (.int ks), .val (.ref b1), .val (.int (1 : Int32)), .val (.int (2 : Int32)), .val (.int (3 : Int32)), .val (.int (4 : Int32)), .val (.int (5 : Int32)), .val (.int (4 : Int32)), .val (.int (1 : Int32)), .val (.int (own_climb gr_40 gp_40 rd 3 (gl_155 (0 : Int32)))), .val (.long (Int32.toInt64 (((own_dep (4 : Int32)) - (own_dep (1 : Int32))) + (1 : Int32)))), .second] [(.int (1 : Int32)), (.int (own_climb gr_40 gp_40 rd 3 (gl_155 (0 : Int32))))]))
          have hc291 : (own_climb gr_40 gp_40 rd 3 (gl_155 (0 : Int32))) = (1 : Int32) := by rw [u155_0, (own_c4 vR4 vP4 vR1 vP1 vR0 hrd).2, if_pos hc206, if_neg hc219]
          refine Go.step (fun _ k => XS.icmpNo X173.here hx rfl (hb hby at_291) rfl (teq hc291).2 k) ?_
          show Go _ _ _ _ _ _ _ (T173.setTop (mkF m 294 #[.val (.int qa), .val (.int qb), .val (.int qc), .val (.int qs), .val (.int qq), .val (.int r1), .val (.int r2), .val (.int r3), .val (.int rd), .val (.int ks), .val (.ref b1), .val (.int (1 : Int32)), .val (.int (2 : Int32)), .val (.int (3 : Int32)), .val (.int (4 : Int32)), .val (.int (5 : Int32)), .val (.int (4 : Int32)), .val (.int (1 : Int32)), .val (.int (own_climb gr_40 gp_40 rd 3 (gl_155 (0 : Int32)))), .val (.long (Int32.toInt64 (((own_dep (4 : Int32)) - (own_dep (1 : Int32))) + (1 : Int32)))), .second] []))
          refine Go.step (fun _ k => XS.aload X173.here hx rfl (hb hby at_294) rfl rfl  k) ?_
          show Go _ _ _ _ _ _ _ (T173.setTop (mkF m 296 #[.val (.int qa), .val (.int qb), .val (.int qc), .val (.int qs), .val (.int qq), .val (.int r1), .val (.int r2), .val (.int r3), .val (.int rd), .val (.int ks), .val (.ref b1), .val (.int (1 : Int32)), .val (.int (2 : Int32)), .val (.int (3 : Int32)), .val (.int (4 : Int32)), .val (.int (5 : Int32)), .val (.int (4 : Int32)), .val (.int (1 : Int32)), .val (.int (own_climb gr_40 gp_40 rd 3 (gl_155 (0 : Int32)))), .val (.long (Int32.toInt64 (((own_dep (4 : Int32)) - (own_dep (1 : Int32))) + (1 : Int32)))), .second] [(.ref b1)]))
          obtain ⟨cq174, kq174, q174a, q174b, q174c⟩ := isOf hZ e173 c169_0
          obtain ⟨_, _, ⟨T174, L174, k174, n174⟩, -, X174, ⟨Lc174, hQ174, l174, y174, z174⟩, st174⟩ := X173.virtualBack hx (y := (⟨"com/example/both_ways/bothways/equivalence/SplitHistory", "getVisitCount", "()J"⟩ : MethodName)) (z := (⟨"com/example/both_ways/bothways/equivalence/SplitHistory", "getVisitCount", "()J"⟩ : MethodName)) hown (mvT hZ (hw _ (List.mem_of_getElem? (i := 42) rfl))) (mvT hZ (hw _ (List.mem_of_getElem? (i := 43) rfl))) (notFace_of_selects (args := #[]) (mvT hZ (hw _ (List.mem_of_getElem? (i := 45) rfl)))) (mvT hZ (hw _ (List.mem_of_getElem? (i := 45) rfl))) (mvT hZ (hw _ (List.mem_of_getElem? (i := 44) rfl))) (by decide) (backOf (W := 0) (rm7 l Z aZ hw [] b1 ((0 : Int64) + Int32.toInt64 (((gd_40 (gl_155 (0 : Int32))) - (gd_40 (own_climb gr_40 gp_40 rd 3 (gl_155 (0 : Int32))))) + (1 : Int32))) T169.heap n0 z170 c169_1) hZ (hw _ (List.mem_of_getElem? (i := 46) rfl)) (hw _ (List.mem_of_getElem? (i := 3) rfl)) (by decide) (by decide)) q174a q174c (g := (mkF m 296 #[.val (.int qa), .val (.int qb), .val (.int qc), .val (.int qs), .val (.int qq), .val (.int r1), .val (.int r2), .val (.int r3), .val (.int rd), .val (.int ks), .val (.ref b1), .val (.int (1 : Int32)), .val (.int (2 : Int32)), .val (.int (3 : Int32)), .val (.int (4 : Int32)), .val (.int (5 : Int32)), .val (.int (4 : Int32)), .val (.int (1 : Int32)), .val (.int (own_climb gr_40 gp_40 rd 3 (gl_155 (0 : Int32)))), .val (.long (Int32.toInt64 (((own_dep (4 : Int32)) - (own_dep (1 : Int32))) + (1 : Int32)))), .second] [(.ref b1)])) rfl (by rw [hml]; rfl) (Steps.refl _) (argsL := []) (rest := []) (lenOf pd_4 rfl) rfl (by show 2 * 0 + _ ≤ _; exact Nat.le_of_eq rfl) (hb hby at_296) (fun _ _ => ⟨rfl, e173, (by decide : 5 + 0 ≤ _), (by decide : 56 + 0 ≤ _)⟩)
          dsimp only [Pt.U, Pt.locs, Pt.cells, Pt.slots] at X174 l174 y174 z174 st174 hQ174
          subst l174 y174 z174
          obtain ⟨rfl, Nq174, e174⟩ := hQ174
          have N174 := Fr.app N173 Nq174
          refine Go.tr st174 ?_
          show Go _ _ _ _ _ _ _ (T174.setTop (mkF m 299 #[.val (.int qa), .val (.int qb), .val (.int qc), .val (.int qs), .val (.int qq), .val (.int r1), .val (.int r2), .val (.int r3), .val (.int rd), .val (.int ks), .val (.ref b1), .val (.int (1 : Int32)), .val (.int (2 : Int32)), .val (.int (3 : Int32)), .val (.int (4 : Int32)), .val (.int (5 : Int32)), .val (.int (4 : Int32)), .val (.int (1 : Int32)), .val (.int (own_climb gr_40 gp_40 rd 3 (gl_155 (0 : Int32)))), .val (.long (Int32.toInt64 (((own_dep (4 : Int32)) - (own_dep (1 : Int32))) + (1 : Int32)))), .second] [(.long ((0 : Int64) + Int32.toInt64 (((gd_40 (gl_155 (0 : Int32))) - (gd_40 (own_climb gr_40 gp_40 rd 3 (gl_155 (0 : Int32))))) + (1 : Int32))))]))
          refine Go.step (fun _ k => XS.lload X174.here hx rfl (hb hby at_299) rfl  k) ?_
          show Go _ _ _ _ _ _ _ (T174.setTop (mkF m 301 #[.val (.int qa), .val (.int qb), .val (.int qc), .val (.int qs), .val (.int qq), .val (.int r1), .val (.int r2), .val (.int r3), .val (.int rd), .val (.int ks), .val (.ref b1), .val (.int (1 : Int32)), .val (.int (2 : Int32)), .val (.int (3 : Int32)), .val (.int (4 : Int32)), .val (.int (5 : Int32)), .val (.int (4 : Int32)), .val (.int (1 : Int32)), .val (.int (own_climb gr_40 gp_40 rd 3 (gl_155 (0 : Int32)))), .val (.long (Int32.toInt64 (((own_dep (4 : Int32)) - (own_dep (1 : Int32))) + (1 : Int32)))), .second] [(.long (Int32.toInt64 (((own_dep (4 : Int32)) - (own_dep (1 : Int32))) + (1 : Int32)))), (.long ((0 : Int64) + Int32.toInt64 (((gd_40 (gl_155 (0 : Int32))) - (gd_40 (own_climb gr_40 gp_40 rd 3 (gl_155 (0 : Int32))))) + (1 : Int32))))]))
          refine Go.step (fun _ k => XS.lcmp X174.here hx rfl (hb hby at_301) rfl k) ?_
          show Go _ _ _ _ _ _ _ (T174.setTop (mkF m 302 #[.val (.int qa), .val (.int qb), .val (.int qc), .val (.int qs), .val (.int qq), .val (.int r1), .val (.int r2), .val (.int r3), .val (.int rd), .val (.int ks), .val (.ref b1), .val (.int (1 : Int32)), .val (.int (2 : Int32)), .val (.int (3 : Int32)), .val (.int (4 : Int32)), .val (.int (5 : Int32)), .val (.int (4 : Int32)), .val (.int (1 : Int32)), .val (.int (own_climb gr_40 gp_40 rd 3 (gl_155 (0 : Int32)))), .val (.long (Int32.toInt64 (((own_dep (4 : Int32)) - (own_dep (1 : Int32))) + (1 : Int32)))), .second] [(.int (lcmpW ((0 : Int64) + Int32.toInt64 (((gd_40 (gl_155 (0 : Int32))) - (gd_40 (own_climb gr_40 gp_40 rd 3 (gl_155 (0 : Int32))))) + (1 : Int32))) (Int32.toInt64 (((own_dep (4 : Int32)) - (own_dep (1 : Int32))) + (1 : Int32)))))]))
          have hc302 : (lcmpW ((0 : Int64) + Int32.toInt64 (((gd_40 (gl_155 (0 : Int32))) - (gd_40 (own_climb gr_40 gp_40 rd 3 (gl_155 (0 : Int32))))) + (1 : Int32))) (Int32.toInt64 (((own_dep (4 : Int32)) - (own_dep (1 : Int32))) + (1 : Int32)))) = (0 : Int32) := by
            rw [hc291, u155_0, vD4, vD1]
            decide
          refine Go.step (fun _ k => XS.ifNo X174.here hx rfl (hb hby at_302) rfl ((if0 _ _).trans (teq hc302).2) k) ?_
          show Go _ _ _ _ _ _ _ (T174.setTop (mkF m 305 #[.val (.int qa), .val (.int qb), .val (.int qc), .val (.int qs), .val (.int qq), .val (.int r1), .val (.int r2), .val (.int r3), .val (.int rd), .val (.int ks), .val (.ref b1), .val (.int (1 : Int32)), .val (.int (2 : Int32)), .val (.int (3 : Int32)), .val (.int (4 : Int32)), .val (.int (5 : Int32)), .val (.int (4 : Int32)), .val (.int (1 : Int32)), .val (.int (own_climb gr_40 gp_40 rd 3 (gl_155 (0 : Int32)))), .val (.long (Int32.toInt64 (((own_dep (4 : Int32)) - (own_dep (1 : Int32))) + (1 : Int32)))), .second] []))
          refine Go.step (fun _ k => XS.iconst X174.here hx rfl (hb hby at_305) k) ?_
          show Go _ _ _ _ _ _ _ (T174.setTop (mkF m 306 #[.val (.int qa), .val (.int qb), .val (.int qc), .val (.int qs), .val (.int qq), .val (.int r1), .val (.int r2), .val (.int r3), .val (.int rd), .val (.int ks), .val (.ref b1), .val (.int (1 : Int32)), .val (.int (2 : Int32)), .val (.int (3 : Int32)), .val (.int (4 : Int32)), .val (.int (5 : Int32)), .val (.int (4 : Int32)), .val (.int (1 : Int32)), .val (.int (own_climb gr_40 gp_40 rd 3 (gl_155 (0 : Int32)))), .val (.long (Int32.toInt64 (((own_dep (4 : Int32)) - (own_dep (1 : Int32))) + (1 : Int32)))), .second] [(.int (1 : Int32))]))
          refine Go.step (fun _ k => XS.goto X174.here hx rfl (pc0 := 306) (pc' := 310) rfl (hb hby at_306) (by decide) (by decide) k) ?_
          show Go _ _ _ _ _ _ _ (T174.setTop (mkF m 310 #[.val (.int qa), .val (.int qb), .val (.int qc), .val (.int qs), .val (.int qq), .val (.int r1), .val (.int r2), .val (.int r3), .val (.int rd), .val (.int ks), .val (.ref b1), .val (.int (1 : Int32)), .val (.int (2 : Int32)), .val (.int (3 : Int32)), .val (.int (4 : Int32)), .val (.int (5 : Int32)), .val (.int (4 : Int32)), .val (.int (1 : Int32)), .val (.int (own_climb gr_40 gp_40 rd 3 (gl_155 (0 : Int32)))), .val (.long (Int32.toInt64 (((own_dep (4 : Int32)) - (own_dep (1 : Int32))) + (1 : Int32)))), .second] [(.int (1 : Int32))]))
          refine Go.retN X174 hx (t := .boolean) Bd.returns (by simp) hlk (hb hby at_310) ?_ (by decide) (by decide)
          rw [e174]
          exact ⟨(by first | rfl | (simp_all [own_nb1, own_nb0]; done)), N174⟩
      · skip
        refine Go.step (fun _ k => XS.icmpNo X40.here hx rfl (hb hby at_206) rfl (flt hc206).1 k) ?_
        show Go _ _ _ _ _ _ _ (T40.setTop (mkF m 209 #[.val (.int qa), .val (.int qb), .val (.int qc), .val (.int qs), .val (.int qq), .val (.int r1), .val (.int r2), .val (.int r3), .val (.int rd), .val (.int ks), .val (.ref b1), .val (.int (1 : Int32)), .val (.int (2 : Int32)), .val (.int (3 : Int32)), .val (.int (4 : Int32)), .val (.int (5 : Int32)), .val (.int (4 : Int32)), .unset, .unset, .unset, .unset] []))
        refine Go.step (fun _ k => XS.iconst X40.here hx rfl (hb hby at_209) k) ?_
        show Go _ _ _ _ _ _ _ (T40.setTop (mkF m 210 #[.val (.int qa), .val (.int qb), .val (.int qc), .val (.int qs), .val (.int qq), .val (.int r1), .val (.int r2), .val (.int r3), .val (.int rd), .val (.int ks), .val (.ref b1), .val (.int (1 : Int32)), .val (.int (2 : Int32)), .val (.int (3 : Int32)), .val (.int (4 : Int32)), .val (.int (5 : Int32)), .val (.int (4 : Int32)), .unset, .unset, .unset, .unset] [(.int (4 : Int32))]))
        refine Go.step (fun _ k => XS.istore X40.here hx rfl (hb hby at_210) rfl (l' := #[.val (.int qa), .val (.int qb), .val (.int qc), .val (.int qs), .val (.int qq), .val (.int r1), .val (.int r2), .val (.int r3), .val (.int rd), .val (.int ks), .val (.ref b1), .val (.int (1 : Int32)), .val (.int (2 : Int32)), .val (.int (3 : Int32)), .val (.int (4 : Int32)), .val (.int (5 : Int32)), .val (.int (4 : Int32)), .val (.int (4 : Int32)), .unset, .unset, .unset]) rfl k) ?_
        show Go _ _ _ _ _ _ _ (T40.setTop (mkF m 212 #[.val (.int qa), .val (.int qb), .val (.int qc), .val (.int qs), .val (.int qq), .val (.int r1), .val (.int r2), .val (.int r3), .val (.int rd), .val (.int ks), .val (.ref b1), .val (.int (1 : Int32)), .val (.int (2 : Int32)), .val (.int (3 : Int32)), .val (.int (4 : Int32)), .val (.int (5 : Int32)), .val (.int (4 : Int32)), .val (.int (4 : Int32)), .unset, .unset, .unset] []))
        refine Go.step (fun _ k => XS.goto X40.here hx rfl (pc0 := 212) (pc' := 253) rfl (hb hby at_212) (by decide) (by decide) k) ?_
        show Go _ _ _ _ _ _ _ (T40.setTop (mkF m 253 #[.val (.int qa), .val (.int qb), .val (.int qc), .val (.int qs), .val (.int qq), .val (.int r1), .val (.int r2), .val (.int r3), .val (.int rd), .val (.int ks), .val (.ref b1), .val (.int (1 : Int32)), .val (.int (2 : Int32)), .val (.int (3 : Int32)), .val (.int (4 : Int32)), .val (.int (5 : Int32)), .val (.int (4 : Int32)), .val (.int (4 : Int32)), .unset, .unset, .unset] []))
        refine Go.step (fun _ k => XS.aload X40.here hx rfl (hb hby at_253) rfl rfl  k) ?_
        show Go _ _ _ _ _ _ _ (T40.setTop (mkF m 255 #[.val (.int qa), .val (.int qb), .val (.int qc), .val (.int qs), .val (.int qq), .val (.int r1), .val (.int r2), .val (.int r3), .val (.int rd), .val (.int ks), .val (.ref b1), .val (.int (1 : Int32)), .val (.int (2 : Int32)), .val (.int (3 : Int32)), .val (.int (4 : Int32)), .val (.int (5 : Int32)), .val (.int (4 : Int32)), .val (.int (4 : Int32)), .unset, .unset, .unset] [(.ref b1)]))
        refine Go.step (fun _ k => XS.iconst X40.here hx rfl (hb hby at_255) k) ?_
        show Go _ _ _ _ _ _ _ (T40.setTop (mkF m 256 #[.val (.int qa), .val (.int qb), .val (.int qc), .val (.int qs), .val (.int qq), .val (.int r1), .val (.int r2), .val (.int r3), .val (.int rd), .val (.int ks), .val (.ref b1), .val (.int (1 : Int32)), .val (.int (2 : Int32)), .val (.int (3 : Int32)), .val (.int (4 : Int32)), .val (.int (5 : Int32)), .val (.int (4 : Int32)), .val (.int (4 : Int32)), .unset, .unset, .unset] [(.int (0 : Int32)), (.ref b1)]))
        refine Go.step (fun _ k => XS.iload X40.here hx rfl (hb hby at_256) rfl  k) ?_
        show Go _ _ _ _ _ _ _ (T40.setTop (mkF m 258 #[.val (.int qa), .val (.int qb), .val (.int qc), .val (.int qs), .val (.int qq), .val (.int r1), .val (.int r2), .val (.int r3), .val (.int rd), .val (.int ks), .val (.ref b1), .val (.int (1 : Int32)), .val (.int (2 : Int32)), .val (.int (3 : Int32)), .val (.int (4 : Int32)), .val (.int (5 : Int32)), .val (.int (4 : Int32)), .val (.int (4 : Int32)), .unset, .unset, .unset] [(.int (4 : Int32)), (.int (0 : Int32)), (.ref b1)]))
        have f175 : Ai Z T40.heap bl_11 .int (1 : Int32) (fun _ => 0) := (((((c11_14.keep K20 (ninS (Ne.symm c11_18) (ninS (Ne.symm c11_21) (ninS (Ne.symm c11_23) (ninS (Ne.symm c11_24) nin0))))).keep K25 (ninS (Ne.symm c11_18) (ninS (Ne.symm c11_21) (ninS (Ne.symm c11_23) (ninS (Ne.symm c11_24) nin0))))).keep K30 (ninS (Ne.symm c11_18) (ninS (Ne.symm c11_21) (ninS (Ne.symm c11_23) (ninS (Ne.symm c11_24) nin0))))).keep K35 (ninS (Ne.symm c11_18) (ninS (Ne.symm c11_21) (ninS (Ne.symm c11_23) (ninS (Ne.symm c11_24) nin0))))).keep K40 (ninS (Ne.symm c11_18) (ninS (Ne.symm c11_21) (ninS (Ne.symm c11_23) (ninS (Ne.symm c11_24) nin0)))))
        have pq176 : (0 : Int32) = (0 : Int32) := rfl
        obtain ⟨cq177, kq177, q177a, q177b, q177c⟩ := isOf hZ rfl c40_0
        obtain ⟨_, _, ⟨T177, L177, k177, n177⟩, -, X177, ⟨Lc177, hQ177, l177, y177, z177⟩, st177⟩ := X40.virtualBack hx (y := (⟨"com/example/both_ways/bothways/equivalence/SplitHistory", "place", "(II)V"⟩ : MethodName)) (z := (⟨"com/example/both_ways/bothways/equivalence/SplitHistory", "place", "(II)V"⟩ : MethodName)) hown (mvT hZ (hw _ (List.mem_of_getElem? (i := 26) rfl))) (mvT hZ (hw _ (List.mem_of_getElem? (i := 27) rfl))) (notFace_of_selects (args := #[]) (mvT hZ (hw _ (List.mem_of_getElem? (i := 29) rfl)))) (mvT hZ (hw _ (List.mem_of_getElem? (i := 29) rfl))) (mvT hZ (hw _ (List.mem_of_getElem? (i := 28) rfl))) (by decide) (backOf (W := 0) (rm4 l Z aZ hw [] b1 (0 : Int32) (4 : Int32) bl_11 (fun _ => 0) T40.heap n0 z41 c40_4 f175 gn11_3 pq176) hZ (hw _ (List.mem_of_getElem? (i := 30) rfl)) (hw _ (List.mem_of_getElem? (i := 3) rfl)) (by decide) (by decide)) q177a q177c (g := (mkF m 258 #[.val (.int qa), .val (.int qb), .val (.int qc), .val (.int qs), .val (.int qq), .val (.int r1), .val (.int r2), .val (.int r3), .val (.int rd), .val (.int ks), .val (.ref b1), .val (.int (1 : Int32)), .val (.int (2 : Int32)), .val (.int (3 : Int32)), .val (.int (4 : Int32)), .val (.int (5 : Int32)), .val (.int (4 : Int32)), .val (.int (4 : Int32)), .unset, .unset, .unset] [(.int (4 : Int32)), (.int (0 : Int32)), (.ref b1)])) rfl (by rw [hml]; rfl) (Steps.refl _) (argsL := [(.int (0 : Int32)), (.int (4 : Int32))]) (rest := []) (lenOf pd_2 rfl) rfl (by show 2 * 0 + _ ≤ _; exact Nat.le_of_eq rfl) (hb hby at_258) (fun _ _ => ⟨rfl, rfl, (by decide : 5 + 0 ≤ _), (by decide : 56 + 0 ≤ _)⟩)
        dsimp only [Pt.U, Pt.locs, Pt.cells, Pt.slots] at X177 l177 y177 z177 st177 hQ177
        subst l177 y177 z177
        obtain ⟨gl_177, rfl, Nq177, K177, c177_0, u177_0⟩ := hQ177
        have N177 := Fr.app N40 Nq177
        refine Go.tr st177 ?_
        have z178 : n0 ≤ T177.heap.size := Nat.le_trans z41 K177.1
        have sqz178 : h0.size ≤ T177.heap.size := Nat.le_trans sqz41 K177.1
        show Go _ _ _ _ _ _ _ (T177.setTop (mkF m 261 #[.val (.int qa), .val (.int qb), .val (.int qc), .val (.int qs), .val (.int qq), .val (.int r1), .val (.int r2), .val (.int r3), .val (.int rd), .val (.int ks), .val (.ref b1), .val (.int (1 : Int32)), .val (.int (2 : Int32)), .val (.int (3 : Int32)), .val (.int (4 : Int32)), .val (.int (5 : Int32)), .val (.int (4 : Int32)), .val (.int (4 : Int32)), .unset, .unset, .unset] []))
        refine Go.step (fun _ k => XS.aload X177.here hx rfl (hb hby at_261) rfl rfl  k) ?_
        show Go _ _ _ _ _ _ _ (T177.setTop (mkF m 263 #[.val (.int qa), .val (.int qb), .val (.int qc), .val (.int qs), .val (.int qq), .val (.int r1), .val (.int r2), .val (.int r3), .val (.int rd), .val (.int ks), .val (.ref b1), .val (.int (1 : Int32)), .val (.int (2 : Int32)), .val (.int (3 : Int32)), .val (.int (4 : Int32)), .val (.int (5 : Int32)), .val (.int (4 : Int32)), .val (.int (4 : Int32)), .unset, .unset, .unset] [(.ref b1)]))
        refine Go.step (fun _ k => XS.iconst X177.here hx rfl (hb hby at_263) k) ?_
        show Go _ _ _ _ _ _ _ (T177.setTop (mkF m 264 #[.val (.int qa), .val (.int qb), .val (.int qc), .val (.int qs), .val (.int qq), .val (.int r1), .val (.int r2), .val (.int r3), .val (.int rd), .val (.int ks), .val (.ref b1), .val (.int (1 : Int32)), .val (.int (2 : Int32)), .val (.int (3 : Int32)), .val (.int (4 : Int32)), .val (.int (5 : Int32)), .val (.int (4 : Int32)), .val (.int (4 : Int32)), .unset, .unset, .unset] [(.int (0 : Int32)), (.ref b1)]))
        refine Go.step (fun _ k => XS.iload X177.here hx rfl (hb hby at_264) rfl  k) ?_
        show Go _ _ _ _ _ _ _ (T177.setTop (mkF m 266 #[.val (.int qa), .val (.int qb), .val (.int qc), .val (.int qs), .val (.int qq), .val (.int r1), .val (.int r2), .val (.int r3), .val (.int rd), .val (.int ks), .val (.ref b1), .val (.int (1 : Int32)), .val (.int (2 : Int32)), .val (.int (3 : Int32)), .val (.int (4 : Int32)), .val (.int (5 : Int32)), .val (.int (4 : Int32)), .val (.int (4 : Int32)), .unset, .unset, .unset] [(.int rd), (.int (0 : Int32)), (.ref b1)]))
        have f180 : Exa Z T177.heap b1 "com/example/both_ways/bothways/equivalence/SplitHistory" := (c40_0.keep K177)
        have f181 : Fld Z T177.heap b1 "com/example/both_ways/bothways/equivalence/SplitHistory" "parents" "[I" (.ref bp_11) := (c40_1.keep K177 (ninS c11_18 nin0))
        have f182 : Fld Z T177.heap b1 "com/example/both_ways/bothways/equivalence/SplitHistory" "rounds" "[I" (.ref br_11) := (c40_2.keep K177 (ninS c11_18 nin0))
        have f183 : Fld Z T177.heap b1 "com/example/both_ways/bothways/equivalence/SplitHistory" "depths" "[I" (.ref bd_11) := (c40_3.keep K177 (ninS c11_18 nin0))
        have f184 : Fld Z T177.heap b1 "com/example/both_ways/bothways/equivalence/SplitHistory" "leaves" "[I" (.ref bl_11) := (c40_4.keep K177 (ninS c11_18 nin0))
        have f185 : Fld Z T177.heap b1 "com/example/both_ways/bothways/equivalence/SplitHistory" "visits" "J" (.long (0 : Int64)) := (c40_6.keep K177 (ninS c11_18 nin0))
        have f186 : Ai Z T177.heap bp_11 .int (16 : Int32) gp_40 := (c40_7.keep K177 (ninS c11_21 nin0))
        have f187 : Ai Z T177.heap br_11 .int (16 : Int32) gr_40 := (c40_8.keep K177 (ninS c11_23 nin0))
        have f188 : Ai Z T177.heap bd_11 .int (16 : Int32) gd_40 := (c40_9.keep K177 (ninS c11_24 nin0))
        have pq189 : (0 : Int32) = (0 : Int32) := rfl
        have pq190 : own_ok gr_40 gp_40 rd 3 (gl_177 (0 : Int32)) := (by rw [u177_0]; exact (own_c4 vR4 vP4 vR1 vP1 vR0 hrd).1)
        obtain ⟨cq191, kq191, q191a, q191b, q191c⟩ := isOf hZ rfl f180
        obtain ⟨_, _, ⟨T191, L191, k191, n191⟩, -, X191, ⟨Lc191, hQ191, l191, y191, z191⟩, st191⟩ := X177.virtualBack hx (y := (⟨"com/example/both_ways/bothways/equivalence/SplitHistory", "blockAfter", "(II)I"⟩ : MethodName)) (z := (⟨"com/example/both_ways/bothways/equivalence/SplitHistory", "blockAfter", "(II)I"⟩ : MethodName)) hown (mvT hZ (hw _ (List.mem_of_getElem? (i := 31) rfl))) (mvT hZ (hw _ (List.mem_of_getElem? (i := 32) rfl))) (notFace_of_selects (args := #[]) (mvT hZ (hw _ (List.mem_of_getElem? (i := 34) rfl)))) (mvT hZ (hw _ (List.mem_of_getElem? (i := 34) rfl))) (mvT hZ (hw _ (List.mem_of_getElem? (i := 33) rfl))) (by decide) (backOf (W := 0) (rm5 l Z aZ hw [] b1 (0 : Int32) rd bp_11 gp_40 br_11 gr_40 bd_11 gd_40 bl_11 gl_177 T177.heap n0 z178 f180 f181 f182 f183 f184 f185 f186 f187 f188 c177_0 gn1 pq189 pq190 c11_15 c11_16 c11_17 c11_18 c11_19 c11_20 c11_21 c11_22 c11_23 c11_24) hZ (hw _ (List.mem_of_getElem? (i := 35) rfl)) (hw _ (List.mem_of_getElem? (i := 3) rfl)) (by decide) (by decide)) q191a q191c (g := (mkF m 266 #[.val (.int qa), .val (.int qb), .val (.int qc), .val (.int qs), .val (.int qq), .val (.int r1), .val (.int r2), .val (.int r3), .val (.int rd), .val (.int ks), .val (.ref b1), .val (.int (1 : Int32)), .val (.int (2 : Int32)), .val (.int (3 : Int32)), .val (.int (4 : Int32)), .val (.int (5 : Int32)), .val (.int (4 : Int32)), .val (.int (4 : Int32)), .unset, .unset, .unset] [(.int rd), (.int (0 : Int32)), (.ref b1)])) rfl (by rw [hml]; rfl) (Steps.refl _) (argsL := [(.int (0 : Int32)), (.int rd)]) (rest := []) (lenOf pd_1 rfl) rfl (by show 2 * 0 + _ ≤ _; exact Nat.le_of_eq rfl) (hb hby at_266) (fun _ _ => ⟨rfl, rfl, (by decide : 5 + 0 ≤ _), (by decide : 56 + 0 ≤ _)⟩)
        dsimp only [Pt.U, Pt.locs, Pt.cells, Pt.slots] at X191 l191 y191 z191 st191 hQ191
        subst l191 y191 z191
        obtain ⟨rfl, Nq191, K191, c191_0, c191_1⟩ := hQ191
        have N191 := Fr.app N177 Nq191
        refine Go.tr st191 ?_
        have z192 : n0 ≤ T191.heap.size := Nat.le_trans z178 K191.1
        have sqz192 : h0.size ≤ T191.heap.size := Nat.le_trans sqz178 K191.1
        show Go _ _ _ _ _ _ _ (T191.setTop (mkF m 269 #[.val (.int qa), .val (.int qb), .val (.int qc), .val (.int qs), .val (.int qq), .val (.int r1), .val (.int r2), .val (.int r3), .val (.int rd), .val (.int ks), .val (.ref b1), .val (.int (1 : Int32)), .val (.int (2 : Int32)), .val (.int (3 : Int32)), .val (.int (4 : Int32)), .val (.int (5 : Int32)), .val (.int (4 : Int32)), .val (.int (4 : Int32)), .unset, .unset, .unset] [(.int (own_climb gr_40 gp_40 rd 3 (gl_177 (0 : Int32))))]))
        refine Go.step (fun _ k => XS.istore X191.here hx rfl (hb hby at_269) rfl (l' := #[.val (.int qa), .val (.int qb), .val (.int qc), .val (.int qs), .val (.int qq), .val (.int r1), .val (.int r2), .val (.int r3), .val (.int rd), .val (.int ks), .val (.ref b1), .val (.int (1 : Int32)), .val (.int (2 : Int32)), .val (.int (3 : Int32)), .val (.int (4 : Int32)), .val (.int (5 : Int32)), .val (.int (4 : Int32)), .val (.int (4 : Int32)), .val (.int (own_climb gr_40 gp_40 rd 3 (gl_177 (0 : Int32)))), .unset, .unset]) rfl k) ?_
        show Go _ _ _ _ _ _ _ (T191.setTop (mkF m 271 #[.val (.int qa), .val (.int qb), .val (.int qc), .val (.int qs), .val (.int qq), .val (.int r1), .val (.int r2), .val (.int r3), .val (.int rd), .val (.int ks), .val (.ref b1), .val (.int (1 : Int32)), .val (.int (2 : Int32)), .val (.int (3 : Int32)), .val (.int (4 : Int32)), .val (.int (5 : Int32)), .val (.int (4 : Int32)), .val (.int (4 : Int32)), .val (.int (own_climb gr_40 gp_40 rd 3 (gl_177 (0 : Int32)))), .unset, .unset] []))
        refine Go.step (fun _ k => XS.iload X191.here hx rfl (hb hby at_271) rfl  k) ?_
        show Go _ _ _ _ _ _ _ (T191.setTop (mkF m 273 #[.val (.int qa), .val (.int qb), .val (.int qc), .val (.int qs), .val (.int qq), .val (.int r1), .val (.int r2), .val (.int r3), .val (.int rd), .val (.int ks), .val (.ref b1), .val (.int (1 : Int32)), .val (.int (2 : Int32)), .val (.int (3 : Int32)), .val (.int (4 : Int32)), .val (.int (5 : Int32)), .val (.int (4 : Int32)), .val (.int (4 : Int32)), .val (.int (own_climb gr_40 gp_40 rd 3 (gl_177 (0 : Int32)))), .unset, .unset] [(.int (4 : Int32))]))
        obtain ⟨_, _, ⟨T194, L194, k194, n194⟩, -, X194, ⟨Lc194, hQ194, l194, y194, z194⟩, st194⟩ := Jvm.LawKit.callS X191 hx (y := (⟨"com/example/both_ways/bothways/equivalence/SplitHistoryBlockAfterPinLaw", "depthOf", "(I)I"⟩ : MethodName)) hown (mvT hZ (hw _ (List.mem_of_getElem? (i := 38) rfl))) (mvT hZ (hw _ (List.mem_of_getElem? (i := 39) rfl))) (mvT hZ (hw _ (List.mem_of_getElem? (i := 40) rfl))) (mvT hZ (hw _ (List.mem_of_getElem? (i := 41) rfl))) (by decide) (backOf (W := 0) (rm6 l Z aZ hw [] (4 : Int32) T191.heap n0 z192 ) hZ (hw _ (List.mem_of_getElem? (i := 41) rfl)) (hw _ (List.mem_of_getElem? (i := 40) rfl)) (by decide) (by decide)) (g := (mkF m 273 #[.val (.int qa), .val (.int qb), .val (.int qc), .val (.int qs), .val (.int qq), .val (.int r1), .val (.int r2), .val (.int r3), .val (.int rd), .val (.int ks), .val (.ref b1), .val (.int (1 : Int32)), .val (.int (2 : Int32)), .val (.int (3 : Int32)), .val (.int (4 : Int32)), .val (.int (5 : Int32)), .val (.int (4 : Int32)), .val (.int (4 : Int32)), .val (.int (own_climb gr_40 gp_40 rd 3 (gl_177 (0 : Int32)))), .unset, .unset] [(.int (4 : Int32))])) rfl (by rw [hml]; rfl) (argsL := [(.int (4 : Int32))]) (rest := []) (lenOf pd_3 rfl) rfl (by show 2 * 0 + _ ≤ _; exact Nat.le_of_eq rfl) (hb hby at_273) (fun _ _ => ⟨rfl, rfl, (by decide : 5 + 0 ≤ _), (by decide : 56 + 0 ≤ _)⟩)
        dsimp only [Pt.U, Pt.locs, Pt.cells, Pt.slots] at X194 l194 y194 z194 st194 hQ194
        subst l194 y194 z194
        obtain ⟨rfl, Nq194, e194⟩ := hQ194
        have N194 := Fr.app N191 Nq194
        refine Go.step st194 ?_
        show Go _ _ _ _ _ _ _ (T194.setTop (mkF m 276 #[.val (.int qa), .val (.int qb), .val (.int qc), .val (.int qs), .val (.int qq), .val (.int r1), .val (.int r2), .val (.int r3), .val (.int rd), .val (.int ks), .val (.ref b1), .val (.int (1 : Int32)), .val (.int (2 : Int32)), .val (.int (3 : Int32)), .val (.int (4 : Int32)), .val (.int (5 : Int32)), .val (.int (4 : Int32)), .val (.int (4 : Int32)), .val (.int (own_climb gr_40 gp_40 rd 3 (gl_177 (0 : Int32)))), .unset, .unset] [(.int (own_dep (4 : Int32)))]))
        refine Go.step (fun _ k => XS.iload X194.here hx rfl (hb hby at_276) rfl  k) ?_
        show Go _ _ _ _ _ _ _ (T194.setTop (mkF m 278 #[.val (.int qa), .val (.int qb), .val (.int qc), .val (.int qs), .val (.int qq), .val (.int r1), .val (.int r2), .val (.int r3), .val (.int rd), .val (.int ks), .val (.ref b1), .val (.int (1 : Int32)), .val (.int (2 : Int32)), .val (.int (3 : Int32)), .val (.int (4 : Int32)), .val (.int (5 : Int32)), .val (.int (4 : Int32)), .val (.int (4 : Int32)), .val (.int (own_climb gr_40 gp_40 rd 3 (gl_177 (0 : Int32)))), .unset, .unset] [(.int (4 : Int32)), (.int (own_dep (4 : Int32)))]))
        obtain ⟨_, _, ⟨T195, L195, k195, n195⟩, -, X195, ⟨Lc195, hQ195, l195, y195, z195⟩, st195⟩ := Jvm.LawKit.callS X194 hx (y := (⟨"com/example/both_ways/bothways/equivalence/SplitHistoryBlockAfterPinLaw", "depthOf", "(I)I"⟩ : MethodName)) hown (mvT hZ (hw _ (List.mem_of_getElem? (i := 38) rfl))) (mvT hZ (hw _ (List.mem_of_getElem? (i := 39) rfl))) (mvT hZ (hw _ (List.mem_of_getElem? (i := 40) rfl))) (mvT hZ (hw _ (List.mem_of_getElem? (i := 41) rfl))) (by decide) (backOf (W := 1) (rm6 l Z aZ hw [] (4 : Int32) T191.heap n0 z192 ) hZ (hw _ (List.mem_of_getElem? (i := 41) rfl)) (hw _ (List.mem_of_getElem? (i := 40) rfl)) (by decide) (by decide)) (g := (mkF m 278 #[.val (.int qa), .val (.int qb), .val (.int qc), .val (.int qs), .val (.int qq), .val (.int r1), .val (.int r2), .val (.int r3), .val (.int rd), .val (.int ks), .val (.ref b1), .val (.int (1 : Int32)), .val (.int (2 : Int32)), .val (.int (3 : Int32)), .val (.int (4 : Int32)), .val (.int (5 : Int32)), .val (.int (4 : Int32)), .val (.int (4 : Int32)), .val (.int (own_climb gr_40 gp_40 rd 3 (gl_177 (0 : Int32)))), .unset, .unset] [(.int (4 : Int32)), (.int (own_dep (4 : Int32)))])) rfl (by rw [hml]; rfl) (argsL := [(.int (4 : Int32))]) (rest := [(.int (own_dep (4 : Int32)))]) (lenOf pd_3 rfl) rfl (by show 2 * 0 + _ ≤ _; exact Nat.le_of_eq rfl) (hb hby at_278) (fun _ _ => ⟨rfl, e194, (by decide : 5 + 0 ≤ _), (by decide : 56 + 0 ≤ _)⟩)
        dsimp only [Pt.U, Pt.locs, Pt.cells, Pt.slots] at X195 l195 y195 z195 st195 hQ195
        subst l195 y195 z195
        obtain ⟨rfl, Nq195, e195⟩ := hQ195
        have N195 := Fr.app N194 Nq195
        refine Go.step st195 ?_
        show Go _ _ _ _ _ _ _ (T195.setTop (mkF m 281 #[.val (.int qa), .val (.int qb), .val (.int qc), .val (.int qs), .val (.int qq), .val (.int r1), .val (.int r2), .val (.int r3), .val (.int rd), .val (.int ks), .val (.ref b1), .val (.int (1 : Int32)), .val (.int (2 : Int32)), .val (.int (3 : Int32)), .val (.int (4 : Int32)), .val (.int (5 : Int32)), .val (.int (4 : Int32)), .val (.int (4 : Int32)), .val (.int (own_climb gr_40 gp_40 rd 3 (gl_177 (0 : Int32)))), .unset, .unset] [(.int (own_dep (4 : Int32))), (.int (own_dep (4 : Int32)))]))
        refine Go.step (fun _ k => XS.isub X195.here hx rfl (hb hby at_281) rfl k) ?_
        show Go _ _ _ _ _ _ _ (T195.setTop (mkF m 282 #[.val (.int qa), .val (.int qb), .val (.int qc), .val (.int qs), .val (.int qq), .val (.int r1), .val (.int r2), .val (.int r3), .val (.int rd), .val (.int ks), .val (.ref b1), .val (.int (1 : Int32)), .val (.int (2 : Int32)), .val (.int (3 : Int32)), .val (.int (4 : Int32)), .val (.int (5 : Int32)), .val (.int (4 : Int32)), .val (.int (4 : Int32)), .val (.int (own_climb gr_40 gp_40 rd 3 (gl_177 (0 : Int32)))), .unset, .unset] [(.int ((own_dep (4 : Int32)) - (own_dep (4 : Int32))))]))
        refine Go.step (fun _ k => XS.iconst X195.here hx rfl (hb hby at_282) k) ?_
        show Go _ _ _ _ _ _ _ (T195.setTop (mkF m 283 #[.val (.int qa), .val (.int qb), .val (.int qc), .val (.int qs), .val (.int qq), .val (.int r1), .val (.int r2), .val (.int r3), .val (.int rd), .val (.int ks), .val (.ref b1), .val (.int (1 : Int32)), .val (.int (2 : Int32)), .val (.int (3 : Int32)), .val (.int (4 : Int32)), .val (.int (5 : Int32)), .val (.int (4 : Int32)), .val (.int (4 : Int32)), .val (.int (own_climb gr_40 gp_40 rd 3 (gl_177 (0 : Int32)))), .unset, .unset] [(.int (1 : Int32)), (.int ((own_dep (4 : Int32)) - (own_dep (4 : Int32))))]))
        refine Go.step (fun _ k => XS.iadd X195.here hx rfl (hb hby at_283) rfl k) ?_
        show Go _ _ _ _ _ _ _ (T195.setTop (mkF m 284 #[.val (.int qa), .val (.int qb), .val (.int qc), .val (.int qs), .val (.int qq), .val (.int r1), .val (.int r2), .val (.int r3), .val (.int rd), .val (.int ks), .val (.ref b1), .val (.int (1 : Int32)), .val (.int (2 : Int32)), .val (.int (3 : Int32)), .val (.int (4 : Int32)), .val (.int (5 : Int32)), .val (.int (4 : Int32)), .val (.int (4 : Int32)), .val (.int (own_climb gr_40 gp_40 rd 3 (gl_177 (0 : Int32)))), .unset, .unset] [(.int (((own_dep (4 : Int32)) - (own_dep (4 : Int32))) + (1 : Int32)))]))
        refine Go.step (fun _ k => XS.i2l X195.here hx rfl (hb hby at_284) rfl k) ?_
        show Go _ _ _ _ _ _ _ (T195.setTop (mkF m 285 #[.val (.int qa), .val (.int qb), .val (.int qc), .val (.int qs), .val (.int qq), .val (.int r1), .val (.int r2), .val (.int r3), .val (.int rd), .val (.int ks), .val (.ref b1), .val (.int (1 : Int32)), .val (.int (2 : Int32)), .val (.int (3 : Int32)), .val (.int (4 : Int32)), .val (.int (5 : Int32)), .val (.int (4 : Int32)), .val (.int (4 : Int32)), .val (.int (own_climb gr_40 gp_40 rd 3 (gl_177 (0 : Int32)))), .unset, .unset] [(.long (Int32.toInt64 (((own_dep (4 : Int32)) - (own_dep (4 : Int32))) + (1 : Int32))))]))
        refine Go.step (fun _ k => XS.lstore X195.here hx rfl (hb hby at_285) rfl (l' := #[.val (.int qa), .val (.int qb), .val (.int qc), .val (.int qs), .val (.int qq), .val (.int r1), .val (.int r2), .val (.int r3), .val (.int rd), .val (.int ks), .val (.ref b1), .val (.int (1 : Int32)), .val (.int (2 : Int32)), .val (.int (3 : Int32)), .val (.int (4 : Int32)), .val (.int (5 : Int32)), .val (.int (4 : Int32)), .val (.int (4 : Int32)), .val (.int (own_climb gr_40 gp_40 rd 3 (gl_177 (0 : Int32)))), .val (.long (Int32.toInt64 (((own_dep (4 : Int32)) - (own_dep (4 : Int32))) + (1 : Int32)))), .second]) rfl k) ?_
        show Go _ _ _ _ _ _ _ (T195.setTop (mkF m 287 #[.val (.int qa), .val (.int qb), .val (.int qc), .val (.int qs), .val (.int qq), .val (.int r1), .val (.int r2), .val (.int r3), .val (.int rd), .val (.int ks), .val (.ref b1), .val (.int (1 : Int32)), .val (.int (2 : Int32)), .val (.int (3 : Int32)), .val (.int (4 : Int32)), .val (.int (5 : Int32)), .val (.int (4 : Int32)), .val (.int (4 : Int32)), .val (.int (own_climb gr_40 gp_40 rd 3 (gl_177 (0 : Int32)))), .val (.long (Int32.toInt64 (((own_dep (4 : Int32)) - (own_dep (4 : Int32))) + (1 : Int32)))), .second] []))
        refine Go.step (fun _ k => XS.iload X195.here hx rfl (hb hby at_287) rfl  k) ?_
        show Go _ _ _ _ _ _ _ (T195.setTop (mkF m 289 #[.val (.int qa), .val (.int qb), .val (.int qc), .val (.int qs), .val (.int qq), .val (.int r1), .val (.int r2), .val (.int r3), .val (.int rd), .val (.int ks), .val (.ref b1), .val (.int (1 : Int32)), .val (.int (2 : Int32)), .val (.int (3 : Int32)), .val (.int (4 : Int32)), .val (.int (5 : Int32)), .val (.int (4 : Int32)), .val (.int (4 : Int32)), .val (.int (own_climb gr_40 gp_40 rd 3 (gl_177 (0 : Int32)))), .val (.long (Int32.toInt64 (((own_dep (4 : Int32)) - (own_dep (4 : Int32))) + (1 : Int32)))), .second] [(.int (own_climb gr_40 gp_40 rd 3 (gl_177 (0 : Int32))))]))
        refine Go.step (fun _ k => XS.iload X195.here hx rfl (hb hby at_289) rfl  k) ?_
        show Go _ _ _ _ _ _ _ (T195.setTop (mkF m 291 #[.val (.int qa), .val (.int qb), .val (.int qc), .val (.int qs), .val (.int qq), .val (.int r1), .val (.int r2), .val (.int r3), .val (.int rd), .val (.int ks), .val (.ref b1), .val (.int (1 : Int32)), .val (.int (2 : Int32)), .val (.int (3 : Int32)), .val (.int (4 : Int32)), .val (.int (5 : Int32)), .val (.int (4 : Int32)), .val (.int (4 : Int32)), .val (.int (own_climb gr_40 gp_40 rd 3 (gl_177 (0 : Int32)))), .val (.long (Int32.toInt64 (((own_dep (4 : Int32)) - (own_dep (4 : Int32))) + (1 : Int32)))), .second] [(.int (4 : Int32)), (.int (own_climb gr_40 gp_40 rd 3 (gl_177 (0 : Int32))))]))
        have hc291 : (own_climb gr_40 gp_40 rd 3 (gl_177 (0 : Int32))) = (4 : Int32) := by rw [u177_0, (own_c4 vR4 vP4 vR1 vP1 vR0 hrd).2, if_neg hc206]
        refine Go.step (fun _ k => XS.icmpNo X195.here hx rfl (hb hby at_291) rfl (teq hc291).2 k) ?_
        show Go _ _ _ _ _ _ _ (T195.setTop (mkF m 294 #[.val (.int qa), .val (.int qb), .val (.int qc), .val (.int qs), .val (.int qq), .val (.int r1), .val (.int r2), .val (.int r3), .val (.int rd), .val (.int ks), .val (.ref b1), .val (.int (1 : Int32)), .val (.int (2 : Int32)), .val (.int (3 : Int32)), .val (.int (4 : Int32)), .val (.int (5 : Int32)), .val (.int (4 : Int32)), .val (.int (4 : Int32)), .val (.int (own_climb gr_40 gp_40 rd 3 (gl_177 (0 : Int32)))), .val (.long (Int32.toInt64 (((own_dep (4 : Int32)) - (own_dep (4 : Int32))) + (1 : Int32)))), .second] []))
        refine Go.step (fun _ k => XS.aload X195.here hx rfl (hb hby at_294) rfl rfl  k) ?_
        show Go _ _ _ _ _ _ _ (T195.setTop (mkF m 296 #[.val (.int qa), .val (.int qb), .val (.int qc), .val (.int qs), .val (.int qq), .val (.int r1), .val (.int r2), .val (.int r3), .val (.int rd), .val (.int ks), .val (.ref b1), .val (.int (1 : Int32)), .val (.int (2 : Int32)), .val (.int (3 : Int32)), .val (.int (4 : Int32)), .val (.int (5 : Int32)), .val (.int (4 : Int32)), .val (.int (4 : Int32)), .val (.int (own_climb gr_40 gp_40 rd 3 (gl_177 (0 : Int32)))), .val (.long (Int32.toInt64 (((own_dep (4 : Int32)) - (own_dep (4 : Int32))) + (1 : Int32)))), .second] [(.ref b1)]))
        obtain ⟨cq196, kq196, q196a, q196b, q196c⟩ := isOf hZ e195 c191_0
        obtain ⟨_, _, ⟨T196, L196, k196, n196⟩, -, X196, ⟨Lc196, hQ196, l196, y196, z196⟩, st196⟩ := X195.virtualBack hx (y := (⟨"com/example/both_ways/bothways/equivalence/SplitHistory", "getVisitCount", "()J"⟩ : MethodName)) (z := (⟨"com/example/both_ways/bothways/equivalence/SplitHistory", "getVisitCount", "()J"⟩ : MethodName)) hown (mvT hZ (hw _ (List.mem_of_getElem? (i := 42) rfl))) (mvT hZ (hw _ (List.mem_of_getElem? (i := 43) rfl))) (notFace_of_selects (args := #[]) (mvT hZ (hw _ (List.mem_of_getElem? (i := 45) rfl)))) (mvT hZ (hw _ (List.mem_of_getElem? (i := 45) rfl))) (mvT hZ (hw _ (List.mem_of_getElem? (i := 44) rfl))) (by decide) (backOf (W := 0) (rm7 l Z aZ hw [] b1 ((0 : Int64) + Int32.toInt64 (((gd_40 (gl_177 (0 : Int32))) - (gd_40 (own_climb gr_40 gp_40 rd 3 (gl_177 (0 : Int32))))) + (1 : Int32))) T191.heap n0 z192 c191_1) hZ (hw _ (List.mem_of_getElem? (i := 46) rfl)) (hw _ (List.mem_of_getElem? (i := 3) rfl)) (by decide) (by decide)) q196a q196c (g := (mkF m 296 #[.val (.int qa), .val (.int qb), .val (.int qc), .val (.int qs), .val (.int qq), .val (.int r1), .val (.int r2), .val (.int r3), .val (.int rd), .val (.int ks), .val (.ref b1), .val (.int (1 : Int32)), .val (.int (2 : Int32)), .val (.int (3 : Int32)), .val (.int (4 : Int32)), .val (.int (5 : Int32)), .val (.int (4 : Int32)), .val (.int (4 : Int32)), .val (.int (own_climb gr_40 gp_40 rd 3 (gl_177 (0 : Int32)))), .val (.long (Int32.toInt64 (((own_dep (4 : Int32)) - (own_dep (4 : Int32))) + (1 : Int32)))), .second] [(.ref b1)])) rfl (by rw [hml]; rfl) (Steps.refl _) (argsL := []) (rest := []) (lenOf pd_4 rfl) rfl (by show 2 * 0 + _ ≤ _; exact Nat.le_of_eq rfl) (hb hby at_296) (fun _ _ => ⟨rfl, e195, (by decide : 5 + 0 ≤ _), (by decide : 56 + 0 ≤ _)⟩)
        dsimp only [Pt.U, Pt.locs, Pt.cells, Pt.slots] at X196 l196 y196 z196 st196 hQ196
        subst l196 y196 z196
        obtain ⟨rfl, Nq196, e196⟩ := hQ196
        have N196 := Fr.app N195 Nq196
        refine Go.tr st196 ?_
        show Go _ _ _ _ _ _ _ (T196.setTop (mkF m 299 #[.val (.int qa), .val (.int qb), .val (.int qc), .val (.int qs), .val (.int qq), .val (.int r1), .val (.int r2), .val (.int r3), .val (.int rd), .val (.int ks), .val (.ref b1), .val (.int (1 : Int32)), .val (.int (2 : Int32)), .val (.int (3 : Int32)), .val (.int (4 : Int32)), .val (.int (5 : Int32)), .val (.int (4 : Int32)), .val (.int (4 : Int32)), .val (.int (own_climb gr_40 gp_40 rd 3 (gl_177 (0 : Int32)))), .val (.long (Int32.toInt64 (((own_dep (4 : Int32)) - (own_dep (4 : Int32))) + (1 : Int32)))), .second] [(.long ((0 : Int64) + Int32.toInt64 (((gd_40 (gl_177 (0 : Int32))) - (gd_40 (own_climb gr_40 gp_40 rd 3 (gl_177 (0 : Int32))))) + (1 : Int32))))]))
        refine Go.step (fun _ k => XS.lload X196.here hx rfl (hb hby at_299) rfl  k) ?_
        show Go _ _ _ _ _ _ _ (T196.setTop (mkF m 301 #[.val (.int qa), .val (.int qb), .val (.int qc), .val (.int qs), .val (.int qq), .val (.int r1), .val (.int r2), .val (.int r3), .val (.int rd), .val (.int ks), .val (.ref b1), .val (.int (1 : Int32)), .val (.int (2 : Int32)), .val (.int (3 : Int32)), .val (.int (4 : Int32)), .val (.int (5 : Int32)), .val (.int (4 : Int32)), .val (.int (4 : Int32)), .val (.int (own_climb gr_40 gp_40 rd 3 (gl_177 (0 : Int32)))), .val (.long (Int32.toInt64 (((own_dep (4 : Int32)) - (own_dep (4 : Int32))) + (1 : Int32)))), .second] [(.long (Int32.toInt64 (((own_dep (4 : Int32)) - (own_dep (4 : Int32))) + (1 : Int32)))), (.long ((0 : Int64) + Int32.toInt64 (((gd_40 (gl_177 (0 : Int32))) - (gd_40 (own_climb gr_40 gp_40 rd 3 (gl_177 (0 : Int32))))) + (1 : Int32))))]))
        refine Go.step (fun _ k => XS.lcmp X196.here hx rfl (hb hby at_301) rfl k) ?_
        show Go _ _ _ _ _ _ _ (T196.setTop (mkF m 302 #[.val (.int qa), .val (.int qb), .val (.int qc), .val (.int qs), .val (.int qq), .val (.int r1), .val (.int r2), .val (.int r3), .val (.int rd), .val (.int ks), .val (.ref b1), .val (.int (1 : Int32)), .val (.int (2 : Int32)), .val (.int (3 : Int32)), .val (.int (4 : Int32)), .val (.int (5 : Int32)), .val (.int (4 : Int32)), .val (.int (4 : Int32)), .val (.int (own_climb gr_40 gp_40 rd 3 (gl_177 (0 : Int32)))), .val (.long (Int32.toInt64 (((own_dep (4 : Int32)) - (own_dep (4 : Int32))) + (1 : Int32)))), .second] [(.int (lcmpW ((0 : Int64) + Int32.toInt64 (((gd_40 (gl_177 (0 : Int32))) - (gd_40 (own_climb gr_40 gp_40 rd 3 (gl_177 (0 : Int32))))) + (1 : Int32))) (Int32.toInt64 (((own_dep (4 : Int32)) - (own_dep (4 : Int32))) + (1 : Int32)))))]))
        have hc302 : (lcmpW ((0 : Int64) + Int32.toInt64 (((gd_40 (gl_177 (0 : Int32))) - (gd_40 (own_climb gr_40 gp_40 rd 3 (gl_177 (0 : Int32))))) + (1 : Int32))) (Int32.toInt64 (((own_dep (4 : Int32)) - (own_dep (4 : Int32))) + (1 : Int32)))) = (0 : Int32) := by
          rw [hc291, u177_0, vD4]
          decide
        refine Go.step (fun _ k => XS.ifNo X196.here hx rfl (hb hby at_302) rfl ((if0 _ _).trans (teq hc302).2) k) ?_
        show Go _ _ _ _ _ _ _ (T196.setTop (mkF m 305 #[.val (.int qa), .val (.int qb), .val (.int qc), .val (.int qs), .val (.int qq), .val (.int r1), .val (.int r2), .val (.int r3), .val (.int rd), .val (.int ks), .val (.ref b1), .val (.int (1 : Int32)), .val (.int (2 : Int32)), .val (.int (3 : Int32)), .val (.int (4 : Int32)), .val (.int (5 : Int32)), .val (.int (4 : Int32)), .val (.int (4 : Int32)), .val (.int (own_climb gr_40 gp_40 rd 3 (gl_177 (0 : Int32)))), .val (.long (Int32.toInt64 (((own_dep (4 : Int32)) - (own_dep (4 : Int32))) + (1 : Int32)))), .second] []))
        refine Go.step (fun _ k => XS.iconst X196.here hx rfl (hb hby at_305) k) ?_
        show Go _ _ _ _ _ _ _ (T196.setTop (mkF m 306 #[.val (.int qa), .val (.int qb), .val (.int qc), .val (.int qs), .val (.int qq), .val (.int r1), .val (.int r2), .val (.int r3), .val (.int rd), .val (.int ks), .val (.ref b1), .val (.int (1 : Int32)), .val (.int (2 : Int32)), .val (.int (3 : Int32)), .val (.int (4 : Int32)), .val (.int (5 : Int32)), .val (.int (4 : Int32)), .val (.int (4 : Int32)), .val (.int (own_climb gr_40 gp_40 rd 3 (gl_177 (0 : Int32)))), .val (.long (Int32.toInt64 (((own_dep (4 : Int32)) - (own_dep (4 : Int32))) + (1 : Int32)))), .second] [(.int (1 : Int32))]))
        refine Go.step (fun _ k => XS.goto X196.here hx rfl (pc0 := 306) (pc' := 310) rfl (hb hby at_306) (by decide) (by decide) k) ?_
        show Go _ _ _ _ _ _ _ (T196.setTop (mkF m 310 #[.val (.int qa), .val (.int qb), .val (.int qc), .val (.int qs), .val (.int qq), .val (.int r1), .val (.int r2), .val (.int r3), .val (.int rd), .val (.int ks), .val (.ref b1), .val (.int (1 : Int32)), .val (.int (2 : Int32)), .val (.int (3 : Int32)), .val (.int (4 : Int32)), .val (.int (5 : Int32)), .val (.int (4 : Int32)), .val (.int (4 : Int32)), .val (.int (own_climb gr_40 gp_40 rd 3 (gl_177 (0 : Int32)))), .val (.long (Int32.toInt64 (((own_dep (4 : Int32)) - (own_dep (4 : Int32))) + (1 : Int32)))), .second] [(.int (1 : Int32))]))
        refine Go.retN X196 hx (t := .boolean) Bd.returns (by simp) hlk (hb hby at_310) ?_ (by decide) (by decide)
        rw [e196]
        exact ⟨(by first | rfl | (simp_all [own_nb1, own_nb0]; done)), N196⟩
    · skip
      refine Go.step (fun _ k => XS.icmpYes X40.here hx rfl (pc0 := 196) (pc' := 234) rfl (hb hby at_196) rfl (feq hc196).2 (by decide) (by decide) k) ?_
      show Go _ _ _ _ _ _ _ (T40.setTop (mkF m 234 #[.val (.int qa), .val (.int qb), .val (.int qc), .val (.int qs), .val (.int qq), .val (.int r1), .val (.int r2), .val (.int r3), .val (.int rd), .val (.int ks), .val (.ref b1), .val (.int (1 : Int32)), .val (.int (2 : Int32)), .val (.int (3 : Int32)), .val (.int (4 : Int32)), .val (.int (5 : Int32)), .unset, .unset, .unset, .unset, .unset] []))
      refine Go.step (fun _ k => XS.iconst X40.here hx rfl (hb hby at_234) k) ?_
      show Go _ _ _ _ _ _ _ (T40.setTop (mkF m 235 #[.val (.int qa), .val (.int qb), .val (.int qc), .val (.int qs), .val (.int qq), .val (.int r1), .val (.int r2), .val (.int r3), .val (.int rd), .val (.int ks), .val (.ref b1), .val (.int (1 : Int32)), .val (.int (2 : Int32)), .val (.int (3 : Int32)), .val (.int (4 : Int32)), .val (.int (5 : Int32)), .unset, .unset, .unset, .unset, .unset] [(.int (2 : Int32))]))
      refine Go.step (fun _ k => XS.istore X40.here hx rfl (hb hby at_235) rfl (l' := #[.val (.int qa), .val (.int qb), .val (.int qc), .val (.int qs), .val (.int qq), .val (.int r1), .val (.int r2), .val (.int r3), .val (.int rd), .val (.int ks), .val (.ref b1), .val (.int (1 : Int32)), .val (.int (2 : Int32)), .val (.int (3 : Int32)), .val (.int (4 : Int32)), .val (.int (5 : Int32)), .val (.int (2 : Int32)), .unset, .unset, .unset, .unset]) rfl k) ?_
      show Go _ _ _ _ _ _ _ (T40.setTop (mkF m 237 #[.val (.int qa), .val (.int qb), .val (.int qc), .val (.int qs), .val (.int qq), .val (.int r1), .val (.int r2), .val (.int r3), .val (.int rd), .val (.int ks), .val (.ref b1), .val (.int (1 : Int32)), .val (.int (2 : Int32)), .val (.int (3 : Int32)), .val (.int (4 : Int32)), .val (.int (5 : Int32)), .val (.int (2 : Int32)), .unset, .unset, .unset, .unset] []))
      refine Go.step (fun _ k => XS.iload X40.here hx rfl (hb hby at_237) rfl  k) ?_
      show Go _ _ _ _ _ _ _ (T40.setTop (mkF m 239 #[.val (.int qa), .val (.int qb), .val (.int qc), .val (.int qs), .val (.int qq), .val (.int r1), .val (.int r2), .val (.int r3), .val (.int rd), .val (.int ks), .val (.ref b1), .val (.int (1 : Int32)), .val (.int (2 : Int32)), .val (.int (3 : Int32)), .val (.int (4 : Int32)), .val (.int (5 : Int32)), .val (.int (2 : Int32)), .unset, .unset, .unset, .unset] [(.int rd)]))
      refine Go.step (fun _ k => XS.iload X40.here hx rfl (hb hby at_239) rfl  k) ?_
      show Go _ _ _ _ _ _ _ (T40.setTop (mkF m 241 #[.val (.int qa), .val (.int qb), .val (.int qc), .val (.int qs), .val (.int qq), .val (.int r1), .val (.int r2), .val (.int r3), .val (.int rd), .val (.int ks), .val (.ref b1), .val (.int (1 : Int32)), .val (.int (2 : Int32)), .val (.int (3 : Int32)), .val (.int (4 : Int32)), .val (.int (5 : Int32)), .val (.int (2 : Int32)), .unset, .unset, .unset, .unset] [(.int r1), (.int rd)]))
      by_cases hc241 : rd < r1
      · skip
        refine Go.step (fun _ k => XS.icmpYes X40.here hx rfl (pc0 := 241) (pc' := 250) rfl (hb hby at_241) rfl (tlt hc241).1 (by decide) (by decide) k) ?_
        show Go _ _ _ _ _ _ _ (T40.setTop (mkF m 250 #[.val (.int qa), .val (.int qb), .val (.int qc), .val (.int qs), .val (.int qq), .val (.int r1), .val (.int r2), .val (.int r3), .val (.int rd), .val (.int ks), .val (.ref b1), .val (.int (1 : Int32)), .val (.int (2 : Int32)), .val (.int (3 : Int32)), .val (.int (4 : Int32)), .val (.int (5 : Int32)), .val (.int (2 : Int32)), .unset, .unset, .unset, .unset] []))
        refine Go.step (fun _ k => XS.iconst X40.here hx rfl (hb hby at_250) k) ?_
        show Go _ _ _ _ _ _ _ (T40.setTop (mkF m 251 #[.val (.int qa), .val (.int qb), .val (.int qc), .val (.int qs), .val (.int qq), .val (.int r1), .val (.int r2), .val (.int r3), .val (.int rd), .val (.int ks), .val (.ref b1), .val (.int (1 : Int32)), .val (.int (2 : Int32)), .val (.int (3 : Int32)), .val (.int (4 : Int32)), .val (.int (5 : Int32)), .val (.int (2 : Int32)), .unset, .unset, .unset, .unset] [(.int (0 : Int32))]))
        refine Go.step (fun _ k => XS.istore X40.here hx rfl (hb hby at_251) rfl (l' := #[.val (.int qa), .val (.int qb), .val (.int qc), .val (.int qs), .val (.int qq), .val (.int r1), .val (.int r2), .val (.int r3), .val (.int rd), .val (.int ks), .val (.ref b1), .val (.int (1 : Int32)), .val (.int (2 : Int32)), .val (.int (3 : Int32)), .val (.int (4 : Int32)), .val (.int (5 : Int32)), .val (.int (2 : Int32)), .val (.int (0 : Int32)), .unset, .unset, .unset]) rfl k) ?_
        show Go _ _ _ _ _ _ _ (T40.setTop (mkF m 253 #[.val (.int qa), .val (.int qb), .val (.int qc), .val (.int qs), .val (.int qq), .val (.int r1), .val (.int r2), .val (.int r3), .val (.int rd), .val (.int ks), .val (.ref b1), .val (.int (1 : Int32)), .val (.int (2 : Int32)), .val (.int (3 : Int32)), .val (.int (4 : Int32)), .val (.int (5 : Int32)), .val (.int (2 : Int32)), .val (.int (0 : Int32)), .unset, .unset, .unset] []))
        refine Go.step (fun _ k => XS.aload X40.here hx rfl (hb hby at_253) rfl rfl  k) ?_
        show Go _ _ _ _ _ _ _ (T40.setTop (mkF m 255 #[.val (.int qa), .val (.int qb), .val (.int qc), .val (.int qs), .val (.int qq), .val (.int r1), .val (.int r2), .val (.int r3), .val (.int rd), .val (.int ks), .val (.ref b1), .val (.int (1 : Int32)), .val (.int (2 : Int32)), .val (.int (3 : Int32)), .val (.int (4 : Int32)), .val (.int (5 : Int32)), .val (.int (2 : Int32)), .val (.int (0 : Int32)), .unset, .unset, .unset] [(.ref b1)]))
        refine Go.step (fun _ k => XS.iconst X40.here hx rfl (hb hby at_255) k) ?_
        show Go _ _ _ _ _ _ _ (T40.setTop (mkF m 256 #[.val (.int qa), .val (.int qb), .val (.int qc), .val (.int qs), .val (.int qq), .val (.int r1), .val (.int r2), .val (.int r3), .val (.int rd), .val (.int ks), .val (.ref b1), .val (.int (1 : Int32)), .val (.int (2 : Int32)), .val (.int (3 : Int32)), .val (.int (4 : Int32)), .val (.int (5 : Int32)), .val (.int (2 : Int32)), .val (.int (0 : Int32)), .unset, .unset, .unset] [(.int (0 : Int32)), (.ref b1)]))
        refine Go.step (fun _ k => XS.iload X40.here hx rfl (hb hby at_256) rfl  k) ?_
        show Go _ _ _ _ _ _ _ (T40.setTop (mkF m 258 #[.val (.int qa), .val (.int qb), .val (.int qc), .val (.int qs), .val (.int qq), .val (.int r1), .val (.int r2), .val (.int r3), .val (.int rd), .val (.int ks), .val (.ref b1), .val (.int (1 : Int32)), .val (.int (2 : Int32)), .val (.int (3 : Int32)), .val (.int (4 : Int32)), .val (.int (5 : Int32)), .val (.int (2 : Int32)), .val (.int (0 : Int32)), .unset, .unset, .unset] [(.int (2 : Int32)), (.int (0 : Int32)), (.ref b1)]))
        have f197 : Ai Z T40.heap bl_11 .int (1 : Int32) (fun _ => 0) := (((((c11_14.keep K20 (ninS (Ne.symm c11_18) (ninS (Ne.symm c11_21) (ninS (Ne.symm c11_23) (ninS (Ne.symm c11_24) nin0))))).keep K25 (ninS (Ne.symm c11_18) (ninS (Ne.symm c11_21) (ninS (Ne.symm c11_23) (ninS (Ne.symm c11_24) nin0))))).keep K30 (ninS (Ne.symm c11_18) (ninS (Ne.symm c11_21) (ninS (Ne.symm c11_23) (ninS (Ne.symm c11_24) nin0))))).keep K35 (ninS (Ne.symm c11_18) (ninS (Ne.symm c11_21) (ninS (Ne.symm c11_23) (ninS (Ne.symm c11_24) nin0))))).keep K40 (ninS (Ne.symm c11_18) (ninS (Ne.symm c11_21) (ninS (Ne.symm c11_23) (ninS (Ne.symm c11_24) nin0)))))
        have pq198 : (0 : Int32) = (0 : Int32) := rfl
        obtain ⟨cq199, kq199, q199a, q199b, q199c⟩ := isOf hZ rfl c40_0
        obtain ⟨_, _, ⟨T199, L199, k199, n199⟩, -, X199, ⟨Lc199, hQ199, l199, y199, z199⟩, st199⟩ := X40.virtualBack hx (y := (⟨"com/example/both_ways/bothways/equivalence/SplitHistory", "place", "(II)V"⟩ : MethodName)) (z := (⟨"com/example/both_ways/bothways/equivalence/SplitHistory", "place", "(II)V"⟩ : MethodName)) hown (mvT hZ (hw _ (List.mem_of_getElem? (i := 26) rfl))) (mvT hZ (hw _ (List.mem_of_getElem? (i := 27) rfl))) (notFace_of_selects (args := #[]) (mvT hZ (hw _ (List.mem_of_getElem? (i := 29) rfl)))) (mvT hZ (hw _ (List.mem_of_getElem? (i := 29) rfl))) (mvT hZ (hw _ (List.mem_of_getElem? (i := 28) rfl))) (by decide) (backOf (W := 0) (rm4 l Z aZ hw [] b1 (0 : Int32) (2 : Int32) bl_11 (fun _ => 0) T40.heap n0 z41 c40_4 f197 gn11_3 pq198) hZ (hw _ (List.mem_of_getElem? (i := 30) rfl)) (hw _ (List.mem_of_getElem? (i := 3) rfl)) (by decide) (by decide)) q199a q199c (g := (mkF m 258 #[.val (.int qa), .val (.int qb), .val (.int qc), .val (.int qs), .val (.int qq), .val (.int r1), .val (.int r2), .val (.int r3), .val (.int rd), .val (.int ks), .val (.ref b1), .val (.int (1 : Int32)), .val (.int (2 : Int32)), .val (.int (3 : Int32)), .val (.int (4 : Int32)), .val (.int (5 : Int32)), .val (.int (2 : Int32)), .val (.int (0 : Int32)), .unset, .unset, .unset] [(.int (2 : Int32)), (.int (0 : Int32)), (.ref b1)])) rfl (by rw [hml]; rfl) (Steps.refl _) (argsL := [(.int (0 : Int32)), (.int (2 : Int32))]) (rest := []) (lenOf pd_2 rfl) rfl (by show 2 * 0 + _ ≤ _; exact Nat.le_of_eq rfl) (hb hby at_258) (fun _ _ => ⟨rfl, rfl, (by decide : 5 + 0 ≤ _), (by decide : 56 + 0 ≤ _)⟩)
        dsimp only [Pt.U, Pt.locs, Pt.cells, Pt.slots] at X199 l199 y199 z199 st199 hQ199
        subst l199 y199 z199
        obtain ⟨gl_199, rfl, Nq199, K199, c199_0, u199_0⟩ := hQ199
        have N199 := Fr.app N40 Nq199
        refine Go.tr st199 ?_
        have z200 : n0 ≤ T199.heap.size := Nat.le_trans z41 K199.1
        have sqz200 : h0.size ≤ T199.heap.size := Nat.le_trans sqz41 K199.1
        show Go _ _ _ _ _ _ _ (T199.setTop (mkF m 261 #[.val (.int qa), .val (.int qb), .val (.int qc), .val (.int qs), .val (.int qq), .val (.int r1), .val (.int r2), .val (.int r3), .val (.int rd), .val (.int ks), .val (.ref b1), .val (.int (1 : Int32)), .val (.int (2 : Int32)), .val (.int (3 : Int32)), .val (.int (4 : Int32)), .val (.int (5 : Int32)), .val (.int (2 : Int32)), .val (.int (0 : Int32)), .unset, .unset, .unset] []))
        refine Go.step (fun _ k => XS.aload X199.here hx rfl (hb hby at_261) rfl rfl  k) ?_
        show Go _ _ _ _ _ _ _ (T199.setTop (mkF m 263 #[.val (.int qa), .val (.int qb), .val (.int qc), .val (.int qs), .val (.int qq), .val (.int r1), .val (.int r2), .val (.int r3), .val (.int rd), .val (.int ks), .val (.ref b1), .val (.int (1 : Int32)), .val (.int (2 : Int32)), .val (.int (3 : Int32)), .val (.int (4 : Int32)), .val (.int (5 : Int32)), .val (.int (2 : Int32)), .val (.int (0 : Int32)), .unset, .unset, .unset] [(.ref b1)]))
        refine Go.step (fun _ k => XS.iconst X199.here hx rfl (hb hby at_263) k) ?_
        show Go _ _ _ _ _ _ _ (T199.setTop (mkF m 264 #[.val (.int qa), .val (.int qb), .val (.int qc), .val (.int qs), .val (.int qq), .val (.int r1), .val (.int r2), .val (.int r3), .val (.int rd), .val (.int ks), .val (.ref b1), .val (.int (1 : Int32)), .val (.int (2 : Int32)), .val (.int (3 : Int32)), .val (.int (4 : Int32)), .val (.int (5 : Int32)), .val (.int (2 : Int32)), .val (.int (0 : Int32)), .unset, .unset, .unset] [(.int (0 : Int32)), (.ref b1)]))
        refine Go.step (fun _ k => XS.iload X199.here hx rfl (hb hby at_264) rfl  k) ?_
        show Go _ _ _ _ _ _ _ (T199.setTop (mkF m 266 #[.val (.int qa), .val (.int qb), .val (.int qc), .val (.int qs), .val (.int qq), .val (.int r1), .val (.int r2), .val (.int r3), .val (.int rd), .val (.int ks), .val (.ref b1), .val (.int (1 : Int32)), .val (.int (2 : Int32)), .val (.int (3 : Int32)), .val (.int (4 : Int32)), .val (.int (5 : Int32)), .val (.int (2 : Int32)), .val (.int (0 : Int32)), .unset, .unset, .unset] [(.int rd), (.int (0 : Int32)), (.ref b1)]))
        have f202 : Exa Z T199.heap b1 "com/example/both_ways/bothways/equivalence/SplitHistory" := (c40_0.keep K199)
        have f203 : Fld Z T199.heap b1 "com/example/both_ways/bothways/equivalence/SplitHistory" "parents" "[I" (.ref bp_11) := (c40_1.keep K199 (ninS c11_18 nin0))
        have f204 : Fld Z T199.heap b1 "com/example/both_ways/bothways/equivalence/SplitHistory" "rounds" "[I" (.ref br_11) := (c40_2.keep K199 (ninS c11_18 nin0))
        have f205 : Fld Z T199.heap b1 "com/example/both_ways/bothways/equivalence/SplitHistory" "depths" "[I" (.ref bd_11) := (c40_3.keep K199 (ninS c11_18 nin0))
        have f206 : Fld Z T199.heap b1 "com/example/both_ways/bothways/equivalence/SplitHistory" "leaves" "[I" (.ref bl_11) := (c40_4.keep K199 (ninS c11_18 nin0))
        have f207 : Fld Z T199.heap b1 "com/example/both_ways/bothways/equivalence/SplitHistory" "visits" "J" (.long (0 : Int64)) := (c40_6.keep K199 (ninS c11_18 nin0))
        have f208 : Ai Z T199.heap bp_11 .int (16 : Int32) gp_40 := (c40_7.keep K199 (ninS c11_21 nin0))
        have f209 : Ai Z T199.heap br_11 .int (16 : Int32) gr_40 := (c40_8.keep K199 (ninS c11_23 nin0))
        have f210 : Ai Z T199.heap bd_11 .int (16 : Int32) gd_40 := (c40_9.keep K199 (ninS c11_24 nin0))
        have pq211 : (0 : Int32) = (0 : Int32) := rfl
        have pq212 : own_ok gr_40 gp_40 rd 3 (gl_199 (0 : Int32)) := (by rw [u199_0]; exact (own_c2 vR2 vP2 vR0 hrd).1)
        obtain ⟨cq213, kq213, q213a, q213b, q213c⟩ := isOf hZ rfl f202
        obtain ⟨_, _, ⟨T213, L213, k213, n213⟩, -, X213, ⟨Lc213, hQ213, l213, y213, z213⟩, st213⟩ := X199.virtualBack hx (y := (⟨"com/example/both_ways/bothways/equivalence/SplitHistory", "blockAfter", "(II)I"⟩ : MethodName)) (z := (⟨"com/example/both_ways/bothways/equivalence/SplitHistory", "blockAfter", "(II)I"⟩ : MethodName)) hown (mvT hZ (hw _ (List.mem_of_getElem? (i := 31) rfl))) (mvT hZ (hw _ (List.mem_of_getElem? (i := 32) rfl))) (notFace_of_selects (args := #[]) (mvT hZ (hw _ (List.mem_of_getElem? (i := 34) rfl)))) (mvT hZ (hw _ (List.mem_of_getElem? (i := 34) rfl))) (mvT hZ (hw _ (List.mem_of_getElem? (i := 33) rfl))) (by decide) (backOf (W := 0) (rm5 l Z aZ hw [] b1 (0 : Int32) rd bp_11 gp_40 br_11 gr_40 bd_11 gd_40 bl_11 gl_199 T199.heap n0 z200 f202 f203 f204 f205 f206 f207 f208 f209 f210 c199_0 gn1 pq211 pq212 c11_15 c11_16 c11_17 c11_18 c11_19 c11_20 c11_21 c11_22 c11_23 c11_24) hZ (hw _ (List.mem_of_getElem? (i := 35) rfl)) (hw _ (List.mem_of_getElem? (i := 3) rfl)) (by decide) (by decide)) q213a q213c (g := (mkF m 266 #[.val (.int qa), .val (.int qb), .val (.int qc), .val (.int qs), .val (.int qq), .val (.int r1), .val (.int r2), .val (.int r3), .val (.int rd), .val (.int ks), .val (.ref b1), .val (.int (1 : Int32)), .val (.int (2 : Int32)), .val (.int (3 : Int32)), .val (.int (4 : Int32)), .val (.int (5 : Int32)), .val (.int (2 : Int32)), .val (.int (0 : Int32)), .unset, .unset, .unset] [(.int rd), (.int (0 : Int32)), (.ref b1)])) rfl (by rw [hml]; rfl) (Steps.refl _) (argsL := [(.int (0 : Int32)), (.int rd)]) (rest := []) (lenOf pd_1 rfl) rfl (by show 2 * 0 + _ ≤ _; exact Nat.le_of_eq rfl) (hb hby at_266) (fun _ _ => ⟨rfl, rfl, (by decide : 5 + 0 ≤ _), (by decide : 56 + 0 ≤ _)⟩)
        dsimp only [Pt.U, Pt.locs, Pt.cells, Pt.slots] at X213 l213 y213 z213 st213 hQ213
        subst l213 y213 z213
        obtain ⟨rfl, Nq213, K213, c213_0, c213_1⟩ := hQ213
        have N213 := Fr.app N199 Nq213
        refine Go.tr st213 ?_
        have z214 : n0 ≤ T213.heap.size := Nat.le_trans z200 K213.1
        have sqz214 : h0.size ≤ T213.heap.size := Nat.le_trans sqz200 K213.1
        show Go _ _ _ _ _ _ _ (T213.setTop (mkF m 269 #[.val (.int qa), .val (.int qb), .val (.int qc), .val (.int qs), .val (.int qq), .val (.int r1), .val (.int r2), .val (.int r3), .val (.int rd), .val (.int ks), .val (.ref b1), .val (.int (1 : Int32)), .val (.int (2 : Int32)), .val (.int (3 : Int32)), .val (.int (4 : Int32)), .val (.int (5 : Int32)), .val (.int (2 : Int32)), .val (.int (0 : Int32)), .unset, .unset, .unset] [(.int (own_climb gr_40 gp_40 rd 3 (gl_199 (0 : Int32))))]))
        refine Go.step (fun _ k => XS.istore X213.here hx rfl (hb hby at_269) rfl (l' := #[.val (.int qa), .val (.int qb), .val (.int qc), .val (.int qs), .val (.int qq), .val (.int r1), .val (.int r2), .val (.int r3), .val (.int rd), .val (.int ks), .val (.ref b1), .val (.int (1 : Int32)), .val (.int (2 : Int32)), .val (.int (3 : Int32)), .val (.int (4 : Int32)), .val (.int (5 : Int32)), .val (.int (2 : Int32)), .val (.int (0 : Int32)), .val (.int (own_climb gr_40 gp_40 rd 3 (gl_199 (0 : Int32)))), .unset, .unset]) rfl k) ?_
        show Go _ _ _ _ _ _ _ (T213.setTop (mkF m 271 #[.val (.int qa), .val (.int qb), .val (.int qc), .val (.int qs), .val (.int qq), .val (.int r1), .val (.int r2), .val (.int r3), .val (.int rd), .val (.int ks), .val (.ref b1), .val (.int (1 : Int32)), .val (.int (2 : Int32)), .val (.int (3 : Int32)), .val (.int (4 : Int32)), .val (.int (5 : Int32)), .val (.int (2 : Int32)), .val (.int (0 : Int32)), .val (.int (own_climb gr_40 gp_40 rd 3 (gl_199 (0 : Int32)))), .unset, .unset] []))
        refine Go.step (fun _ k => XS.iload X213.here hx rfl (hb hby at_271) rfl  k) ?_
        show Go _ _ _ _ _ _ _ (T213.setTop (mkF m 273 #[.val (.int qa), .val (.int qb), .val (.int qc), .val (.int qs), .val (.int qq), .val (.int r1), .val (.int r2), .val (.int r3), .val (.int rd), .val (.int ks), .val (.ref b1), .val (.int (1 : Int32)), .val (.int (2 : Int32)), .val (.int (3 : Int32)), .val (.int (4 : Int32)), .val (.int (5 : Int32)), .val (.int (2 : Int32)), .val (.int (0 : Int32)), .val (.int (own_climb gr_40 gp_40 rd 3 (gl_199 (0 : Int32)))), .unset, .unset] [(.int (2 : Int32))]))
        obtain ⟨_, _, ⟨T216, L216, k216, n216⟩, -, X216, ⟨Lc216, hQ216, l216, y216, z216⟩, st216⟩ := Jvm.LawKit.callS X213 hx (y := (⟨"com/example/both_ways/bothways/equivalence/SplitHistoryBlockAfterPinLaw", "depthOf", "(I)I"⟩ : MethodName)) hown (mvT hZ (hw _ (List.mem_of_getElem? (i := 38) rfl))) (mvT hZ (hw _ (List.mem_of_getElem? (i := 39) rfl))) (mvT hZ (hw _ (List.mem_of_getElem? (i := 40) rfl))) (mvT hZ (hw _ (List.mem_of_getElem? (i := 41) rfl))) (by decide) (backOf (W := 0) (rm6 l Z aZ hw [] (2 : Int32) T213.heap n0 z214 ) hZ (hw _ (List.mem_of_getElem? (i := 41) rfl)) (hw _ (List.mem_of_getElem? (i := 40) rfl)) (by decide) (by decide)) (g := (mkF m 273 #[.val (.int qa), .val (.int qb), .val (.int qc), .val (.int qs), .val (.int qq), .val (.int r1), .val (.int r2), .val (.int r3), .val (.int rd), .val (.int ks), .val (.ref b1), .val (.int (1 : Int32)), .val (.int (2 : Int32)), .val (.int (3 : Int32)), .val (.int (4 : Int32)), .val (.int (5 : Int32)), .val (.int (2 : Int32)), .val (.int (0 : Int32)), .val (.int (own_climb gr_40 gp_40 rd 3 (gl_199 (0 : Int32)))), .unset, .unset] [(.int (2 : Int32))])) rfl (by rw [hml]; rfl) (argsL := [(.int (2 : Int32))]) (rest := []) (lenOf pd_3 rfl) rfl (by show 2 * 0 + _ ≤ _; exact Nat.le_of_eq rfl) (hb hby at_273) (fun _ _ => ⟨rfl, rfl, (by decide : 5 + 0 ≤ _), (by decide : 56 + 0 ≤ _)⟩)
        dsimp only [Pt.U, Pt.locs, Pt.cells, Pt.slots] at X216 l216 y216 z216 st216 hQ216
        subst l216 y216 z216
        obtain ⟨rfl, Nq216, e216⟩ := hQ216
        have N216 := Fr.app N213 Nq216
        refine Go.step st216 ?_
        show Go _ _ _ _ _ _ _ (T216.setTop (mkF m 276 #[.val (.int qa), .val (.int qb), .val (.int qc), .val (.int qs), .val (.int qq), .val (.int r1), .val (.int r2), .val (.int r3), .val (.int rd), .val (.int ks), .val (.ref b1), .val (.int (1 : Int32)), .val (.int (2 : Int32)), .val (.int (3 : Int32)), .val (.int (4 : Int32)), .val (.int (5 : Int32)), .val (.int (2 : Int32)), .val (.int (0 : Int32)), .val (.int (own_climb gr_40 gp_40 rd 3 (gl_199 (0 : Int32)))), .unset, .unset] [(.int (own_dep (2 : Int32)))]))
        refine Go.step (fun _ k => XS.iload X216.here hx rfl (hb hby at_276) rfl  k) ?_
        show Go _ _ _ _ _ _ _ (T216.setTop (mkF m 278 #[.val (.int qa), .val (.int qb), .val (.int qc), .val (.int qs), .val (.int qq), .val (.int r1), .val (.int r2), .val (.int r3), .val (.int rd), .val (.int ks), .val (.ref b1), .val (.int (1 : Int32)), .val (.int (2 : Int32)), .val (.int (3 : Int32)), .val (.int (4 : Int32)), .val (.int (5 : Int32)), .val (.int (2 : Int32)), .val (.int (0 : Int32)), .val (.int (own_climb gr_40 gp_40 rd 3 (gl_199 (0 : Int32)))), .unset, .unset] [(.int (0 : Int32)), (.int (own_dep (2 : Int32)))]))
        obtain ⟨_, _, ⟨T217, L217, k217, n217⟩, -, X217, ⟨Lc217, hQ217, l217, y217, z217⟩, st217⟩ := Jvm.LawKit.callS X216 hx (y := (⟨"com/example/both_ways/bothways/equivalence/SplitHistoryBlockAfterPinLaw", "depthOf", "(I)I"⟩ : MethodName)) hown (mvT hZ (hw _ (List.mem_of_getElem? (i := 38) rfl))) (mvT hZ (hw _ (List.mem_of_getElem? (i := 39) rfl))) (mvT hZ (hw _ (List.mem_of_getElem? (i := 40) rfl))) (mvT hZ (hw _ (List.mem_of_getElem? (i := 41) rfl))) (by decide) (backOf (W := 1) (rm6 l Z aZ hw [] (0 : Int32) T213.heap n0 z214 ) hZ (hw _ (List.mem_of_getElem? (i := 41) rfl)) (hw _ (List.mem_of_getElem? (i := 40) rfl)) (by decide) (by decide)) (g := (mkF m 278 #[.val (.int qa), .val (.int qb), .val (.int qc), .val (.int qs), .val (.int qq), .val (.int r1), .val (.int r2), .val (.int r3), .val (.int rd), .val (.int ks), .val (.ref b1), .val (.int (1 : Int32)), .val (.int (2 : Int32)), .val (.int (3 : Int32)), .val (.int (4 : Int32)), .val (.int (5 : Int32)), .val (.int (2 : Int32)), .val (.int (0 : Int32)), .val (.int (own_climb gr_40 gp_40 rd 3 (gl_199 (0 : Int32)))), .unset, .unset] [(.int (0 : Int32)), (.int (own_dep (2 : Int32)))])) rfl (by rw [hml]; rfl) (argsL := [(.int (0 : Int32))]) (rest := [(.int (own_dep (2 : Int32)))]) (lenOf pd_3 rfl) rfl (by show 2 * 0 + _ ≤ _; exact Nat.le_of_eq rfl) (hb hby at_278) (fun _ _ => ⟨rfl, e216, (by decide : 5 + 0 ≤ _), (by decide : 56 + 0 ≤ _)⟩)
        dsimp only [Pt.U, Pt.locs, Pt.cells, Pt.slots] at X217 l217 y217 z217 st217 hQ217
        subst l217 y217 z217
        obtain ⟨rfl, Nq217, e217⟩ := hQ217
        have N217 := Fr.app N216 Nq217
        refine Go.step st217 ?_
        show Go _ _ _ _ _ _ _ (T217.setTop (mkF m 281 #[.val (.int qa), .val (.int qb), .val (.int qc), .val (.int qs), .val (.int qq), .val (.int r1), .val (.int r2), .val (.int r3), .val (.int rd), .val (.int ks), .val (.ref b1), .val (.int (1 : Int32)), .val (.int (2 : Int32)), .val (.int (3 : Int32)), .val (.int (4 : Int32)), .val (.int (5 : Int32)), .val (.int (2 : Int32)), .val (.int (0 : Int32)), .val (.int (own_climb gr_40 gp_40 rd 3 (gl_199 (0 : Int32)))), .unset, .unset] [(.int (own_dep (0 : Int32))), (.int (own_dep (2 : Int32)))]))
        refine Go.step (fun _ k => XS.isub X217.here hx rfl (hb hby at_281) rfl k) ?_
        show Go _ _ _ _ _ _ _ (T217.setTop (mkF m 282 #[.val (.int qa), .val (.int qb), .val (.int qc), .val (.int qs), .val (.int qq), .val (.int r1), .val (.int r2), .val (.int r3), .val (.int rd), .val (.int ks), .val (.ref b1), .val (.int (1 : Int32)), .val (.int (2 : Int32)), .val (.int (3 : Int32)), .val (.int (4 : Int32)), .val (.int (5 : Int32)), .val (.int (2 : Int32)), .val (.int (0 : Int32)), .val (.int (own_climb gr_40 gp_40 rd 3 (gl_199 (0 : Int32)))), .unset, .unset] [(.int ((own_dep (2 : Int32)) - (own_dep (0 : Int32))))]))
        refine Go.step (fun _ k => XS.iconst X217.here hx rfl (hb hby at_282) k) ?_
        show Go _ _ _ _ _ _ _ (T217.setTop (mkF m 283 #[.val (.int qa), .val (.int qb), .val (.int qc), .val (.int qs), .val (.int qq), .val (.int r1), .val (.int r2), .val (.int r3), .val (.int rd), .val (.int ks), .val (.ref b1), .val (.int (1 : Int32)), .val (.int (2 : Int32)), .val (.int (3 : Int32)), .val (.int (4 : Int32)), .val (.int (5 : Int32)), .val (.int (2 : Int32)), .val (.int (0 : Int32)), .val (.int (own_climb gr_40 gp_40 rd 3 (gl_199 (0 : Int32)))), .unset, .unset] [(.int (1 : Int32)), (.int ((own_dep (2 : Int32)) - (own_dep (0 : Int32))))]))
        refine Go.step (fun _ k => XS.iadd X217.here hx rfl (hb hby at_283) rfl k) ?_
        show Go _ _ _ _ _ _ _ (T217.setTop (mkF m 284 #[.val (.int qa), .val (.int qb), .val (.int qc), .val (.int qs), .val (.int qq), .val (.int r1), .val (.int r2), .val (.int r3), .val (.int rd), .val (.int ks), .val (.ref b1), .val (.int (1 : Int32)), .val (.int (2 : Int32)), .val (.int (3 : Int32)), .val (.int (4 : Int32)), .val (.int (5 : Int32)), .val (.int (2 : Int32)), .val (.int (0 : Int32)), .val (.int (own_climb gr_40 gp_40 rd 3 (gl_199 (0 : Int32)))), .unset, .unset] [(.int (((own_dep (2 : Int32)) - (own_dep (0 : Int32))) + (1 : Int32)))]))
        refine Go.step (fun _ k => XS.i2l X217.here hx rfl (hb hby at_284) rfl k) ?_
        show Go _ _ _ _ _ _ _ (T217.setTop (mkF m 285 #[.val (.int qa), .val (.int qb), .val (.int qc), .val (.int qs), .val (.int qq), .val (.int r1), .val (.int r2), .val (.int r3), .val (.int rd), .val (.int ks), .val (.ref b1), .val (.int (1 : Int32)), .val (.int (2 : Int32)), .val (.int (3 : Int32)), .val (.int (4 : Int32)), .val (.int (5 : Int32)), .val (.int (2 : Int32)), .val (.int (0 : Int32)), .val (.int (own_climb gr_40 gp_40 rd 3 (gl_199 (0 : Int32)))), .unset, .unset] [(.long (Int32.toInt64 (((own_dep (2 : Int32)) - (own_dep (0 : Int32))) + (1 : Int32))))]))
        refine Go.step (fun _ k => XS.lstore X217.here hx rfl (hb hby at_285) rfl (l' := #[.val (.int qa), .val (.int qb), .val (.int qc), .val (.int qs), .val (.int qq), .val (.int r1), .val (.int r2), .val (.int r3), .val (.int rd), .val (.int ks), .val (.ref b1), .val (.int (1 : Int32)), .val (.int (2 : Int32)), .val (.int (3 : Int32)), .val (.int (4 : Int32)), .val (.int (5 : Int32)), .val (.int (2 : Int32)), .val (.int (0 : Int32)), .val (.int (own_climb gr_40 gp_40 rd 3 (gl_199 (0 : Int32)))), .val (.long (Int32.toInt64 (((own_dep (2 : Int32)) - (own_dep (0 : Int32))) + (1 : Int32)))), .second]) rfl k) ?_
        show Go _ _ _ _ _ _ _ (T217.setTop (mkF m 287 #[.val (.int qa), .val (.int qb), .val (.int qc), .val (.int qs), .val (.int qq), .val (.int r1), .val (.int r2), .val (.int r3), .val (.int rd), .val (.int ks), .val (.ref b1), .val (.int (1 : Int32)), .val (.int (2 : Int32)), .val (.int (3 : Int32)), .val (.int (4 : Int32)), .val (.int (5 : Int32)), .val (.int (2 : Int32)), .val (.int (0 : Int32)), .val (.int (own_climb gr_40 gp_40 rd 3 (gl_199 (0 : Int32)))), .val (.long (Int32.toInt64 (((own_dep (2 : Int32)) - (own_dep (0 : Int32))) + (1 : Int32)))), .second] []))
        refine Go.step (fun _ k => XS.iload X217.here hx rfl (hb hby at_287) rfl  k) ?_
        show Go _ _ _ _ _ _ _ (T217.setTop (mkF m 289 #[.val (.int qa), .val (.int qb), .val (.int qc), .val (.int qs), .val (.int qq), .val (.int r1), .val (.int r2), .val (.int r3), .val (.int rd), .val (.int ks), .val (.ref b1), .val (.int (1 : Int32)), .val (.int (2 : Int32)), .val (.int (3 : Int32)), .val (.int (4 : Int32)), .val (.int (5 : Int32)), .val (.int (2 : Int32)), .val (.int (0 : Int32)), .val (.int (own_climb gr_40 gp_40 rd 3 (gl_199 (0 : Int32)))), .val (.long (Int32.toInt64 (((own_dep (2 : Int32)) - (own_dep (0 : Int32))) + (1 : Int32)))), .second] [(.int (own_climb gr_40 gp_40 rd 3 (gl_199 (0 : Int32))))]))
        refine Go.step (fun _ k => XS.iload X217.here hx rfl (hb hby at_289) rfl  k) ?_
        show Go _ _ _ _ _ _ _ (T217.setTop (mkF m 291 #[.val (.int qa), .val (.int qb), .val (.int qc), .val (.int qs), .val (.int qq), .val (.int r1), .val (.int r2), .val (.int r3), .val (.int rd), .val (.int ks), .val (.ref b1), .val (.int (1 : Int32)), .val (.int (2 : Int32)), .val (.int (3 : Int32)), .val (.int (4 : Int32)), .val (.int (5 : Int32)), .val (.int (2 : Int32)), .val (.int (0 : Int32)), .val (.int (own_climb gr_40 gp_40 rd 3 (gl_199 (0 : Int32)))), .val (.long (Int32.toInt64 (((own_dep (2 : Int32)) - (own_dep (0 : Int32))) + (1 : Int32)))), .second] [(.int (0 : Int32)), (.int (own_climb gr_40 gp_40 rd 3 (gl_199 (0 : Int32))))]))
        have hc291 : (own_climb gr_40 gp_40 rd 3 (gl_199 (0 : Int32))) = (0 : Int32) := by rw [u199_0, (own_c2 vR2 vP2 vR0 hrd).2, if_pos hc241]
        refine Go.step (fun _ k => XS.icmpNo X217.here hx rfl (hb hby at_291) rfl (teq hc291).2 k) ?_
        show Go _ _ _ _ _ _ _ (T217.setTop (mkF m 294 #[.val (.int qa), .val (.int qb), .val (.int qc), .val (.int qs), .val (.int qq), .val (.int r1), .val (.int r2), .val (.int r3), .val (.int rd), .val (.int ks), .val (.ref b1), .val (.int (1 : Int32)), .val (.int (2 : Int32)), .val (.int (3 : Int32)), .val (.int (4 : Int32)), .val (.int (5 : Int32)), .val (.int (2 : Int32)), .val (.int (0 : Int32)), .val (.int (own_climb gr_40 gp_40 rd 3 (gl_199 (0 : Int32)))), .val (.long (Int32.toInt64 (((own_dep (2 : Int32)) - (own_dep (0 : Int32))) + (1 : Int32)))), .second] []))
        refine Go.step (fun _ k => XS.aload X217.here hx rfl (hb hby at_294) rfl rfl  k) ?_
        show Go _ _ _ _ _ _ _ (T217.setTop (mkF m 296 #[.val (.int qa), .val (.int qb), .val (.int qc), .val (.int qs), .val (.int qq), .val (.int r1), .val (.int r2), .val (.int r3), .val (.int rd), .val (.int ks), .val (.ref b1), .val (.int (1 : Int32)), .val (.int (2 : Int32)), .val (.int (3 : Int32)), .val (.int (4 : Int32)), .val (.int (5 : Int32)), .val (.int (2 : Int32)), .val (.int (0 : Int32)), .val (.int (own_climb gr_40 gp_40 rd 3 (gl_199 (0 : Int32)))), .val (.long (Int32.toInt64 (((own_dep (2 : Int32)) - (own_dep (0 : Int32))) + (1 : Int32)))), .second] [(.ref b1)]))
        obtain ⟨cq218, kq218, q218a, q218b, q218c⟩ := isOf hZ e217 c213_0
        obtain ⟨_, _, ⟨T218, L218, k218, n218⟩, -, X218, ⟨Lc218, hQ218, l218, y218, z218⟩, st218⟩ := X217.virtualBack hx (y := (⟨"com/example/both_ways/bothways/equivalence/SplitHistory", "getVisitCount", "()J"⟩ : MethodName)) (z := (⟨"com/example/both_ways/bothways/equivalence/SplitHistory", "getVisitCount", "()J"⟩ : MethodName)) hown (mvT hZ (hw _ (List.mem_of_getElem? (i := 42) rfl))) (mvT hZ (hw _ (List.mem_of_getElem? (i := 43) rfl))) (notFace_of_selects (args := #[]) (mvT hZ (hw _ (List.mem_of_getElem? (i := 45) rfl)))) (mvT hZ (hw _ (List.mem_of_getElem? (i := 45) rfl))) (mvT hZ (hw _ (List.mem_of_getElem? (i := 44) rfl))) (by decide) (backOf (W := 0) (rm7 l Z aZ hw [] b1 ((0 : Int64) + Int32.toInt64 (((gd_40 (gl_199 (0 : Int32))) - (gd_40 (own_climb gr_40 gp_40 rd 3 (gl_199 (0 : Int32))))) + (1 : Int32))) T213.heap n0 z214 c213_1) hZ (hw _ (List.mem_of_getElem? (i := 46) rfl)) (hw _ (List.mem_of_getElem? (i := 3) rfl)) (by decide) (by decide)) q218a q218c (g := (mkF m 296 #[.val (.int qa), .val (.int qb), .val (.int qc), .val (.int qs), .val (.int qq), .val (.int r1), .val (.int r2), .val (.int r3), .val (.int rd), .val (.int ks), .val (.ref b1), .val (.int (1 : Int32)), .val (.int (2 : Int32)), .val (.int (3 : Int32)), .val (.int (4 : Int32)), .val (.int (5 : Int32)), .val (.int (2 : Int32)), .val (.int (0 : Int32)), .val (.int (own_climb gr_40 gp_40 rd 3 (gl_199 (0 : Int32)))), .val (.long (Int32.toInt64 (((own_dep (2 : Int32)) - (own_dep (0 : Int32))) + (1 : Int32)))), .second] [(.ref b1)])) rfl (by rw [hml]; rfl) (Steps.refl _) (argsL := []) (rest := []) (lenOf pd_4 rfl) rfl (by show 2 * 0 + _ ≤ _; exact Nat.le_of_eq rfl) (hb hby at_296) (fun _ _ => ⟨rfl, e217, (by decide : 5 + 0 ≤ _), (by decide : 56 + 0 ≤ _)⟩)
        dsimp only [Pt.U, Pt.locs, Pt.cells, Pt.slots] at X218 l218 y218 z218 st218 hQ218
        subst l218 y218 z218
        obtain ⟨rfl, Nq218, e218⟩ := hQ218
        have N218 := Fr.app N217 Nq218
        refine Go.tr st218 ?_
        show Go _ _ _ _ _ _ _ (T218.setTop (mkF m 299 #[.val (.int qa), .val (.int qb), .val (.int qc), .val (.int qs), .val (.int qq), .val (.int r1), .val (.int r2), .val (.int r3), .val (.int rd), .val (.int ks), .val (.ref b1), .val (.int (1 : Int32)), .val (.int (2 : Int32)), .val (.int (3 : Int32)), .val (.int (4 : Int32)), .val (.int (5 : Int32)), .val (.int (2 : Int32)), .val (.int (0 : Int32)), .val (.int (own_climb gr_40 gp_40 rd 3 (gl_199 (0 : Int32)))), .val (.long (Int32.toInt64 (((own_dep (2 : Int32)) - (own_dep (0 : Int32))) + (1 : Int32)))), .second] [(.long ((0 : Int64) + Int32.toInt64 (((gd_40 (gl_199 (0 : Int32))) - (gd_40 (own_climb gr_40 gp_40 rd 3 (gl_199 (0 : Int32))))) + (1 : Int32))))]))
        refine Go.step (fun _ k => XS.lload X218.here hx rfl (hb hby at_299) rfl  k) ?_
        show Go _ _ _ _ _ _ _ (T218.setTop (mkF m 301 #[.val (.int qa), .val (.int qb), .val (.int qc), .val (.int qs), .val (.int qq), .val (.int r1), .val (.int r2), .val (.int r3), .val (.int rd), .val (.int ks), .val (.ref b1), .val (.int (1 : Int32)), .val (.int (2 : Int32)), .val (.int (3 : Int32)), .val (.int (4 : Int32)), .val (.int (5 : Int32)), .val (.int (2 : Int32)), .val (.int (0 : Int32)), .val (.int (own_climb gr_40 gp_40 rd 3 (gl_199 (0 : Int32)))), .val (.long (Int32.toInt64 (((own_dep (2 : Int32)) - (own_dep (0 : Int32))) + (1 : Int32)))), .second] [(.long (Int32.toInt64 (((own_dep (2 : Int32)) - (own_dep (0 : Int32))) + (1 : Int32)))), (.long ((0 : Int64) + Int32.toInt64 (((gd_40 (gl_199 (0 : Int32))) - (gd_40 (own_climb gr_40 gp_40 rd 3 (gl_199 (0 : Int32))))) + (1 : Int32))))]))
        refine Go.step (fun _ k => XS.lcmp X218.here hx rfl (hb hby at_301) rfl k) ?_
        show Go _ _ _ _ _ _ _ (T218.setTop (mkF m 302 #[.val (.int qa), .val (.int qb), .val (.int qc), .val (.int qs), .val (.int qq), .val (.int r1), .val (.int r2), .val (.int r3), .val (.int rd), .val (.int ks), .val (.ref b1), .val (.int (1 : Int32)), .val (.int (2 : Int32)), .val (.int (3 : Int32)), .val (.int (4 : Int32)), .val (.int (5 : Int32)), .val (.int (2 : Int32)), .val (.int (0 : Int32)), .val (.int (own_climb gr_40 gp_40 rd 3 (gl_199 (0 : Int32)))), .val (.long (Int32.toInt64 (((own_dep (2 : Int32)) - (own_dep (0 : Int32))) + (1 : Int32)))), .second] [(.int (lcmpW ((0 : Int64) + Int32.toInt64 (((gd_40 (gl_199 (0 : Int32))) - (gd_40 (own_climb gr_40 gp_40 rd 3 (gl_199 (0 : Int32))))) + (1 : Int32))) (Int32.toInt64 (((own_dep (2 : Int32)) - (own_dep (0 : Int32))) + (1 : Int32)))))]))
        have hc302 : (lcmpW ((0 : Int64) + Int32.toInt64 (((gd_40 (gl_199 (0 : Int32))) - (gd_40 (own_climb gr_40 gp_40 rd 3 (gl_199 (0 : Int32))))) + (1 : Int32))) (Int32.toInt64 (((own_dep (2 : Int32)) - (own_dep (0 : Int32))) + (1 : Int32)))) = (0 : Int32) := by
          rw [hc291, u199_0, vD2, vD0]
          decide
        refine Go.step (fun _ k => XS.ifNo X218.here hx rfl (hb hby at_302) rfl ((if0 _ _).trans (teq hc302).2) k) ?_
        show Go _ _ _ _ _ _ _ (T218.setTop (mkF m 305 #[.val (.int qa), .val (.int qb), .val (.int qc), .val (.int qs), .val (.int qq), .val (.int r1), .val (.int r2), .val (.int r3), .val (.int rd), .val (.int ks), .val (.ref b1), .val (.int (1 : Int32)), .val (.int (2 : Int32)), .val (.int (3 : Int32)), .val (.int (4 : Int32)), .val (.int (5 : Int32)), .val (.int (2 : Int32)), .val (.int (0 : Int32)), .val (.int (own_climb gr_40 gp_40 rd 3 (gl_199 (0 : Int32)))), .val (.long (Int32.toInt64 (((own_dep (2 : Int32)) - (own_dep (0 : Int32))) + (1 : Int32)))), .second] []))
        refine Go.step (fun _ k => XS.iconst X218.here hx rfl (hb hby at_305) k) ?_
        show Go _ _ _ _ _ _ _ (T218.setTop (mkF m 306 #[.val (.int qa), .val (.int qb), .val (.int qc), .val (.int qs), .val (.int qq), .val (.int r1), .val (.int r2), .val (.int r3), .val (.int rd), .val (.int ks), .val (.ref b1), .val (.int (1 : Int32)), .val (.int (2 : Int32)), .val (.int (3 : Int32)), .val (.int (4 : Int32)), .val (.int (5 : Int32)), .val (.int (2 : Int32)), .val (.int (0 : Int32)), .val (.int (own_climb gr_40 gp_40 rd 3 (gl_199 (0 : Int32)))), .val (.long (Int32.toInt64 (((own_dep (2 : Int32)) - (own_dep (0 : Int32))) + (1 : Int32)))), .second] [(.int (1 : Int32))]))
        refine Go.step (fun _ k => XS.goto X218.here hx rfl (pc0 := 306) (pc' := 310) rfl (hb hby at_306) (by decide) (by decide) k) ?_
        show Go _ _ _ _ _ _ _ (T218.setTop (mkF m 310 #[.val (.int qa), .val (.int qb), .val (.int qc), .val (.int qs), .val (.int qq), .val (.int r1), .val (.int r2), .val (.int r3), .val (.int rd), .val (.int ks), .val (.ref b1), .val (.int (1 : Int32)), .val (.int (2 : Int32)), .val (.int (3 : Int32)), .val (.int (4 : Int32)), .val (.int (5 : Int32)), .val (.int (2 : Int32)), .val (.int (0 : Int32)), .val (.int (own_climb gr_40 gp_40 rd 3 (gl_199 (0 : Int32)))), .val (.long (Int32.toInt64 (((own_dep (2 : Int32)) - (own_dep (0 : Int32))) + (1 : Int32)))), .second] [(.int (1 : Int32))]))
        refine Go.retN X218 hx (t := .boolean) Bd.returns (by simp) hlk (hb hby at_310) ?_ (by decide) (by decide)
        rw [e218]
        exact ⟨(by first | rfl | (simp_all [own_nb1, own_nb0]; done)), N218⟩
      · skip
        refine Go.step (fun _ k => XS.icmpNo X40.here hx rfl (hb hby at_241) rfl (flt hc241).1 k) ?_
        show Go _ _ _ _ _ _ _ (T40.setTop (mkF m 244 #[.val (.int qa), .val (.int qb), .val (.int qc), .val (.int qs), .val (.int qq), .val (.int r1), .val (.int r2), .val (.int r3), .val (.int rd), .val (.int ks), .val (.ref b1), .val (.int (1 : Int32)), .val (.int (2 : Int32)), .val (.int (3 : Int32)), .val (.int (4 : Int32)), .val (.int (5 : Int32)), .val (.int (2 : Int32)), .unset, .unset, .unset, .unset] []))
        refine Go.step (fun _ k => XS.iconst X40.here hx rfl (hb hby at_244) k) ?_
        show Go _ _ _ _ _ _ _ (T40.setTop (mkF m 245 #[.val (.int qa), .val (.int qb), .val (.int qc), .val (.int qs), .val (.int qq), .val (.int r1), .val (.int r2), .val (.int r3), .val (.int rd), .val (.int ks), .val (.ref b1), .val (.int (1 : Int32)), .val (.int (2 : Int32)), .val (.int (3 : Int32)), .val (.int (4 : Int32)), .val (.int (5 : Int32)), .val (.int (2 : Int32)), .unset, .unset, .unset, .unset] [(.int (2 : Int32))]))
        refine Go.step (fun _ k => XS.istore X40.here hx rfl (hb hby at_245) rfl (l' := #[.val (.int qa), .val (.int qb), .val (.int qc), .val (.int qs), .val (.int qq), .val (.int r1), .val (.int r2), .val (.int r3), .val (.int rd), .val (.int ks), .val (.ref b1), .val (.int (1 : Int32)), .val (.int (2 : Int32)), .val (.int (3 : Int32)), .val (.int (4 : Int32)), .val (.int (5 : Int32)), .val (.int (2 : Int32)), .val (.int (2 : Int32)), .unset, .unset, .unset]) rfl k) ?_
        show Go _ _ _ _ _ _ _ (T40.setTop (mkF m 247 #[.val (.int qa), .val (.int qb), .val (.int qc), .val (.int qs), .val (.int qq), .val (.int r1), .val (.int r2), .val (.int r3), .val (.int rd), .val (.int ks), .val (.ref b1), .val (.int (1 : Int32)), .val (.int (2 : Int32)), .val (.int (3 : Int32)), .val (.int (4 : Int32)), .val (.int (5 : Int32)), .val (.int (2 : Int32)), .val (.int (2 : Int32)), .unset, .unset, .unset] []))
        refine Go.step (fun _ k => XS.goto X40.here hx rfl (pc0 := 247) (pc' := 253) rfl (hb hby at_247) (by decide) (by decide) k) ?_
        show Go _ _ _ _ _ _ _ (T40.setTop (mkF m 253 #[.val (.int qa), .val (.int qb), .val (.int qc), .val (.int qs), .val (.int qq), .val (.int r1), .val (.int r2), .val (.int r3), .val (.int rd), .val (.int ks), .val (.ref b1), .val (.int (1 : Int32)), .val (.int (2 : Int32)), .val (.int (3 : Int32)), .val (.int (4 : Int32)), .val (.int (5 : Int32)), .val (.int (2 : Int32)), .val (.int (2 : Int32)), .unset, .unset, .unset] []))
        refine Go.step (fun _ k => XS.aload X40.here hx rfl (hb hby at_253) rfl rfl  k) ?_
        show Go _ _ _ _ _ _ _ (T40.setTop (mkF m 255 #[.val (.int qa), .val (.int qb), .val (.int qc), .val (.int qs), .val (.int qq), .val (.int r1), .val (.int r2), .val (.int r3), .val (.int rd), .val (.int ks), .val (.ref b1), .val (.int (1 : Int32)), .val (.int (2 : Int32)), .val (.int (3 : Int32)), .val (.int (4 : Int32)), .val (.int (5 : Int32)), .val (.int (2 : Int32)), .val (.int (2 : Int32)), .unset, .unset, .unset] [(.ref b1)]))
        refine Go.step (fun _ k => XS.iconst X40.here hx rfl (hb hby at_255) k) ?_
        show Go _ _ _ _ _ _ _ (T40.setTop (mkF m 256 #[.val (.int qa), .val (.int qb), .val (.int qc), .val (.int qs), .val (.int qq), .val (.int r1), .val (.int r2), .val (.int r3), .val (.int rd), .val (.int ks), .val (.ref b1), .val (.int (1 : Int32)), .val (.int (2 : Int32)), .val (.int (3 : Int32)), .val (.int (4 : Int32)), .val (.int (5 : Int32)), .val (.int (2 : Int32)), .val (.int (2 : Int32)), .unset, .unset, .unset] [(.int (0 : Int32)), (.ref b1)]))
        refine Go.step (fun _ k => XS.iload X40.here hx rfl (hb hby at_256) rfl  k) ?_
        show Go _ _ _ _ _ _ _ (T40.setTop (mkF m 258 #[.val (.int qa), .val (.int qb), .val (.int qc), .val (.int qs), .val (.int qq), .val (.int r1), .val (.int r2), .val (.int r3), .val (.int rd), .val (.int ks), .val (.ref b1), .val (.int (1 : Int32)), .val (.int (2 : Int32)), .val (.int (3 : Int32)), .val (.int (4 : Int32)), .val (.int (5 : Int32)), .val (.int (2 : Int32)), .val (.int (2 : Int32)), .unset, .unset, .unset] [(.int (2 : Int32)), (.int (0 : Int32)), (.ref b1)]))
        have f219 : Ai Z T40.heap bl_11 .int (1 : Int32) (fun _ => 0) := (((((c11_14.keep K20 (ninS (Ne.symm c11_18) (ninS (Ne.symm c11_21) (ninS (Ne.symm c11_23) (ninS (Ne.symm c11_24) nin0))))).keep K25 (ninS (Ne.symm c11_18) (ninS (Ne.symm c11_21) (ninS (Ne.symm c11_23) (ninS (Ne.symm c11_24) nin0))))).keep K30 (ninS (Ne.symm c11_18) (ninS (Ne.symm c11_21) (ninS (Ne.symm c11_23) (ninS (Ne.symm c11_24) nin0))))).keep K35 (ninS (Ne.symm c11_18) (ninS (Ne.symm c11_21) (ninS (Ne.symm c11_23) (ninS (Ne.symm c11_24) nin0))))).keep K40 (ninS (Ne.symm c11_18) (ninS (Ne.symm c11_21) (ninS (Ne.symm c11_23) (ninS (Ne.symm c11_24) nin0)))))
        have pq220 : (0 : Int32) = (0 : Int32) := rfl
        obtain ⟨cq221, kq221, q221a, q221b, q221c⟩ := isOf hZ rfl c40_0
        obtain ⟨_, _, ⟨T221, L221, k221, n221⟩, -, X221, ⟨Lc221, hQ221, l221, y221, z221⟩, st221⟩ := X40.virtualBack hx (y := (⟨"com/example/both_ways/bothways/equivalence/SplitHistory", "place", "(II)V"⟩ : MethodName)) (z := (⟨"com/example/both_ways/bothways/equivalence/SplitHistory", "place", "(II)V"⟩ : MethodName)) hown (mvT hZ (hw _ (List.mem_of_getElem? (i := 26) rfl))) (mvT hZ (hw _ (List.mem_of_getElem? (i := 27) rfl))) (notFace_of_selects (args := #[]) (mvT hZ (hw _ (List.mem_of_getElem? (i := 29) rfl)))) (mvT hZ (hw _ (List.mem_of_getElem? (i := 29) rfl))) (mvT hZ (hw _ (List.mem_of_getElem? (i := 28) rfl))) (by decide) (backOf (W := 0) (rm4 l Z aZ hw [] b1 (0 : Int32) (2 : Int32) bl_11 (fun _ => 0) T40.heap n0 z41 c40_4 f219 gn11_3 pq220) hZ (hw _ (List.mem_of_getElem? (i := 30) rfl)) (hw _ (List.mem_of_getElem? (i := 3) rfl)) (by decide) (by decide)) q221a q221c (g := (mkF m 258 #[.val (.int qa), .val (.int qb), .val (.int qc), .val (.int qs), .val (.int qq), .val (.int r1), .val (.int r2), .val (.int r3), .val (.int rd), .val (.int ks), .val (.ref b1), .val (.int (1 : Int32)), .val (.int (2 : Int32)), .val (.int (3 : Int32)), .val (.int (4 : Int32)), .val (.int (5 : Int32)), .val (.int (2 : Int32)), .val (.int (2 : Int32)), .unset, .unset, .unset] [(.int (2 : Int32)), (.int (0 : Int32)), (.ref b1)])) rfl (by rw [hml]; rfl) (Steps.refl _) (argsL := [(.int (0 : Int32)), (.int (2 : Int32))]) (rest := []) (lenOf pd_2 rfl) rfl (by show 2 * 0 + _ ≤ _; exact Nat.le_of_eq rfl) (hb hby at_258) (fun _ _ => ⟨rfl, rfl, (by decide : 5 + 0 ≤ _), (by decide : 56 + 0 ≤ _)⟩)
        dsimp only [Pt.U, Pt.locs, Pt.cells, Pt.slots] at X221 l221 y221 z221 st221 hQ221
        subst l221 y221 z221
        obtain ⟨gl_221, rfl, Nq221, K221, c221_0, u221_0⟩ := hQ221
        have N221 := Fr.app N40 Nq221
        refine Go.tr st221 ?_
        have z222 : n0 ≤ T221.heap.size := Nat.le_trans z41 K221.1
        have sqz222 : h0.size ≤ T221.heap.size := Nat.le_trans sqz41 K221.1
        show Go _ _ _ _ _ _ _ (T221.setTop (mkF m 261 #[.val (.int qa), .val (.int qb), .val (.int qc), .val (.int qs), .val (.int qq), .val (.int r1), .val (.int r2), .val (.int r3), .val (.int rd), .val (.int ks), .val (.ref b1), .val (.int (1 : Int32)), .val (.int (2 : Int32)), .val (.int (3 : Int32)), .val (.int (4 : Int32)), .val (.int (5 : Int32)), .val (.int (2 : Int32)), .val (.int (2 : Int32)), .unset, .unset, .unset] []))
        refine Go.step (fun _ k => XS.aload X221.here hx rfl (hb hby at_261) rfl rfl  k) ?_
        show Go _ _ _ _ _ _ _ (T221.setTop (mkF m 263 #[.val (.int qa), .val (.int qb), .val (.int qc), .val (.int qs), .val (.int qq), .val (.int r1), .val (.int r2), .val (.int r3), .val (.int rd), .val (.int ks), .val (.ref b1), .val (.int (1 : Int32)), .val (.int (2 : Int32)), .val (.int (3 : Int32)), .val (.int (4 : Int32)), .val (.int (5 : Int32)), .val (.int (2 : Int32)), .val (.int (2 : Int32)), .unset, .unset, .unset] [(.ref b1)]))
        refine Go.step (fun _ k => XS.iconst X221.here hx rfl (hb hby at_263) k) ?_
        show Go _ _ _ _ _ _ _ (T221.setTop (mkF m 264 #[.val (.int qa), .val (.int qb), .val (.int qc), .val (.int qs), .val (.int qq), .val (.int r1), .val (.int r2), .val (.int r3), .val (.int rd), .val (.int ks), .val (.ref b1), .val (.int (1 : Int32)), .val (.int (2 : Int32)), .val (.int (3 : Int32)), .val (.int (4 : Int32)), .val (.int (5 : Int32)), .val (.int (2 : Int32)), .val (.int (2 : Int32)), .unset, .unset, .unset] [(.int (0 : Int32)), (.ref b1)]))
        refine Go.step (fun _ k => XS.iload X221.here hx rfl (hb hby at_264) rfl  k) ?_
        show Go _ _ _ _ _ _ _ (T221.setTop (mkF m 266 #[.val (.int qa), .val (.int qb), .val (.int qc), .val (.int qs), .val (.int qq), .val (.int r1), .val (.int r2), .val (.int r3), .val (.int rd), .val (.int ks), .val (.ref b1), .val (.int (1 : Int32)), .val (.int (2 : Int32)), .val (.int (3 : Int32)), .val (.int (4 : Int32)), .val (.int (5 : Int32)), .val (.int (2 : Int32)), .val (.int (2 : Int32)), .unset, .unset, .unset] [(.int rd), (.int (0 : Int32)), (.ref b1)]))
        have f224 : Exa Z T221.heap b1 "com/example/both_ways/bothways/equivalence/SplitHistory" := (c40_0.keep K221)
        have f225 : Fld Z T221.heap b1 "com/example/both_ways/bothways/equivalence/SplitHistory" "parents" "[I" (.ref bp_11) := (c40_1.keep K221 (ninS c11_18 nin0))
        have f226 : Fld Z T221.heap b1 "com/example/both_ways/bothways/equivalence/SplitHistory" "rounds" "[I" (.ref br_11) := (c40_2.keep K221 (ninS c11_18 nin0))
        have f227 : Fld Z T221.heap b1 "com/example/both_ways/bothways/equivalence/SplitHistory" "depths" "[I" (.ref bd_11) := (c40_3.keep K221 (ninS c11_18 nin0))
        have f228 : Fld Z T221.heap b1 "com/example/both_ways/bothways/equivalence/SplitHistory" "leaves" "[I" (.ref bl_11) := (c40_4.keep K221 (ninS c11_18 nin0))
        have f229 : Fld Z T221.heap b1 "com/example/both_ways/bothways/equivalence/SplitHistory" "visits" "J" (.long (0 : Int64)) := (c40_6.keep K221 (ninS c11_18 nin0))
        have f230 : Ai Z T221.heap bp_11 .int (16 : Int32) gp_40 := (c40_7.keep K221 (ninS c11_21 nin0))
        have f231 : Ai Z T221.heap br_11 .int (16 : Int32) gr_40 := (c40_8.keep K221 (ninS c11_23 nin0))
        have f232 : Ai Z T221.heap bd_11 .int (16 : Int32) gd_40 := (c40_9.keep K221 (ninS c11_24 nin0))
        have pq233 : (0 : Int32) = (0 : Int32) := rfl
        have pq234 : own_ok gr_40 gp_40 rd 3 (gl_221 (0 : Int32)) := (by rw [u221_0]; exact (own_c2 vR2 vP2 vR0 hrd).1)
        obtain ⟨cq235, kq235, q235a, q235b, q235c⟩ := isOf hZ rfl f224
        obtain ⟨_, _, ⟨T235, L235, k235, n235⟩, -, X235, ⟨Lc235, hQ235, l235, y235, z235⟩, st235⟩ := X221.virtualBack hx (y := (⟨"com/example/both_ways/bothways/equivalence/SplitHistory", "blockAfter", "(II)I"⟩ : MethodName)) (z := (⟨"com/example/both_ways/bothways/equivalence/SplitHistory", "blockAfter", "(II)I"⟩ : MethodName)) hown (mvT hZ (hw _ (List.mem_of_getElem? (i := 31) rfl))) (mvT hZ (hw _ (List.mem_of_getElem? (i := 32) rfl))) (notFace_of_selects (args := #[]) (mvT hZ (hw _ (List.mem_of_getElem? (i := 34) rfl)))) (mvT hZ (hw _ (List.mem_of_getElem? (i := 34) rfl))) (mvT hZ (hw _ (List.mem_of_getElem? (i := 33) rfl))) (by decide) (backOf (W := 0) (rm5 l Z aZ hw [] b1 (0 : Int32) rd bp_11 gp_40 br_11 gr_40 bd_11 gd_40 bl_11 gl_221 T221.heap n0 z222 f224 f225 f226 f227 f228 f229 f230 f231 f232 c221_0 gn1 pq233 pq234 c11_15 c11_16 c11_17 c11_18 c11_19 c11_20 c11_21 c11_22 c11_23 c11_24) hZ (hw _ (List.mem_of_getElem? (i := 35) rfl)) (hw _ (List.mem_of_getElem? (i := 3) rfl)) (by decide) (by decide)) q235a q235c (g := (mkF m 266 #[.val (.int qa), .val (.int qb), .val (.int qc), .val (.int qs), .val (.int qq), .val (.int r1), .val (.int r2), .val (.int r3), .val (.int rd), .val (.int ks), .val (.ref b1), .val (.int (1 : Int32)), .val (.int (2 : Int32)), .val (.int (3 : Int32)), .val (.int (4 : Int32)), .val (.int (5 : Int32)), .val (.int (2 : Int32)), .val (.int (2 : Int32)), .unset, .unset, .unset] [(.int rd), (.int (0 : Int32)), (.ref b1)])) rfl (by rw [hml]; rfl) (Steps.refl _) (argsL := [(.int (0 : Int32)), (.int rd)]) (rest := []) (lenOf pd_1 rfl) rfl (by show 2 * 0 + _ ≤ _; exact Nat.le_of_eq rfl) (hb hby at_266) (fun _ _ => ⟨rfl, rfl, (by decide : 5 + 0 ≤ _), (by decide : 56 + 0 ≤ _)⟩)
        dsimp only [Pt.U, Pt.locs, Pt.cells, Pt.slots] at X235 l235 y235 z235 st235 hQ235
        subst l235 y235 z235
        obtain ⟨rfl, Nq235, K235, c235_0, c235_1⟩ := hQ235
        have N235 := Fr.app N221 Nq235
        refine Go.tr st235 ?_
        have z236 : n0 ≤ T235.heap.size := Nat.le_trans z222 K235.1
        have sqz236 : h0.size ≤ T235.heap.size := Nat.le_trans sqz222 K235.1
        show Go _ _ _ _ _ _ _ (T235.setTop (mkF m 269 #[.val (.int qa), .val (.int qb), .val (.int qc), .val (.int qs), .val (.int qq), .val (.int r1), .val (.int r2), .val (.int r3), .val (.int rd), .val (.int ks), .val (.ref b1), .val (.int (1 : Int32)), .val (.int (2 : Int32)), .val (.int (3 : Int32)), .val (.int (4 : Int32)), .val (.int (5 : Int32)), .val (.int (2 : Int32)), .val (.int (2 : Int32)), .unset, .unset, .unset] [(.int (own_climb gr_40 gp_40 rd 3 (gl_221 (0 : Int32))))]))
        refine Go.step (fun _ k => XS.istore X235.here hx rfl (hb hby at_269) rfl (l' := #[.val (.int qa), .val (.int qb), .val (.int qc), .val (.int qs), .val (.int qq), .val (.int r1), .val (.int r2), .val (.int r3), .val (.int rd), .val (.int ks), .val (.ref b1), .val (.int (1 : Int32)), .val (.int (2 : Int32)), .val (.int (3 : Int32)), .val (.int (4 : Int32)), .val (.int (5 : Int32)), .val (.int (2 : Int32)), .val (.int (2 : Int32)), .val (.int (own_climb gr_40 gp_40 rd 3 (gl_221 (0 : Int32)))), .unset, .unset]) rfl k) ?_
        show Go _ _ _ _ _ _ _ (T235.setTop (mkF m 271 #[.val (.int qa), .val (.int qb), .val (.int qc), .val (.int qs), .val (.int qq), .val (.int r1), .val (.int r2), .val (.int r3), .val (.int rd), .val (.int ks), .val (.ref b1), .val (.int (1 : Int32)), .val (.int (2 : Int32)), .val (.int (3 : Int32)), .val (.int (4 : Int32)), .val (.int (5 : Int32)), .val (.int (2 : Int32)), .val (.int (2 : Int32)), .val (.int (own_climb gr_40 gp_40 rd 3 (gl_221 (0 : Int32)))), .unset, .unset] []))
        refine Go.step (fun _ k => XS.iload X235.here hx rfl (hb hby at_271) rfl  k) ?_
        show Go _ _ _ _ _ _ _ (T235.setTop (mkF m 273 #[.val (.int qa), .val (.int qb), .val (.int qc), .val (.int qs), .val (.int qq), .val (.int r1), .val (.int r2), .val (.int r3), .val (.int rd), .val (.int ks), .val (.ref b1), .val (.int (1 : Int32)), .val (.int (2 : Int32)), .val (.int (3 : Int32)), .val (.int (4 : Int32)), .val (.int (5 : Int32)), .val (.int (2 : Int32)), .val (.int (2 : Int32)), .val (.int (own_climb gr_40 gp_40 rd 3 (gl_221 (0 : Int32)))), .unset, .unset] [(.int (2 : Int32))]))
        obtain ⟨_, _, ⟨T238, L238, k238, n238⟩, -, X238, ⟨Lc238, hQ238, l238, y238, z238⟩, st238⟩ := Jvm.LawKit.callS X235 hx (y := (⟨"com/example/both_ways/bothways/equivalence/SplitHistoryBlockAfterPinLaw", "depthOf", "(I)I"⟩ : MethodName)) hown (mvT hZ (hw _ (List.mem_of_getElem? (i := 38) rfl))) (mvT hZ (hw _ (List.mem_of_getElem? (i := 39) rfl))) (mvT hZ (hw _ (List.mem_of_getElem? (i := 40) rfl))) (mvT hZ (hw _ (List.mem_of_getElem? (i := 41) rfl))) (by decide) (backOf (W := 0) (rm6 l Z aZ hw [] (2 : Int32) T235.heap n0 z236 ) hZ (hw _ (List.mem_of_getElem? (i := 41) rfl)) (hw _ (List.mem_of_getElem? (i := 40) rfl)) (by decide) (by decide)) (g := (mkF m 273 #[.val (.int qa), .val (.int qb), .val (.int qc), .val (.int qs), .val (.int qq), .val (.int r1), .val (.int r2), .val (.int r3), .val (.int rd), .val (.int ks), .val (.ref b1), .val (.int (1 : Int32)), .val (.int (2 : Int32)), .val (.int (3 : Int32)), .val (.int (4 : Int32)), .val (.int (5 : Int32)), .val (.int (2 : Int32)), .val (.int (2 : Int32)), .val (.int (own_climb gr_40 gp_40 rd 3 (gl_221 (0 : Int32)))), .unset, .unset] [(.int (2 : Int32))])) rfl (by rw [hml]; rfl) (argsL := [(.int (2 : Int32))]) (rest := []) (lenOf pd_3 rfl) rfl (by show 2 * 0 + _ ≤ _; exact Nat.le_of_eq rfl) (hb hby at_273) (fun _ _ => ⟨rfl, rfl, (by decide : 5 + 0 ≤ _), (by decide : 56 + 0 ≤ _)⟩)
        dsimp only [Pt.U, Pt.locs, Pt.cells, Pt.slots] at X238 l238 y238 z238 st238 hQ238
        subst l238 y238 z238
        obtain ⟨rfl, Nq238, e238⟩ := hQ238
        have N238 := Fr.app N235 Nq238
        refine Go.step st238 ?_
        show Go _ _ _ _ _ _ _ (T238.setTop (mkF m 276 #[.val (.int qa), .val (.int qb), .val (.int qc), .val (.int qs), .val (.int qq), .val (.int r1), .val (.int r2), .val (.int r3), .val (.int rd), .val (.int ks), .val (.ref b1), .val (.int (1 : Int32)), .val (.int (2 : Int32)), .val (.int (3 : Int32)), .val (.int (4 : Int32)), .val (.int (5 : Int32)), .val (.int (2 : Int32)), .val (.int (2 : Int32)), .val (.int (own_climb gr_40 gp_40 rd 3 (gl_221 (0 : Int32)))), .unset, .unset] [(.int (own_dep (2 : Int32)))]))
        refine Go.step (fun _ k => XS.iload X238.here hx rfl (hb hby at_276) rfl  k) ?_
        show Go _ _ _ _ _ _ _ (T238.setTop (mkF m 278 #[.val (.int qa), .val (.int qb), .val (.int qc), .val (.int qs), .val (.int qq), .val (.int r1), .val (.int r2), .val (.int r3), .val (.int rd), .val (.int ks), .val (.ref b1), .val (.int (1 : Int32)), .val (.int (2 : Int32)), .val (.int (3 : Int32)), .val (.int (4 : Int32)), .val (.int (5 : Int32)), .val (.int (2 : Int32)), .val (.int (2 : Int32)), .val (.int (own_climb gr_40 gp_40 rd 3 (gl_221 (0 : Int32)))), .unset, .unset] [(.int (2 : Int32)), (.int (own_dep (2 : Int32)))]))
        obtain ⟨_, _, ⟨T239, L239, k239, n239⟩, -, X239, ⟨Lc239, hQ239, l239, y239, z239⟩, st239⟩ := Jvm.LawKit.callS X238 hx (y := (⟨"com/example/both_ways/bothways/equivalence/SplitHistoryBlockAfterPinLaw", "depthOf", "(I)I"⟩ : MethodName)) hown (mvT hZ (hw _ (List.mem_of_getElem? (i := 38) rfl))) (mvT hZ (hw _ (List.mem_of_getElem? (i := 39) rfl))) (mvT hZ (hw _ (List.mem_of_getElem? (i := 40) rfl))) (mvT hZ (hw _ (List.mem_of_getElem? (i := 41) rfl))) (by decide) (backOf (W := 1) (rm6 l Z aZ hw [] (2 : Int32) T235.heap n0 z236 ) hZ (hw _ (List.mem_of_getElem? (i := 41) rfl)) (hw _ (List.mem_of_getElem? (i := 40) rfl)) (by decide) (by decide)) (g := (mkF m 278 #[.val (.int qa), .val (.int qb), .val (.int qc), .val (.int qs), .val (.int qq), .val (.int r1), .val (.int r2), .val (.int r3), .val (.int rd), .val (.int ks), .val (.ref b1), .val (.int (1 : Int32)), .val (.int (2 : Int32)), .val (.int (3 : Int32)), .val (.int (4 : Int32)), .val (.int (5 : Int32)), .val (.int (2 : Int32)), .val (.int (2 : Int32)), .val (.int (own_climb gr_40 gp_40 rd 3 (gl_221 (0 : Int32)))), .unset, .unset] [(.int (2 : Int32)), (.int (own_dep (2 : Int32)))])) rfl (by rw [hml]; rfl) (argsL := [(.int (2 : Int32))]) (rest := [(.int (own_dep (2 : Int32)))]) (lenOf pd_3 rfl) rfl (by show 2 * 0 + _ ≤ _; exact Nat.le_of_eq rfl) (hb hby at_278) (fun _ _ => ⟨rfl, e238, (by decide : 5 + 0 ≤ _), (by decide : 56 + 0 ≤ _)⟩)
        dsimp only [Pt.U, Pt.locs, Pt.cells, Pt.slots] at X239 l239 y239 z239 st239 hQ239
        subst l239 y239 z239
        obtain ⟨rfl, Nq239, e239⟩ := hQ239
        have N239 := Fr.app N238 Nq239
        refine Go.step st239 ?_
        show Go _ _ _ _ _ _ _ (T239.setTop (mkF m 281 #[.val (.int qa), .val (.int qb), .val (.int qc), .val (.int qs), .val (.int qq), .val (.int r1), .val (.int r2), .val (.int r3), .val (.int rd), .val (.int ks), .val (.ref b1), .val (.int (1 : Int32)), .val (.int (2 : Int32)), .val (.int (3 : Int32)), .val (.int (4 : Int32)), .val (.int (5 : Int32)), .val (.int (2 : Int32)), .val (.int (2 : Int32)), .val (.int (own_climb gr_40 gp_40 rd 3 (gl_221 (0 : Int32)))), .unset, .unset] [(.int (own_dep (2 : Int32))), (.int (own_dep (2 : Int32)))]))
        refine Go.step (fun _ k => XS.isub X239.here hx rfl (hb hby at_281) rfl k) ?_
        show Go _ _ _ _ _ _ _ (T239.setTop (mkF m 282 #[.val (.int qa), .val (.int qb), .val (.int qc), .val (.int qs), .val (.int qq), .val (.int r1), .val (.int r2), .val (.int r3), .val (.int rd), .val (.int ks), .val (.ref b1), .val (.int (1 : Int32)), .val (.int (2 : Int32)), .val (.int (3 : Int32)), .val (.int (4 : Int32)), .val (.int (5 : Int32)), .val (.int (2 : Int32)), .val (.int (2 : Int32)), .val (.int (own_climb gr_40 gp_40 rd 3 (gl_221 (0 : Int32)))), .unset, .unset] [(.int ((own_dep (2 : Int32)) - (own_dep (2 : Int32))))]))
        refine Go.step (fun _ k => XS.iconst X239.here hx rfl (hb hby at_282) k) ?_
        show Go _ _ _ _ _ _ _ (T239.setTop (mkF m 283 #[.val (.int qa), .val (.int qb), .val (.int qc), .val (.int qs), .val (.int qq), .val (.int r1), .val (.int r2), .val (.int r3), .val (.int rd), .val (.int ks), .val (.ref b1), .val (.int (1 : Int32)), .val (.int (2 : Int32)), .val (.int (3 : Int32)), .val (.int (4 : Int32)), .val (.int (5 : Int32)), .val (.int (2 : Int32)), .val (.int (2 : Int32)), .val (.int (own_climb gr_40 gp_40 rd 3 (gl_221 (0 : Int32)))), .unset, .unset] [(.int (1 : Int32)), (.int ((own_dep (2 : Int32)) - (own_dep (2 : Int32))))]))
        refine Go.step (fun _ k => XS.iadd X239.here hx rfl (hb hby at_283) rfl k) ?_
        show Go _ _ _ _ _ _ _ (T239.setTop (mkF m 284 #[.val (.int qa), .val (.int qb), .val (.int qc), .val (.int qs), .val (.int qq), .val (.int r1), .val (.int r2), .val (.int r3), .val (.int rd), .val (.int ks), .val (.ref b1), .val (.int (1 : Int32)), .val (.int (2 : Int32)), .val (.int (3 : Int32)), .val (.int (4 : Int32)), .val (.int (5 : Int32)), .val (.int (2 : Int32)), .val (.int (2 : Int32)), .val (.int (own_climb gr_40 gp_40 rd 3 (gl_221 (0 : Int32)))), .unset, .unset] [(.int (((own_dep (2 : Int32)) - (own_dep (2 : Int32))) + (1 : Int32)))]))
        refine Go.step (fun _ k => XS.i2l X239.here hx rfl (hb hby at_284) rfl k) ?_
        show Go _ _ _ _ _ _ _ (T239.setTop (mkF m 285 #[.val (.int qa), .val (.int qb), .val (.int qc), .val (.int qs), .val (.int qq), .val (.int r1), .val (.int r2), .val (.int r3), .val (.int rd), .val (.int ks), .val (.ref b1), .val (.int (1 : Int32)), .val (.int (2 : Int32)), .val (.int (3 : Int32)), .val (.int (4 : Int32)), .val (.int (5 : Int32)), .val (.int (2 : Int32)), .val (.int (2 : Int32)), .val (.int (own_climb gr_40 gp_40 rd 3 (gl_221 (0 : Int32)))), .unset, .unset] [(.long (Int32.toInt64 (((own_dep (2 : Int32)) - (own_dep (2 : Int32))) + (1 : Int32))))]))
        refine Go.step (fun _ k => XS.lstore X239.here hx rfl (hb hby at_285) rfl (l' := #[.val (.int qa), .val (.int qb), .val (.int qc), .val (.int qs), .val (.int qq), .val (.int r1), .val (.int r2), .val (.int r3), .val (.int rd), .val (.int ks), .val (.ref b1), .val (.int (1 : Int32)), .val (.int (2 : Int32)), .val (.int (3 : Int32)), .val (.int (4 : Int32)), .val (.int (5 : Int32)), .val (.int (2 : Int32)), .val (.int (2 : Int32)), .val (.int (own_climb gr_40 gp_40 rd 3 (gl_221 (0 : Int32)))), .val (.long (Int32.toInt64 (((own_dep (2 : Int32)) - (own_dep (2 : Int32))) + (1 : Int32)))), .second]) rfl k) ?_
        show Go _ _ _ _ _ _ _ (T239.setTop (mkF m 287 #[.val (.int qa), .val (.int qb), .val (.int qc), .val (.int qs), .val (.int qq), .val (.int r1), .val (.int r2), .val (.int r3), .val (.int rd), .val (.int ks), .val (.ref b1), .val (.int (1 : Int32)), .val (.int (2 : Int32)), .val (.int (3 : Int32)), .val (.int (4 : Int32)), .val (.int (5 : Int32)), .val (.int (2 : Int32)), .val (.int (2 : Int32)), .val (.int (own_climb gr_40 gp_40 rd 3 (gl_221 (0 : Int32)))), .val (.long (Int32.toInt64 (((own_dep (2 : Int32)) - (own_dep (2 : Int32))) + (1 : Int32)))), .second] []))
        refine Go.step (fun _ k => XS.iload X239.here hx rfl (hb hby at_287) rfl  k) ?_
        show Go _ _ _ _ _ _ _ (T239.setTop (mkF m 289 #[.val (.int qa), .val (.int qb), .val (.int qc), .val (.int qs), .val (.int qq), .val (.int r1), .val (.int r2), .val (.int r3), .val (.int rd), .val (.int ks), .val (.ref b1), .val (.int (1 : Int32)), .val (.int (2 : Int32)), .val (.int (3 : Int32)), .val (.int (4 : Int32)), .val (.int (5 : Int32)), .val (.int (2 : Int32)), .val (.int (2 : Int32)), .val (.int (own_climb gr_40 gp_40 rd 3 (gl_221 (0 : Int32)))), .val (.long (Int32.toInt64 (((own_dep (2 : Int32)) - (own_dep (2 : Int32))) + (1 : Int32)))), .second] [(.int (own_climb gr_40 gp_40 rd 3 (gl_221 (0 : Int32))))]))
        refine Go.step (fun _ k => XS.iload X239.here hx rfl (hb hby at_289) rfl  k) ?_
        show Go _ _ _ _ _ _ _ (T239.setTop (mkF m 291 #[.val (.int qa), .val (.int qb), .val (.int qc), .val (.int qs), .val (.int qq), .val (.int r1), .val (.int r2), .val (.int r3), .val (.int rd), .val (.int ks), .val (.ref b1), .val (.int (1 : Int32)), .val (.int (2 : Int32)), .val (.int (3 : Int32)), .val (.int (4 : Int32)), .val (.int (5 : Int32)), .val (.int (2 : Int32)), .val (.int (2 : Int32)), .val (.int (own_climb gr_40 gp_40 rd 3 (gl_221 (0 : Int32)))), .val (.long (Int32.toInt64 (((own_dep (2 : Int32)) - (own_dep (2 : Int32))) + (1 : Int32)))), .second] [(.int (2 : Int32)), (.int (own_climb gr_40 gp_40 rd 3 (gl_221 (0 : Int32))))]))
        have hc291 : (own_climb gr_40 gp_40 rd 3 (gl_221 (0 : Int32))) = (2 : Int32) := by rw [u221_0, (own_c2 vR2 vP2 vR0 hrd).2, if_neg hc241]
        refine Go.step (fun _ k => XS.icmpNo X239.here hx rfl (hb hby at_291) rfl (teq hc291).2 k) ?_
        show Go _ _ _ _ _ _ _ (T239.setTop (mkF m 294 #[.val (.int qa), .val (.int qb), .val (.int qc), .val (.int qs), .val (.int qq), .val (.int r1), .val (.int r2), .val (.int r3), .val (.int rd), .val (.int ks), .val (.ref b1), .val (.int (1 : Int32)), .val (.int (2 : Int32)), .val (.int (3 : Int32)), .val (.int (4 : Int32)), .val (.int (5 : Int32)), .val (.int (2 : Int32)), .val (.int (2 : Int32)), .val (.int (own_climb gr_40 gp_40 rd 3 (gl_221 (0 : Int32)))), .val (.long (Int32.toInt64 (((own_dep (2 : Int32)) - (own_dep (2 : Int32))) + (1 : Int32)))), .second] []))
        refine Go.step (fun _ k => XS.aload X239.here hx rfl (hb hby at_294) rfl rfl  k) ?_
        show Go _ _ _ _ _ _ _ (T239.setTop (mkF m 296 #[.val (.int qa), .val (.int qb), .val (.int qc), .val (.int qs), .val (.int qq), .val (.int r1), .val (.int r2), .val (.int r3), .val (.int rd), .val (.int ks), .val (.ref b1), .val (.int (1 : Int32)), .val (.int (2 : Int32)), .val (.int (3 : Int32)), .val (.int (4 : Int32)), .val (.int (5 : Int32)), .val (.int (2 : Int32)), .val (.int (2 : Int32)), .val (.int (own_climb gr_40 gp_40 rd 3 (gl_221 (0 : Int32)))), .val (.long (Int32.toInt64 (((own_dep (2 : Int32)) - (own_dep (2 : Int32))) + (1 : Int32)))), .second] [(.ref b1)]))
        obtain ⟨cq240, kq240, q240a, q240b, q240c⟩ := isOf hZ e239 c235_0
        obtain ⟨_, _, ⟨T240, L240, k240, n240⟩, -, X240, ⟨Lc240, hQ240, l240, y240, z240⟩, st240⟩ := X239.virtualBack hx (y := (⟨"com/example/both_ways/bothways/equivalence/SplitHistory", "getVisitCount", "()J"⟩ : MethodName)) (z := (⟨"com/example/both_ways/bothways/equivalence/SplitHistory", "getVisitCount", "()J"⟩ : MethodName)) hown (mvT hZ (hw _ (List.mem_of_getElem? (i := 42) rfl))) (mvT hZ (hw _ (List.mem_of_getElem? (i := 43) rfl))) (notFace_of_selects (args := #[]) (mvT hZ (hw _ (List.mem_of_getElem? (i := 45) rfl)))) (mvT hZ (hw _ (List.mem_of_getElem? (i := 45) rfl))) (mvT hZ (hw _ (List.mem_of_getElem? (i := 44) rfl))) (by decide) (backOf (W := 0) (rm7 l Z aZ hw [] b1 ((0 : Int64) + Int32.toInt64 (((gd_40 (gl_221 (0 : Int32))) - (gd_40 (own_climb gr_40 gp_40 rd 3 (gl_221 (0 : Int32))))) + (1 : Int32))) T235.heap n0 z236 c235_1) hZ (hw _ (List.mem_of_getElem? (i := 46) rfl)) (hw _ (List.mem_of_getElem? (i := 3) rfl)) (by decide) (by decide)) q240a q240c (g := (mkF m 296 #[.val (.int qa), .val (.int qb), .val (.int qc), .val (.int qs), .val (.int qq), .val (.int r1), .val (.int r2), .val (.int r3), .val (.int rd), .val (.int ks), .val (.ref b1), .val (.int (1 : Int32)), .val (.int (2 : Int32)), .val (.int (3 : Int32)), .val (.int (4 : Int32)), .val (.int (5 : Int32)), .val (.int (2 : Int32)), .val (.int (2 : Int32)), .val (.int (own_climb gr_40 gp_40 rd 3 (gl_221 (0 : Int32)))), .val (.long (Int32.toInt64 (((own_dep (2 : Int32)) - (own_dep (2 : Int32))) + (1 : Int32)))), .second] [(.ref b1)])) rfl (by rw [hml]; rfl) (Steps.refl _) (argsL := []) (rest := []) (lenOf pd_4 rfl) rfl (by show 2 * 0 + _ ≤ _; exact Nat.le_of_eq rfl) (hb hby at_296) (fun _ _ => ⟨rfl, e239, (by decide : 5 + 0 ≤ _), (by decide : 56 + 0 ≤ _)⟩)
        dsimp only [Pt.U, Pt.locs, Pt.cells, Pt.slots] at X240 l240 y240 z240 st240 hQ240
        subst l240 y240 z240
        obtain ⟨rfl, Nq240, e240⟩ := hQ240
        have N240 := Fr.app N239 Nq240
        refine Go.tr st240 ?_
        show Go _ _ _ _ _ _ _ (T240.setTop (mkF m 299 #[.val (.int qa), .val (.int qb), .val (.int qc), .val (.int qs), .val (.int qq), .val (.int r1), .val (.int r2), .val (.int r3), .val (.int rd), .val (.int ks), .val (.ref b1), .val (.int (1 : Int32)), .val (.int (2 : Int32)), .val (.int (3 : Int32)), .val (.int (4 : Int32)), .val (.int (5 : Int32)), .val (.int (2 : Int32)), .val (.int (2 : Int32)), .val (.int (own_climb gr_40 gp_40 rd 3 (gl_221 (0 : Int32)))), .val (.long (Int32.toInt64 (((own_dep (2 : Int32)) - (own_dep (2 : Int32))) + (1 : Int32)))), .second] [(.long ((0 : Int64) + Int32.toInt64 (((gd_40 (gl_221 (0 : Int32))) - (gd_40 (own_climb gr_40 gp_40 rd 3 (gl_221 (0 : Int32))))) + (1 : Int32))))]))
        refine Go.step (fun _ k => XS.lload X240.here hx rfl (hb hby at_299) rfl  k) ?_
        show Go _ _ _ _ _ _ _ (T240.setTop (mkF m 301 #[.val (.int qa), .val (.int qb), .val (.int qc), .val (.int qs), .val (.int qq), .val (.int r1), .val (.int r2), .val (.int r3), .val (.int rd), .val (.int ks), .val (.ref b1), .val (.int (1 : Int32)), .val (.int (2 : Int32)), .val (.int (3 : Int32)), .val (.int (4 : Int32)), .val (.int (5 : Int32)), .val (.int (2 : Int32)), .val (.int (2 : Int32)), .val (.int (own_climb gr_40 gp_40 rd 3 (gl_221 (0 : Int32)))), .val (.long (Int32.toInt64 (((own_dep (2 : Int32)) - (own_dep (2 : Int32))) + (1 : Int32)))), .second] [(.long (Int32.toInt64 (((own_dep (2 : Int32)) - (own_dep (2 : Int32))) + (1 : Int32)))), (.long ((0 : Int64) + Int32.toInt64 (((gd_40 (gl_221 (0 : Int32))) - (gd_40 (own_climb gr_40 gp_40 rd 3 (gl_221 (0 : Int32))))) + (1 : Int32))))]))
        refine Go.step (fun _ k => XS.lcmp X240.here hx rfl (hb hby at_301) rfl k) ?_
        show Go _ _ _ _ _ _ _ (T240.setTop (mkF m 302 #[.val (.int qa), .val (.int qb), .val (.int qc), .val (.int qs), .val (.int qq), .val (.int r1), .val (.int r2), .val (.int r3), .val (.int rd), .val (.int ks), .val (.ref b1), .val (.int (1 : Int32)), .val (.int (2 : Int32)), .val (.int (3 : Int32)), .val (.int (4 : Int32)), .val (.int (5 : Int32)), .val (.int (2 : Int32)), .val (.int (2 : Int32)), .val (.int (own_climb gr_40 gp_40 rd 3 (gl_221 (0 : Int32)))), .val (.long (Int32.toInt64 (((own_dep (2 : Int32)) - (own_dep (2 : Int32))) + (1 : Int32)))), .second] [(.int (lcmpW ((0 : Int64) + Int32.toInt64 (((gd_40 (gl_221 (0 : Int32))) - (gd_40 (own_climb gr_40 gp_40 rd 3 (gl_221 (0 : Int32))))) + (1 : Int32))) (Int32.toInt64 (((own_dep (2 : Int32)) - (own_dep (2 : Int32))) + (1 : Int32)))))]))
        have hc302 : (lcmpW ((0 : Int64) + Int32.toInt64 (((gd_40 (gl_221 (0 : Int32))) - (gd_40 (own_climb gr_40 gp_40 rd 3 (gl_221 (0 : Int32))))) + (1 : Int32))) (Int32.toInt64 (((own_dep (2 : Int32)) - (own_dep (2 : Int32))) + (1 : Int32)))) = (0 : Int32) := by
          rw [hc291, u221_0, vD2]
          decide
        refine Go.step (fun _ k => XS.ifNo X240.here hx rfl (hb hby at_302) rfl ((if0 _ _).trans (teq hc302).2) k) ?_
        show Go _ _ _ _ _ _ _ (T240.setTop (mkF m 305 #[.val (.int qa), .val (.int qb), .val (.int qc), .val (.int qs), .val (.int qq), .val (.int r1), .val (.int r2), .val (.int r3), .val (.int rd), .val (.int ks), .val (.ref b1), .val (.int (1 : Int32)), .val (.int (2 : Int32)), .val (.int (3 : Int32)), .val (.int (4 : Int32)), .val (.int (5 : Int32)), .val (.int (2 : Int32)), .val (.int (2 : Int32)), .val (.int (own_climb gr_40 gp_40 rd 3 (gl_221 (0 : Int32)))), .val (.long (Int32.toInt64 (((own_dep (2 : Int32)) - (own_dep (2 : Int32))) + (1 : Int32)))), .second] []))
        refine Go.step (fun _ k => XS.iconst X240.here hx rfl (hb hby at_305) k) ?_
        show Go _ _ _ _ _ _ _ (T240.setTop (mkF m 306 #[.val (.int qa), .val (.int qb), .val (.int qc), .val (.int qs), .val (.int qq), .val (.int r1), .val (.int r2), .val (.int r3), .val (.int rd), .val (.int ks), .val (.ref b1), .val (.int (1 : Int32)), .val (.int (2 : Int32)), .val (.int (3 : Int32)), .val (.int (4 : Int32)), .val (.int (5 : Int32)), .val (.int (2 : Int32)), .val (.int (2 : Int32)), .val (.int (own_climb gr_40 gp_40 rd 3 (gl_221 (0 : Int32)))), .val (.long (Int32.toInt64 (((own_dep (2 : Int32)) - (own_dep (2 : Int32))) + (1 : Int32)))), .second] [(.int (1 : Int32))]))
        refine Go.step (fun _ k => XS.goto X240.here hx rfl (pc0 := 306) (pc' := 310) rfl (hb hby at_306) (by decide) (by decide) k) ?_
        show Go _ _ _ _ _ _ _ (T240.setTop (mkF m 310 #[.val (.int qa), .val (.int qb), .val (.int qc), .val (.int qs), .val (.int qq), .val (.int r1), .val (.int r2), .val (.int r3), .val (.int rd), .val (.int ks), .val (.ref b1), .val (.int (1 : Int32)), .val (.int (2 : Int32)), .val (.int (3 : Int32)), .val (.int (4 : Int32)), .val (.int (5 : Int32)), .val (.int (2 : Int32)), .val (.int (2 : Int32)), .val (.int (own_climb gr_40 gp_40 rd 3 (gl_221 (0 : Int32)))), .val (.long (Int32.toInt64 (((own_dep (2 : Int32)) - (own_dep (2 : Int32))) + (1 : Int32)))), .second] [(.int (1 : Int32))]))
        refine Go.retN X240 hx (t := .boolean) Bd.returns (by simp) hlk (hb hby at_310) ?_ (by decide) (by decide)
        rw [e240]
        exact ⟨(by first | rfl | (simp_all [own_nb1, own_nb0]; done)), N240⟩
set_option maxRecDepth 65536 in
set_option maxHeartbeats 40000000 in
theorem comes_1 {Post : Tables → Env → Array Value → State → Outcome → State → Prop} (hpost : ∀ tb e args s v u, (limb_1_1.after args s (.returned v) u = true ∧ limb_1_2.after args s (.returned v) u = true ∧ True) → FrameEnd s (.returned v) u (Jvm.fieldLocs frame_1_writes args s ++ Jvm.arrayLocs frame_1_arrays args s ++ Jvm.staticLocs frame_1_statics s) 24 192 → Post tb e args s (.returned v) u) :
    ArmFor flags0 classFile x code maxLocals ret World_1 tables_1 room_1 Calls_1 rest_1 Pre_1 Post := by
  intro l hfl _ _ p e ha hc hk s m args below hf hA hF happ hP
  obtain ⟨hcalls, hrest, hpre⟩ := hP
  obtain ⟨-, -, -, hnamed, -, -, -, hat⟩ := (Spec.applies_iff hf).mp happ
  obtain ⟨hg, hn⟩ := and_e (Cond.before_iff.mp (show (Jvm.Cond.and given_1 narrow_1).before args s = true from hpre))
  obtain ⟨g0, r0⟩ := and_e hg
  obtain ⟨a0, r1⟩ := and_e r0
  obtain ⟨a1, r2⟩ := and_e r1
  obtain ⟨a2, r3⟩ := and_e r2
  obtain ⟨a3, r4⟩ := and_e r3
  have a4 := r4
  obtain ⟨w0, w1, w2, w3, w4, rfl⟩ : ∃ w0 w1 w2 w3 w4 : Value, args = #[w0, w1, w2, w3, w4] := by
    have hs : args.size = 5 := by simpa [Cond.value, given_1] using g0
    obtain ⟨L⟩ := args
    match L, hs with
    | [w0, w1, w2, w3, w4], _ => exact ⟨w0, w1, w2, w3, w4, rfl⟩
  have hw := fun d (hd : d ∈ tables_1) => atoms_spec (ws := Jvm.Cond.code x code maxLocals ret :: tables_1) hat d (List.mem_cons_of_mem _ hd)
  have hfit : Fit s := fun {y c} hc i hi => by
    obtain ⟨ha, rfl⟩ := Array.getElem?_eq_some_iff.mp hc
    have q := List.all_eq_true.mp ((Array.all_eq_true_iff_forall_mem.mp hF) _ (Array.getElem_mem ha)) i (List.mem_range.mpr hi)
    simpa [Array.getElem?_eq_getElem hi] using q
  obtain ⟨i0, ei0⟩ := is_v a0
  obtain rfl : w0 = (.int i0) := Option.some.inj ei0
  obtain ⟨i1, ei1⟩ := is_v a1
  obtain rfl : w1 = (.int i1) := Option.some.inj ei1
  obtain ⟨i2, ei2⟩ := is_v a2
  obtain rfl : w2 = (.int i2) := Option.some.inj ei2
  obtain ⟨i3, ei3⟩ := is_v a3
  obtain rfl : w3 = (.int i3) := Option.some.inj ei3
  obtain ⟨i4, ei4⟩ := is_v a4
  obtain rfl : w4 = (.int i4) := Option.some.inj ei4
  obtain ⟨n, o, h1, h2, h3, _, L, rfl, ⟨rfl, N⟩, hq⟩ := rm0 l s _ hw tables_1 i0 i1 i2 i3 i4  s.heap s.heap.size (Nat.le_refl _)  p e ha hc hk s m _ below hf ((Spec.applies_iff_loose hf).mp happ).1 ⟨rfl, State.Warmed39.refl s, rfl⟩ trivial
  refine ⟨n, _, h1, h2, h3, hpost _ _ _ _ _ _ ⟨Cond.after_iff.mpr rfl, Cond.after_iff.mpr (eq_i res_at (Term.int_eval (1)) rfl), trivial⟩ ⟨hq.1, hq.2.1, (hq.2.2.sift fun y hy => Or.inr (N y hy)).mono (by decide) (by decide)⟩⟩
theorem main_1_1 : Claimed_1_1 := comes_1 fun _ _ _ _ _ _ h hF => ⟨h.1, hF⟩
theorem main_1_2 : Claimed_1_2 := comes_1 fun _ _ _ _ _ _ h hF => ⟨h.2.1, hF⟩
end Jvm.Pilot.@@N@@
namespace Jvm.Pilot.@@N@@
open Jvm Jvm.ClassFile Sem Op Lib Jvm.Free Jvm.Stand Jvm.Pilot.@@N@@.Jvm.D
/-! MADE BY PROGRAM (witnessworld.py) out of the Statement's table words and the real class files: 9 classes; the members and pool entries that the words name. The judged class is class 1, her method 2. -/
namespace start1
open Jvm.ClassFile
def u (s : String) : CpInfo := .utf8 (stringToUtf16 s)
/-- a pool by its gaps: so many unusable entries, then the entry; so many at the end -/
def gap : Nat → List CpInfo → List CpInfo
  | 0, r => r
  | n + 1, r => .unusable :: gap n r
def poolList (es : List (Nat × CpInfo)) (last : Nat) : List CpInfo := es.foldr (fun e r => gap e.1 (e.2 :: r)) (gap last [])
def pool (es : List (Nat × CpInfo)) (last : Nat) : Array CpInfo := ⟨poolList es last⟩
def fileOf (pool : Array CpInfo) (this : Nat) (attrs : Array Attribute := #[]) (ms : Array MethodInfo := #[]) (fl : Nat := 33) (sup : Nat := 0) (ifs : Array Nat := #[]) (fds : Array FieldInfo := #[]) : ClassFile where
  minorVersion := 0
  majorVersion := 65
  constantPool := pool
  accessFlags := fl
  thisClass := this
  superClass := sup
  interfaces := ifs
  fields := fds
  methods := ms
  attributes := attrs
def plain (name : String) (sup : Option ClassId) : Class where
  name := name
  kind := .ordinary
  loader := none
  accessFlags := 33
  super := sup
  interfaces := #[]
  cf := none
  fields := #[]
  methods := #[]
  instanceTypes := #[]
  staticTypes := #[]
  resolved := #[]
  callSites := []
  init := .initialized
  statics := none
  mirror := none

def pool0 : Array CpInfo := pool [(5, u "<init>"), (0, u "()V"), (1, .class_ 10), (1, u "java/lang/Object")] 113

def k0c0 : Code := { maxStack := 0, maxLocals := 1, code := object_method_1_code, exceptionTable := #[], attributes := #[] }
def k0m0 : Method := { name := "<init>", desc := "()V", sig := { parameters := [], returnType := none }, accessFlags := 1, code := some k0c0 }
/-- java/lang/Object -/
def k0 : Class := { plain "java/lang/Object" none with
  accessFlags := 33
  interfaces := #[]
  cf := some (fileOf pool0 8 #[] #[{ accessFlags := 1, nameIndex := 5, descriptorIndex := 6, attributes := #[] }] 33 0 #[] #[])
  fields := #[]
  methods := #[k0m0]
  instanceTypes := #[]
  staticTypes := #[]
  resolved := Array.replicate 124 none
  statics := none }

def pool1 : Array CpInfo := pool [(2, .class_ 4), (1, u "java/lang/Object"), (0, u "<init>"), (0, u "()V"), (0, .integer 2147483647), (0, .class_ 9), (0, u "com/example/both_ways/bothways/equivalence/SplitHistory"), (0, .methodref 8 11), (0, .nameAndType 5 12), (0, u "(I)V"), (0, .methodref 8 14), (0, .nameAndType 15 16), (0, u "split"), (0, u "(II)I"), (0, .methodref 8 18), (0, .nameAndType 19 20), (0, u "place"), (0, u "(II)V"), (0, .methodref 8 22), (0, .nameAndType 23 16), (0, u "blockAfter"), (0, .methodref 25 26), (0, .class_ 27), (0, .nameAndType 28 29), (0, u "com/example/both_ways/bothways/equivalence/SplitHistoryBlockAfterPinLaw"), (0, u "depthOf"), (0, u "(I)I"), (0, .methodref 8 31), (0, .nameAndType 32 33), (0, u "getVisitCount"), (0, u "()J"), (3, u "law"), (0, u "(IIIII)Z")] 2

def k1m0 : Method := { name := "<init>", desc := "()V", sig := { parameters := [], returnType := none }, accessFlags := 2, code := none }
def k1c1 : Code := { maxStack := 2, maxLocals := 1, code := method_2_code, exceptionTable := #[], attributes := #[] }
def k1m1 : Method := { name := "depthOf", desc := "(I)I", sig := { parameters := [.int], returnType := some .int }, accessFlags := 10, code := some k1c1 }
def k1c2 : Code := { maxStack := 4, maxLocals := 21, code := code, exceptionTable := #[], attributes := #[] }
def k1m2 : Method := { name := "law", desc := "(IIIII)Z", sig := { parameters := [.int, .int, .int, .int, .int], returnType := some .boolean }, accessFlags := 9, code := some k1c2 }
/-- com/example/both_ways/bothways/equivalence/SplitHistoryBlockAfterPinLaw -/
def k1 : Class := { plain "com/example/both_ways/bothways/equivalence/SplitHistoryBlockAfterPinLaw" (some 0) with
  accessFlags := 49
  interfaces := #[]
  cf := some (fileOf pool1 25 #[] #[{ accessFlags := 2, nameIndex := 5, descriptorIndex := 6, attributes := #[] }, { accessFlags := 10, nameIndex := 28, descriptorIndex := 29, attributes := #[] }, { accessFlags := 9, nameIndex := 37, descriptorIndex := 38, attributes := #[] }] 49 2 #[] #[])
  fields := #[]
  methods := #[k1m0, k1m1, k1m2]
  instanceTypes := #[]
  staticTypes := #[]
  resolved := Array.replicate 41 none
  statics := none }

def pool2 : Array CpInfo := pool [(1, .methodref 2 3), (0, .class_ 4), (0, .nameAndType 5 6), (0, u "java/lang/Object"), (0, u "<init>"), (0, u "()V"), (0, .fieldref 8 9), (0, .class_ 10), (0, .nameAndType 11 12), (0, u "com/example/both_ways/bothways/equivalence/SplitHistory"), (0, u "parents"), (0, u "[I"), (0, .fieldref 8 14), (0, .nameAndType 15 12), (0, u "rounds"), (0, .fieldref 8 17), (0, .nameAndType 18 12), (0, u "depths"), (0, .fieldref 8 20), (0, .nameAndType 21 12), (0, u "leaves"), (0, .fieldref 8 23), (0, .nameAndType 24 25), (0, u "nodeCount"), (0, u "I"), (15, .fieldref 8 42), (0, .nameAndType 43 44), (0, u "visits"), (0, u "J"), (2, u "stepsOutside"), (0, u "ROOT"), (2, u "(I)V"), (2, u "split"), (0, u "(II)I"), (1, u "place"), (0, u "(II)V"), (3, u "blockAfter"), (2, u "getVisitCount"), (0, u "()J")] 20

def k2c0 : Code := { maxStack := 3, maxLocals := 2, code := prog_90_method_1_code, exceptionTable := #[], attributes := #[] }
def k2m0 : Method := { name := "<init>", desc := "(I)V", sig := { parameters := [.int], returnType := none }, accessFlags := 0, code := some k2c0 }
def k2c1 : Code := { maxStack := 4, maxLocals := 3, code := prog_90_method_2_code, exceptionTable := #[], attributes := #[] }
def k2m1 : Method := { name := "split", desc := "(II)I", sig := { parameters := [.int, .int], returnType := some .int }, accessFlags := 0, code := some k2c1 }
def k2c2 : Code := { maxStack := 3, maxLocals := 3, code := prog_90_method_3_code, exceptionTable := #[], attributes := #[] }
def k2m2 : Method := { name := "place", desc := "(II)V", sig := { parameters := [.int, .int], returnType := none }, accessFlags := 0, code := some k2c2 }
def k2c3 : Code := { maxStack := 6, maxLocals := 4, code := prog_90_method_6_code, exceptionTable := #[], attributes := #[] }
def k2m3 : Method := { name := "blockAfter", desc := "(II)I", sig := { parameters := [.int, .int], returnType := some .int }, accessFlags := 0, code := some k2c3 }
def k2c4 : Code := { maxStack := 2, maxLocals := 1, code := prog_90_method_8_code, exceptionTable := #[], attributes := #[] }
def k2m4 : Method := { name := "getVisitCount", desc := "()J", sig := { parameters := [], returnType := some .long }, accessFlags := 0, code := some k2c4 }
/-- com/example/both_ways/bothways/equivalence/SplitHistory -/
def k2 : Class := { plain "com/example/both_ways/bothways/equivalence/SplitHistory" (some 0) with
  accessFlags := 48
  interfaces := #[]
  cf := some (fileOf pool2 8 #[] #[{ accessFlags := 0, nameIndex := 5, descriptorIndex := 51, attributes := #[] }, { accessFlags := 0, nameIndex := 54, descriptorIndex := 55, attributes := #[] }, { accessFlags := 0, nameIndex := 57, descriptorIndex := 58, attributes := #[] }, { accessFlags := 0, nameIndex := 62, descriptorIndex := 55, attributes := #[] }, { accessFlags := 0, nameIndex := 65, descriptorIndex := 66, attributes := #[] }] 48 2 #[] #[{ accessFlags := 24, nameIndex := 48, descriptorIndex := 25, attributes := #[] }, { accessFlags := 2, nameIndex := 11, descriptorIndex := 12, attributes := #[] }, { accessFlags := 2, nameIndex := 15, descriptorIndex := 12, attributes := #[] }, { accessFlags := 2, nameIndex := 18, descriptorIndex := 12, attributes := #[] }, { accessFlags := 2, nameIndex := 24, descriptorIndex := 25, attributes := #[] }, { accessFlags := 18, nameIndex := 21, descriptorIndex := 12, attributes := #[] }, { accessFlags := 2, nameIndex := 43, descriptorIndex := 44, attributes := #[] }, { accessFlags := 2, nameIndex := 47, descriptorIndex := 44, attributes := #[] }])
  fields := #[{ name := "ROOT", type := .int, accessFlags := 24, slot := 0, constantValue := 0 }, { name := "parents", type := (.array .int), accessFlags := 2, slot := 0, constantValue := 0 }, { name := "rounds", type := (.array .int), accessFlags := 2, slot := 1, constantValue := 0 }, { name := "depths", type := (.array .int), accessFlags := 2, slot := 2, constantValue := 0 }, { name := "nodeCount", type := .int, accessFlags := 2, slot := 3, constantValue := 0 }, { name := "leaves", type := (.array .int), accessFlags := 18, slot := 4, constantValue := 0 }, { name := "visits", type := .long, accessFlags := 2, slot := 5, constantValue := 0 }, { name := "stepsOutside", type := .long, accessFlags := 2, slot := 6, constantValue := 0 }]
  methods := #[k2m0, k2m1, k2m2, k2m3, k2m4]
  instanceTypes := #[(.array .int), (.array .int), (.array .int), .int, (.array .int), .long, .long]
  staticTypes := #[.int]
  resolved := Array.replicate 87 none
  statics := none }

def pool3 : Array CpInfo := pool [(1, u "java/lang/Cloneable"), (0, .class_ 1), (0, u "java/lang/Object"), (0, .class_ 3)] 3

/-- java/lang/Cloneable -/
def k3 : Class := { plain "java/lang/Cloneable" (some 0) with
  accessFlags := 1537
  interfaces := #[]
  cf := some (fileOf pool3 2 #[] #[] 1537 4 #[] #[])
  fields := #[]
  methods := #[]
  instanceTypes := #[]
  staticTypes := #[]
  resolved := Array.replicate 8 none
  statics := none }

def pool4 : Array CpInfo := pool [(1, u "java/io/Serializable"), (0, .class_ 1), (0, u "java/lang/Object"), (0, .class_ 3)] 3

/-- java/io/Serializable -/
def k4 : Class := { plain "java/io/Serializable" (some 0) with
  accessFlags := 1537
  interfaces := #[]
  cf := some (fileOf pool4 2 #[] #[] 1537 4 #[] #[])
  fields := #[]
  methods := #[]
  instanceTypes := #[]
  staticTypes := #[]
  resolved := Array.replicate 8 none
  statics := none }

/-- the primitive byte -/
def k5 : Class := { plain "byte" none with kind := .primitive 'B', accessFlags := 0x411 }
/-- [B -/
def k6 : Class := { plain "[B" (some 0) with kind := .array 5 .byte, interfaces := #[3, 4], accessFlags := 1041 }

/-- the primitive int -/
def k7 : Class := { plain "int" none with kind := .primitive 'I', accessFlags := 0x411 }
/-- [I -/
def k8 : Class := { plain "[I" (some 0) with kind := .array 7 .int, interfaces := #[3, 4], accessFlags := 1041 }

def heap : Heap := #[]
def classes : Array Class := #[k0, k1, k2, k3, k4, k5, k6, k7, k8]
def interned : List (Array UInt16 × Addr) := []
def slotsUsed : Nat := 0
def theMethod : MethodId := ⟨1, 2⟩
def args0 : Array Value := #[.int 5, .int 3, .int 1, .int 1, .int 1]
def aboutOver (below : List Frame) : State where
  vm := { classes := classes, interned := interned.toArray }
  heap := heap
  slotsUsed := slotsUsed
  threads := #[{ frames := .invoking theMethod args0 :: below }]
def below0 : List Frame := [.native { method := ⟨0, 0⟩, args := #[] }]
def about1 : State := aboutOver below0
def p0 : Program := .bare "" "" ""
def e0 : Env := launch0.env 0 0 0
theorem w_frames : about1.frames = Frame.invoking theMethod args0 :: below0 := rfl
set_option maxRecDepth 65536 in
theorem w_args : argsFit about1.vm theMethod args0 = true := by decide +kernel
set_option maxRecDepth 65536 in
theorem w_heap : heapFits about1 = true := by decide +kernel
set_option maxRecDepth 65536 in
theorem w_runnable : about1.curStatus? = some .runnable := by decide +kernel
set_option maxRecDepth 65536 in
theorem w_alone : about1.alone = true := by decide +kernel
set_option maxRecDepth 65536 in
theorem w_named : about1.methodNamed? x = some theMethod := by decide +kernel
set_option maxRecDepth 65536 in
theorem w_hears : about1.hears theMethod below0 = true := by decide +kernel
set_option maxRecDepth 65536 in
theorem w_ripe : about1.ripe theMethod args0 below0 = true := by decide +kernel
theorem w_running : about1.status = .running := rfl
set_option maxRecDepth 65536 in
theorem w_room : about1.hasRoom e0.platform room_1 = true :=
  launch0.hasRoom_least _ room_1 (by decide +kernel) (by decide +kernel) (by decide +kernel) (by decide +kernel) (by decide +kernel) (by decide +kernel)
theorem allAtoms_all (ts : List Jvm.Cond) (a : Array Jvm.Value) (st : Jvm.State) : (allAtoms ts).before a st = ts.all (fun c => c.before a st) := by
  induction ts with
  | nil => rfl
  | cons c t ih =>
    show (Jvm.Cond.and c (allAtoms t)).before a st = _
    rw [Jvm.Cond.before_and, ih, List.all_cons]
def words1 : List Jvm.Cond := Jvm.Cond.code x code maxLocals ret :: tables_1
/-- a 'code' word, met by the world's own term for the bytes: nothing is compared byte by byte -/
theorem code_word {y : MethodName} {bytes : ByteArray} {mx : Nat} {rt : Option FieldType} {a : Array Value} {s : State} {m : MethodId} {meth : Method} {c : Code} (h1 : s.methodNamed? y = some m) (h2 : s.vm.method? m = some meth) (h3 : meth.code = some c) (h4 : c.code = bytes)
    (h5 : (c.maxLocals == mx && c.exceptionTable.isEmpty && decide (c.maxStack ≤ mostOperands) && decide (meth.sig.returnType = rt) && !meth.locks && decide (parseMethodDescriptor y.desc = some meth.sig)) = true) : (Jvm.Cond.code y bytes mx rt).before a s = true := by
  simp only [Bool.and_eq_true, beq_iff_eq, Bool.not_eq_true', decide_eq_true_eq] at h5
  obtain ⟨⟨⟨⟨⟨g1, g2⟩, g3⟩, g4⟩, g5⟩, g6⟩ := h5
  simp [Cond.before, Cond.holds, Cond.value, h1, h2, h3, h4, g1, g2, g3, g4, g5, g6]
def isCode : Jvm.Cond → Bool
  | .code _ _ _ _ => true
  | _ => false
theorem all_split {L : List Jvm.Cond} {P : Jvm.Cond → Bool} (h1 : L.all (fun c => isCode c || P c) = true) (h2 : ∀ c ∈ L.filter isCode, P c = true) : L.all P = true := by
  refine List.all_eq_true.mpr fun c hc => ?_
  have h := List.all_eq_true.mp h1 c hc
  rcases Bool.eq_false_or_eq_true (isCode c) with hi | hi
  · exact h2 c (List.mem_filter.mpr ⟨hc, hi⟩)
  · simpa [hi] using h
set_option maxRecDepth 65536 in
theorem w_c0 : (Jvm.Cond.code x code maxLocals ret).before args0 about1 = true := code_word (m := ⟨1, 2⟩) (meth := k1m2) (c := k1c2) (by decide +kernel) rfl rfl rfl (by decide +kernel)
set_option maxRecDepth 65536 in
theorem w_c1 : (Jvm.Cond.code ({ cls := "com/example/both_ways/bothways/equivalence/SplitHistory", name := "<init>", desc := "(I)V" } : Jvm.MethodName) prog_90_method_1_code (2 : Nat) (Option.none : Option Jvm.ClassFile.FieldType)).before args0 about1 = true := code_word (m := ⟨2, 0⟩) (meth := k2m0) (c := k2c0) (by decide +kernel) rfl rfl rfl (by decide +kernel)
set_option maxRecDepth 65536 in
theorem w_c2 : (Jvm.Cond.code ({ cls := "java/lang/Object", name := "<init>", desc := "()V" } : Jvm.MethodName) object_method_1_code (1 : Nat) (Option.none : Option Jvm.ClassFile.FieldType)).before args0 about1 = true := code_word (m := ⟨0, 0⟩) (meth := k0m0) (c := k0c0) (by decide +kernel) rfl rfl rfl (by decide +kernel)
set_option maxRecDepth 65536 in
theorem w_c3 : (Jvm.Cond.code ({ cls := "com/example/both_ways/bothways/equivalence/SplitHistory", name := "split", desc := "(II)I" } : Jvm.MethodName) prog_90_method_2_code (3 : Nat) (Option.some Jvm.ClassFile.FieldType.int)).before args0 about1 = true := code_word (m := ⟨2, 1⟩) (meth := k2m1) (c := k2c1) (by decide +kernel) rfl rfl rfl (by decide +kernel)
set_option maxRecDepth 65536 in
theorem w_c4 : (Jvm.Cond.code ({ cls := "com/example/both_ways/bothways/equivalence/SplitHistory", name := "place", desc := "(II)V" } : Jvm.MethodName) prog_90_method_3_code (3 : Nat) (Option.none : Option Jvm.ClassFile.FieldType)).before args0 about1 = true := code_word (m := ⟨2, 2⟩) (meth := k2m2) (c := k2c2) (by decide +kernel) rfl rfl rfl (by decide +kernel)
set_option maxRecDepth 65536 in
theorem w_c5 : (Jvm.Cond.code ({ cls := "com/example/both_ways/bothways/equivalence/SplitHistory", name := "blockAfter", desc := "(II)I" } : Jvm.MethodName) prog_90_method_6_code (4 : Nat) (Option.some Jvm.ClassFile.FieldType.int)).before args0 about1 = true := code_word (m := ⟨2, 3⟩) (meth := k2m3) (c := k2c3) (by decide +kernel) rfl rfl rfl (by decide +kernel)
set_option maxRecDepth 65536 in
theorem w_c6 : (Jvm.Cond.code ({ cls := "com/example/both_ways/bothways/equivalence/SplitHistoryBlockAfterPinLaw", name := "depthOf", desc := "(I)I" } : Jvm.MethodName) method_2_code (1 : Nat) (Option.some Jvm.ClassFile.FieldType.int)).before args0 about1 = true := code_word (m := ⟨1, 1⟩) (meth := k1m1) (c := k1c1) (by decide +kernel) rfl rfl rfl (by decide +kernel)
set_option maxRecDepth 65536 in
theorem w_c7 : (Jvm.Cond.code ({ cls := "com/example/both_ways/bothways/equivalence/SplitHistory", name := "getVisitCount", desc := "()J" } : Jvm.MethodName) prog_90_method_8_code (1 : Nat) (Option.some Jvm.ClassFile.FieldType.long)).before args0 about1 = true := code_word (m := ⟨2, 4⟩) (meth := k2m4) (c := k2c4) (by decide +kernel) rfl rfl rfl (by decide +kernel)
def codes1 : List Jvm.Cond := [Jvm.Cond.code x code maxLocals ret, Jvm.Cond.code ({ cls := "com/example/both_ways/bothways/equivalence/SplitHistory", name := "<init>", desc := "(I)V" } : Jvm.MethodName) prog_90_method_1_code (2 : Nat) (Option.none : Option Jvm.ClassFile.FieldType), Jvm.Cond.code ({ cls := "java/lang/Object", name := "<init>", desc := "()V" } : Jvm.MethodName) object_method_1_code (1 : Nat) (Option.none : Option Jvm.ClassFile.FieldType), Jvm.Cond.code ({ cls := "com/example/both_ways/bothways/equivalence/SplitHistory", name := "split", desc := "(II)I" } : Jvm.MethodName) prog_90_method_2_code (3 : Nat) (Option.some Jvm.ClassFile.FieldType.int), Jvm.Cond.code ({ cls := "com/example/both_ways/bothways/equivalence/SplitHistory", name := "place", desc := "(II)V" } : Jvm.MethodName) prog_90_method_3_code (3 : Nat) (Option.none : Option Jvm.ClassFile.FieldType), Jvm.Cond.code ({ cls := "com/example/both_ways/bothways/equivalence/SplitHistory", name := "blockAfter", desc := "(II)I" } : Jvm.MethodName) prog_90_method_6_code (4 : Nat) (Option.some Jvm.ClassFile.FieldType.int), Jvm.Cond.code ({ cls := "com/example/both_ways/bothways/equivalence/SplitHistoryBlockAfterPinLaw", name := "depthOf", desc := "(I)I" } : Jvm.MethodName) method_2_code (1 : Nat) (Option.some Jvm.ClassFile.FieldType.int), Jvm.Cond.code ({ cls := "com/example/both_ways/bothways/equivalence/SplitHistory", name := "getVisitCount", desc := "()J" } : Jvm.MethodName) prog_90_method_8_code (1 : Nat) (Option.some Jvm.ClassFile.FieldType.long)]
set_option maxRecDepth 65536 in
theorem codes_eq : words1.filter isCode = codes1 := rfl
theorem w_codes : ∀ c ∈ words1.filter isCode, c.before args0 about1 = true := by
  rw [codes_eq]
  intro c hc
  simp only [codes1, List.mem_cons, List.not_mem_nil, or_false] at hc
  rcases hc with rfl | rfl | rfl | rfl | rfl | rfl | rfl | rfl
  · exact w_c0
  · exact w_c1
  · exact w_c2
  · exact w_c3
  · exact w_c4
  · exact w_c5
  · exact w_c6
  · exact w_c7
set_option maxRecDepth 65536 in
theorem w_t1 : (words1.take 24).all (fun c => isCode c || c.before args0 about1) = true := by decide +kernel
set_option maxRecDepth 65536 in
theorem w_t2 : (words1.drop 24).all (fun c => isCode c || c.before args0 about1) = true := by decide +kernel
theorem w_tables : (allAtoms (Jvm.Cond.code x code maxLocals ret :: tables_1)).before args0 about1 = true := by
  rw [allAtoms_all]
  show words1.all (fun c => c.before args0 about1) = true
  refine all_split ?_ w_codes
  rw [← List.take_append_drop 24 words1, List.all_append, w_t1, w_t2]
  rfl
set_option maxRecDepth 65536 in
theorem w_case : (Jvm.Cond.and given_1 narrow_1).before args0 about1 = true := by decide +kernel
theorem w_applies : (headSpec (Jvm.Cond.code x code maxLocals ret :: tables_1) room_1).applies x e0.platform about1 = true :=
  (Spec.applies_iff w_frames).mpr ⟨w_running, w_runnable, w_alone, w_named, w_hears, w_ripe, w_room, w_tables⟩
theorem atStart : AtStart classFile x code maxLocals ret World_1 tables_1 room_1 Calls_1 rest_1 Pre_1 launch0 p0 e0 about1 theMethod args0 below0 :=
  ⟨lists_1, trivial, launch0.admits_env _ _ _, launch0.least_env, fairChoices_fair.cas, fairChoices_fair.clock, w_frames, w_args, w_heap, w_applies, trivial, trivial, w_case⟩
end start1
theorem witness_1 : WitnessClaimed_1 := ⟨start1.p0, start1.e0, start1.about1, start1.theMethod, start1.args0, start1.below0, start1.atStart⟩
end Jvm.Pilot.@@N@@
