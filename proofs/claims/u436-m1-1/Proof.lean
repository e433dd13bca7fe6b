import JvmDerived
import JvmDerived.Pilot.@@N@@Statement
import JvmDerived.Pilot.@@N@@Code
set_option linter.unusedVariables false
set_option linter.unusedSimpArgs false
namespace Jvm.Pilot.@@N@@
open Jvm Jvm.ClassFile Sem Op Lib Jvm.Free Jvm.Stand Jvm.LawKit Jvm.RoadKit Bundle Jvm.Pilot.@@N@@.Jvm.D
section Own
variable {p : Program} {l : Launch} {e : Env} {R : Room} {s : State} {m : MethodId} {args : Array Value} {below : List Frame} {meth : Method} {c : Code} {T : State} {locs : List Loc} {cells slots : Nat} {C N : Nat} {Q : Option Value → Heap → List Loc → Prop} {S S' : State} {Z : State} {h h' : Heap}
/-- from the state S the invocation ends in a return, and Q holds there -/
def Go (p : Program) (e : Env) (below : List Frame) (s : State) (C N : Nat) (Q : Option Value → Heap → List Loc → Prop) (S : State) : Prop :=
  ∃ s₂ o, Steps p.tables e below S s₂ ∧ s₂.status = .running ∧ Ended s₂ below o ∧ ∃ v L, o = .returned v ∧ Q v s₂.heap L ∧ FrameEnd s o s₂ L C N
theorem Go.step (st : ∀ t, Steps p.tables e below S' t → Steps p.tables e below S t) (G : Go p e below s C N Q S') : Go p e below s C N Q S := by
  obtain ⟨s₂, o, h, r⟩ := G
  exact ⟨s₂, o, st _ h, r⟩
theorem Go.tr (st : Steps p.tables e below S S') (G : Go p e below s C N Q S') : Go p e below s C N Q S := by
  obtain ⟨s₂, o, h, r⟩ := G
  exact ⟨s₂, o, st.trans h, r⟩
theorem Go.out (X : Stand p l e R s m args below meth c T locs cells slots) {v : Option Value} {g : JFrame} (hv : meth.sig.returnType = none → v = none) (hlk : meth.locks = false)
    (hst : ∀ fs, (∀ (f : JFrame) (acts : List Action), f.method = m → f.locked = none → f.entered = [] → (doReturn e (T.setTop f) acts v).1 = T.setFrames fs) → Steps p.tables e below (T.setTop g) (T.setFrames fs))
    (hQ : Q v T.heap locs) (hc : cells ≤ C) (hn : slots ≤ N) : Go p e below s C N Q (T.setTop g) := by
  obtain ⟨fs, hr, hrun, hended, hW, hsame⟩ := X.leave (v := v) hv hlk
  exact ⟨_, _, hst fs hr, hrun, hended, _, _, rfl, hQ, ⟨_, rfl⟩, hW, hsame.mono hc hn⟩
theorem Go.retV (X : Stand p l e R s m args below meth c T locs cells slots) (hx : p.tables.exec = Jvm.exec) {pc : Nat} {Ls : Array Slot} (hret : meth.sig.returnType = none) (hlk : meth.locks = false) (hd : decode c.code pc = .ok (.return_, 1))
    (hQ : Q none T.heap locs) (hc : cells ≤ C) (hn : slots ≤ N) : Go p e below s C N Q (T.setTop (mkF m pc Ls [])) :=
  Go.out X (fun _ => rfl) hlk (fun fs hr => X.returnOut hx hret hd hr) hQ hc hn
theorem Go.retI (X : Stand p l e R s m args below meth c T locs cells slots) (hx : p.tables.exec = Jvm.exec) {pc : Nat} {Ls : Array Slot} {z : Int32} {rest : List Value} (hret : meth.sig.returnType = some .int) (hlk : meth.locks = false) (hd : decode c.code pc = .ok (.ireturn, 1))
    (hQ : Q (some (.int z)) T.heap locs) (hc : cells ≤ C) (hn : slots ≤ N) : Go p e below s C N Q (T.setTop (mkF m pc Ls (.int z :: rest))) :=
  Go.out X (fun h => by rw [hret] at h; cases h) hlk (fun fs hr => retOut X hx hret rfl (Or.inl ⟨rfl, Or.inl rfl, z, rfl⟩) hd hr) hQ hc hn
theorem Go.retN (X : Stand p l e R s m args below meth c T locs cells slots) (hx : p.tables.exec = Jvm.exec) {pc : Nat} {Ls : Array Slot} {z : Int32} {t : FieldType} {rest : List Value} (hret : meth.sig.returnType = some t) (ht : t = .boolean ∨ t = .byte ∨ t = .char ∨ t = .short) (hlk : meth.locks = false) (hd : decode c.code pc = .ok (.ireturn, 1))
    (hQ : Q (some (.int (nar t z))) T.heap locs) (hc : cells ≤ C) (hn : slots ≤ N) : Go p e below s C N Q (T.setTop (mkF m pc Ls (.int z :: rest))) :=
  Go.out X (fun h => by rw [hret] at h; cases h) hlk (fun fs hr => Jvm.RoadKit.retN X hx hret ht hd hr) hQ hc hn
theorem Go.retJ (X : Stand p l e R s m args below meth c T locs cells slots) (hx : p.tables.exec = Jvm.exec) {pc : Nat} {Ls : Array Slot} {z : Int64} {rest : List Value} (hret : meth.sig.returnType = some .long) (hlk : meth.locks = false) (hd : decode c.code pc = .ok (.lreturn, 1))
    (hQ : Q (some (.long z)) T.heap locs) (hc : cells ≤ C) (hn : slots ≤ N) : Go p e below s C N Q (T.setTop (mkF m pc Ls (.long z :: rest))) :=
  Go.out X (fun h => by rw [hret] at h; cases h) hlk (fun fs hr => retOut X hx hret rfl (Or.inr (Or.inl ⟨rfl, rfl, z, rfl⟩)) hd hr) hQ hc hn
theorem Go.retA (X : Stand p l e R s m args below meth c T locs cells slots) (hx : p.tables.exec = Jvm.exec) {pc : Nat} {Ls : Array Slot} {w : Value} {t : FieldType} {rest : List Value} (hret : meth.sig.returnType = some t) (ht : t.isReference = true) (hw : w.isRef = true) (hlk : meth.locks = false) (hd : decode c.code pc = .ok (.areturn, 1))
    (hQ : Q (some w) T.heap locs) (hc : cells ≤ C) (hn : slots ≤ N) : Go p e below s C N Q (T.setTop (mkF m pc Ls (w :: rest))) :=
  Go.out X (fun h => by rw [hret] at h; cases h) hlk (fun fs hr => retOut X hx hret (by rcases ref_cases hw with rfl | ⟨a, rfl⟩ <;> cases t <;> first | rfl | cases ht) (Or.inr (Or.inr (Or.inr (Or.inr ⟨rfl, ht, hw⟩)))) hd hr) hQ hc hn
/-- an array of ints, bytes ..: z places, the j-th holds f j -/
def Ai (Z : State) (h : Heap) (a : Addr) (ty : FieldType) (z : Int32) (f : Int32 → Int32) : Prop :=
  ∃ c : Cell, Arr Z h a c ty ∧ c.slots.size = z.toNatClampNeg ∧ ¬ z < 0 ∧ ∀ j : Int32, ¬ j < 0 → j < z → c.slots[j.toNatClampNeg]? = some (.int (f j))
theorem own_inb {cl : Cell} {z j : Int32} (S : cl.slots.size = z.toNatClampNeg) (h0 : ¬ j < 0) (h1 : j < z) : ¬ (j < 0 ∨ cl.slots.size ≤ j.toNatClampNeg) := inb_of S ⟨h0, h1⟩
theorem Ai.lt {a : Addr} {ty : FieldType} {z : Int32} {f : Int32 → Int32} (F : Ai Z h a ty z f) : a < h.size := by obtain ⟨c, A, -⟩ := F; exact A.lt
theorem Ai.nn {a : Addr} {ty : FieldType} {z : Int32} {f : Int32 → Int32} (F : Ai Z h a ty z f) : ¬ z < 0 := by obtain ⟨c, -, -, q, -⟩ := F; exact q
theorem Ai.ext {a : Addr} {ty : FieldType} {z : Int32} {f : Int32 → Int32} (F : Ai Z h a ty z f) (E : Ext h h') : Ai Z h' a ty z f := by obtain ⟨c, A, r⟩ := F; exact ⟨c, A.ext E, r⟩
theorem Ai.other {a b : Addr} {sl : Nat} {v : Value} {ty : FieldType} {z : Int32} {f : Int32 → Int32} (F : Ai Z h b ty z f) (W : Wr h h' a sl v) (q : b ≠ a) : Ai Z h' b ty z f := by obtain ⟨c, A, r⟩ := F; exact ⟨c, A.other W q, r⟩
theorem Ai.keep {a : Addr} {ws : List Addr} {ty : FieldType} {z : Int32} {f : Int32 → Int32} (F : Ai Z h a ty z f) (K : Keep h h' ws) (q : a ∉ ws) : Ai Z h' a ty z f := by obtain ⟨c, A, r⟩ := F; exact ⟨c, ⟨K.2.1 a c A.1 q, A.2⟩, r⟩
theorem Ai.new {a : Addr} {k : ClassId} {ty : FieldType} {z : Int32} (A : Arr Z h a (newA k ty z) ty) (q : ¬ z < 0) (hd : defaultValue ty = .int 0) : Ai Z h a ty z (fun _ => 0) :=
  ⟨_, A, sz_new _ _ _, q, fun j h0 h1 => by rw [get_new (sz_new k ty z ▸ own_inb (sz_new k ty z) h0 h1), hd]⟩
theorem Ai.eqf {a : Addr} {ty : FieldType} {z : Int32} {f g : Int32 → Int32} (F : Ai Z h a ty z f) (q : ∀ j : Int32, ¬ j < 0 → j < z → f j = g j) : Ai Z h a ty z g := by
  obtain ⟨c, A, S, n, H⟩ := F; exact ⟨c, A, S, n, fun j h0 h1 => by rw [← q j h0 h1]; exact H j h0 h1⟩
theorem Ai.set {a : Addr} {ty : FieldType} {z j x : Int32} {f : Int32 → Int32} (F : Ai Z h a ty z f) (h0 : ¬ j < 0) (h1 : j < z) (W : Wr h h' a j.toNatClampNeg (.int x)) : Ai Z h' a ty z (fun i => if i = j then x else f i) := by
  obtain ⟨c, A, S, n, H⟩ := F
  refine ⟨_, A.same W, by rw [sz_set]; exact S, n, fun i g0 g1 => ?_⟩
  by_cases e : i = j
  · rw [get_hit (own_inb S h0 h1) e]; simp [e]
  · rw [get_miss h0 g0 e, H i g0 g1]; simp [e]
theorem Ai.len (X : Stand p l e R s m args below meth c T locs cells slots) (hx : p.tables.exec = Jvm.exec) (hZ : Z.Warmed39 s.vm) (eT : T.heap = h) {a : Addr} {ty : FieldType} {z : Int32} {f : Int32 → Int32} (F : Ai Z h a ty z f)
    {g : JFrame} (hg : g.method = m) {rest : List Value} (hs : g.stack = .ref a :: rest) (hd : decode c.code g.pc = .ok (.arraylength, 1)) : ∀ target, Steps p.tables e below (T.setTop { g with pc := g.pc + 1, stack := .int z :: rest }) target → Steps p.tables e below (T.setTop g) target := by
  obtain ⟨cl, A, S, n, H⟩ := F
  intro t k
  refine X.arraylength hx (by rw [eT]; exact A.1) (State.isArrayOf_alike hZ.alike A.2.1) hg hs hd _ ?_
  rw [len_of S n]; exact k
theorem Ai.iaload (X : Stand p l e R s m args below meth c T locs cells slots) (hx : p.tables.exec = Jvm.exec) (hZ : Z.Warmed39 s.vm) (eT : T.heap = h) {a : Addr} {z j : Int32} {f : Int32 → Int32} (F : Ai Z h a .int z f) (h0 : ¬ j < 0) (h1 : j < z)
    {g : JFrame} (hg : g.method = m) {rest : List Value} (hs : g.stack = .int j :: .ref a :: rest) (hd : decode c.code g.pc = .ok (.iaload, 1)) : ∀ target, Steps p.tables e below (T.setTop { g with pc := g.pc + 1, stack := .int (f j) :: rest }) target → Steps p.tables e below (T.setTop g) target := by
  obtain ⟨cl, A, S, n, H⟩ := F
  exact X.iaload hx (by rw [eT]; exact A.1) (State.isArrayOf_alike hZ.alike A.2.1) A.2.2 (own_inb S h0 h1) (H j h0 h1) hg hs hd
theorem Ai.baload (X : Stand p l e R s m args below meth c T locs cells slots) (hx : p.tables.exec = Jvm.exec) (hZ : Z.Warmed39 s.vm) (eT : T.heap = h) {a : Addr} {z j : Int32} {f : Int32 → Int32} (F : Ai Z h a .byte z f) (h0 : ¬ j < 0) (h1 : j < z)
    {g : JFrame} (hg : g.method = m) {rest : List Value} (hs : g.stack = .int j :: .ref a :: rest) (hd : decode c.code g.pc = .ok (.baload, 1)) : ∀ target, Steps p.tables e below (T.setTop { g with pc := g.pc + 1, stack := .int (f j) :: rest }) target → Steps p.tables e below (T.setTop g) target := by
  obtain ⟨cl, A, S, n, H⟩ := F
  exact X.baloadBytes hx (by rw [eT]; exact A.1) (State.isArrayOf_alike hZ.alike A.2.1) A.2.2 (own_inb S h0 h1) (H j h0 h1) hg hs hd
theorem Ai.stI (X : Stand p l e R s m args below meth c T locs cells slots) (hx : p.tables.exec = Jvm.exec) (hZ : Z.Warmed39 s.vm) (eT : T.heap = h) {a : Addr} {z j x : Int32} {f : Int32 → Int32} (F : Ai Z h a .int z f) (h0 : ¬ j < 0) (h1 : j < z)
    {g : JFrame} (hg : g.method = m) {rest : List Value} (hs : g.stack = .int x :: .int j :: .ref a :: rest) (hd : decode c.code g.pc = .ok (.iastore, 1)) :
    ∃ T' h', Stand p l e R s m args below meth c T' (locs ++ [⟨a, j.toNatClampNeg⟩]) cells slots ∧ T'.heap = h' ∧ Wr h h' a j.toNatClampNeg (.int x) ∧ Ai Z h' a .int z (fun i => if i = j then x else f i) ∧ ∀ target, Steps p.tables e below (T'.setTop { g with pc := g.pc + 1, stack := rest }) target → Steps p.tables e below (T.setTop g) target := by
  obtain ⟨cl, A, S, n, H⟩ := F
  obtain ⟨T', h', X', e', W, st⟩ := Jvm.RoadKit.stI X hx hZ eT A (own_inb S h0 h1) hg hs hd
  exact ⟨T', h', X', e', W, Ai.set ⟨cl, A, S, n, H⟩ h0 h1 W, st⟩
theorem Ai.stB (X : Stand p l e R s m args below meth c T locs cells slots) (hx : p.tables.exec = Jvm.exec) (hZ : Z.Warmed39 s.vm) (eT : T.heap = h) {a : Addr} {z j x : Int32} {f : Int32 → Int32} (F : Ai Z h a .byte z f) (h0 : ¬ j < 0) (h1 : j < z)
    {g : JFrame} (hg : g.method = m) {rest : List Value} (hs : g.stack = .int x :: .int j :: .ref a :: rest) (hd : decode c.code g.pc = .ok (.bastore, 1)) :
    ∃ T' h', Stand p l e R s m args below meth c T' (locs ++ [⟨a, j.toNatClampNeg⟩]) cells slots ∧ T'.heap = h' ∧ Wr h h' a j.toNatClampNeg (.int (nar .byte x)) ∧ Ai Z h' a .byte z (fun i => if i = j then nar .byte x else f i) ∧ ∀ target, Steps p.tables e below (T'.setTop { g with pc := g.pc + 1, stack := rest }) target → Steps p.tables e below (T.setTop g) target := by
  obtain ⟨cl, A, S, n, H⟩ := F
  obtain ⟨T', h', X', e', W, st⟩ := Jvm.RoadKit.stB X hx hZ eT A (own_inb S h0 h1) hg hs hd
  exact ⟨T', h', X', e', W, Ai.set ⟨cl, A, S, n, H⟩ h0 h1 W, st⟩
end Own
theorem narrow_ref {t : FieldType} {v : Value} (hv : v.isRef = true) (ht : t.isReference = true) : narrow t v = v := by rcases ref_cases hv with rfl | ⟨a, rfl⟩ <;> cases t <;> first | rfl | cases ht
theorem fits_refV {t : FieldType} {v : Value} (hv : v.isRef = true) (ht : t.isReference = true) : fits t v = true := by rcases ref_cases hv with rfl | ⟨a, rfl⟩ <;> cases t <;> first | rfl | cases ht
theorem own_iincW {tb : Tables} [Ours tb] {e : Env} {below : List Frame} {T target : State} {m : MethodId} {c : Code} {g : JFrame} (h : At T m c below) (hx : tb.exec = Jvm.exec) (hg : g.method = m) {k : Nat} {cst : Int} {x : Int32} {l' : Array Slot} (hd : decode c.code g.pc = .ok (.iinc k cst, 6)) (hl : g.locals[k]? = some (.val (.int x))) (hl' : storeLocals g.locals k (.int (x + Int32.ofInt cst)) = some l')
    (hr : Steps tb e below (T.setTop { g with pc := g.pc + 6, locals := l' }) target) : Steps tb e below (T.setTop g) target := by
  subst hg
  jvm_step h [h.top, hx, hd, hl, hl']
  exact hr

theorem own_nb1 : nar .boolean 1 = 1 := by decide
theorem own_nb0 : nar .boolean 0 = 0 := by decide
theorem own_lirr {a : Int32} : ¬ a < a := by rw [Int32.lt_iff_toInt_lt]; omega
theorem own_lasym {a b : Int32} (h : a < b) : ¬ b < a := by rw [Int32.lt_iff_toInt_lt] at *; omega
theorem own_lneg {a b : Int32} (h0 : ¬ a < 0) (h : a < b) : ¬ b < 0 := by rw [Int32.lt_iff_toInt_lt] at *; omega
theorem own_clamp {z : Int32} {n : Nat} (h : z.toInt ≤ n) : z.toNatClampNeg ≤ n := by
  show z.toInt.toNat ≤ n
  omega
theorem own_i_m3 : (-3 : Int32).toInt = (-3) := by decide
theorem own_i_m2 : (-2 : Int32).toInt = (-2) := by decide
theorem own_i_m1 : (-1 : Int32).toInt = (-1) := by decide
theorem own_i_0 : (0 : Int32).toInt = 0 := by decide
theorem own_i_1 : (1 : Int32).toInt = 1 := by decide
theorem own_i_2 : (2 : Int32).toInt = 2 := by decide
theorem own_i_3 : (3 : Int32).toInt = 3 := by decide
theorem own_i_4 : (4 : Int32).toInt = 4 := by decide
theorem own_i_5 : (5 : Int32).toInt = 5 := by decide
theorem own_i_7 : (7 : Int32).toInt = 7 := by decide
theorem own_i_15 : (15 : Int32).toInt = 15 := by decide
theorem own_i_31 : (31 : Int32).toInt = 31 := by decide
theorem own_i_63 : (63 : Int32).toInt = 63 := by decide
theorem own_i_128 : (128 : Int32).toInt = 128 := by decide
theorem own_i_143 : (143 : Int32).toInt = 143 := by decide
theorem own_i_144 : (144 : Int32).toInt = 144 := by decide
theorem own_i_159 : (159 : Int32).toInt = 159 := by decide
theorem own_i_160 : (160 : Int32).toInt = 160 := by decide
theorem own_i_191 : (191 : Int32).toInt = 191 := by decide
theorem own_i_192 : (192 : Int32).toInt = 192 := by decide
theorem own_i_194 : (194 : Int32).toInt = 194 := by decide
theorem own_i_223 : (223 : Int32).toInt = 223 := by decide
theorem own_i_224 : (224 : Int32).toInt = 224 := by decide
theorem own_i_225 : (225 : Int32).toInt = 225 := by decide
theorem own_i_237 : (237 : Int32).toInt = 237 := by decide
theorem own_i_239 : (239 : Int32).toInt = 239 := by decide
theorem own_i_240 : (240 : Int32).toInt = 240 := by decide
theorem own_i_241 : (241 : Int32).toInt = 241 := by decide
theorem own_i_243 : (243 : Int32).toInt = 243 := by decide
theorem own_i_244 : (244 : Int32).toInt = 244 := by decide
theorem own_i_248 : (248 : Int32).toInt = 248 := by decide
theorem own_i_255 : (255 : Int32).toInt = 255 := by decide
theorem own_i_2048 : (2048 : Int32).toInt = 2048 := by decide
theorem own_i_55296 : (55296 : Int32).toInt = 55296 := by decide
theorem own_i_57343 : (57343 : Int32).toInt = 57343 := by decide
theorem own_i_65536 : (65536 : Int32).toInt = 65536 := by decide
theorem own_i_1114111 : (1114111 : Int32).toInt = 1114111 := by decide
def own_L2 (lo hi c1 av : Int) : Int32 := if av ≤ 1 ∨ c1 < lo ∨ hi < c1 then -1 else 2
def own_L3 (lo hi c1 c2 av : Int) : Int32 := if av ≤ 1 ∨ c1 < lo ∨ hi < c1 then -1 else if av ≤ 2 ∨ c2 < 128 ∨ 191 < c2 then -2 else 3
def own_L4 (lo hi c1 c2 c3 av : Int) : Int32 := if av ≤ 1 ∨ c1 < lo ∨ hi < c1 then -1 else if av ≤ 2 ∨ c2 < 128 ∨ 191 < c2 then -2 else if av ≤ 3 ∨ c3 < 128 ∨ 191 < c3 then -3 else 4
def own_L (len lo hi c1 c2 c3 av : Int) : Int32 := if len = 2 then own_L2 lo hi c1 av else if len = 3 then own_L3 lo hi c1 c2 av else own_L4 lo hi c1 c2 c3 av
theorem own_L_2 (lo hi c1 c2 c3 av : Int) : own_L 2 lo hi c1 c2 c3 av = own_L2 lo hi c1 av := by rw [own_L, if_pos rfl]
theorem own_L_3 (lo hi c1 c2 c3 av : Int) : own_L 3 lo hi c1 c2 c3 av = own_L3 lo hi c1 c2 av := by rw [own_L, if_neg (by decide), if_pos rfl]
theorem own_L_4 (lo hi c1 c2 c3 av : Int) : own_L 4 lo hi c1 c2 c3 av = own_L4 lo hi c1 c2 c3 av := by rw [own_L, if_neg (by decide), if_neg (by decide)]
def own_M (c0 c1 c2 c3 av : Int) : Int32 :=
  if c0 < 128 then 1 else if 194 ≤ c0 ∧ c0 ≤ 223 then own_L2 128 191 c1 av else if c0 = 224 then own_L3 160 191 c1 c2 av else if c0 = 237 then own_L3 128 159 c1 c2 av else if 225 ≤ c0 ∧ c0 ≤ 239 then own_L3 128 191 c1 c2 av
  else if c0 = 240 then own_L4 144 191 c1 c2 c3 av else if 241 ≤ c0 ∧ c0 ≤ 243 then own_L4 128 191 c1 c2 c3 av else if c0 = 244 then own_L4 128 143 c1 c2 c3 av else -1
def own_Vi (A B mn : Int) : Prop := A ≤ 1114111 ∧ mn ≤ B ∧ ¬ ((55296 ≤ A ∨ 55296 ≤ mn) ∧ B ≤ 57343)
theorem own_lo8 (x : Int32) : (nar .byte (Int8.toInt32 (Int32.toInt8 x)) &&& (255 : Int32)) = x &&& 255 := Int32.toInt_inj.mp (by
  have h1 := (c_i2b x).1
  have h2 := (c_i2b (Int8.toInt32 (Int32.toInt8 x))).1
  have h3 := c_mask (nar .byte (Int8.toInt32 (Int32.toInt8 x))) 255 8 (by decide) (by decide)
  have h5 := c_mask x 255 8 (by decide) (by decide)
  rw [h3, h5]
  have h4 : nar .byte (Int8.toInt32 (Int32.toInt8 x)) = (Int32.toInt8 (Int8.toInt32 (Int32.toInt8 x))).toInt32 := rfl
  rw [h4]
  have e : ((2 ^ 8 : Nat) : Int) = 256 := by decide
  rw [e]; omega)
theorem own_255 (x : Int32) : 0 ≤ (x &&& (255 : Int32)).toInt ∧ (x &&& (255 : Int32)).toInt ≤ 255 := by
  have h := c_mask x 255 8 (by decide) (by decide)
  omega
theorem own_all (P : Int32 → Prop) (h : ∀ n : Fin 256, P (Int32.ofInt (n.val : Int))) (c : Int32) (h0 : 0 ≤ c.toInt) (h1 : c.toInt ≤ 255) : P c := by
  have this : P (Int32.ofInt ((c.toInt.toNat : Nat) : Int)) := h ⟨c.toInt.toNat, by omega⟩
  have e : Int32.ofInt ((c.toInt.toNat : Nat) : Int) = c := by
    rw [Int.toNat_of_nonneg h0]; exact Int32.ofInt_toInt c
  rw [e] at this; exact this
theorem own_cls (c : Int32) (h0 : 0 ≤ c.toInt) (h1 : c.toInt ≤ 255) : ((c &&& 128).toInt = 0 ↔ c.toInt < 128) ∧ ((c &&& 224).toInt = 192 ↔ (192 ≤ c.toInt ∧ c.toInt < 224)) ∧ ((c &&& 240).toInt = 224 ↔ (224 ≤ c.toInt ∧ c.toInt < 240)) ∧ ((c &&& 248).toInt = 240 ↔ (240 ≤ c.toInt ∧ c.toInt < 248)) ∧ ((c &&& 192).toInt = 128 ↔ (128 ≤ c.toInt ∧ c.toInt < 192)) :=
  own_all (fun c => ((c &&& 128).toInt = 0 ↔ c.toInt < 128) ∧ ((c &&& 224).toInt = 192 ↔ (192 ≤ c.toInt ∧ c.toInt < 224)) ∧ ((c &&& 240).toInt = 224 ↔ (224 ≤ c.toInt ∧ c.toInt < 240)) ∧ ((c &&& 248).toInt = 240 ↔ (240 ≤ c.toInt ∧ c.toInt < 248)) ∧ ((c &&& 192).toInt = 128 ↔ (128 ≤ c.toInt ∧ c.toInt < 192))) (by decide +kernel) c h0 h1
theorem own_31 (c : Int32) : (c &&& 31).toInt = c.toInt % 32 := c_mask c 31 5 (by decide) (by decide)
theorem own_15 (c : Int32) : (c &&& 15).toInt = c.toInt % 16 := c_mask c 15 4 (by decide) (by decide)
theorem own_7 (c : Int32) : (c &&& 7).toInt = c.toInt % 8 := c_mask c 7 3 (by decide) (by decide)
theorem own_63 (c : Int32) : (c &&& 63).toInt = c.toInt % 64 := c_mask c 63 6 (by decide) (by decide)
theorem own_shl (v c : Int32) (h0 : 0 ≤ v.toInt) (h1 : v.toInt < 32768) : ((v <<< ((6 : Int32) &&& 31)) ||| (c &&& (63 : Int32))).toInt = v.toInt * 64 + c.toInt % 64 := by
  have a := c_ishl v 6 6 (by decide)
  have e : ((2 ^ 6 : Nat) : Int) = 64 := by decide
  rw [e] at a
  have a2 := rng32 (v <<< ((6 : Int32) &&& 31))
  have b := own_63 c
  have d := c_or (v <<< ((6 : Int32) &&& 31)) (c &&& 63) 6 (by decide) 64 (by decide) (by omega) (by omega) (by omega)
  have d2 := rng32 ((v <<< ((6 : Int32) &&& 31)) ||| (c &&& (63 : Int32)))
  omega
theorem own_k {a : Int32} (h : 0 ≤ a.toInt ∧ a.toInt ≤ 1) : (a + 1).toInt = a.toInt + 1 ∧ (a + 2).toInt = a.toInt + 2 ∧ (a + 3).toInt = a.toInt + 3 := by
  have a1 := c_iadd a 1
  have a2 := c_iadd a 2
  have a3 := c_iadd a 3
  have b1 := rng32 (a + 1)
  have b2 := rng32 (a + 2)
  have b3 := rng32 (a + 3)
  rw [own_i_1] at a1; rw [own_i_2] at a2; rw [own_i_3] at a3
  omega
theorem pn_37 : plainName "com/example/omniform/omniform/Utf8" = true := by first | (simp [plainName, overriddenIn]; done) | decide +kernel
theorem d1_0 : decode prog_34_method_2_code 0 = .ok (.aload_n 0, 1) := by decide +kernel
theorem d1_1 : decode prog_34_method_2_code 1 = .ok (.iload_n 1, 1) := by decide +kernel
theorem d1_2 : decode prog_34_method_2_code 2 = .ok (.baload, 1) := by decide +kernel
theorem d1_3 : decode prog_34_method_2_code 3 = .ok (.sipush 255, 3) := by decide +kernel
theorem d1_6 : decode prog_34_method_2_code 6 = .ok (.iand, 1) := by decide +kernel
theorem d1_7 : decode prog_34_method_2_code 7 = .ok (.istore_n 3, 1) := by decide +kernel
theorem d1_8 : decode prog_34_method_2_code 8 = .ok (.iload_n 3, 1) := by decide +kernel
theorem d1_9 : decode prog_34_method_2_code 9 = .ok (.sipush 128, 3) := by decide +kernel
theorem d1_12 : decode prog_34_method_2_code 12 = .ok (.if_icmp .ge 5, 3) := by decide +kernel
theorem d1_15 : decode prog_34_method_2_code 15 = .ok (.iconst 1, 1) := by decide +kernel
theorem d1_16 : decode prog_34_method_2_code 16 = .ok (.ireturn, 1) := by decide +kernel
theorem d1_17 : decode prog_34_method_2_code 17 = .ok (.sipush 128, 3) := by decide +kernel
theorem d1_20 : decode prog_34_method_2_code 20 = .ok (.istore 5, 2) := by decide +kernel
theorem d1_22 : decode prog_34_method_2_code 22 = .ok (.sipush 191, 3) := by decide +kernel
theorem d1_25 : decode prog_34_method_2_code 25 = .ok (.istore 6, 2) := by decide +kernel
theorem d1_27 : decode prog_34_method_2_code 27 = .ok (.iload_n 3, 1) := by decide +kernel
theorem d1_28 : decode prog_34_method_2_code 28 = .ok (.sipush 194, 3) := by decide +kernel
theorem d1_31 : decode prog_34_method_2_code 31 = .ok (.if_icmp .lt 16, 3) := by decide +kernel
theorem d1_34 : decode prog_34_method_2_code 34 = .ok (.iload_n 3, 1) := by decide +kernel
theorem d1_35 : decode prog_34_method_2_code 35 = .ok (.sipush 223, 3) := by decide +kernel
theorem d1_38 : decode prog_34_method_2_code 38 = .ok (.if_icmp .gt 9, 3) := by decide +kernel
theorem d1_41 : decode prog_34_method_2_code 41 = .ok (.iconst 2, 1) := by decide +kernel
theorem d1_42 : decode prog_34_method_2_code 42 = .ok (.istore 4, 2) := by decide +kernel
theorem d1_44 : decode prog_34_method_2_code 44 = .ok (.goto 117, 3) := by decide +kernel
theorem d1_47 : decode prog_34_method_2_code 47 = .ok (.iload_n 3, 1) := by decide +kernel
theorem d1_48 : decode prog_34_method_2_code 48 = .ok (.sipush 224, 3) := by decide +kernel
theorem d1_51 : decode prog_34_method_2_code 51 = .ok (.if_icmp .ne 14, 3) := by decide +kernel
theorem d1_54 : decode prog_34_method_2_code 54 = .ok (.iconst 3, 1) := by decide +kernel
theorem d1_55 : decode prog_34_method_2_code 55 = .ok (.istore 4, 2) := by decide +kernel
theorem d1_57 : decode prog_34_method_2_code 57 = .ok (.sipush 160, 3) := by decide +kernel
theorem d1_60 : decode prog_34_method_2_code 60 = .ok (.istore 5, 2) := by decide +kernel
theorem d1_62 : decode prog_34_method_2_code 62 = .ok (.goto 99, 3) := by decide +kernel
theorem d1_65 : decode prog_34_method_2_code 65 = .ok (.iload_n 3, 1) := by decide +kernel
theorem d1_66 : decode prog_34_method_2_code 66 = .ok (.sipush 237, 3) := by decide +kernel
theorem d1_69 : decode prog_34_method_2_code 69 = .ok (.if_icmp .ne 14, 3) := by decide +kernel
theorem d1_72 : decode prog_34_method_2_code 72 = .ok (.iconst 3, 1) := by decide +kernel
theorem d1_73 : decode prog_34_method_2_code 73 = .ok (.istore 4, 2) := by decide +kernel
theorem d1_75 : decode prog_34_method_2_code 75 = .ok (.sipush 159, 3) := by decide +kernel
theorem d1_78 : decode prog_34_method_2_code 78 = .ok (.istore 6, 2) := by decide +kernel
theorem d1_80 : decode prog_34_method_2_code 80 = .ok (.goto 81, 3) := by decide +kernel
theorem d1_83 : decode prog_34_method_2_code 83 = .ok (.iload_n 3, 1) := by decide +kernel
theorem d1_84 : decode prog_34_method_2_code 84 = .ok (.sipush 225, 3) := by decide +kernel
theorem d1_87 : decode prog_34_method_2_code 87 = .ok (.if_icmp .lt 16, 3) := by decide +kernel
theorem d1_90 : decode prog_34_method_2_code 90 = .ok (.iload_n 3, 1) := by decide +kernel
theorem d1_91 : decode prog_34_method_2_code 91 = .ok (.sipush 239, 3) := by decide +kernel
theorem d1_94 : decode prog_34_method_2_code 94 = .ok (.if_icmp .gt 9, 3) := by decide +kernel
theorem d1_97 : decode prog_34_method_2_code 97 = .ok (.iconst 3, 1) := by decide +kernel
theorem d1_98 : decode prog_34_method_2_code 98 = .ok (.istore 4, 2) := by decide +kernel
theorem d1_100 : decode prog_34_method_2_code 100 = .ok (.goto 61, 3) := by decide +kernel
theorem d1_103 : decode prog_34_method_2_code 103 = .ok (.iload_n 3, 1) := by decide +kernel
theorem d1_104 : decode prog_34_method_2_code 104 = .ok (.sipush 240, 3) := by decide +kernel
theorem d1_107 : decode prog_34_method_2_code 107 = .ok (.if_icmp .ne 14, 3) := by decide +kernel
theorem d1_110 : decode prog_34_method_2_code 110 = .ok (.iconst 4, 1) := by decide +kernel
theorem d1_111 : decode prog_34_method_2_code 111 = .ok (.istore 4, 2) := by decide +kernel
theorem d1_113 : decode prog_34_method_2_code 113 = .ok (.sipush 144, 3) := by decide +kernel
theorem d1_116 : decode prog_34_method_2_code 116 = .ok (.istore 5, 2) := by decide +kernel
theorem d1_118 : decode prog_34_method_2_code 118 = .ok (.goto 43, 3) := by decide +kernel
theorem d1_121 : decode prog_34_method_2_code 121 = .ok (.iload_n 3, 1) := by decide +kernel
theorem d1_122 : decode prog_34_method_2_code 122 = .ok (.sipush 241, 3) := by decide +kernel
theorem d1_125 : decode prog_34_method_2_code 125 = .ok (.if_icmp .lt 16, 3) := by decide +kernel
theorem d1_128 : decode prog_34_method_2_code 128 = .ok (.iload_n 3, 1) := by decide +kernel
theorem d1_129 : decode prog_34_method_2_code 129 = .ok (.sipush 243, 3) := by decide +kernel
theorem d1_132 : decode prog_34_method_2_code 132 = .ok (.if_icmp .gt 9, 3) := by decide +kernel
theorem d1_135 : decode prog_34_method_2_code 135 = .ok (.iconst 4, 1) := by decide +kernel
theorem d1_136 : decode prog_34_method_2_code 136 = .ok (.istore 4, 2) := by decide +kernel
theorem d1_138 : decode prog_34_method_2_code 138 = .ok (.goto 23, 3) := by decide +kernel
theorem d1_141 : decode prog_34_method_2_code 141 = .ok (.iload_n 3, 1) := by decide +kernel
theorem d1_142 : decode prog_34_method_2_code 142 = .ok (.sipush 244, 3) := by decide +kernel
theorem d1_145 : decode prog_34_method_2_code 145 = .ok (.if_icmp .ne 14, 3) := by decide +kernel
theorem d1_148 : decode prog_34_method_2_code 148 = .ok (.iconst 4, 1) := by decide +kernel
theorem d1_149 : decode prog_34_method_2_code 149 = .ok (.istore 4, 2) := by decide +kernel
theorem d1_151 : decode prog_34_method_2_code 151 = .ok (.sipush 143, 3) := by decide +kernel
theorem d1_154 : decode prog_34_method_2_code 154 = .ok (.istore 6, 2) := by decide +kernel
theorem d1_156 : decode prog_34_method_2_code 156 = .ok (.goto 5, 3) := by decide +kernel
theorem d1_159 : decode prog_34_method_2_code 159 = .ok (.iconst (-1), 1) := by decide +kernel
theorem d1_160 : decode prog_34_method_2_code 160 = .ok (.ireturn, 1) := by decide +kernel
theorem d1_161 : decode prog_34_method_2_code 161 = .ok (.iconst 1, 1) := by decide +kernel
theorem d1_162 : decode prog_34_method_2_code 162 = .ok (.istore 7, 2) := by decide +kernel
theorem d1_164 : decode prog_34_method_2_code 164 = .ok (.iload 7, 2) := by decide +kernel
theorem d1_166 : decode prog_34_method_2_code 166 = .ok (.iload 4, 2) := by decide +kernel
theorem d1_168 : decode prog_34_method_2_code 168 = .ok (.if_icmp .ge 61, 3) := by decide +kernel
theorem d1_171 : decode prog_34_method_2_code 171 = .ok (.iload_n 1, 1) := by decide +kernel
theorem d1_172 : decode prog_34_method_2_code 172 = .ok (.iload 7, 2) := by decide +kernel
theorem d1_174 : decode prog_34_method_2_code 174 = .ok (.iadd, 1) := by decide +kernel
theorem d1_175 : decode prog_34_method_2_code 175 = .ok (.iload_n 2, 1) := by decide +kernel
theorem d1_176 : decode prog_34_method_2_code 176 = .ok (.if_icmp .lt 7, 3) := by decide +kernel
theorem d1_179 : decode prog_34_method_2_code 179 = .ok (.iload 7, 2) := by decide +kernel
theorem d1_181 : decode prog_34_method_2_code 181 = .ok (.ineg, 1) := by decide +kernel
theorem d1_182 : decode prog_34_method_2_code 182 = .ok (.ireturn, 1) := by decide +kernel
theorem d1_183 : decode prog_34_method_2_code 183 = .ok (.aload_n 0, 1) := by decide +kernel
theorem d1_184 : decode prog_34_method_2_code 184 = .ok (.iload_n 1, 1) := by decide +kernel
theorem d1_185 : decode prog_34_method_2_code 185 = .ok (.iload 7, 2) := by decide +kernel
theorem d1_187 : decode prog_34_method_2_code 187 = .ok (.iadd, 1) := by decide +kernel
theorem d1_188 : decode prog_34_method_2_code 188 = .ok (.baload, 1) := by decide +kernel
theorem d1_189 : decode prog_34_method_2_code 189 = .ok (.sipush 255, 3) := by decide +kernel
theorem d1_192 : decode prog_34_method_2_code 192 = .ok (.iand, 1) := by decide +kernel
theorem d1_193 : decode prog_34_method_2_code 193 = .ok (.istore 8, 2) := by decide +kernel
theorem d1_195 : decode prog_34_method_2_code 195 = .ok (.iload 8, 2) := by decide +kernel
theorem d1_197 : decode prog_34_method_2_code 197 = .ok (.iload 5, 2) := by decide +kernel
theorem d1_199 : decode prog_34_method_2_code 199 = .ok (.if_icmp .lt 10, 3) := by decide +kernel
theorem d1_202 : decode prog_34_method_2_code 202 = .ok (.iload 8, 2) := by decide +kernel
theorem d1_204 : decode prog_34_method_2_code 204 = .ok (.iload 6, 2) := by decide +kernel
theorem d1_206 : decode prog_34_method_2_code 206 = .ok (.if_icmp .le 7, 3) := by decide +kernel
theorem d1_209 : decode prog_34_method_2_code 209 = .ok (.iload 7, 2) := by decide +kernel
theorem d1_211 : decode prog_34_method_2_code 211 = .ok (.ineg, 1) := by decide +kernel
theorem d1_212 : decode prog_34_method_2_code 212 = .ok (.ireturn, 1) := by decide +kernel
theorem d1_213 : decode prog_34_method_2_code 213 = .ok (.sipush 128, 3) := by decide +kernel
theorem d1_216 : decode prog_34_method_2_code 216 = .ok (.istore 5, 2) := by decide +kernel
theorem d1_218 : decode prog_34_method_2_code 218 = .ok (.sipush 191, 3) := by decide +kernel
theorem d1_221 : decode prog_34_method_2_code 221 = .ok (.istore 6, 2) := by decide +kernel
theorem d1_223 : decode prog_34_method_2_code 223 = .ok (.iinc 7 1, 3) := by decide +kernel
theorem d1_226 : decode prog_34_method_2_code 226 = .ok (.goto (-62), 3) := by decide +kernel
theorem d1_229 : decode prog_34_method_2_code 229 = .ok (.iload 4, 2) := by decide +kernel
theorem d1_231 : decode prog_34_method_2_code 231 = .ok (.ireturn, 1) := by decide +kernel
theorem ef_1 (m : MethodId) (a0 : Addr) (p1 : Int32) (p2 : Int32) : entryFrame m #[(.ref a0), (.int p1), (.int p2)] 9 = mkF m 0 #[.val (.ref a0), .val (.int p1), .val (.int p2), .unset, .unset, .unset, .unset, .unset, .unset] [] := by first | (simp [entryFrame, mkF, argsToLocals, Value.category]; done) | rfl
def Q1 (Z : State) (a0 : Addr) (p1 : Int32) (p2 : Int32) (f1 : Int32 → Int32) (h0 : Heap) (n0 : Nat) (v : Option Value) (h : Heap) (L : List Loc) : Prop := (v = some (.int (own_M ((f1 p1) &&& (255 : Int32)).toInt ((f1 (p1 + (1 : Int32))) &&& (255 : Int32)).toInt ((f1 (p1 + (2 : Int32))) &&& (255 : Int32)).toInt ((f1 (p1 + (3 : Int32))) &&& (255 : Int32)).toInt (p2.toInt - p1.toInt)))) ∧ (Fr n0 L) ∧ (h = h0)
set_option maxRecDepth 65536 in
set_option maxHeartbeats 40000000 in
theorem rm1 (l : Launch) (Z : State) (aZ : Array Value) (hw : ∀ d ∈ tables_1, d.before aZ Z = true) (ws : List Jvm.Cond) (a0 : Addr) (p1 : Int32) (p2 : Int32) (f1 : Int32 → Int32) (h0 : Heap) (n0 : Nat) (Z0 : n0 ≤ h0.size) (A_0 : Ai Z h0 a0 .byte (5 : Int32) f1) (hs : 0 ≤ p1.toInt ∧ p1.toInt ≤ 1) (he : p1.toInt + 1 ≤ p2.toInt ∧ p2.toInt ≤ p1.toInt + 4) :
    MetFree l (⟨"com/example/omniform/omniform/Utf8", "measure", "([BII)I"⟩ : MethodName) (head1 (Jvm.Cond.code (⟨"com/example/omniform/omniform/Utf8", "measure", "([BII)I"⟩ : MethodName) prog_34_method_2_code 9 (some .int) :: ws) ({ frames := 0, cells := 0, slots := 0, locals := 0 } : Room)) (fun a U => a = #[(.ref a0), (.int p1), (.int p2)] ∧ Z.Warmed39 U.vm ∧ U.heap = h0) (fun _ _ _ _ _ => True) (fun _ U o U' => ∃ v L, o = .returned v ∧ Q1 Z a0 p1 p2 f1 h0 n0 v U'.heap L ∧ FrameEnd U o U' L ({ frames := 0, cells := 0, slots := 0, locals := 0 } : Room).cells ({ frames := 0, cells := 0, slots := 0, locals := 0 } : Room).slots) := by
  refine MetFree.of_bodySF (plainFor_of_name pn_37) hisR ?_
  intro p e s m args below meth c s₁ Bd hml0 hP hK
  obtain ⟨rfl, hZ, hh⟩ := hP
  have hx := Bd.exec
  have hby := Bd.bytes
  have hml : c.maxLocals = 9 := hml0
  have hown : s.vm.findClass "com/example/omniform/omniform/Utf8" = some m.cls := findClass_of_methodNamed Bd.named
  have hnm := (name_of_methodNamed Bd.named Bd.method).1
  have hlk : meth.locks = false := BodyLoose.notSynchronized Bd
  have X0 : Stand p l e ({ frames := 0, cells := 0, slots := 0, locals := 0 } : Room) s m #[(.ref a0), (.int p1), (.int p2)] below meth c s₁ [] 0 0 := Stand.of_body Bd
  have e0 : s₁.heap = h0 := by rw [← hh, Bd.state]; rfl
  have N0 := Fr.nil n0
  have sq0 : h0.size ≤ h0.size := Nat.le_refl _
  change Go p e below s ({ frames := 0, cells := 0, slots := 0, locals := 0 } : Room).cells ({ frames := 0, cells := 0, slots := 0, locals := 0 } : Room).slots (Q1 Z a0 p1 p2 f1 h0 n0) (s₁.setTop (entryFrame m #[(.ref a0), (.int p1), (.int p2)] 9))
  rw [ef_1 m a0 p1 p2]
  have hk := own_k hs
  have b0 := own_255 (f1 p1)
  have b1 := own_255 (f1 (p1 + (1 : Int32)))
  have b2 := own_255 (f1 (p1 + (2 : Int32)))
  have b3 := own_255 (f1 (p1 + (3 : Int32)))
  show Go _ _ _ _ _ _ _ (s₁.setTop (mkF m 0 #[.val (.ref a0), .val (.int p1), .val (.int p2), .unset, .unset, .unset, .unset, .unset, .unset] []))
  refine Go.step (fun _ k => XS.aloadN X0.here hx rfl (hb hby d1_0) rfl rfl  k) ?_
  show Go _ _ _ _ _ _ _ (s₁.setTop (mkF m 1 #[.val (.ref a0), .val (.int p1), .val (.int p2), .unset, .unset, .unset, .unset, .unset, .unset] [(.ref a0)]))
  refine Go.step (fun _ k => XS.iloadN X0.here hx rfl (hb hby d1_1) rfl  k) ?_
  show Go _ _ _ _ _ _ _ (s₁.setTop (mkF m 2 #[.val (.ref a0), .val (.int p1), .val (.int p2), .unset, .unset, .unset, .unset, .unset, .unset] [(.int p1), (.ref a0)]))
  have lo1 : ¬ p1 < 0 := (by simp only [Int32.lt_iff_toInt_lt, ← Int32.toInt_inj, own_i_m3, own_i_m2, own_i_m1, own_i_0, own_i_1, own_i_2, own_i_3, own_i_4, own_i_5, own_i_7, own_i_15, own_i_31, own_i_63, own_i_128, own_i_143, own_i_144, own_i_159, own_i_160, own_i_191, own_i_192, own_i_194, own_i_223, own_i_224, own_i_225, own_i_237, own_i_239, own_i_240, own_i_241, own_i_243, own_i_244, own_i_248, own_i_255, own_i_2048, own_i_55296, own_i_57343, own_i_65536, own_i_1114111]; omega)
  have hi1 : p1 < (5 : Int32) := (by simp only [Int32.lt_iff_toInt_lt, ← Int32.toInt_inj, own_i_m3, own_i_m2, own_i_m1, own_i_0, own_i_1, own_i_2, own_i_3, own_i_4, own_i_5, own_i_7, own_i_15, own_i_31, own_i_63, own_i_128, own_i_143, own_i_144, own_i_159, own_i_160, own_i_191, own_i_192, own_i_194, own_i_223, own_i_224, own_i_225, own_i_237, own_i_239, own_i_240, own_i_241, own_i_243, own_i_244, own_i_248, own_i_255, own_i_2048, own_i_55296, own_i_57343, own_i_65536, own_i_1114111]; omega)
  refine Go.step (Ai.baload X0 hx hZ e0 A_0 (j := p1) lo1 hi1 (g := (mkF m 2 #[.val (.ref a0), .val (.int p1), .val (.int p2), .unset, .unset, .unset, .unset, .unset, .unset] [(.int p1), (.ref a0)])) rfl rfl (hb hby d1_2)) ?_
  show Go _ _ _ _ _ _ _ (s₁.setTop (mkF m 3 #[.val (.ref a0), .val (.int p1), .val (.int p2), .unset, .unset, .unset, .unset, .unset, .unset] [(.int (f1 p1))]))
  refine Go.step (fun _ k => XS.sipush X0.here hx rfl (hb hby d1_3) k) ?_
  show Go _ _ _ _ _ _ _ (s₁.setTop (mkF m 6 #[.val (.ref a0), .val (.int p1), .val (.int p2), .unset, .unset, .unset, .unset, .unset, .unset] [(.int (255 : Int32)), (.int (f1 p1))]))
  refine Go.step (fun _ k => XS.iand X0.here hx rfl (hb hby d1_6) rfl k) ?_
  show Go _ _ _ _ _ _ _ (s₁.setTop (mkF m 7 #[.val (.ref a0), .val (.int p1), .val (.int p2), .unset, .unset, .unset, .unset, .unset, .unset] [(.int ((f1 p1) &&& (255 : Int32)))]))
  refine Go.step (fun _ k => XS.istoreN X0.here hx rfl (hb hby d1_7) rfl (l' := #[.val (.ref a0), .val (.int p1), .val (.int p2), .val (.int ((f1 p1) &&& (255 : Int32))), .unset, .unset, .unset, .unset, .unset]) rfl k) ?_
  have J161_2 : ∀ (len : Int32) (low : Int32) (high : Int32) (TJ2 : State) (locs2 : List Loc) (X2 : Stand p l e ({ frames := 0, cells := 0, slots := 0, locals := 0 } : Room) s m #[(.ref a0), (.int p1), (.int p2)] below meth c TJ2 locs2 0 0) (e2 : TJ2.heap = h0) (N2 : Fr n0 locs2) (hlen : len.toInt = 2 ∨ len.toInt = 3 ∨ len.toInt = 4) (hM : own_M ((f1 p1) &&& (255 : Int32)).toInt ((f1 (p1 + (1 : Int32))) &&& (255 : Int32)).toInt ((f1 (p1 + (2 : Int32))) &&& (255 : Int32)).toInt ((f1 (p1 + (3 : Int32))) &&& (255 : Int32)).toInt (p2.toInt - p1.toInt) = own_L len.toInt low.toInt high.toInt ((f1 (p1 + (1 : Int32))) &&& (255 : Int32)).toInt ((f1 (p1 + (2 : Int32))) &&& (255 : Int32)).toInt ((f1 (p1 + (3 : Int32))) &&& (255 : Int32)).toInt (p2.toInt - p1.toInt)), Go p e below s ({ frames := 0, cells := 0, slots := 0, locals := 0 } : Room).cells ({ frames := 0, cells := 0, slots := 0, locals := 0 } : Room).slots (Q1 Z a0 p1 p2 f1 h0 n0) (TJ2.setTop (mkF m 161 #[.val (.ref a0), .val (.int p1), .val (.int p2), .val (.int ((f1 p1) &&& (255 : Int32))), .val (.int len), .val (.int low), .val (.int high), .unset, .unset] [])) := by
    intro len low high TJ2 locs2 X2 e2 N2 hlen hM
    show Go _ _ _ _ _ _ _ (TJ2.setTop (mkF m 161 #[.val (.ref a0), .val (.int p1), .val (.int p2), .val (.int ((f1 p1) &&& (255 : Int32))), .val (.int len), .val (.int low), .val (.int high), .unset, .unset] []))
    refine Go.step (fun _ k => XS.iconst X2.here hx rfl (hb hby d1_161) k) ?_
    show Go _ _ _ _ _ _ _ (TJ2.setTop (mkF m 162 #[.val (.ref a0), .val (.int p1), .val (.int p2), .val (.int ((f1 p1) &&& (255 : Int32))), .val (.int len), .val (.int low), .val (.int high), .unset, .unset] [(.int (1 : Int32))]))
    refine Go.step (fun _ k => XS.istore X2.here hx rfl (hb hby d1_162) rfl (l' := #[.val (.ref a0), .val (.int p1), .val (.int p2), .val (.int ((f1 p1) &&& (255 : Int32))), .val (.int len), .val (.int low), .val (.int high), .val (.int (1 : Int32)), .unset]) rfl k) ?_
    show Go _ _ _ _ _ _ _ (TJ2.setTop (mkF m 164 #[.val (.ref a0), .val (.int p1), .val (.int p2), .val (.int ((f1 p1) &&& (255 : Int32))), .val (.int len), .val (.int low), .val (.int high), .val (.int (1 : Int32)), .unset] []))
    refine Go.step (fun _ k => XS.iload X2.here hx rfl (hb hby d1_164) rfl  k) ?_
    show Go _ _ _ _ _ _ _ (TJ2.setTop (mkF m 166 #[.val (.ref a0), .val (.int p1), .val (.int p2), .val (.int ((f1 p1) &&& (255 : Int32))), .val (.int len), .val (.int low), .val (.int high), .val (.int (1 : Int32)), .unset] [(.int (1 : Int32))]))
    refine Go.step (fun _ k => XS.iload X2.here hx rfl (hb hby d1_166) rfl  k) ?_
    show Go _ _ _ _ _ _ _ (TJ2.setTop (mkF m 168 #[.val (.ref a0), .val (.int p1), .val (.int p2), .val (.int ((f1 p1) &&& (255 : Int32))), .val (.int len), .val (.int low), .val (.int high), .val (.int (1 : Int32)), .unset] [(.int len), (.int (1 : Int32))]))
    have hc168 : (1 : Int32) < len := by simp only [Int32.lt_iff_toInt_lt, ← Int32.toInt_inj, own_i_m3, own_i_m2, own_i_m1, own_i_0, own_i_1, own_i_2, own_i_3, own_i_4, own_i_5, own_i_7, own_i_15, own_i_31, own_i_63, own_i_128, own_i_143, own_i_144, own_i_159, own_i_160, own_i_191, own_i_192, own_i_194, own_i_223, own_i_224, own_i_225, own_i_237, own_i_239, own_i_240, own_i_241, own_i_243, own_i_244, own_i_248, own_i_255, own_i_2048, own_i_55296, own_i_57343, own_i_65536, own_i_1114111]; omega
    refine Go.step (fun _ k => XS.icmpNo X2.here hx rfl (hb hby d1_168) rfl (tlt hc168).2.1 k) ?_
    show Go _ _ _ _ _ _ _ (TJ2.setTop (mkF m 171 #[.val (.ref a0), .val (.int p1), .val (.int p2), .val (.int ((f1 p1) &&& (255 : Int32))), .val (.int len), .val (.int low), .val (.int high), .val (.int (1 : Int32)), .unset] []))
    refine Go.step (fun _ k => XS.iloadN X2.here hx rfl (hb hby d1_171) rfl  k) ?_
    show Go _ _ _ _ _ _ _ (TJ2.setTop (mkF m 172 #[.val (.ref a0), .val (.int p1), .val (.int p2), .val (.int ((f1 p1) &&& (255 : Int32))), .val (.int len), .val (.int low), .val (.int high), .val (.int (1 : Int32)), .unset] [(.int p1)]))
    refine Go.step (fun _ k => XS.iload X2.here hx rfl (hb hby d1_172) rfl  k) ?_
    show Go _ _ _ _ _ _ _ (TJ2.setTop (mkF m 174 #[.val (.ref a0), .val (.int p1), .val (.int p2), .val (.int ((f1 p1) &&& (255 : Int32))), .val (.int len), .val (.int low), .val (.int high), .val (.int (1 : Int32)), .unset] [(.int (1 : Int32)), (.int p1)]))
    refine Go.step (fun _ k => XS.iadd X2.here hx rfl (hb hby d1_174) rfl k) ?_
    show Go _ _ _ _ _ _ _ (TJ2.setTop (mkF m 175 #[.val (.ref a0), .val (.int p1), .val (.int p2), .val (.int ((f1 p1) &&& (255 : Int32))), .val (.int len), .val (.int low), .val (.int high), .val (.int (1 : Int32)), .unset] [(.int (p1 + (1 : Int32)))]))
    refine Go.step (fun _ k => XS.iloadN X2.here hx rfl (hb hby d1_175) rfl  k) ?_
    show Go _ _ _ _ _ _ _ (TJ2.setTop (mkF m 176 #[.val (.ref a0), .val (.int p1), .val (.int p2), .val (.int ((f1 p1) &&& (255 : Int32))), .val (.int len), .val (.int low), .val (.int high), .val (.int (1 : Int32)), .unset] [(.int p2), (.int (p1 + (1 : Int32)))]))
    by_cases hc176 : (p1 + (1 : Int32)) < p2
    · skip
      refine Go.step (fun _ k => XS.icmpYes X2.here hx rfl (pc0 := 176) (pc' := 183) rfl (hb hby d1_176) rfl (tlt hc176).1 (by decide) (by decide) k) ?_
      show Go _ _ _ _ _ _ _ (TJ2.setTop (mkF m 183 #[.val (.ref a0), .val (.int p1), .val (.int p2), .val (.int ((f1 p1) &&& (255 : Int32))), .val (.int len), .val (.int low), .val (.int high), .val (.int (1 : Int32)), .unset] []))
      refine Go.step (fun _ k => XS.aloadN X2.here hx rfl (hb hby d1_183) rfl rfl  k) ?_
      show Go _ _ _ _ _ _ _ (TJ2.setTop (mkF m 184 #[.val (.ref a0), .val (.int p1), .val (.int p2), .val (.int ((f1 p1) &&& (255 : Int32))), .val (.int len), .val (.int low), .val (.int high), .val (.int (1 : Int32)), .unset] [(.ref a0)]))
      refine Go.step (fun _ k => XS.iloadN X2.here hx rfl (hb hby d1_184) rfl  k) ?_
      show Go _ _ _ _ _ _ _ (TJ2.setTop (mkF m 185 #[.val (.ref a0), .val (.int p1), .val (.int p2), .val (.int ((f1 p1) &&& (255 : Int32))), .val (.int len), .val (.int low), .val (.int high), .val (.int (1 : Int32)), .unset] [(.int p1), (.ref a0)]))
      refine Go.step (fun _ k => XS.iload X2.here hx rfl (hb hby d1_185) rfl  k) ?_
      show Go _ _ _ _ _ _ _ (TJ2.setTop (mkF m 187 #[.val (.ref a0), .val (.int p1), .val (.int p2), .val (.int ((f1 p1) &&& (255 : Int32))), .val (.int len), .val (.int low), .val (.int high), .val (.int (1 : Int32)), .unset] [(.int (1 : Int32)), (.int p1), (.ref a0)]))
      refine Go.step (fun _ k => XS.iadd X2.here hx rfl (hb hby d1_187) rfl k) ?_
      show Go _ _ _ _ _ _ _ (TJ2.setTop (mkF m 188 #[.val (.ref a0), .val (.int p1), .val (.int p2), .val (.int ((f1 p1) &&& (255 : Int32))), .val (.int len), .val (.int low), .val (.int high), .val (.int (1 : Int32)), .unset] [(.int (p1 + (1 : Int32))), (.ref a0)]))
      have lo3 : ¬ (p1 + (1 : Int32)) < 0 := (by simp only [Int32.lt_iff_toInt_lt, ← Int32.toInt_inj, own_i_m3, own_i_m2, own_i_m1, own_i_0, own_i_1, own_i_2, own_i_3, own_i_4, own_i_5, own_i_7, own_i_15, own_i_31, own_i_63, own_i_128, own_i_143, own_i_144, own_i_159, own_i_160, own_i_191, own_i_192, own_i_194, own_i_223, own_i_224, own_i_225, own_i_237, own_i_239, own_i_240, own_i_241, own_i_243, own_i_244, own_i_248, own_i_255, own_i_2048, own_i_55296, own_i_57343, own_i_65536, own_i_1114111]; omega)
      have hi3 : (p1 + (1 : Int32)) < (5 : Int32) := (by simp only [Int32.lt_iff_toInt_lt, ← Int32.toInt_inj, own_i_m3, own_i_m2, own_i_m1, own_i_0, own_i_1, own_i_2, own_i_3, own_i_4, own_i_5, own_i_7, own_i_15, own_i_31, own_i_63, own_i_128, own_i_143, own_i_144, own_i_159, own_i_160, own_i_191, own_i_192, own_i_194, own_i_223, own_i_224, own_i_225, own_i_237, own_i_239, own_i_240, own_i_241, own_i_243, own_i_244, own_i_248, own_i_255, own_i_2048, own_i_55296, own_i_57343, own_i_65536, own_i_1114111]; omega)
      refine Go.step (Ai.baload X2 hx hZ e2 A_0 (j := (p1 + (1 : Int32))) lo3 hi3 (g := (mkF m 188 #[.val (.ref a0), .val (.int p1), .val (.int p2), .val (.int ((f1 p1) &&& (255 : Int32))), .val (.int len), .val (.int low), .val (.int high), .val (.int (1 : Int32)), .unset] [(.int (p1 + (1 : Int32))), (.ref a0)])) rfl rfl (hb hby d1_188)) ?_
      show Go _ _ _ _ _ _ _ (TJ2.setTop (mkF m 189 #[.val (.ref a0), .val (.int p1), .val (.int p2), .val (.int ((f1 p1) &&& (255 : Int32))), .val (.int len), .val (.int low), .val (.int high), .val (.int (1 : Int32)), .unset] [(.int (f1 (p1 + (1 : Int32))))]))
      refine Go.step (fun _ k => XS.sipush X2.here hx rfl (hb hby d1_189) k) ?_
      show Go _ _ _ _ _ _ _ (TJ2.setTop (mkF m 192 #[.val (.ref a0), .val (.int p1), .val (.int p2), .val (.int ((f1 p1) &&& (255 : Int32))), .val (.int len), .val (.int low), .val (.int high), .val (.int (1 : Int32)), .unset] [(.int (255 : Int32)), (.int (f1 (p1 + (1 : Int32))))]))
      refine Go.step (fun _ k => XS.iand X2.here hx rfl (hb hby d1_192) rfl k) ?_
      show Go _ _ _ _ _ _ _ (TJ2.setTop (mkF m 193 #[.val (.ref a0), .val (.int p1), .val (.int p2), .val (.int ((f1 p1) &&& (255 : Int32))), .val (.int len), .val (.int low), .val (.int high), .val (.int (1 : Int32)), .unset] [(.int ((f1 (p1 + (1 : Int32))) &&& (255 : Int32)))]))
      refine Go.step (fun _ k => XS.istore X2.here hx rfl (hb hby d1_193) rfl (l' := #[.val (.ref a0), .val (.int p1), .val (.int p2), .val (.int ((f1 p1) &&& (255 : Int32))), .val (.int len), .val (.int low), .val (.int high), .val (.int (1 : Int32)), .val (.int ((f1 (p1 + (1 : Int32))) &&& (255 : Int32)))]) rfl k) ?_
      show Go _ _ _ _ _ _ _ (TJ2.setTop (mkF m 195 #[.val (.ref a0), .val (.int p1), .val (.int p2), .val (.int ((f1 p1) &&& (255 : Int32))), .val (.int len), .val (.int low), .val (.int high), .val (.int (1 : Int32)), .val (.int ((f1 (p1 + (1 : Int32))) &&& (255 : Int32)))] []))
      refine Go.step (fun _ k => XS.iload X2.here hx rfl (hb hby d1_195) rfl  k) ?_
      show Go _ _ _ _ _ _ _ (TJ2.setTop (mkF m 197 #[.val (.ref a0), .val (.int p1), .val (.int p2), .val (.int ((f1 p1) &&& (255 : Int32))), .val (.int len), .val (.int low), .val (.int high), .val (.int (1 : Int32)), .val (.int ((f1 (p1 + (1 : Int32))) &&& (255 : Int32)))] [(.int ((f1 (p1 + (1 : Int32))) &&& (255 : Int32)))]))
      refine Go.step (fun _ k => XS.iload X2.here hx rfl (hb hby d1_197) rfl  k) ?_
      show Go _ _ _ _ _ _ _ (TJ2.setTop (mkF m 199 #[.val (.ref a0), .val (.int p1), .val (.int p2), .val (.int ((f1 p1) &&& (255 : Int32))), .val (.int len), .val (.int low), .val (.int high), .val (.int (1 : Int32)), .val (.int ((f1 (p1 + (1 : Int32))) &&& (255 : Int32)))] [(.int low), (.int ((f1 (p1 + (1 : Int32))) &&& (255 : Int32)))]))
      by_cases hc199 : ((f1 (p1 + (1 : Int32))) &&& (255 : Int32)) < low
      · skip
        refine Go.step (fun _ k => XS.icmpYes X2.here hx rfl (pc0 := 199) (pc' := 209) rfl (hb hby d1_199) rfl (tlt hc199).1 (by decide) (by decide) k) ?_
        show Go _ _ _ _ _ _ _ (TJ2.setTop (mkF m 209 #[.val (.ref a0), .val (.int p1), .val (.int p2), .val (.int ((f1 p1) &&& (255 : Int32))), .val (.int len), .val (.int low), .val (.int high), .val (.int (1 : Int32)), .val (.int ((f1 (p1 + (1 : Int32))) &&& (255 : Int32)))] []))
        refine Go.step (fun _ k => XS.iload X2.here hx rfl (hb hby d1_209) rfl  k) ?_
        show Go _ _ _ _ _ _ _ (TJ2.setTop (mkF m 211 #[.val (.ref a0), .val (.int p1), .val (.int p2), .val (.int ((f1 p1) &&& (255 : Int32))), .val (.int len), .val (.int low), .val (.int high), .val (.int (1 : Int32)), .val (.int ((f1 (p1 + (1 : Int32))) &&& (255 : Int32)))] [(.int (1 : Int32))]))
        refine Go.step (fun _ k => XS.ineg X2.here hx rfl (hb hby d1_211) rfl k) ?_
        show Go _ _ _ _ _ _ _ (TJ2.setTop (mkF m 212 #[.val (.ref a0), .val (.int p1), .val (.int p2), .val (.int ((f1 p1) &&& (255 : Int32))), .val (.int len), .val (.int low), .val (.int high), .val (.int (1 : Int32)), .val (.int ((f1 (p1 + (1 : Int32))) &&& (255 : Int32)))] [(.int (-(1 : Int32)))]))
        refine Go.retI X2 hx Bd.returns hlk (hb hby d1_212) ?_ (by decide) (by decide)
        rw [e2]
        exact ⟨(by
            rw [hM]
            refine congrArg (fun z => some (Value.int z)) ?_
            simp only [Int32.lt_iff_toInt_lt, ← Int32.toInt_inj, own_i_m3, own_i_m2, own_i_m1, own_i_0, own_i_1, own_i_2, own_i_3, own_i_4, own_i_5, own_i_7, own_i_15, own_i_31, own_i_63, own_i_128, own_i_143, own_i_144, own_i_159, own_i_160, own_i_191, own_i_192, own_i_194, own_i_223, own_i_224, own_i_225, own_i_237, own_i_239, own_i_240, own_i_241, own_i_243, own_i_244, own_i_248, own_i_255, own_i_2048, own_i_55296, own_i_57343, own_i_65536, own_i_1114111] at hc168 hc176 hc199
            unfold own_L own_L2 own_L3 own_L4
            (repeat' split) <;> first | rfl | (exfalso; omega) | exact Int32.toInt_inj.mp (by simp only [own_i_m3, own_i_m2, own_i_m1, own_i_0, own_i_1, own_i_2, own_i_3, own_i_4, own_i_5, own_i_7, own_i_15, own_i_31, own_i_63, own_i_128, own_i_143, own_i_144, own_i_159, own_i_160, own_i_191, own_i_192, own_i_194, own_i_223, own_i_224, own_i_225, own_i_237, own_i_239, own_i_240, own_i_241, own_i_243, own_i_244, own_i_248, own_i_255, own_i_2048, own_i_55296, own_i_57343, own_i_65536, own_i_1114111]; omega)), N2, rfl⟩
      · skip
        refine Go.step (fun _ k => XS.icmpNo X2.here hx rfl (hb hby d1_199) rfl (flt hc199).1 k) ?_
        show Go _ _ _ _ _ _ _ (TJ2.setTop (mkF m 202 #[.val (.ref a0), .val (.int p1), .val (.int p2), .val (.int ((f1 p1) &&& (255 : Int32))), .val (.int len), .val (.int low), .val (.int high), .val (.int (1 : Int32)), .val (.int ((f1 (p1 + (1 : Int32))) &&& (255 : Int32)))] []))
        refine Go.step (fun _ k => XS.iload X2.here hx rfl (hb hby d1_202) rfl  k) ?_
        show Go _ _ _ _ _ _ _ (TJ2.setTop (mkF m 204 #[.val (.ref a0), .val (.int p1), .val (.int p2), .val (.int ((f1 p1) &&& (255 : Int32))), .val (.int len), .val (.int low), .val (.int high), .val (.int (1 : Int32)), .val (.int ((f1 (p1 + (1 : Int32))) &&& (255 : Int32)))] [(.int ((f1 (p1 + (1 : Int32))) &&& (255 : Int32)))]))
        refine Go.step (fun _ k => XS.iload X2.here hx rfl (hb hby d1_204) rfl  k) ?_
        show Go _ _ _ _ _ _ _ (TJ2.setTop (mkF m 206 #[.val (.ref a0), .val (.int p1), .val (.int p2), .val (.int ((f1 p1) &&& (255 : Int32))), .val (.int len), .val (.int low), .val (.int high), .val (.int (1 : Int32)), .val (.int ((f1 (p1 + (1 : Int32))) &&& (255 : Int32)))] [(.int high), (.int ((f1 (p1 + (1 : Int32))) &&& (255 : Int32)))]))
        by_cases hc206 : high < ((f1 (p1 + (1 : Int32))) &&& (255 : Int32))
        · skip
          refine Go.step (fun _ k => XS.icmpNo X2.here hx rfl (hb hby d1_206) rfl (tlt hc206).2.2.2 k) ?_
          show Go _ _ _ _ _ _ _ (TJ2.setTop (mkF m 209 #[.val (.ref a0), .val (.int p1), .val (.int p2), .val (.int ((f1 p1) &&& (255 : Int32))), .val (.int len), .val (.int low), .val (.int high), .val (.int (1 : Int32)), .val (.int ((f1 (p1 + (1 : Int32))) &&& (255 : Int32)))] []))
          refine Go.step (fun _ k => XS.iload X2.here hx rfl (hb hby d1_209) rfl  k) ?_
          show Go _ _ _ _ _ _ _ (TJ2.setTop (mkF m 211 #[.val (.ref a0), .val (.int p1), .val (.int p2), .val (.int ((f1 p1) &&& (255 : Int32))), .val (.int len), .val (.int low), .val (.int high), .val (.int (1 : Int32)), .val (.int ((f1 (p1 + (1 : Int32))) &&& (255 : Int32)))] [(.int (1 : Int32))]))
          refine Go.step (fun _ k => XS.ineg X2.here hx rfl (hb hby d1_211) rfl k) ?_
          show Go _ _ _ _ _ _ _ (TJ2.setTop (mkF m 212 #[.val (.ref a0), .val (.int p1), .val (.int p2), .val (.int ((f1 p1) &&& (255 : Int32))), .val (.int len), .val (.int low), .val (.int high), .val (.int (1 : Int32)), .val (.int ((f1 (p1 + (1 : Int32))) &&& (255 : Int32)))] [(.int (-(1 : Int32)))]))
          refine Go.retI X2 hx Bd.returns hlk (hb hby d1_212) ?_ (by decide) (by decide)
          rw [e2]
          exact ⟨(by
              rw [hM]
              refine congrArg (fun z => some (Value.int z)) ?_
              simp only [Int32.lt_iff_toInt_lt, ← Int32.toInt_inj, own_i_m3, own_i_m2, own_i_m1, own_i_0, own_i_1, own_i_2, own_i_3, own_i_4, own_i_5, own_i_7, own_i_15, own_i_31, own_i_63, own_i_128, own_i_143, own_i_144, own_i_159, own_i_160, own_i_191, own_i_192, own_i_194, own_i_223, own_i_224, own_i_225, own_i_237, own_i_239, own_i_240, own_i_241, own_i_243, own_i_244, own_i_248, own_i_255, own_i_2048, own_i_55296, own_i_57343, own_i_65536, own_i_1114111] at hc168 hc176 hc199 hc206
              unfold own_L own_L2 own_L3 own_L4
              (repeat' split) <;> first | rfl | (exfalso; omega) | exact Int32.toInt_inj.mp (by simp only [own_i_m3, own_i_m2, own_i_m1, own_i_0, own_i_1, own_i_2, own_i_3, own_i_4, own_i_5, own_i_7, own_i_15, own_i_31, own_i_63, own_i_128, own_i_143, own_i_144, own_i_159, own_i_160, own_i_191, own_i_192, own_i_194, own_i_223, own_i_224, own_i_225, own_i_237, own_i_239, own_i_240, own_i_241, own_i_243, own_i_244, own_i_248, own_i_255, own_i_2048, own_i_55296, own_i_57343, own_i_65536, own_i_1114111]; omega)), N2, rfl⟩
        · skip
          refine Go.step (fun _ k => XS.icmpYes X2.here hx rfl (pc0 := 206) (pc' := 213) rfl (hb hby d1_206) rfl (flt hc206).2.2.2 (by decide) (by decide) k) ?_
          show Go _ _ _ _ _ _ _ (TJ2.setTop (mkF m 213 #[.val (.ref a0), .val (.int p1), .val (.int p2), .val (.int ((f1 p1) &&& (255 : Int32))), .val (.int len), .val (.int low), .val (.int high), .val (.int (1 : Int32)), .val (.int ((f1 (p1 + (1 : Int32))) &&& (255 : Int32)))] []))
          refine Go.step (fun _ k => XS.sipush X2.here hx rfl (hb hby d1_213) k) ?_
          show Go _ _ _ _ _ _ _ (TJ2.setTop (mkF m 216 #[.val (.ref a0), .val (.int p1), .val (.int p2), .val (.int ((f1 p1) &&& (255 : Int32))), .val (.int len), .val (.int low), .val (.int high), .val (.int (1 : Int32)), .val (.int ((f1 (p1 + (1 : Int32))) &&& (255 : Int32)))] [(.int (128 : Int32))]))
          refine Go.step (fun _ k => XS.istore X2.here hx rfl (hb hby d1_216) rfl (l' := #[.val (.ref a0), .val (.int p1), .val (.int p2), .val (.int ((f1 p1) &&& (255 : Int32))), .val (.int len), .val (.int (128 : Int32)), .val (.int high), .val (.int (1 : Int32)), .val (.int ((f1 (p1 + (1 : Int32))) &&& (255 : Int32)))]) rfl k) ?_
          show Go _ _ _ _ _ _ _ (TJ2.setTop (mkF m 218 #[.val (.ref a0), .val (.int p1), .val (.int p2), .val (.int ((f1 p1) &&& (255 : Int32))), .val (.int len), .val (.int (128 : Int32)), .val (.int high), .val (.int (1 : Int32)), .val (.int ((f1 (p1 + (1 : Int32))) &&& (255 : Int32)))] []))
          refine Go.step (fun _ k => XS.sipush X2.here hx rfl (hb hby d1_218) k) ?_
          show Go _ _ _ _ _ _ _ (TJ2.setTop (mkF m 221 #[.val (.ref a0), .val (.int p1), .val (.int p2), .val (.int ((f1 p1) &&& (255 : Int32))), .val (.int len), .val (.int (128 : Int32)), .val (.int high), .val (.int (1 : Int32)), .val (.int ((f1 (p1 + (1 : Int32))) &&& (255 : Int32)))] [(.int (191 : Int32))]))
          refine Go.step (fun _ k => XS.istore X2.here hx rfl (hb hby d1_221) rfl (l' := #[.val (.ref a0), .val (.int p1), .val (.int p2), .val (.int ((f1 p1) &&& (255 : Int32))), .val (.int len), .val (.int (128 : Int32)), .val (.int (191 : Int32)), .val (.int (1 : Int32)), .val (.int ((f1 (p1 + (1 : Int32))) &&& (255 : Int32)))]) rfl k) ?_
          show Go _ _ _ _ _ _ _ (TJ2.setTop (mkF m 223 #[.val (.ref a0), .val (.int p1), .val (.int p2), .val (.int ((f1 p1) &&& (255 : Int32))), .val (.int len), .val (.int (128 : Int32)), .val (.int (191 : Int32)), .val (.int (1 : Int32)), .val (.int ((f1 (p1 + (1 : Int32))) &&& (255 : Int32)))] []))
          refine Go.step (fun _ k => XS.iinc X2.here hx rfl (hb hby d1_223) rfl (l' := #[.val (.ref a0), .val (.int p1), .val (.int p2), .val (.int ((f1 p1) &&& (255 : Int32))), .val (.int len), .val (.int (128 : Int32)), .val (.int (191 : Int32)), .val (.int (2 : Int32)), .val (.int ((f1 (p1 + (1 : Int32))) &&& (255 : Int32)))]) rfl k) ?_
          show Go _ _ _ _ _ _ _ (TJ2.setTop (mkF m 226 #[.val (.ref a0), .val (.int p1), .val (.int p2), .val (.int ((f1 p1) &&& (255 : Int32))), .val (.int len), .val (.int (128 : Int32)), .val (.int (191 : Int32)), .val (.int (2 : Int32)), .val (.int ((f1 (p1 + (1 : Int32))) &&& (255 : Int32)))] []))
          refine Go.step (fun _ k => XS.goto X2.here hx rfl (pc0 := 226) (pc' := 164) rfl (hb hby d1_226) (by decide) (by decide) k) ?_
          show Go _ _ _ _ _ _ _ (TJ2.setTop (mkF m 164 #[.val (.ref a0), .val (.int p1), .val (.int p2), .val (.int ((f1 p1) &&& (255 : Int32))), .val (.int len), .val (.int (128 : Int32)), .val (.int (191 : Int32)), .val (.int (2 : Int32)), .val (.int ((f1 (p1 + (1 : Int32))) &&& (255 : Int32)))] []))
          refine Go.step (fun _ k => XS.iload X2.here hx rfl (hb hby d1_164) rfl  k) ?_
          show Go _ _ _ _ _ _ _ (TJ2.setTop (mkF m 166 #[.val (.ref a0), .val (.int p1), .val (.int p2), .val (.int ((f1 p1) &&& (255 : Int32))), .val (.int len), .val (.int (128 : Int32)), .val (.int (191 : Int32)), .val (.int (2 : Int32)), .val (.int ((f1 (p1 + (1 : Int32))) &&& (255 : Int32)))] [(.int (2 : Int32))]))
          refine Go.step (fun _ k => XS.iload X2.here hx rfl (hb hby d1_166) rfl  k) ?_
          show Go _ _ _ _ _ _ _ (TJ2.setTop (mkF m 168 #[.val (.ref a0), .val (.int p1), .val (.int p2), .val (.int ((f1 p1) &&& (255 : Int32))), .val (.int len), .val (.int (128 : Int32)), .val (.int (191 : Int32)), .val (.int (2 : Int32)), .val (.int ((f1 (p1 + (1 : Int32))) &&& (255 : Int32)))] [(.int len), (.int (2 : Int32))]))
          by_cases hc168_1 : (2 : Int32) < len
          · skip
            refine Go.step (fun _ k => XS.icmpNo X2.here hx rfl (hb hby d1_168) rfl (tlt hc168_1).2.1 k) ?_
            show Go _ _ _ _ _ _ _ (TJ2.setTop (mkF m 171 #[.val (.ref a0), .val (.int p1), .val (.int p2), .val (.int ((f1 p1) &&& (255 : Int32))), .val (.int len), .val (.int (128 : Int32)), .val (.int (191 : Int32)), .val (.int (2 : Int32)), .val (.int ((f1 (p1 + (1 : Int32))) &&& (255 : Int32)))] []))
            refine Go.step (fun _ k => XS.iloadN X2.here hx rfl (hb hby d1_171) rfl  k) ?_
            show Go _ _ _ _ _ _ _ (TJ2.setTop (mkF m 172 #[.val (.ref a0), .val (.int p1), .val (.int p2), .val (.int ((f1 p1) &&& (255 : Int32))), .val (.int len), .val (.int (128 : Int32)), .val (.int (191 : Int32)), .val (.int (2 : Int32)), .val (.int ((f1 (p1 + (1 : Int32))) &&& (255 : Int32)))] [(.int p1)]))
            refine Go.step (fun _ k => XS.iload X2.here hx rfl (hb hby d1_172) rfl  k) ?_
            show Go _ _ _ _ _ _ _ (TJ2.setTop (mkF m 174 #[.val (.ref a0), .val (.int p1), .val (.int p2), .val (.int ((f1 p1) &&& (255 : Int32))), .val (.int len), .val (.int (128 : Int32)), .val (.int (191 : Int32)), .val (.int (2 : Int32)), .val (.int ((f1 (p1 + (1 : Int32))) &&& (255 : Int32)))] [(.int (2 : Int32)), (.int p1)]))
            refine Go.step (fun _ k => XS.iadd X2.here hx rfl (hb hby d1_174) rfl k) ?_
            show Go _ _ _ _ _ _ _ (TJ2.setTop (mkF m 175 #[.val (.ref a0), .val (.int p1), .val (.int p2), .val (.int ((f1 p1) &&& (255 : Int32))), .val (.int len), .val (.int (128 : Int32)), .val (.int (191 : Int32)), .val (.int (2 : Int32)), .val (.int ((f1 (p1 + (1 : Int32))) &&& (255 : Int32)))] [(.int (p1 + (2 : Int32)))]))
            refine Go.step (fun _ k => XS.iloadN X2.here hx rfl (hb hby d1_175) rfl  k) ?_
            show Go _ _ _ _ _ _ _ (TJ2.setTop (mkF m 176 #[.val (.ref a0), .val (.int p1), .val (.int p2), .val (.int ((f1 p1) &&& (255 : Int32))), .val (.int len), .val (.int (128 : Int32)), .val (.int (191 : Int32)), .val (.int (2 : Int32)), .val (.int ((f1 (p1 + (1 : Int32))) &&& (255 : Int32)))] [(.int p2), (.int (p1 + (2 : Int32)))]))
            by_cases hc176_1 : (p1 + (2 : Int32)) < p2
            · skip
              refine Go.step (fun _ k => XS.icmpYes X2.here hx rfl (pc0 := 176) (pc' := 183) rfl (hb hby d1_176) rfl (tlt hc176_1).1 (by decide) (by decide) k) ?_
              show Go _ _ _ _ _ _ _ (TJ2.setTop (mkF m 183 #[.val (.ref a0), .val (.int p1), .val (.int p2), .val (.int ((f1 p1) &&& (255 : Int32))), .val (.int len), .val (.int (128 : Int32)), .val (.int (191 : Int32)), .val (.int (2 : Int32)), .val (.int ((f1 (p1 + (1 : Int32))) &&& (255 : Int32)))] []))
              refine Go.step (fun _ k => XS.aloadN X2.here hx rfl (hb hby d1_183) rfl rfl  k) ?_
              show Go _ _ _ _ _ _ _ (TJ2.setTop (mkF m 184 #[.val (.ref a0), .val (.int p1), .val (.int p2), .val (.int ((f1 p1) &&& (255 : Int32))), .val (.int len), .val (.int (128 : Int32)), .val (.int (191 : Int32)), .val (.int (2 : Int32)), .val (.int ((f1 (p1 + (1 : Int32))) &&& (255 : Int32)))] [(.ref a0)]))
              refine Go.step (fun _ k => XS.iloadN X2.here hx rfl (hb hby d1_184) rfl  k) ?_
              show Go _ _ _ _ _ _ _ (TJ2.setTop (mkF m 185 #[.val (.ref a0), .val (.int p1), .val (.int p2), .val (.int ((f1 p1) &&& (255 : Int32))), .val (.int len), .val (.int (128 : Int32)), .val (.int (191 : Int32)), .val (.int (2 : Int32)), .val (.int ((f1 (p1 + (1 : Int32))) &&& (255 : Int32)))] [(.int p1), (.ref a0)]))
              refine Go.step (fun _ k => XS.iload X2.here hx rfl (hb hby d1_185) rfl  k) ?_
              show Go _ _ _ _ _ _ _ (TJ2.setTop (mkF m 187 #[.val (.ref a0), .val (.int p1), .val (.int p2), .val (.int ((f1 p1) &&& (255 : Int32))), .val (.int len), .val (.int (128 : Int32)), .val (.int (191 : Int32)), .val (.int (2 : Int32)), .val (.int ((f1 (p1 + (1 : Int32))) &&& (255 : Int32)))] [(.int (2 : Int32)), (.int p1), (.ref a0)]))
              refine Go.step (fun _ k => XS.iadd X2.here hx rfl (hb hby d1_187) rfl k) ?_
              show Go _ _ _ _ _ _ _ (TJ2.setTop (mkF m 188 #[.val (.ref a0), .val (.int p1), .val (.int p2), .val (.int ((f1 p1) &&& (255 : Int32))), .val (.int len), .val (.int (128 : Int32)), .val (.int (191 : Int32)), .val (.int (2 : Int32)), .val (.int ((f1 (p1 + (1 : Int32))) &&& (255 : Int32)))] [(.int (p1 + (2 : Int32))), (.ref a0)]))
              have lo4 : ¬ (p1 + (2 : Int32)) < 0 := (by simp only [Int32.lt_iff_toInt_lt, ← Int32.toInt_inj, own_i_m3, own_i_m2, own_i_m1, own_i_0, own_i_1, own_i_2, own_i_3, own_i_4, own_i_5, own_i_7, own_i_15, own_i_31, own_i_63, own_i_128, own_i_143, own_i_144, own_i_159, own_i_160, own_i_191, own_i_192, own_i_194, own_i_223, own_i_224, own_i_225, own_i_237, own_i_239, own_i_240, own_i_241, own_i_243, own_i_244, own_i_248, own_i_255, own_i_2048, own_i_55296, own_i_57343, own_i_65536, own_i_1114111]; omega)
              have hi4 : (p1 + (2 : Int32)) < (5 : Int32) := (by simp only [Int32.lt_iff_toInt_lt, ← Int32.toInt_inj, own_i_m3, own_i_m2, own_i_m1, own_i_0, own_i_1, own_i_2, own_i_3, own_i_4, own_i_5, own_i_7, own_i_15, own_i_31, own_i_63, own_i_128, own_i_143, own_i_144, own_i_159, own_i_160, own_i_191, own_i_192, own_i_194, own_i_223, own_i_224, own_i_225, own_i_237, own_i_239, own_i_240, own_i_241, own_i_243, own_i_244, own_i_248, own_i_255, own_i_2048, own_i_55296, own_i_57343, own_i_65536, own_i_1114111]; omega)
              refine Go.step (Ai.baload X2 hx hZ e2 A_0 (j := (p1 + (2 : Int32))) lo4 hi4 (g := (mkF m 188 #[.val (.ref a0), .val (.int p1), .val (.int p2), .val (.int ((f1 p1) &&& (255 : Int32))), .val (.int len), .val (.int (128 : Int32)), .val (.int (191 : Int32)), .val (.int (2 : Int32)), .val (.int ((f1 (p1 + (1 : Int32))) &&& (255 : Int32)))] [(.int (p1 + (2 : Int32))), (.ref a0)])) rfl rfl (hb hby d1_188)) ?_
              show Go _ _ _ _ _ _ _ (TJ2.setTop (mkF m 189 #[.val (.ref a0), .val (.int p1), .val (.int p2), .val (.int ((f1 p1) &&& (255 : Int32))), .val (.int len), .val (.int (128 : Int32)), .val (.int (191 : Int32)), .val (.int (2 : Int32)), .val (.int ((f1 (p1 + (1 : Int32))) &&& (255 : Int32)))] [(.int (f1 (p1 + (2 : Int32))))]))
              refine Go.step (fun _ k => XS.sipush X2.here hx rfl (hb hby d1_189) k) ?_
              show Go _ _ _ _ _ _ _ (TJ2.setTop (mkF m 192 #[.val (.ref a0), .val (.int p1), .val (.int p2), .val (.int ((f1 p1) &&& (255 : Int32))), .val (.int len), .val (.int (128 : Int32)), .val (.int (191 : Int32)), .val (.int (2 : Int32)), .val (.int ((f1 (p1 + (1 : Int32))) &&& (255 : Int32)))] [(.int (255 : Int32)), (.int (f1 (p1 + (2 : Int32))))]))
              refine Go.step (fun _ k => XS.iand X2.here hx rfl (hb hby d1_192) rfl k) ?_
              show Go _ _ _ _ _ _ _ (TJ2.setTop (mkF m 193 #[.val (.ref a0), .val (.int p1), .val (.int p2), .val (.int ((f1 p1) &&& (255 : Int32))), .val (.int len), .val (.int (128 : Int32)), .val (.int (191 : Int32)), .val (.int (2 : Int32)), .val (.int ((f1 (p1 + (1 : Int32))) &&& (255 : Int32)))] [(.int ((f1 (p1 + (2 : Int32))) &&& (255 : Int32)))]))
              refine Go.step (fun _ k => XS.istore X2.here hx rfl (hb hby d1_193) rfl (l' := #[.val (.ref a0), .val (.int p1), .val (.int p2), .val (.int ((f1 p1) &&& (255 : Int32))), .val (.int len), .val (.int (128 : Int32)), .val (.int (191 : Int32)), .val (.int (2 : Int32)), .val (.int ((f1 (p1 + (2 : Int32))) &&& (255 : Int32)))]) rfl k) ?_
              show Go _ _ _ _ _ _ _ (TJ2.setTop (mkF m 195 #[.val (.ref a0), .val (.int p1), .val (.int p2), .val (.int ((f1 p1) &&& (255 : Int32))), .val (.int len), .val (.int (128 : Int32)), .val (.int (191 : Int32)), .val (.int (2 : Int32)), .val (.int ((f1 (p1 + (2 : Int32))) &&& (255 : Int32)))] []))
              refine Go.step (fun _ k => XS.iload X2.here hx rfl (hb hby d1_195) rfl  k) ?_
              show Go _ _ _ _ _ _ _ (TJ2.setTop (mkF m 197 #[.val (.ref a0), .val (.int p1), .val (.int p2), .val (.int ((f1 p1) &&& (255 : Int32))), .val (.int len), .val (.int (128 : Int32)), .val (.int (191 : Int32)), .val (.int (2 : Int32)), .val (.int ((f1 (p1 + (2 : Int32))) &&& (255 : Int32)))] [(.int ((f1 (p1 + (2 : Int32))) &&& (255 : Int32)))]))
              refine Go.step (fun _ k => XS.iload X2.here hx rfl (hb hby d1_197) rfl  k) ?_
              show Go _ _ _ _ _ _ _ (TJ2.setTop (mkF m 199 #[.val (.ref a0), .val (.int p1), .val (.int p2), .val (.int ((f1 p1) &&& (255 : Int32))), .val (.int len), .val (.int (128 : Int32)), .val (.int (191 : Int32)), .val (.int (2 : Int32)), .val (.int ((f1 (p1 + (2 : Int32))) &&& (255 : Int32)))] [(.int (128 : Int32)), (.int ((f1 (p1 + (2 : Int32))) &&& (255 : Int32)))]))
              by_cases hc199_1 : ((f1 (p1 + (2 : Int32))) &&& (255 : Int32)) < (128 : Int32)
              · skip
                refine Go.step (fun _ k => XS.icmpYes X2.here hx rfl (pc0 := 199) (pc' := 209) rfl (hb hby d1_199) rfl (tlt hc199_1).1 (by decide) (by decide) k) ?_
                show Go _ _ _ _ _ _ _ (TJ2.setTop (mkF m 209 #[.val (.ref a0), .val (.int p1), .val (.int p2), .val (.int ((f1 p1) &&& (255 : Int32))), .val (.int len), .val (.int (128 : Int32)), .val (.int (191 : Int32)), .val (.int (2 : Int32)), .val (.int ((f1 (p1 + (2 : Int32))) &&& (255 : Int32)))] []))
                refine Go.step (fun _ k => XS.iload X2.here hx rfl (hb hby d1_209) rfl  k) ?_
                show Go _ _ _ _ _ _ _ (TJ2.setTop (mkF m 211 #[.val (.ref a0), .val (.int p1), .val (.int p2), .val (.int ((f1 p1) &&& (255 : Int32))), .val (.int len), .val (.int (128 : Int32)), .val (.int (191 : Int32)), .val (.int (2 : Int32)), .val (.int ((f1 (p1 + (2 : Int32))) &&& (255 : Int32)))] [(.int (2 : Int32))]))
                refine Go.step (fun _ k => XS.ineg X2.here hx rfl (hb hby d1_211) rfl k) ?_
                show Go _ _ _ _ _ _ _ (TJ2.setTop (mkF m 212 #[.val (.ref a0), .val (.int p1), .val (.int p2), .val (.int ((f1 p1) &&& (255 : Int32))), .val (.int len), .val (.int (128 : Int32)), .val (.int (191 : Int32)), .val (.int (2 : Int32)), .val (.int ((f1 (p1 + (2 : Int32))) &&& (255 : Int32)))] [(.int (-(2 : Int32)))]))
                refine Go.retI X2 hx Bd.returns hlk (hb hby d1_212) ?_ (by decide) (by decide)
                rw [e2]
                exact ⟨(by
                    rw [hM]
                    refine congrArg (fun z => some (Value.int z)) ?_
                    simp only [Int32.lt_iff_toInt_lt, ← Int32.toInt_inj, own_i_m3, own_i_m2, own_i_m1, own_i_0, own_i_1, own_i_2, own_i_3, own_i_4, own_i_5, own_i_7, own_i_15, own_i_31, own_i_63, own_i_128, own_i_143, own_i_144, own_i_159, own_i_160, own_i_191, own_i_192, own_i_194, own_i_223, own_i_224, own_i_225, own_i_237, own_i_239, own_i_240, own_i_241, own_i_243, own_i_244, own_i_248, own_i_255, own_i_2048, own_i_55296, own_i_57343, own_i_65536, own_i_1114111] at hc168 hc176 hc199 hc206 hc168_1 hc176_1 hc199_1
                    unfold own_L own_L2 own_L3 own_L4
                    (repeat' split) <;> first | rfl | (exfalso; omega) | exact Int32.toInt_inj.mp (by simp only [own_i_m3, own_i_m2, own_i_m1, own_i_0, own_i_1, own_i_2, own_i_3, own_i_4, own_i_5, own_i_7, own_i_15, own_i_31, own_i_63, own_i_128, own_i_143, own_i_144, own_i_159, own_i_160, own_i_191, own_i_192, own_i_194, own_i_223, own_i_224, own_i_225, own_i_237, own_i_239, own_i_240, own_i_241, own_i_243, own_i_244, own_i_248, own_i_255, own_i_2048, own_i_55296, own_i_57343, own_i_65536, own_i_1114111]; omega)), N2, rfl⟩
              · skip
                refine Go.step (fun _ k => XS.icmpNo X2.here hx rfl (hb hby d1_199) rfl (flt hc199_1).1 k) ?_
                show Go _ _ _ _ _ _ _ (TJ2.setTop (mkF m 202 #[.val (.ref a0), .val (.int p1), .val (.int p2), .val (.int ((f1 p1) &&& (255 : Int32))), .val (.int len), .val (.int (128 : Int32)), .val (.int (191 : Int32)), .val (.int (2 : Int32)), .val (.int ((f1 (p1 + (2 : Int32))) &&& (255 : Int32)))] []))
                refine Go.step (fun _ k => XS.iload X2.here hx rfl (hb hby d1_202) rfl  k) ?_
                show Go _ _ _ _ _ _ _ (TJ2.setTop (mkF m 204 #[.val (.ref a0), .val (.int p1), .val (.int p2), .val (.int ((f1 p1) &&& (255 : Int32))), .val (.int len), .val (.int (128 : Int32)), .val (.int (191 : Int32)), .val (.int (2 : Int32)), .val (.int ((f1 (p1 + (2 : Int32))) &&& (255 : Int32)))] [(.int ((f1 (p1 + (2 : Int32))) &&& (255 : Int32)))]))
                refine Go.step (fun _ k => XS.iload X2.here hx rfl (hb hby d1_204) rfl  k) ?_
                show Go _ _ _ _ _ _ _ (TJ2.setTop (mkF m 206 #[.val (.ref a0), .val (.int p1), .val (.int p2), .val (.int ((f1 p1) &&& (255 : Int32))), .val (.int len), .val (.int (128 : Int32)), .val (.int (191 : Int32)), .val (.int (2 : Int32)), .val (.int ((f1 (p1 + (2 : Int32))) &&& (255 : Int32)))] [(.int (191 : Int32)), (.int ((f1 (p1 + (2 : Int32))) &&& (255 : Int32)))]))
                by_cases hc206_1 : (191 : Int32) < ((f1 (p1 + (2 : Int32))) &&& (255 : Int32))
                · skip
                  refine Go.step (fun _ k => XS.icmpNo X2.here hx rfl (hb hby d1_206) rfl (tlt hc206_1).2.2.2 k) ?_
                  show Go _ _ _ _ _ _ _ (TJ2.setTop (mkF m 209 #[.val (.ref a0), .val (.int p1), .val (.int p2), .val (.int ((f1 p1) &&& (255 : Int32))), .val (.int len), .val (.int (128 : Int32)), .val (.int (191 : Int32)), .val (.int (2 : Int32)), .val (.int ((f1 (p1 + (2 : Int32))) &&& (255 : Int32)))] []))
                  refine Go.step (fun _ k => XS.iload X2.here hx rfl (hb hby d1_209) rfl  k) ?_
                  show Go _ _ _ _ _ _ _ (TJ2.setTop (mkF m 211 #[.val (.ref a0), .val (.int p1), .val (.int p2), .val (.int ((f1 p1) &&& (255 : Int32))), .val (.int len), .val (.int (128 : Int32)), .val (.int (191 : Int32)), .val (.int (2 : Int32)), .val (.int ((f1 (p1 + (2 : Int32))) &&& (255 : Int32)))] [(.int (2 : Int32))]))
                  refine Go.step (fun _ k => XS.ineg X2.here hx rfl (hb hby d1_211) rfl k) ?_
                  show Go _ _ _ _ _ _ _ (TJ2.setTop (mkF m 212 #[.val (.ref a0), .val (.int p1), .val (.int p2), .val (.int ((f1 p1) &&& (255 : Int32))), .val (.int len), .val (.int (128 : Int32)), .val (.int (191 : Int32)), .val (.int (2 : Int32)), .val (.int ((f1 (p1 + (2 : Int32))) &&& (255 : Int32)))] [(.int (-(2 : Int32)))]))
                  refine Go.retI X2 hx Bd.returns hlk (hb hby d1_212) ?_ (by decide) (by decide)
                  rw [e2]
                  exact ⟨(by
                      rw [hM]
                      refine congrArg (fun z => some (Value.int z)) ?_
                      simp only [Int32.lt_iff_toInt_lt, ← Int32.toInt_inj, own_i_m3, own_i_m2, own_i_m1, own_i_0, own_i_1, own_i_2, own_i_3, own_i_4, own_i_5, own_i_7, own_i_15, own_i_31, own_i_63, own_i_128, own_i_143, own_i_144, own_i_159, own_i_160, own_i_191, own_i_192, own_i_194, own_i_223, own_i_224, own_i_225, own_i_237, own_i_239, own_i_240, own_i_241, own_i_243, own_i_244, own_i_248, own_i_255, own_i_2048, own_i_55296, own_i_57343, own_i_65536, own_i_1114111] at hc168 hc176 hc199 hc206 hc168_1 hc176_1 hc199_1 hc206_1
                      unfold own_L own_L2 own_L3 own_L4
                      (repeat' split) <;> first | rfl | (exfalso; omega) | exact Int32.toInt_inj.mp (by simp only [own_i_m3, own_i_m2, own_i_m1, own_i_0, own_i_1, own_i_2, own_i_3, own_i_4, own_i_5, own_i_7, own_i_15, own_i_31, own_i_63, own_i_128, own_i_143, own_i_144, own_i_159, own_i_160, own_i_191, own_i_192, own_i_194, own_i_223, own_i_224, own_i_225, own_i_237, own_i_239, own_i_240, own_i_241, own_i_243, own_i_244, own_i_248, own_i_255, own_i_2048, own_i_55296, own_i_57343, own_i_65536, own_i_1114111]; omega)), N2, rfl⟩
                · skip
                  refine Go.step (fun _ k => XS.icmpYes X2.here hx rfl (pc0 := 206) (pc' := 213) rfl (hb hby d1_206) rfl (flt hc206_1).2.2.2 (by decide) (by decide) k) ?_
                  show Go _ _ _ _ _ _ _ (TJ2.setTop (mkF m 213 #[.val (.ref a0), .val (.int p1), .val (.int p2), .val (.int ((f1 p1) &&& (255 : Int32))), .val (.int len), .val (.int (128 : Int32)), .val (.int (191 : Int32)), .val (.int (2 : Int32)), .val (.int ((f1 (p1 + (2 : Int32))) &&& (255 : Int32)))] []))
                  refine Go.step (fun _ k => XS.sipush X2.here hx rfl (hb hby d1_213) k) ?_
                  show Go _ _ _ _ _ _ _ (TJ2.setTop (mkF m 216 #[.val (.ref a0), .val (.int p1), .val (.int p2), .val (.int ((f1 p1) &&& (255 : Int32))), .val (.int len), .val (.int (128 : Int32)), .val (.int (191 : Int32)), .val (.int (2 : Int32)), .val (.int ((f1 (p1 + (2 : Int32))) &&& (255 : Int32)))] [(.int (128 : Int32))]))
                  refine Go.step (fun _ k => XS.istore X2.here hx rfl (hb hby d1_216) rfl (l' := #[.val (.ref a0), .val (.int p1), .val (.int p2), .val (.int ((f1 p1) &&& (255 : Int32))), .val (.int len), .val (.int (128 : Int32)), .val (.int (191 : Int32)), .val (.int (2 : Int32)), .val (.int ((f1 (p1 + (2 : Int32))) &&& (255 : Int32)))]) rfl k) ?_
                  show Go _ _ _ _ _ _ _ (TJ2.setTop (mkF m 218 #[.val (.ref a0), .val (.int p1), .val (.int p2), .val (.int ((f1 p1) &&& (255 : Int32))), .val (.int len), .val (.int (128 : Int32)), .val (.int (191 : Int32)), .val (.int (2 : Int32)), .val (.int ((f1 (p1 + (2 : Int32))) &&& (255 : Int32)))] []))
                  refine Go.step (fun _ k => XS.sipush X2.here hx rfl (hb hby d1_218) k) ?_
                  show Go _ _ _ _ _ _ _ (TJ2.setTop (mkF m 221 #[.val (.ref a0), .val (.int p1), .val (.int p2), .val (.int ((f1 p1) &&& (255 : Int32))), .val (.int len), .val (.int (128 : Int32)), .val (.int (191 : Int32)), .val (.int (2 : Int32)), .val (.int ((f1 (p1 + (2 : Int32))) &&& (255 : Int32)))] [(.int (191 : Int32))]))
                  refine Go.step (fun _ k => XS.istore X2.here hx rfl (hb hby d1_221) rfl (l' := #[.val (.ref a0), .val (.int p1), .val (.int p2), .val (.int ((f1 p1) &&& (255 : Int32))), .val (.int len), .val (.int (128 : Int32)), .val (.int (191 : Int32)), .val (.int (2 : Int32)), .val (.int ((f1 (p1 + (2 : Int32))) &&& (255 : Int32)))]) rfl k) ?_
                  show Go _ _ _ _ _ _ _ (TJ2.setTop (mkF m 223 #[.val (.ref a0), .val (.int p1), .val (.int p2), .val (.int ((f1 p1) &&& (255 : Int32))), .val (.int len), .val (.int (128 : Int32)), .val (.int (191 : Int32)), .val (.int (2 : Int32)), .val (.int ((f1 (p1 + (2 : Int32))) &&& (255 : Int32)))] []))
                  refine Go.step (fun _ k => XS.iinc X2.here hx rfl (hb hby d1_223) rfl (l' := #[.val (.ref a0), .val (.int p1), .val (.int p2), .val (.int ((f1 p1) &&& (255 : Int32))), .val (.int len), .val (.int (128 : Int32)), .val (.int (191 : Int32)), .val (.int (3 : Int32)), .val (.int ((f1 (p1 + (2 : Int32))) &&& (255 : Int32)))]) rfl k) ?_
                  show Go _ _ _ _ _ _ _ (TJ2.setTop (mkF m 226 #[.val (.ref a0), .val (.int p1), .val (.int p2), .val (.int ((f1 p1) &&& (255 : Int32))), .val (.int len), .val (.int (128 : Int32)), .val (.int (191 : Int32)), .val (.int (3 : Int32)), .val (.int ((f1 (p1 + (2 : Int32))) &&& (255 : Int32)))] []))
                  refine Go.step (fun _ k => XS.goto X2.here hx rfl (pc0 := 226) (pc' := 164) rfl (hb hby d1_226) (by decide) (by decide) k) ?_
                  show Go _ _ _ _ _ _ _ (TJ2.setTop (mkF m 164 #[.val (.ref a0), .val (.int p1), .val (.int p2), .val (.int ((f1 p1) &&& (255 : Int32))), .val (.int len), .val (.int (128 : Int32)), .val (.int (191 : Int32)), .val (.int (3 : Int32)), .val (.int ((f1 (p1 + (2 : Int32))) &&& (255 : Int32)))] []))
                  refine Go.step (fun _ k => XS.iload X2.here hx rfl (hb hby d1_164) rfl  k) ?_
                  show Go _ _ _ _ _ _ _ (TJ2.setTop (mkF m 166 #[.val (.ref a0), .val (.int p1), .val (.int p2), .val (.int ((f1 p1) &&& (255 : Int32))), .val (.int len), .val (.int (128 : Int32)), .val (.int (191 : Int32)), .val (.int (3 : Int32)), .val (.int ((f1 (p1 + (2 : Int32))) &&& (255 : Int32)))] [(.int (3 : Int32))]))
                  refine Go.step (fun _ k => XS.iload X2.here hx rfl (hb hby d1_166) rfl  k) ?_
                  show Go _ _ _ _ _ _ _ (TJ2.setTop (mkF m 168 #[.val (.ref a0), .val (.int p1), .val (.int p2), .val (.int ((f1 p1) &&& (255 : Int32))), .val (.int len), .val (.int (128 : Int32)), .val (.int (191 : Int32)), .val (.int (3 : Int32)), .val (.int ((f1 (p1 + (2 : Int32))) &&& (255 : Int32)))] [(.int len), (.int (3 : Int32))]))
                  by_cases hc168_2 : (3 : Int32) < len
                  · skip
                    refine Go.step (fun _ k => XS.icmpNo X2.here hx rfl (hb hby d1_168) rfl (tlt hc168_2).2.1 k) ?_
                    show Go _ _ _ _ _ _ _ (TJ2.setTop (mkF m 171 #[.val (.ref a0), .val (.int p1), .val (.int p2), .val (.int ((f1 p1) &&& (255 : Int32))), .val (.int len), .val (.int (128 : Int32)), .val (.int (191 : Int32)), .val (.int (3 : Int32)), .val (.int ((f1 (p1 + (2 : Int32))) &&& (255 : Int32)))] []))
                    refine Go.step (fun _ k => XS.iloadN X2.here hx rfl (hb hby d1_171) rfl  k) ?_
                    show Go _ _ _ _ _ _ _ (TJ2.setTop (mkF m 172 #[.val (.ref a0), .val (.int p1), .val (.int p2), .val (.int ((f1 p1) &&& (255 : Int32))), .val (.int len), .val (.int (128 : Int32)), .val (.int (191 : Int32)), .val (.int (3 : Int32)), .val (.int ((f1 (p1 + (2 : Int32))) &&& (255 : Int32)))] [(.int p1)]))
                    refine Go.step (fun _ k => XS.iload X2.here hx rfl (hb hby d1_172) rfl  k) ?_
                    show Go _ _ _ _ _ _ _ (TJ2.setTop (mkF m 174 #[.val (.ref a0), .val (.int p1), .val (.int p2), .val (.int ((f1 p1) &&& (255 : Int32))), .val (.int len), .val (.int (128 : Int32)), .val (.int (191 : Int32)), .val (.int (3 : Int32)), .val (.int ((f1 (p1 + (2 : Int32))) &&& (255 : Int32)))] [(.int (3 : Int32)), (.int p1)]))
                    refine Go.step (fun _ k => XS.iadd X2.here hx rfl (hb hby d1_174) rfl k) ?_
                    show Go _ _ _ _ _ _ _ (TJ2.setTop (mkF m 175 #[.val (.ref a0), .val (.int p1), .val (.int p2), .val (.int ((f1 p1) &&& (255 : Int32))), .val (.int len), .val (.int (128 : Int32)), .val (.int (191 : Int32)), .val (.int (3 : Int32)), .val (.int ((f1 (p1 + (2 : Int32))) &&& (255 : Int32)))] [(.int (p1 + (3 : Int32)))]))
                    refine Go.step (fun _ k => XS.iloadN X2.here hx rfl (hb hby d1_175) rfl  k) ?_
                    show Go _ _ _ _ _ _ _ (TJ2.setTop (mkF m 176 #[.val (.ref a0), .val (.int p1), .val (.int p2), .val (.int ((f1 p1) &&& (255 : Int32))), .val (.int len), .val (.int (128 : Int32)), .val (.int (191 : Int32)), .val (.int (3 : Int32)), .val (.int ((f1 (p1 + (2 : Int32))) &&& (255 : Int32)))] [(.int p2), (.int (p1 + (3 : Int32)))]))
                    by_cases hc176_2 : (p1 + (3 : Int32)) < p2
                    · skip
                      refine Go.step (fun _ k => XS.icmpYes X2.here hx rfl (pc0 := 176) (pc' := 183) rfl (hb hby d1_176) rfl (tlt hc176_2).1 (by decide) (by decide) k) ?_
                      show Go _ _ _ _ _ _ _ (TJ2.setTop (mkF m 183 #[.val (.ref a0), .val (.int p1), .val (.int p2), .val (.int ((f1 p1) &&& (255 : Int32))), .val (.int len), .val (.int (128 : Int32)), .val (.int (191 : Int32)), .val (.int (3 : Int32)), .val (.int ((f1 (p1 + (2 : Int32))) &&& (255 : Int32)))] []))
                      refine Go.step (fun _ k => XS.aloadN X2.here hx rfl (hb hby d1_183) rfl rfl  k) ?_
                      show Go _ _ _ _ _ _ _ (TJ2.setTop (mkF m 184 #[.val (.ref a0), .val (.int p1), .val (.int p2), .val (.int ((f1 p1) &&& (255 : Int32))), .val (.int len), .val (.int (128 : Int32)), .val (.int (191 : Int32)), .val (.int (3 : Int32)), .val (.int ((f1 (p1 + (2 : Int32))) &&& (255 : Int32)))] [(.ref a0)]))
                      refine Go.step (fun _ k => XS.iloadN X2.here hx rfl (hb hby d1_184) rfl  k) ?_
                      show Go _ _ _ _ _ _ _ (TJ2.setTop (mkF m 185 #[.val (.ref a0), .val (.int p1), .val (.int p2), .val (.int ((f1 p1) &&& (255 : Int32))), .val (.int len), .val (.int (128 : Int32)), .val (.int (191 : Int32)), .val (.int (3 : Int32)), .val (.int ((f1 (p1 + (2 : Int32))) &&& (255 : Int32)))] [(.int p1), (.ref a0)]))
                      refine Go.step (fun _ k => XS.iload X2.here hx rfl (hb hby d1_185) rfl  k) ?_
                      show Go _ _ _ _ _ _ _ (TJ2.setTop (mkF m 187 #[.val (.ref a0), .val (.int p1), .val (.int p2), .val (.int ((f1 p1) &&& (255 : Int32))), .val (.int len), .val (.int (128 : Int32)), .val (.int (191 : Int32)), .val (.int (3 : Int32)), .val (.int ((f1 (p1 + (2 : Int32))) &&& (255 : Int32)))] [(.int (3 : Int32)), (.int p1), (.ref a0)]))
                      refine Go.step (fun _ k => XS.iadd X2.here hx rfl (hb hby d1_187) rfl k) ?_
                      show Go _ _ _ _ _ _ _ (TJ2.setTop (mkF m 188 #[.val (.ref a0), .val (.int p1), .val (.int p2), .val (.int ((f1 p1) &&& (255 : Int32))), .val (.int len), .val (.int (128 : Int32)), .val (.int (191 : Int32)), .val (.int (3 : Int32)), .val (.int ((f1 (p1 + (2 : Int32))) &&& (255 : Int32)))] [(.int (p1 + (3 : Int32))), (.ref a0)]))
                      have lo5 : ¬ (p1 + (3 : Int32)) < 0 := (by simp only [Int32.lt_iff_toInt_lt, ← Int32.toInt_inj, own_i_m3, own_i_m2, own_i_m1, own_i_0, own_i_1, own_i_2, own_i_3, own_i_4, own_i_5, own_i_7, own_i_15, own_i_31, own_i_63, own_i_128, own_i_143, own_i_144, own_i_159, own_i_160, own_i_191, own_i_192, own_i_194, own_i_223, own_i_224, own_i_225, own_i_237, own_i_239, own_i_240, own_i_241, own_i_243, own_i_244, own_i_248, own_i_255, own_i_2048, own_i_55296, own_i_57343, own_i_65536, own_i_1114111]; omega)
                      have hi5 : (p1 + (3 : Int32)) < (5 : Int32) := (by simp only [Int32.lt_iff_toInt_lt, ← Int32.toInt_inj, own_i_m3, own_i_m2, own_i_m1, own_i_0, own_i_1, own_i_2, own_i_3, own_i_4, own_i_5, own_i_7, own_i_15, own_i_31, own_i_63, own_i_128, own_i_143, own_i_144, own_i_159, own_i_160, own_i_191, own_i_192, own_i_194, own_i_223, own_i_224, own_i_225, own_i_237, own_i_239, own_i_240, own_i_241, own_i_243, own_i_244, own_i_248, own_i_255, own_i_2048, own_i_55296, own_i_57343, own_i_65536, own_i_1114111]; omega)
                      refine Go.step (Ai.baload X2 hx hZ e2 A_0 (j := (p1 + (3 : Int32))) lo5 hi5 (g := (mkF m 188 #[.val (.ref a0), .val (.int p1), .val (.int p2), .val (.int ((f1 p1) &&& (255 : Int32))), .val (.int len), .val (.int (128 : Int32)), .val (.int (191 : Int32)), .val (.int (3 : Int32)), .val (.int ((f1 (p1 + (2 : Int32))) &&& (255 : Int32)))] [(.int (p1 + (3 : Int32))), (.ref a0)])) rfl rfl (hb hby d1_188)) ?_
                      show Go _ _ _ _ _ _ _ (TJ2.setTop (mkF m 189 #[.val (.ref a0), .val (.int p1), .val (.int p2), .val (.int ((f1 p1) &&& (255 : Int32))), .val (.int len), .val (.int (128 : Int32)), .val (.int (191 : Int32)), .val (.int (3 : Int32)), .val (.int ((f1 (p1 + (2 : Int32))) &&& (255 : Int32)))] [(.int (f1 (p1 + (3 : Int32))))]))
                      refine Go.step (fun _ k => XS.sipush X2.here hx rfl (hb hby d1_189) k) ?_
                      show Go _ _ _ _ _ _ _ (TJ2.setTop (mkF m 192 #[.val (.ref a0), .val (.int p1), .val (.int p2), .val (.int ((f1 p1) &&& (255 : Int32))), .val (.int len), .val (.int (128 : Int32)), .val (.int (191 : Int32)), .val (.int (3 : Int32)), .val (.int ((f1 (p1 + (2 : Int32))) &&& (255 : Int32)))] [(.int (255 : Int32)), (.int (f1 (p1 + (3 : Int32))))]))
                      refine Go.step (fun _ k => XS.iand X2.here hx rfl (hb hby d1_192) rfl k) ?_
                      show Go _ _ _ _ _ _ _ (TJ2.setTop (mkF m 193 #[.val (.ref a0), .val (.int p1), .val (.int p2), .val (.int ((f1 p1) &&& (255 : Int32))), .val (.int len), .val (.int (128 : Int32)), .val (.int (191 : Int32)), .val (.int (3 : Int32)), .val (.int ((f1 (p1 + (2 : Int32))) &&& (255 : Int32)))] [(.int ((f1 (p1 + (3 : Int32))) &&& (255 : Int32)))]))
                      refine Go.step (fun _ k => XS.istore X2.here hx rfl (hb hby d1_193) rfl (l' := #[.val (.ref a0), .val (.int p1), .val (.int p2), .val (.int ((f1 p1) &&& (255 : Int32))), .val (.int len), .val (.int (128 : Int32)), .val (.int (191 : Int32)), .val (.int (3 : Int32)), .val (.int ((f1 (p1 + (3 : Int32))) &&& (255 : Int32)))]) rfl k) ?_
                      show Go _ _ _ _ _ _ _ (TJ2.setTop (mkF m 195 #[.val (.ref a0), .val (.int p1), .val (.int p2), .val (.int ((f1 p1) &&& (255 : Int32))), .val (.int len), .val (.int (128 : Int32)), .val (.int (191 : Int32)), .val (.int (3 : Int32)), .val (.int ((f1 (p1 + (3 : Int32))) &&& (255 : Int32)))] []))
                      refine Go.step (fun _ k => XS.iload X2.here hx rfl (hb hby d1_195) rfl  k) ?_
                      show Go _ _ _ _ _ _ _ (TJ2.setTop (mkF m 197 #[.val (.ref a0), .val (.int p1), .val (.int p2), .val (.int ((f1 p1) &&& (255 : Int32))), .val (.int len), .val (.int (128 : Int32)), .val (.int (191 : Int32)), .val (.int (3 : Int32)), .val (.int ((f1 (p1 + (3 : Int32))) &&& (255 : Int32)))] [(.int ((f1 (p1 + (3 : Int32))) &&& (255 : Int32)))]))
                      refine Go.step (fun _ k => XS.iload X2.here hx rfl (hb hby d1_197) rfl  k) ?_
                      show Go _ _ _ _ _ _ _ (TJ2.setTop (mkF m 199 #[.val (.ref a0), .val (.int p1), .val (.int p2), .val (.int ((f1 p1) &&& (255 : Int32))), .val (.int len), .val (.int (128 : Int32)), .val (.int (191 : Int32)), .val (.int (3 : Int32)), .val (.int ((f1 (p1 + (3 : Int32))) &&& (255 : Int32)))] [(.int (128 : Int32)), (.int ((f1 (p1 + (3 : Int32))) &&& (255 : Int32)))]))
                      by_cases hc199_2 : ((f1 (p1 + (3 : Int32))) &&& (255 : Int32)) < (128 : Int32)
                      · skip
                        refine Go.step (fun _ k => XS.icmpYes X2.here hx rfl (pc0 := 199) (pc' := 209) rfl (hb hby d1_199) rfl (tlt hc199_2).1 (by decide) (by decide) k) ?_
                        show Go _ _ _ _ _ _ _ (TJ2.setTop (mkF m 209 #[.val (.ref a0), .val (.int p1), .val (.int p2), .val (.int ((f1 p1) &&& (255 : Int32))), .val (.int len), .val (.int (128 : Int32)), .val (.int (191 : Int32)), .val (.int (3 : Int32)), .val (.int ((f1 (p1 + (3 : Int32))) &&& (255 : Int32)))] []))
                        refine Go.step (fun _ k => XS.iload X2.here hx rfl (hb hby d1_209) rfl  k) ?_
                        show Go _ _ _ _ _ _ _ (TJ2.setTop (mkF m 211 #[.val (.ref a0), .val (.int p1), .val (.int p2), .val (.int ((f1 p1) &&& (255 : Int32))), .val (.int len), .val (.int (128 : Int32)), .val (.int (191 : Int32)), .val (.int (3 : Int32)), .val (.int ((f1 (p1 + (3 : Int32))) &&& (255 : Int32)))] [(.int (3 : Int32))]))
                        refine Go.step (fun _ k => XS.ineg X2.here hx rfl (hb hby d1_211) rfl k) ?_
                        show Go _ _ _ _ _ _ _ (TJ2.setTop (mkF m 212 #[.val (.ref a0), .val (.int p1), .val (.int p2), .val (.int ((f1 p1) &&& (255 : Int32))), .val (.int len), .val (.int (128 : Int32)), .val (.int (191 : Int32)), .val (.int (3 : Int32)), .val (.int ((f1 (p1 + (3 : Int32))) &&& (255 : Int32)))] [(.int (-(3 : Int32)))]))
                        refine Go.retI X2 hx Bd.returns hlk (hb hby d1_212) ?_ (by decide) (by decide)
                        rw [e2]
                        exact ⟨(by
                            rw [hM]
                            refine congrArg (fun z => some (Value.int z)) ?_
                            simp only [Int32.lt_iff_toInt_lt, ← Int32.toInt_inj, own_i_m3, own_i_m2, own_i_m1, own_i_0, own_i_1, own_i_2, own_i_3, own_i_4, own_i_5, own_i_7, own_i_15, own_i_31, own_i_63, own_i_128, own_i_143, own_i_144, own_i_159, own_i_160, own_i_191, own_i_192, own_i_194, own_i_223, own_i_224, own_i_225, own_i_237, own_i_239, own_i_240, own_i_241, own_i_243, own_i_244, own_i_248, own_i_255, own_i_2048, own_i_55296, own_i_57343, own_i_65536, own_i_1114111] at hc168 hc176 hc199 hc206 hc168_1 hc176_1 hc199_1 hc206_1 hc168_2 hc176_2 hc199_2
                            unfold own_L own_L2 own_L3 own_L4
                            (repeat' split) <;> first | rfl | (exfalso; omega) | exact Int32.toInt_inj.mp (by simp only [own_i_m3, own_i_m2, own_i_m1, own_i_0, own_i_1, own_i_2, own_i_3, own_i_4, own_i_5, own_i_7, own_i_15, own_i_31, own_i_63, own_i_128, own_i_143, own_i_144, own_i_159, own_i_160, own_i_191, own_i_192, own_i_194, own_i_223, own_i_224, own_i_225, own_i_237, own_i_239, own_i_240, own_i_241, own_i_243, own_i_244, own_i_248, own_i_255, own_i_2048, own_i_55296, own_i_57343, own_i_65536, own_i_1114111]; omega)), N2, rfl⟩
                      · skip
                        refine Go.step (fun _ k => XS.icmpNo X2.here hx rfl (hb hby d1_199) rfl (flt hc199_2).1 k) ?_
                        show Go _ _ _ _ _ _ _ (TJ2.setTop (mkF m 202 #[.val (.ref a0), .val (.int p1), .val (.int p2), .val (.int ((f1 p1) &&& (255 : Int32))), .val (.int len), .val (.int (128 : Int32)), .val (.int (191 : Int32)), .val (.int (3 : Int32)), .val (.int ((f1 (p1 + (3 : Int32))) &&& (255 : Int32)))] []))
                        refine Go.step (fun _ k => XS.iload X2.here hx rfl (hb hby d1_202) rfl  k) ?_
                        show Go _ _ _ _ _ _ _ (TJ2.setTop (mkF m 204 #[.val (.ref a0), .val (.int p1), .val (.int p2), .val (.int ((f1 p1) &&& (255 : Int32))), .val (.int len), .val (.int (128 : Int32)), .val (.int (191 : Int32)), .val (.int (3 : Int32)), .val (.int ((f1 (p1 + (3 : Int32))) &&& (255 : Int32)))] [(.int ((f1 (p1 + (3 : Int32))) &&& (255 : Int32)))]))
                        refine Go.step (fun _ k => XS.iload X2.here hx rfl (hb hby d1_204) rfl  k) ?_
                        show Go _ _ _ _ _ _ _ (TJ2.setTop (mkF m 206 #[.val (.ref a0), .val (.int p1), .val (.int p2), .val (.int ((f1 p1) &&& (255 : Int32))), .val (.int len), .val (.int (128 : Int32)), .val (.int (191 : Int32)), .val (.int (3 : Int32)), .val (.int ((f1 (p1 + (3 : Int32))) &&& (255 : Int32)))] [(.int (191 : Int32)), (.int ((f1 (p1 + (3 : Int32))) &&& (255 : Int32)))]))
                        by_cases hc206_2 : (191 : Int32) < ((f1 (p1 + (3 : Int32))) &&& (255 : Int32))
                        · skip
                          refine Go.step (fun _ k => XS.icmpNo X2.here hx rfl (hb hby d1_206) rfl (tlt hc206_2).2.2.2 k) ?_
                          show Go _ _ _ _ _ _ _ (TJ2.setTop (mkF m 209 #[.val (.ref a0), .val (.int p1), .val (.int p2), .val (.int ((f1 p1) &&& (255 : Int32))), .val (.int len), .val (.int (128 : Int32)), .val (.int (191 : Int32)), .val (.int (3 : Int32)), .val (.int ((f1 (p1 + (3 : Int32))) &&& (255 : Int32)))] []))
                          refine Go.step (fun _ k => XS.iload X2.here hx rfl (hb hby d1_209) rfl  k) ?_
                          show Go _ _ _ _ _ _ _ (TJ2.setTop (mkF m 211 #[.val (.ref a0), .val (.int p1), .val (.int p2), .val (.int ((f1 p1) &&& (255 : Int32))), .val (.int len), .val (.int (128 : Int32)), .val (.int (191 : Int32)), .val (.int (3 : Int32)), .val (.int ((f1 (p1 + (3 : Int32))) &&& (255 : Int32)))] [(.int (3 : Int32))]))
                          refine Go.step (fun _ k => XS.ineg X2.here hx rfl (hb hby d1_211) rfl k) ?_
                          show Go _ _ _ _ _ _ _ (TJ2.setTop (mkF m 212 #[.val (.ref a0), .val (.int p1), .val (.int p2), .val (.int ((f1 p1) &&& (255 : Int32))), .val (.int len), .val (.int (128 : Int32)), .val (.int (191 : Int32)), .val (.int (3 : Int32)), .val (.int ((f1 (p1 + (3 : Int32))) &&& (255 : Int32)))] [(.int (-(3 : Int32)))]))
                          refine Go.retI X2 hx Bd.returns hlk (hb hby d1_212) ?_ (by decide) (by decide)
                          rw [e2]
                          exact ⟨(by
                              rw [hM]
                              refine congrArg (fun z => some (Value.int z)) ?_
                              simp only [Int32.lt_iff_toInt_lt, ← Int32.toInt_inj, own_i_m3, own_i_m2, own_i_m1, own_i_0, own_i_1, own_i_2, own_i_3, own_i_4, own_i_5, own_i_7, own_i_15, own_i_31, own_i_63, own_i_128, own_i_143, own_i_144, own_i_159, own_i_160, own_i_191, own_i_192, own_i_194, own_i_223, own_i_224, own_i_225, own_i_237, own_i_239, own_i_240, own_i_241, own_i_243, own_i_244, own_i_248, own_i_255, own_i_2048, own_i_55296, own_i_57343, own_i_65536, own_i_1114111] at hc168 hc176 hc199 hc206 hc168_1 hc176_1 hc199_1 hc206_1 hc168_2 hc176_2 hc199_2 hc206_2
                              unfold own_L own_L2 own_L3 own_L4
                              (repeat' split) <;> first | rfl | (exfalso; omega) | exact Int32.toInt_inj.mp (by simp only [own_i_m3, own_i_m2, own_i_m1, own_i_0, own_i_1, own_i_2, own_i_3, own_i_4, own_i_5, own_i_7, own_i_15, own_i_31, own_i_63, own_i_128, own_i_143, own_i_144, own_i_159, own_i_160, own_i_191, own_i_192, own_i_194, own_i_223, own_i_224, own_i_225, own_i_237, own_i_239, own_i_240, own_i_241, own_i_243, own_i_244, own_i_248, own_i_255, own_i_2048, own_i_55296, own_i_57343, own_i_65536, own_i_1114111]; omega)), N2, rfl⟩
                        · skip
                          refine Go.step (fun _ k => XS.icmpYes X2.here hx rfl (pc0 := 206) (pc' := 213) rfl (hb hby d1_206) rfl (flt hc206_2).2.2.2 (by decide) (by decide) k) ?_
                          show Go _ _ _ _ _ _ _ (TJ2.setTop (mkF m 213 #[.val (.ref a0), .val (.int p1), .val (.int p2), .val (.int ((f1 p1) &&& (255 : Int32))), .val (.int len), .val (.int (128 : Int32)), .val (.int (191 : Int32)), .val (.int (3 : Int32)), .val (.int ((f1 (p1 + (3 : Int32))) &&& (255 : Int32)))] []))
                          refine Go.step (fun _ k => XS.sipush X2.here hx rfl (hb hby d1_213) k) ?_
                          show Go _ _ _ _ _ _ _ (TJ2.setTop (mkF m 216 #[.val (.ref a0), .val (.int p1), .val (.int p2), .val (.int ((f1 p1) &&& (255 : Int32))), .val (.int len), .val (.int (128 : Int32)), .val (.int (191 : Int32)), .val (.int (3 : Int32)), .val (.int ((f1 (p1 + (3 : Int32))) &&& (255 : Int32)))] [(.int (128 : Int32))]))
                          refine Go.step (fun _ k => XS.istore X2.here hx rfl (hb hby d1_216) rfl (l' := #[.val (.ref a0), .val (.int p1), .val (.int p2), .val (.int ((f1 p1) &&& (255 : Int32))), .val (.int len), .val (.int (128 : Int32)), .val (.int (191 : Int32)), .val (.int (3 : Int32)), .val (.int ((f1 (p1 + (3 : Int32))) &&& (255 : Int32)))]) rfl k) ?_
                          show Go _ _ _ _ _ _ _ (TJ2.setTop (mkF m 218 #[.val (.ref a0), .val (.int p1), .val (.int p2), .val (.int ((f1 p1) &&& (255 : Int32))), .val (.int len), .val (.int (128 : Int32)), .val (.int (191 : Int32)), .val (.int (3 : Int32)), .val (.int ((f1 (p1 + (3 : Int32))) &&& (255 : Int32)))] []))
                          refine Go.step (fun _ k => XS.sipush X2.here hx rfl (hb hby d1_218) k) ?_
                          show Go _ _ _ _ _ _ _ (TJ2.setTop (mkF m 221 #[.val (.ref a0), .val (.int p1), .val (.int p2), .val (.int ((f1 p1) &&& (255 : Int32))), .val (.int len), .val (.int (128 : Int32)), .val (.int (191 : Int32)), .val (.int (3 : Int32)), .val (.int ((f1 (p1 + (3 : Int32))) &&& (255 : Int32)))] [(.int (191 : Int32))]))
                          refine Go.step (fun _ k => XS.istore X2.here hx rfl (hb hby d1_221) rfl (l' := #[.val (.ref a0), .val (.int p1), .val (.int p2), .val (.int ((f1 p1) &&& (255 : Int32))), .val (.int len), .val (.int (128 : Int32)), .val (.int (191 : Int32)), .val (.int (3 : Int32)), .val (.int ((f1 (p1 + (3 : Int32))) &&& (255 : Int32)))]) rfl k) ?_
                          show Go _ _ _ _ _ _ _ (TJ2.setTop (mkF m 223 #[.val (.ref a0), .val (.int p1), .val (.int p2), .val (.int ((f1 p1) &&& (255 : Int32))), .val (.int len), .val (.int (128 : Int32)), .val (.int (191 : Int32)), .val (.int (3 : Int32)), .val (.int ((f1 (p1 + (3 : Int32))) &&& (255 : Int32)))] []))
                          refine Go.step (fun _ k => XS.iinc X2.here hx rfl (hb hby d1_223) rfl (l' := #[.val (.ref a0), .val (.int p1), .val (.int p2), .val (.int ((f1 p1) &&& (255 : Int32))), .val (.int len), .val (.int (128 : Int32)), .val (.int (191 : Int32)), .val (.int (4 : Int32)), .val (.int ((f1 (p1 + (3 : Int32))) &&& (255 : Int32)))]) rfl k) ?_
                          show Go _ _ _ _ _ _ _ (TJ2.setTop (mkF m 226 #[.val (.ref a0), .val (.int p1), .val (.int p2), .val (.int ((f1 p1) &&& (255 : Int32))), .val (.int len), .val (.int (128 : Int32)), .val (.int (191 : Int32)), .val (.int (4 : Int32)), .val (.int ((f1 (p1 + (3 : Int32))) &&& (255 : Int32)))] []))
                          refine Go.step (fun _ k => XS.goto X2.here hx rfl (pc0 := 226) (pc' := 164) rfl (hb hby d1_226) (by decide) (by decide) k) ?_
                          show Go _ _ _ _ _ _ _ (TJ2.setTop (mkF m 164 #[.val (.ref a0), .val (.int p1), .val (.int p2), .val (.int ((f1 p1) &&& (255 : Int32))), .val (.int len), .val (.int (128 : Int32)), .val (.int (191 : Int32)), .val (.int (4 : Int32)), .val (.int ((f1 (p1 + (3 : Int32))) &&& (255 : Int32)))] []))
                          refine Go.step (fun _ k => XS.iload X2.here hx rfl (hb hby d1_164) rfl  k) ?_
                          show Go _ _ _ _ _ _ _ (TJ2.setTop (mkF m 166 #[.val (.ref a0), .val (.int p1), .val (.int p2), .val (.int ((f1 p1) &&& (255 : Int32))), .val (.int len), .val (.int (128 : Int32)), .val (.int (191 : Int32)), .val (.int (4 : Int32)), .val (.int ((f1 (p1 + (3 : Int32))) &&& (255 : Int32)))] [(.int (4 : Int32))]))
                          refine Go.step (fun _ k => XS.iload X2.here hx rfl (hb hby d1_166) rfl  k) ?_
                          show Go _ _ _ _ _ _ _ (TJ2.setTop (mkF m 168 #[.val (.ref a0), .val (.int p1), .val (.int p2), .val (.int ((f1 p1) &&& (255 : Int32))), .val (.int len), .val (.int (128 : Int32)), .val (.int (191 : Int32)), .val (.int (4 : Int32)), .val (.int ((f1 (p1 + (3 : Int32))) &&& (255 : Int32)))] [(.int len), (.int (4 : Int32))]))
                          have hc168_3 : ¬ ((4 : Int32) < len) := by simp only [Int32.lt_iff_toInt_lt, ← Int32.toInt_inj, own_i_m3, own_i_m2, own_i_m1, own_i_0, own_i_1, own_i_2, own_i_3, own_i_4, own_i_5, own_i_7, own_i_15, own_i_31, own_i_63, own_i_128, own_i_143, own_i_144, own_i_159, own_i_160, own_i_191, own_i_192, own_i_194, own_i_223, own_i_224, own_i_225, own_i_237, own_i_239, own_i_240, own_i_241, own_i_243, own_i_244, own_i_248, own_i_255, own_i_2048, own_i_55296, own_i_57343, own_i_65536, own_i_1114111]; omega
                          refine Go.step (fun _ k => XS.icmpYes X2.here hx rfl (pc0 := 168) (pc' := 229) rfl (hb hby d1_168) rfl (flt hc168_3).2.1 (by decide) (by decide) k) ?_
                          show Go _ _ _ _ _ _ _ (TJ2.setTop (mkF m 229 #[.val (.ref a0), .val (.int p1), .val (.int p2), .val (.int ((f1 p1) &&& (255 : Int32))), .val (.int len), .val (.int (128 : Int32)), .val (.int (191 : Int32)), .val (.int (4 : Int32)), .val (.int ((f1 (p1 + (3 : Int32))) &&& (255 : Int32)))] []))
                          refine Go.step (fun _ k => XS.iload X2.here hx rfl (hb hby d1_229) rfl  k) ?_
                          show Go _ _ _ _ _ _ _ (TJ2.setTop (mkF m 231 #[.val (.ref a0), .val (.int p1), .val (.int p2), .val (.int ((f1 p1) &&& (255 : Int32))), .val (.int len), .val (.int (128 : Int32)), .val (.int (191 : Int32)), .val (.int (4 : Int32)), .val (.int ((f1 (p1 + (3 : Int32))) &&& (255 : Int32)))] [(.int len)]))
                          refine Go.retI X2 hx Bd.returns hlk (hb hby d1_231) ?_ (by decide) (by decide)
                          rw [e2]
                          exact ⟨(by
                              rw [hM]
                              refine congrArg (fun z => some (Value.int z)) ?_
                              simp only [Int32.lt_iff_toInt_lt, ← Int32.toInt_inj, own_i_m3, own_i_m2, own_i_m1, own_i_0, own_i_1, own_i_2, own_i_3, own_i_4, own_i_5, own_i_7, own_i_15, own_i_31, own_i_63, own_i_128, own_i_143, own_i_144, own_i_159, own_i_160, own_i_191, own_i_192, own_i_194, own_i_223, own_i_224, own_i_225, own_i_237, own_i_239, own_i_240, own_i_241, own_i_243, own_i_244, own_i_248, own_i_255, own_i_2048, own_i_55296, own_i_57343, own_i_65536, own_i_1114111] at hc168 hc176 hc199 hc206 hc168_1 hc176_1 hc199_1 hc206_1 hc168_2 hc176_2 hc199_2 hc206_2 hc168_3
                              unfold own_L own_L2 own_L3 own_L4
                              (repeat' split) <;> first | rfl | (exfalso; omega) | exact Int32.toInt_inj.mp (by simp only [own_i_m3, own_i_m2, own_i_m1, own_i_0, own_i_1, own_i_2, own_i_3, own_i_4, own_i_5, own_i_7, own_i_15, own_i_31, own_i_63, own_i_128, own_i_143, own_i_144, own_i_159, own_i_160, own_i_191, own_i_192, own_i_194, own_i_223, own_i_224, own_i_225, own_i_237, own_i_239, own_i_240, own_i_241, own_i_243, own_i_244, own_i_248, own_i_255, own_i_2048, own_i_55296, own_i_57343, own_i_65536, own_i_1114111]; omega)), N2, rfl⟩
                    · skip
                      refine Go.step (fun _ k => XS.icmpNo X2.here hx rfl (hb hby d1_176) rfl (flt hc176_2).1 k) ?_
                      show Go _ _ _ _ _ _ _ (TJ2.setTop (mkF m 179 #[.val (.ref a0), .val (.int p1), .val (.int p2), .val (.int ((f1 p1) &&& (255 : Int32))), .val (.int len), .val (.int (128 : Int32)), .val (.int (191 : Int32)), .val (.int (3 : Int32)), .val (.int ((f1 (p1 + (2 : Int32))) &&& (255 : Int32)))] []))
                      refine Go.step (fun _ k => XS.iload X2.here hx rfl (hb hby d1_179) rfl  k) ?_
                      show Go _ _ _ _ _ _ _ (TJ2.setTop (mkF m 181 #[.val (.ref a0), .val (.int p1), .val (.int p2), .val (.int ((f1 p1) &&& (255 : Int32))), .val (.int len), .val (.int (128 : Int32)), .val (.int (191 : Int32)), .val (.int (3 : Int32)), .val (.int ((f1 (p1 + (2 : Int32))) &&& (255 : Int32)))] [(.int (3 : Int32))]))
                      refine Go.step (fun _ k => XS.ineg X2.here hx rfl (hb hby d1_181) rfl k) ?_
                      show Go _ _ _ _ _ _ _ (TJ2.setTop (mkF m 182 #[.val (.ref a0), .val (.int p1), .val (.int p2), .val (.int ((f1 p1) &&& (255 : Int32))), .val (.int len), .val (.int (128 : Int32)), .val (.int (191 : Int32)), .val (.int (3 : Int32)), .val (.int ((f1 (p1 + (2 : Int32))) &&& (255 : Int32)))] [(.int (-(3 : Int32)))]))
                      refine Go.retI X2 hx Bd.returns hlk (hb hby d1_182) ?_ (by decide) (by decide)
                      rw [e2]
                      exact ⟨(by
                          rw [hM]
                          refine congrArg (fun z => some (Value.int z)) ?_
                          simp only [Int32.lt_iff_toInt_lt, ← Int32.toInt_inj, own_i_m3, own_i_m2, own_i_m1, own_i_0, own_i_1, own_i_2, own_i_3, own_i_4, own_i_5, own_i_7, own_i_15, own_i_31, own_i_63, own_i_128, own_i_143, own_i_144, own_i_159, own_i_160, own_i_191, own_i_192, own_i_194, own_i_223, own_i_224, own_i_225, own_i_237, own_i_239, own_i_240, own_i_241, own_i_243, own_i_244, own_i_248, own_i_255, own_i_2048, own_i_55296, own_i_57343, own_i_65536, own_i_1114111] at hc168 hc176 hc199 hc206 hc168_1 hc176_1 hc199_1 hc206_1 hc168_2 hc176_2
                          unfold own_L own_L2 own_L3 own_L4
                          (repeat' split) <;> first | rfl | (exfalso; omega) | exact Int32.toInt_inj.mp (by simp only [own_i_m3, own_i_m2, own_i_m1, own_i_0, own_i_1, own_i_2, own_i_3, own_i_4, own_i_5, own_i_7, own_i_15, own_i_31, own_i_63, own_i_128, own_i_143, own_i_144, own_i_159, own_i_160, own_i_191, own_i_192, own_i_194, own_i_223, own_i_224, own_i_225, own_i_237, own_i_239, own_i_240, own_i_241, own_i_243, own_i_244, own_i_248, own_i_255, own_i_2048, own_i_55296, own_i_57343, own_i_65536, own_i_1114111]; omega)), N2, rfl⟩
                  · skip
                    refine Go.step (fun _ k => XS.icmpYes X2.here hx rfl (pc0 := 168) (pc' := 229) rfl (hb hby d1_168) rfl (flt hc168_2).2.1 (by decide) (by decide) k) ?_
                    show Go _ _ _ _ _ _ _ (TJ2.setTop (mkF m 229 #[.val (.ref a0), .val (.int p1), .val (.int p2), .val (.int ((f1 p1) &&& (255 : Int32))), .val (.int len), .val (.int (128 : Int32)), .val (.int (191 : Int32)), .val (.int (3 : Int32)), .val (.int ((f1 (p1 + (2 : Int32))) &&& (255 : Int32)))] []))
                    refine Go.step (fun _ k => XS.iload X2.here hx rfl (hb hby d1_229) rfl  k) ?_
                    show Go _ _ _ _ _ _ _ (TJ2.setTop (mkF m 231 #[.val (.ref a0), .val (.int p1), .val (.int p2), .val (.int ((f1 p1) &&& (255 : Int32))), .val (.int len), .val (.int (128 : Int32)), .val (.int (191 : Int32)), .val (.int (3 : Int32)), .val (.int ((f1 (p1 + (2 : Int32))) &&& (255 : Int32)))] [(.int len)]))
                    refine Go.retI X2 hx Bd.returns hlk (hb hby d1_231) ?_ (by decide) (by decide)
                    rw [e2]
                    exact ⟨(by
                        rw [hM]
                        refine congrArg (fun z => some (Value.int z)) ?_
                        simp only [Int32.lt_iff_toInt_lt, ← Int32.toInt_inj, own_i_m3, own_i_m2, own_i_m1, own_i_0, own_i_1, own_i_2, own_i_3, own_i_4, own_i_5, own_i_7, own_i_15, own_i_31, own_i_63, own_i_128, own_i_143, own_i_144, own_i_159, own_i_160, own_i_191, own_i_192, own_i_194, own_i_223, own_i_224, own_i_225, own_i_237, own_i_239, own_i_240, own_i_241, own_i_243, own_i_244, own_i_248, own_i_255, own_i_2048, own_i_55296, own_i_57343, own_i_65536, own_i_1114111] at hc168 hc176 hc199 hc206 hc168_1 hc176_1 hc199_1 hc206_1 hc168_2
                        unfold own_L own_L2 own_L3 own_L4
                        (repeat' split) <;> first | rfl | (exfalso; omega) | exact Int32.toInt_inj.mp (by simp only [own_i_m3, own_i_m2, own_i_m1, own_i_0, own_i_1, own_i_2, own_i_3, own_i_4, own_i_5, own_i_7, own_i_15, own_i_31, own_i_63, own_i_128, own_i_143, own_i_144, own_i_159, own_i_160, own_i_191, own_i_192, own_i_194, own_i_223, own_i_224, own_i_225, own_i_237, own_i_239, own_i_240, own_i_241, own_i_243, own_i_244, own_i_248, own_i_255, own_i_2048, own_i_55296, own_i_57343, own_i_65536, own_i_1114111]; omega)), N2, rfl⟩
            · skip
              refine Go.step (fun _ k => XS.icmpNo X2.here hx rfl (hb hby d1_176) rfl (flt hc176_1).1 k) ?_
              show Go _ _ _ _ _ _ _ (TJ2.setTop (mkF m 179 #[.val (.ref a0), .val (.int p1), .val (.int p2), .val (.int ((f1 p1) &&& (255 : Int32))), .val (.int len), .val (.int (128 : Int32)), .val (.int (191 : Int32)), .val (.int (2 : Int32)), .val (.int ((f1 (p1 + (1 : Int32))) &&& (255 : Int32)))] []))
              refine Go.step (fun _ k => XS.iload X2.here hx rfl (hb hby d1_179) rfl  k) ?_
              show Go _ _ _ _ _ _ _ (TJ2.setTop (mkF m 181 #[.val (.ref a0), .val (.int p1), .val (.int p2), .val (.int ((f1 p1) &&& (255 : Int32))), .val (.int len), .val (.int (128 : Int32)), .val (.int (191 : Int32)), .val (.int (2 : Int32)), .val (.int ((f1 (p1 + (1 : Int32))) &&& (255 : Int32)))] [(.int (2 : Int32))]))
              refine Go.step (fun _ k => XS.ineg X2.here hx rfl (hb hby d1_181) rfl k) ?_
              show Go _ _ _ _ _ _ _ (TJ2.setTop (mkF m 182 #[.val (.ref a0), .val (.int p1), .val (.int p2), .val (.int ((f1 p1) &&& (255 : Int32))), .val (.int len), .val (.int (128 : Int32)), .val (.int (191 : Int32)), .val (.int (2 : Int32)), .val (.int ((f1 (p1 + (1 : Int32))) &&& (255 : Int32)))] [(.int (-(2 : Int32)))]))
              refine Go.retI X2 hx Bd.returns hlk (hb hby d1_182) ?_ (by decide) (by decide)
              rw [e2]
              exact ⟨(by
                  rw [hM]
                  refine congrArg (fun z => some (Value.int z)) ?_
                  simp only [Int32.lt_iff_toInt_lt, ← Int32.toInt_inj, own_i_m3, own_i_m2, own_i_m1, own_i_0, own_i_1, own_i_2, own_i_3, own_i_4, own_i_5, own_i_7, own_i_15, own_i_31, own_i_63, own_i_128, own_i_143, own_i_144, own_i_159, own_i_160, own_i_191, own_i_192, own_i_194, own_i_223, own_i_224, own_i_225, own_i_237, own_i_239, own_i_240, own_i_241, own_i_243, own_i_244, own_i_248, own_i_255, own_i_2048, own_i_55296, own_i_57343, own_i_65536, own_i_1114111] at hc168 hc176 hc199 hc206 hc168_1 hc176_1
                  unfold own_L own_L2 own_L3 own_L4
                  (repeat' split) <;> first | rfl | (exfalso; omega) | exact Int32.toInt_inj.mp (by simp only [own_i_m3, own_i_m2, own_i_m1, own_i_0, own_i_1, own_i_2, own_i_3, own_i_4, own_i_5, own_i_7, own_i_15, own_i_31, own_i_63, own_i_128, own_i_143, own_i_144, own_i_159, own_i_160, own_i_191, own_i_192, own_i_194, own_i_223, own_i_224, own_i_225, own_i_237, own_i_239, own_i_240, own_i_241, own_i_243, own_i_244, own_i_248, own_i_255, own_i_2048, own_i_55296, own_i_57343, own_i_65536, own_i_1114111]; omega)), N2, rfl⟩
          · skip
            refine Go.step (fun _ k => XS.icmpYes X2.here hx rfl (pc0 := 168) (pc' := 229) rfl (hb hby d1_168) rfl (flt hc168_1).2.1 (by decide) (by decide) k) ?_
            show Go _ _ _ _ _ _ _ (TJ2.setTop (mkF m 229 #[.val (.ref a0), .val (.int p1), .val (.int p2), .val (.int ((f1 p1) &&& (255 : Int32))), .val (.int len), .val (.int (128 : Int32)), .val (.int (191 : Int32)), .val (.int (2 : Int32)), .val (.int ((f1 (p1 + (1 : Int32))) &&& (255 : Int32)))] []))
            refine Go.step (fun _ k => XS.iload X2.here hx rfl (hb hby d1_229) rfl  k) ?_
            show Go _ _ _ _ _ _ _ (TJ2.setTop (mkF m 231 #[.val (.ref a0), .val (.int p1), .val (.int p2), .val (.int ((f1 p1) &&& (255 : Int32))), .val (.int len), .val (.int (128 : Int32)), .val (.int (191 : Int32)), .val (.int (2 : Int32)), .val (.int ((f1 (p1 + (1 : Int32))) &&& (255 : Int32)))] [(.int len)]))
            refine Go.retI X2 hx Bd.returns hlk (hb hby d1_231) ?_ (by decide) (by decide)
            rw [e2]
            exact ⟨(by
                rw [hM]
                refine congrArg (fun z => some (Value.int z)) ?_
                simp only [Int32.lt_iff_toInt_lt, ← Int32.toInt_inj, own_i_m3, own_i_m2, own_i_m1, own_i_0, own_i_1, own_i_2, own_i_3, own_i_4, own_i_5, own_i_7, own_i_15, own_i_31, own_i_63, own_i_128, own_i_143, own_i_144, own_i_159, own_i_160, own_i_191, own_i_192, own_i_194, own_i_223, own_i_224, own_i_225, own_i_237, own_i_239, own_i_240, own_i_241, own_i_243, own_i_244, own_i_248, own_i_255, own_i_2048, own_i_55296, own_i_57343, own_i_65536, own_i_1114111] at hc168 hc176 hc199 hc206 hc168_1
                unfold own_L own_L2 own_L3 own_L4
                (repeat' split) <;> first | rfl | (exfalso; omega) | exact Int32.toInt_inj.mp (by simp only [own_i_m3, own_i_m2, own_i_m1, own_i_0, own_i_1, own_i_2, own_i_3, own_i_4, own_i_5, own_i_7, own_i_15, own_i_31, own_i_63, own_i_128, own_i_143, own_i_144, own_i_159, own_i_160, own_i_191, own_i_192, own_i_194, own_i_223, own_i_224, own_i_225, own_i_237, own_i_239, own_i_240, own_i_241, own_i_243, own_i_244, own_i_248, own_i_255, own_i_2048, own_i_55296, own_i_57343, own_i_65536, own_i_1114111]; omega)), N2, rfl⟩
    · skip
      refine Go.step (fun _ k => XS.icmpNo X2.here hx rfl (hb hby d1_176) rfl (flt hc176).1 k) ?_
      show Go _ _ _ _ _ _ _ (TJ2.setTop (mkF m 179 #[.val (.ref a0), .val (.int p1), .val (.int p2), .val (.int ((f1 p1) &&& (255 : Int32))), .val (.int len), .val (.int low), .val (.int high), .val (.int (1 : Int32)), .unset] []))
      refine Go.step (fun _ k => XS.iload X2.here hx rfl (hb hby d1_179) rfl  k) ?_
      show Go _ _ _ _ _ _ _ (TJ2.setTop (mkF m 181 #[.val (.ref a0), .val (.int p1), .val (.int p2), .val (.int ((f1 p1) &&& (255 : Int32))), .val (.int len), .val (.int low), .val (.int high), .val (.int (1 : Int32)), .unset] [(.int (1 : Int32))]))
      refine Go.step (fun _ k => XS.ineg X2.here hx rfl (hb hby d1_181) rfl k) ?_
      show Go _ _ _ _ _ _ _ (TJ2.setTop (mkF m 182 #[.val (.ref a0), .val (.int p1), .val (.int p2), .val (.int ((f1 p1) &&& (255 : Int32))), .val (.int len), .val (.int low), .val (.int high), .val (.int (1 : Int32)), .unset] [(.int (-(1 : Int32)))]))
      refine Go.retI X2 hx Bd.returns hlk (hb hby d1_182) ?_ (by decide) (by decide)
      rw [e2]
      exact ⟨(by
          rw [hM]
          refine congrArg (fun z => some (Value.int z)) ?_
          simp only [Int32.lt_iff_toInt_lt, ← Int32.toInt_inj, own_i_m3, own_i_m2, own_i_m1, own_i_0, own_i_1, own_i_2, own_i_3, own_i_4, own_i_5, own_i_7, own_i_15, own_i_31, own_i_63, own_i_128, own_i_143, own_i_144, own_i_159, own_i_160, own_i_191, own_i_192, own_i_194, own_i_223, own_i_224, own_i_225, own_i_237, own_i_239, own_i_240, own_i_241, own_i_243, own_i_244, own_i_248, own_i_255, own_i_2048, own_i_55296, own_i_57343, own_i_65536, own_i_1114111] at hc168 hc176
          unfold own_L own_L2 own_L3 own_L4
          (repeat' split) <;> first | rfl | (exfalso; omega) | exact Int32.toInt_inj.mp (by simp only [own_i_m3, own_i_m2, own_i_m1, own_i_0, own_i_1, own_i_2, own_i_3, own_i_4, own_i_5, own_i_7, own_i_15, own_i_31, own_i_63, own_i_128, own_i_143, own_i_144, own_i_159, own_i_160, own_i_191, own_i_192, own_i_194, own_i_223, own_i_224, own_i_225, own_i_237, own_i_239, own_i_240, own_i_241, own_i_243, own_i_244, own_i_248, own_i_255, own_i_2048, own_i_55296, own_i_57343, own_i_65536, own_i_1114111]; omega)), N2, rfl⟩
  show Go _ _ _ _ _ _ _ (s₁.setTop (mkF m 8 #[.val (.ref a0), .val (.int p1), .val (.int p2), .val (.int ((f1 p1) &&& (255 : Int32))), .unset, .unset, .unset, .unset, .unset] []))
  refine Go.step (fun _ k => XS.iloadN X0.here hx rfl (hb hby d1_8) rfl  k) ?_
  show Go _ _ _ _ _ _ _ (s₁.setTop (mkF m 9 #[.val (.ref a0), .val (.int p1), .val (.int p2), .val (.int ((f1 p1) &&& (255 : Int32))), .unset, .unset, .unset, .unset, .unset] [(.int ((f1 p1) &&& (255 : Int32)))]))
  refine Go.step (fun _ k => XS.sipush X0.here hx rfl (hb hby d1_9) k) ?_
  show Go _ _ _ _ _ _ _ (s₁.setTop (mkF m 12 #[.val (.ref a0), .val (.int p1), .val (.int p2), .val (.int ((f1 p1) &&& (255 : Int32))), .unset, .unset, .unset, .unset, .unset] [(.int (128 : Int32)), (.int ((f1 p1) &&& (255 : Int32)))]))
  by_cases hc12 : ((f1 p1) &&& (255 : Int32)) < (128 : Int32)
  · skip
    refine Go.step (fun _ k => XS.icmpNo X0.here hx rfl (hb hby d1_12) rfl (tlt hc12).2.1 k) ?_
    show Go _ _ _ _ _ _ _ (s₁.setTop (mkF m 15 #[.val (.ref a0), .val (.int p1), .val (.int p2), .val (.int ((f1 p1) &&& (255 : Int32))), .unset, .unset, .unset, .unset, .unset] []))
    refine Go.step (fun _ k => XS.iconst X0.here hx rfl (hb hby d1_15) k) ?_
    show Go _ _ _ _ _ _ _ (s₁.setTop (mkF m 16 #[.val (.ref a0), .val (.int p1), .val (.int p2), .val (.int ((f1 p1) &&& (255 : Int32))), .unset, .unset, .unset, .unset, .unset] [(.int (1 : Int32))]))
    refine Go.retI X0 hx Bd.returns hlk (hb hby d1_16) ?_ (by decide) (by decide)
    rw [e0]
    exact ⟨(by
        refine congrArg (fun z => some (Value.int z)) ?_
        simp only [Int32.lt_iff_toInt_lt, ← Int32.toInt_inj, own_i_m3, own_i_m2, own_i_m1, own_i_0, own_i_1, own_i_2, own_i_3, own_i_4, own_i_5, own_i_7, own_i_15, own_i_31, own_i_63, own_i_128, own_i_143, own_i_144, own_i_159, own_i_160, own_i_191, own_i_192, own_i_194, own_i_223, own_i_224, own_i_225, own_i_237, own_i_239, own_i_240, own_i_241, own_i_243, own_i_244, own_i_248, own_i_255, own_i_2048, own_i_55296, own_i_57343, own_i_65536, own_i_1114111] at hc12
        
        unfold own_M
        (repeat' split) <;> first | rfl | (exfalso; omega)), N0, rfl⟩
  · skip
    refine Go.step (fun _ k => XS.icmpYes X0.here hx rfl (pc0 := 12) (pc' := 17) rfl (hb hby d1_12) rfl (flt hc12).2.1 (by decide) (by decide) k) ?_
    show Go _ _ _ _ _ _ _ (s₁.setTop (mkF m 17 #[.val (.ref a0), .val (.int p1), .val (.int p2), .val (.int ((f1 p1) &&& (255 : Int32))), .unset, .unset, .unset, .unset, .unset] []))
    refine Go.step (fun _ k => XS.sipush X0.here hx rfl (hb hby d1_17) k) ?_
    show Go _ _ _ _ _ _ _ (s₁.setTop (mkF m 20 #[.val (.ref a0), .val (.int p1), .val (.int p2), .val (.int ((f1 p1) &&& (255 : Int32))), .unset, .unset, .unset, .unset, .unset] [(.int (128 : Int32))]))
    refine Go.step (fun _ k => XS.istore X0.here hx rfl (hb hby d1_20) rfl (l' := #[.val (.ref a0), .val (.int p1), .val (.int p2), .val (.int ((f1 p1) &&& (255 : Int32))), .unset, .val (.int (128 : Int32)), .unset, .unset, .unset]) rfl k) ?_
    show Go _ _ _ _ _ _ _ (s₁.setTop (mkF m 22 #[.val (.ref a0), .val (.int p1), .val (.int p2), .val (.int ((f1 p1) &&& (255 : Int32))), .unset, .val (.int (128 : Int32)), .unset, .unset, .unset] []))
    refine Go.step (fun _ k => XS.sipush X0.here hx rfl (hb hby d1_22) k) ?_
    show Go _ _ _ _ _ _ _ (s₁.setTop (mkF m 25 #[.val (.ref a0), .val (.int p1), .val (.int p2), .val (.int ((f1 p1) &&& (255 : Int32))), .unset, .val (.int (128 : Int32)), .unset, .unset, .unset] [(.int (191 : Int32))]))
    refine Go.step (fun _ k => XS.istore X0.here hx rfl (hb hby d1_25) rfl (l' := #[.val (.ref a0), .val (.int p1), .val (.int p2), .val (.int ((f1 p1) &&& (255 : Int32))), .unset, .val (.int (128 : Int32)), .val (.int (191 : Int32)), .unset, .unset]) rfl k) ?_
    show Go _ _ _ _ _ _ _ (s₁.setTop (mkF m 27 #[.val (.ref a0), .val (.int p1), .val (.int p2), .val (.int ((f1 p1) &&& (255 : Int32))), .unset, .val (.int (128 : Int32)), .val (.int (191 : Int32)), .unset, .unset] []))
    refine Go.step (fun _ k => XS.iloadN X0.here hx rfl (hb hby d1_27) rfl  k) ?_
    show Go _ _ _ _ _ _ _ (s₁.setTop (mkF m 28 #[.val (.ref a0), .val (.int p1), .val (.int p2), .val (.int ((f1 p1) &&& (255 : Int32))), .unset, .val (.int (128 : Int32)), .val (.int (191 : Int32)), .unset, .unset] [(.int ((f1 p1) &&& (255 : Int32)))]))
    refine Go.step (fun _ k => XS.sipush X0.here hx rfl (hb hby d1_28) k) ?_
    show Go _ _ _ _ _ _ _ (s₁.setTop (mkF m 31 #[.val (.ref a0), .val (.int p1), .val (.int p2), .val (.int ((f1 p1) &&& (255 : Int32))), .unset, .val (.int (128 : Int32)), .val (.int (191 : Int32)), .unset, .unset] [(.int (194 : Int32)), (.int ((f1 p1) &&& (255 : Int32)))]))
    by_cases hc31 : ((f1 p1) &&& (255 : Int32)) < (194 : Int32)
    · skip
      refine Go.step (fun _ k => XS.icmpYes X0.here hx rfl (pc0 := 31) (pc' := 47) rfl (hb hby d1_31) rfl (tlt hc31).1 (by decide) (by decide) k) ?_
      show Go _ _ _ _ _ _ _ (s₁.setTop (mkF m 47 #[.val (.ref a0), .val (.int p1), .val (.int p2), .val (.int ((f1 p1) &&& (255 : Int32))), .unset, .val (.int (128 : Int32)), .val (.int (191 : Int32)), .unset, .unset] []))
      refine Go.step (fun _ k => XS.iloadN X0.here hx rfl (hb hby d1_47) rfl  k) ?_
      show Go _ _ _ _ _ _ _ (s₁.setTop (mkF m 48 #[.val (.ref a0), .val (.int p1), .val (.int p2), .val (.int ((f1 p1) &&& (255 : Int32))), .unset, .val (.int (128 : Int32)), .val (.int (191 : Int32)), .unset, .unset] [(.int ((f1 p1) &&& (255 : Int32)))]))
      refine Go.step (fun _ k => XS.sipush X0.here hx rfl (hb hby d1_48) k) ?_
      show Go _ _ _ _ _ _ _ (s₁.setTop (mkF m 51 #[.val (.ref a0), .val (.int p1), .val (.int p2), .val (.int ((f1 p1) &&& (255 : Int32))), .unset, .val (.int (128 : Int32)), .val (.int (191 : Int32)), .unset, .unset] [(.int (224 : Int32)), (.int ((f1 p1) &&& (255 : Int32)))]))
      by_cases hc51 : ((f1 p1) &&& (255 : Int32)) = (224 : Int32)
      · skip
        refine Go.step (fun _ k => XS.icmpNo X0.here hx rfl (hb hby d1_51) rfl (teq hc51).2 k) ?_
        show Go _ _ _ _ _ _ _ (s₁.setTop (mkF m 54 #[.val (.ref a0), .val (.int p1), .val (.int p2), .val (.int ((f1 p1) &&& (255 : Int32))), .unset, .val (.int (128 : Int32)), .val (.int (191 : Int32)), .unset, .unset] []))
        refine Go.step (fun _ k => XS.iconst X0.here hx rfl (hb hby d1_54) k) ?_
        show Go _ _ _ _ _ _ _ (s₁.setTop (mkF m 55 #[.val (.ref a0), .val (.int p1), .val (.int p2), .val (.int ((f1 p1) &&& (255 : Int32))), .unset, .val (.int (128 : Int32)), .val (.int (191 : Int32)), .unset, .unset] [(.int (3 : Int32))]))
        refine Go.step (fun _ k => XS.istore X0.here hx rfl (hb hby d1_55) rfl (l' := #[.val (.ref a0), .val (.int p1), .val (.int p2), .val (.int ((f1 p1) &&& (255 : Int32))), .val (.int (3 : Int32)), .val (.int (128 : Int32)), .val (.int (191 : Int32)), .unset, .unset]) rfl k) ?_
        show Go _ _ _ _ _ _ _ (s₁.setTop (mkF m 57 #[.val (.ref a0), .val (.int p1), .val (.int p2), .val (.int ((f1 p1) &&& (255 : Int32))), .val (.int (3 : Int32)), .val (.int (128 : Int32)), .val (.int (191 : Int32)), .unset, .unset] []))
        refine Go.step (fun _ k => XS.sipush X0.here hx rfl (hb hby d1_57) k) ?_
        show Go _ _ _ _ _ _ _ (s₁.setTop (mkF m 60 #[.val (.ref a0), .val (.int p1), .val (.int p2), .val (.int ((f1 p1) &&& (255 : Int32))), .val (.int (3 : Int32)), .val (.int (128 : Int32)), .val (.int (191 : Int32)), .unset, .unset] [(.int (160 : Int32))]))
        refine Go.step (fun _ k => XS.istore X0.here hx rfl (hb hby d1_60) rfl (l' := #[.val (.ref a0), .val (.int p1), .val (.int p2), .val (.int ((f1 p1) &&& (255 : Int32))), .val (.int (3 : Int32)), .val (.int (160 : Int32)), .val (.int (191 : Int32)), .unset, .unset]) rfl k) ?_
        show Go _ _ _ _ _ _ _ (s₁.setTop (mkF m 62 #[.val (.ref a0), .val (.int p1), .val (.int p2), .val (.int ((f1 p1) &&& (255 : Int32))), .val (.int (3 : Int32)), .val (.int (160 : Int32)), .val (.int (191 : Int32)), .unset, .unset] []))
        refine Go.step (fun _ k => XS.goto X0.here hx rfl (pc0 := 62) (pc' := 161) rfl (hb hby d1_62) (by decide) (by decide) k) ?_
        exact J161_2 (3 : Int32) (160 : Int32) (191 : Int32) _ _ X0 e0 N0 (by rw [own_i_3]; decide) (by
          simp only [Int32.lt_iff_toInt_lt, ← Int32.toInt_inj, own_i_m3, own_i_m2, own_i_m1, own_i_0, own_i_1, own_i_2, own_i_3, own_i_4, own_i_5, own_i_7, own_i_15, own_i_31, own_i_63, own_i_128, own_i_143, own_i_144, own_i_159, own_i_160, own_i_191, own_i_192, own_i_194, own_i_223, own_i_224, own_i_225, own_i_237, own_i_239, own_i_240, own_i_241, own_i_243, own_i_244, own_i_248, own_i_255, own_i_2048, own_i_55296, own_i_57343, own_i_65536, own_i_1114111] at hc12 hc31 hc51
          simp only [own_i_m3, own_i_m2, own_i_m1, own_i_0, own_i_1, own_i_2, own_i_3, own_i_4, own_i_5, own_i_7, own_i_15, own_i_31, own_i_63, own_i_128, own_i_143, own_i_144, own_i_159, own_i_160, own_i_191, own_i_192, own_i_194, own_i_223, own_i_224, own_i_225, own_i_237, own_i_239, own_i_240, own_i_241, own_i_243, own_i_244, own_i_248, own_i_255, own_i_2048, own_i_55296, own_i_57343, own_i_65536, own_i_1114111]
          rw [own_L_3]
          unfold own_M
          (repeat' split) <;> first | rfl | (exfalso; omega))
      · skip
        refine Go.step (fun _ k => XS.icmpYes X0.here hx rfl (pc0 := 51) (pc' := 65) rfl (hb hby d1_51) rfl (feq hc51).2 (by decide) (by decide) k) ?_
        show Go _ _ _ _ _ _ _ (s₁.setTop (mkF m 65 #[.val (.ref a0), .val (.int p1), .val (.int p2), .val (.int ((f1 p1) &&& (255 : Int32))), .unset, .val (.int (128 : Int32)), .val (.int (191 : Int32)), .unset, .unset] []))
        refine Go.step (fun _ k => XS.iloadN X0.here hx rfl (hb hby d1_65) rfl  k) ?_
        show Go _ _ _ _ _ _ _ (s₁.setTop (mkF m 66 #[.val (.ref a0), .val (.int p1), .val (.int p2), .val (.int ((f1 p1) &&& (255 : Int32))), .unset, .val (.int (128 : Int32)), .val (.int (191 : Int32)), .unset, .unset] [(.int ((f1 p1) &&& (255 : Int32)))]))
        refine Go.step (fun _ k => XS.sipush X0.here hx rfl (hb hby d1_66) k) ?_
        show Go _ _ _ _ _ _ _ (s₁.setTop (mkF m 69 #[.val (.ref a0), .val (.int p1), .val (.int p2), .val (.int ((f1 p1) &&& (255 : Int32))), .unset, .val (.int (128 : Int32)), .val (.int (191 : Int32)), .unset, .unset] [(.int (237 : Int32)), (.int ((f1 p1) &&& (255 : Int32)))]))
        by_cases hc69 : ((f1 p1) &&& (255 : Int32)) = (237 : Int32)
        · skip
          refine Go.step (fun _ k => XS.icmpNo X0.here hx rfl (hb hby d1_69) rfl (teq hc69).2 k) ?_
          show Go _ _ _ _ _ _ _ (s₁.setTop (mkF m 72 #[.val (.ref a0), .val (.int p1), .val (.int p2), .val (.int ((f1 p1) &&& (255 : Int32))), .unset, .val (.int (128 : Int32)), .val (.int (191 : Int32)), .unset, .unset] []))
          refine Go.step (fun _ k => XS.iconst X0.here hx rfl (hb hby d1_72) k) ?_
          show Go _ _ _ _ _ _ _ (s₁.setTop (mkF m 73 #[.val (.ref a0), .val (.int p1), .val (.int p2), .val (.int ((f1 p1) &&& (255 : Int32))), .unset, .val (.int (128 : Int32)), .val (.int (191 : Int32)), .unset, .unset] [(.int (3 : Int32))]))
          refine Go.step (fun _ k => XS.istore X0.here hx rfl (hb hby d1_73) rfl (l' := #[.val (.ref a0), .val (.int p1), .val (.int p2), .val (.int ((f1 p1) &&& (255 : Int32))), .val (.int (3 : Int32)), .val (.int (128 : Int32)), .val (.int (191 : Int32)), .unset, .unset]) rfl k) ?_
          show Go _ _ _ _ _ _ _ (s₁.setTop (mkF m 75 #[.val (.ref a0), .val (.int p1), .val (.int p2), .val (.int ((f1 p1) &&& (255 : Int32))), .val (.int (3 : Int32)), .val (.int (128 : Int32)), .val (.int (191 : Int32)), .unset, .unset] []))
          refine Go.step (fun _ k => XS.sipush X0.here hx rfl (hb hby d1_75) k) ?_
          show Go _ _ _ _ _ _ _ (s₁.setTop (mkF m 78 #[.val (.ref a0), .val (.int p1), .val (.int p2), .val (.int ((f1 p1) &&& (255 : Int32))), .val (.int (3 : Int32)), .val (.int (128 : Int32)), .val (.int (191 : Int32)), .unset, .unset] [(.int (159 : Int32))]))
          refine Go.step (fun _ k => XS.istore X0.here hx rfl (hb hby d1_78) rfl (l' := #[.val (.ref a0), .val (.int p1), .val (.int p2), .val (.int ((f1 p1) &&& (255 : Int32))), .val (.int (3 : Int32)), .val (.int (128 : Int32)), .val (.int (159 : Int32)), .unset, .unset]) rfl k) ?_
          show Go _ _ _ _ _ _ _ (s₁.setTop (mkF m 80 #[.val (.ref a0), .val (.int p1), .val (.int p2), .val (.int ((f1 p1) &&& (255 : Int32))), .val (.int (3 : Int32)), .val (.int (128 : Int32)), .val (.int (159 : Int32)), .unset, .unset] []))
          refine Go.step (fun _ k => XS.goto X0.here hx rfl (pc0 := 80) (pc' := 161) rfl (hb hby d1_80) (by decide) (by decide) k) ?_
          exact J161_2 (3 : Int32) (128 : Int32) (159 : Int32) _ _ X0 e0 N0 (by rw [own_i_3]; decide) (by
            simp only [Int32.lt_iff_toInt_lt, ← Int32.toInt_inj, own_i_m3, own_i_m2, own_i_m1, own_i_0, own_i_1, own_i_2, own_i_3, own_i_4, own_i_5, own_i_7, own_i_15, own_i_31, own_i_63, own_i_128, own_i_143, own_i_144, own_i_159, own_i_160, own_i_191, own_i_192, own_i_194, own_i_223, own_i_224, own_i_225, own_i_237, own_i_239, own_i_240, own_i_241, own_i_243, own_i_244, own_i_248, own_i_255, own_i_2048, own_i_55296, own_i_57343, own_i_65536, own_i_1114111] at hc12 hc31 hc51 hc69
            simp only [own_i_m3, own_i_m2, own_i_m1, own_i_0, own_i_1, own_i_2, own_i_3, own_i_4, own_i_5, own_i_7, own_i_15, own_i_31, own_i_63, own_i_128, own_i_143, own_i_144, own_i_159, own_i_160, own_i_191, own_i_192, own_i_194, own_i_223, own_i_224, own_i_225, own_i_237, own_i_239, own_i_240, own_i_241, own_i_243, own_i_244, own_i_248, own_i_255, own_i_2048, own_i_55296, own_i_57343, own_i_65536, own_i_1114111]
            rw [own_L_3]
            unfold own_M
            (repeat' split) <;> first | rfl | (exfalso; omega))
        · skip
          refine Go.step (fun _ k => XS.icmpYes X0.here hx rfl (pc0 := 69) (pc' := 83) rfl (hb hby d1_69) rfl (feq hc69).2 (by decide) (by decide) k) ?_
          show Go _ _ _ _ _ _ _ (s₁.setTop (mkF m 83 #[.val (.ref a0), .val (.int p1), .val (.int p2), .val (.int ((f1 p1) &&& (255 : Int32))), .unset, .val (.int (128 : Int32)), .val (.int (191 : Int32)), .unset, .unset] []))
          refine Go.step (fun _ k => XS.iloadN X0.here hx rfl (hb hby d1_83) rfl  k) ?_
          show Go _ _ _ _ _ _ _ (s₁.setTop (mkF m 84 #[.val (.ref a0), .val (.int p1), .val (.int p2), .val (.int ((f1 p1) &&& (255 : Int32))), .unset, .val (.int (128 : Int32)), .val (.int (191 : Int32)), .unset, .unset] [(.int ((f1 p1) &&& (255 : Int32)))]))
          refine Go.step (fun _ k => XS.sipush X0.here hx rfl (hb hby d1_84) k) ?_
          show Go _ _ _ _ _ _ _ (s₁.setTop (mkF m 87 #[.val (.ref a0), .val (.int p1), .val (.int p2), .val (.int ((f1 p1) &&& (255 : Int32))), .unset, .val (.int (128 : Int32)), .val (.int (191 : Int32)), .unset, .unset] [(.int (225 : Int32)), (.int ((f1 p1) &&& (255 : Int32)))]))
          by_cases hc87 : ((f1 p1) &&& (255 : Int32)) < (225 : Int32)
          · skip
            refine Go.step (fun _ k => XS.icmpYes X0.here hx rfl (pc0 := 87) (pc' := 103) rfl (hb hby d1_87) rfl (tlt hc87).1 (by decide) (by decide) k) ?_
            show Go _ _ _ _ _ _ _ (s₁.setTop (mkF m 103 #[.val (.ref a0), .val (.int p1), .val (.int p2), .val (.int ((f1 p1) &&& (255 : Int32))), .unset, .val (.int (128 : Int32)), .val (.int (191 : Int32)), .unset, .unset] []))
            refine Go.step (fun _ k => XS.iloadN X0.here hx rfl (hb hby d1_103) rfl  k) ?_
            show Go _ _ _ _ _ _ _ (s₁.setTop (mkF m 104 #[.val (.ref a0), .val (.int p1), .val (.int p2), .val (.int ((f1 p1) &&& (255 : Int32))), .unset, .val (.int (128 : Int32)), .val (.int (191 : Int32)), .unset, .unset] [(.int ((f1 p1) &&& (255 : Int32)))]))
            refine Go.step (fun _ k => XS.sipush X0.here hx rfl (hb hby d1_104) k) ?_
            show Go _ _ _ _ _ _ _ (s₁.setTop (mkF m 107 #[.val (.ref a0), .val (.int p1), .val (.int p2), .val (.int ((f1 p1) &&& (255 : Int32))), .unset, .val (.int (128 : Int32)), .val (.int (191 : Int32)), .unset, .unset] [(.int (240 : Int32)), (.int ((f1 p1) &&& (255 : Int32)))]))
            by_cases hc107 : ((f1 p1) &&& (255 : Int32)) = (240 : Int32)
            · skip
              refine Go.step (fun _ k => XS.icmpNo X0.here hx rfl (hb hby d1_107) rfl (teq hc107).2 k) ?_
              show Go _ _ _ _ _ _ _ (s₁.setTop (mkF m 110 #[.val (.ref a0), .val (.int p1), .val (.int p2), .val (.int ((f1 p1) &&& (255 : Int32))), .unset, .val (.int (128 : Int32)), .val (.int (191 : Int32)), .unset, .unset] []))
              refine Go.step (fun _ k => XS.iconst X0.here hx rfl (hb hby d1_110) k) ?_
              show Go _ _ _ _ _ _ _ (s₁.setTop (mkF m 111 #[.val (.ref a0), .val (.int p1), .val (.int p2), .val (.int ((f1 p1) &&& (255 : Int32))), .unset, .val (.int (128 : Int32)), .val (.int (191 : Int32)), .unset, .unset] [(.int (4 : Int32))]))
              refine Go.step (fun _ k => XS.istore X0.here hx rfl (hb hby d1_111) rfl (l' := #[.val (.ref a0), .val (.int p1), .val (.int p2), .val (.int ((f1 p1) &&& (255 : Int32))), .val (.int (4 : Int32)), .val (.int (128 : Int32)), .val (.int (191 : Int32)), .unset, .unset]) rfl k) ?_
              show Go _ _ _ _ _ _ _ (s₁.setTop (mkF m 113 #[.val (.ref a0), .val (.int p1), .val (.int p2), .val (.int ((f1 p1) &&& (255 : Int32))), .val (.int (4 : Int32)), .val (.int (128 : Int32)), .val (.int (191 : Int32)), .unset, .unset] []))
              refine Go.step (fun _ k => XS.sipush X0.here hx rfl (hb hby d1_113) k) ?_
              show Go _ _ _ _ _ _ _ (s₁.setTop (mkF m 116 #[.val (.ref a0), .val (.int p1), .val (.int p2), .val (.int ((f1 p1) &&& (255 : Int32))), .val (.int (4 : Int32)), .val (.int (128 : Int32)), .val (.int (191 : Int32)), .unset, .unset] [(.int (144 : Int32))]))
              refine Go.step (fun _ k => XS.istore X0.here hx rfl (hb hby d1_116) rfl (l' := #[.val (.ref a0), .val (.int p1), .val (.int p2), .val (.int ((f1 p1) &&& (255 : Int32))), .val (.int (4 : Int32)), .val (.int (144 : Int32)), .val (.int (191 : Int32)), .unset, .unset]) rfl k) ?_
              show Go _ _ _ _ _ _ _ (s₁.setTop (mkF m 118 #[.val (.ref a0), .val (.int p1), .val (.int p2), .val (.int ((f1 p1) &&& (255 : Int32))), .val (.int (4 : Int32)), .val (.int (144 : Int32)), .val (.int (191 : Int32)), .unset, .unset] []))
              refine Go.step (fun _ k => XS.goto X0.here hx rfl (pc0 := 118) (pc' := 161) rfl (hb hby d1_118) (by decide) (by decide) k) ?_
              exact J161_2 (4 : Int32) (144 : Int32) (191 : Int32) _ _ X0 e0 N0 (by rw [own_i_4]; decide) (by
                simp only [Int32.lt_iff_toInt_lt, ← Int32.toInt_inj, own_i_m3, own_i_m2, own_i_m1, own_i_0, own_i_1, own_i_2, own_i_3, own_i_4, own_i_5, own_i_7, own_i_15, own_i_31, own_i_63, own_i_128, own_i_143, own_i_144, own_i_159, own_i_160, own_i_191, own_i_192, own_i_194, own_i_223, own_i_224, own_i_225, own_i_237, own_i_239, own_i_240, own_i_241, own_i_243, own_i_244, own_i_248, own_i_255, own_i_2048, own_i_55296, own_i_57343, own_i_65536, own_i_1114111] at hc12 hc31 hc51 hc69 hc87 hc107
                simp only [own_i_m3, own_i_m2, own_i_m1, own_i_0, own_i_1, own_i_2, own_i_3, own_i_4, own_i_5, own_i_7, own_i_15, own_i_31, own_i_63, own_i_128, own_i_143, own_i_144, own_i_159, own_i_160, own_i_191, own_i_192, own_i_194, own_i_223, own_i_224, own_i_225, own_i_237, own_i_239, own_i_240, own_i_241, own_i_243, own_i_244, own_i_248, own_i_255, own_i_2048, own_i_55296, own_i_57343, own_i_65536, own_i_1114111]
                rw [own_L_4]
                unfold own_M
                (repeat' split) <;> first | rfl | (exfalso; omega))
            · skip
              refine Go.step (fun _ k => XS.icmpYes X0.here hx rfl (pc0 := 107) (pc' := 121) rfl (hb hby d1_107) rfl (feq hc107).2 (by decide) (by decide) k) ?_
              show Go _ _ _ _ _ _ _ (s₁.setTop (mkF m 121 #[.val (.ref a0), .val (.int p1), .val (.int p2), .val (.int ((f1 p1) &&& (255 : Int32))), .unset, .val (.int (128 : Int32)), .val (.int (191 : Int32)), .unset, .unset] []))
              refine Go.step (fun _ k => XS.iloadN X0.here hx rfl (hb hby d1_121) rfl  k) ?_
              show Go _ _ _ _ _ _ _ (s₁.setTop (mkF m 122 #[.val (.ref a0), .val (.int p1), .val (.int p2), .val (.int ((f1 p1) &&& (255 : Int32))), .unset, .val (.int (128 : Int32)), .val (.int (191 : Int32)), .unset, .unset] [(.int ((f1 p1) &&& (255 : Int32)))]))
              refine Go.step (fun _ k => XS.sipush X0.here hx rfl (hb hby d1_122) k) ?_
              show Go _ _ _ _ _ _ _ (s₁.setTop (mkF m 125 #[.val (.ref a0), .val (.int p1), .val (.int p2), .val (.int ((f1 p1) &&& (255 : Int32))), .unset, .val (.int (128 : Int32)), .val (.int (191 : Int32)), .unset, .unset] [(.int (241 : Int32)), (.int ((f1 p1) &&& (255 : Int32)))]))
              by_cases hc125 : ((f1 p1) &&& (255 : Int32)) < (241 : Int32)
              · skip
                refine Go.step (fun _ k => XS.icmpYes X0.here hx rfl (pc0 := 125) (pc' := 141) rfl (hb hby d1_125) rfl (tlt hc125).1 (by decide) (by decide) k) ?_
                show Go _ _ _ _ _ _ _ (s₁.setTop (mkF m 141 #[.val (.ref a0), .val (.int p1), .val (.int p2), .val (.int ((f1 p1) &&& (255 : Int32))), .unset, .val (.int (128 : Int32)), .val (.int (191 : Int32)), .unset, .unset] []))
                refine Go.step (fun _ k => XS.iloadN X0.here hx rfl (hb hby d1_141) rfl  k) ?_
                show Go _ _ _ _ _ _ _ (s₁.setTop (mkF m 142 #[.val (.ref a0), .val (.int p1), .val (.int p2), .val (.int ((f1 p1) &&& (255 : Int32))), .unset, .val (.int (128 : Int32)), .val (.int (191 : Int32)), .unset, .unset] [(.int ((f1 p1) &&& (255 : Int32)))]))
                refine Go.step (fun _ k => XS.sipush X0.here hx rfl (hb hby d1_142) k) ?_
                show Go _ _ _ _ _ _ _ (s₁.setTop (mkF m 145 #[.val (.ref a0), .val (.int p1), .val (.int p2), .val (.int ((f1 p1) &&& (255 : Int32))), .unset, .val (.int (128 : Int32)), .val (.int (191 : Int32)), .unset, .unset] [(.int (244 : Int32)), (.int ((f1 p1) &&& (255 : Int32)))]))
                by_cases hc145 : ((f1 p1) &&& (255 : Int32)) = (244 : Int32)
                · skip
                  refine Go.step (fun _ k => XS.icmpNo X0.here hx rfl (hb hby d1_145) rfl (teq hc145).2 k) ?_
                  show Go _ _ _ _ _ _ _ (s₁.setTop (mkF m 148 #[.val (.ref a0), .val (.int p1), .val (.int p2), .val (.int ((f1 p1) &&& (255 : Int32))), .unset, .val (.int (128 : Int32)), .val (.int (191 : Int32)), .unset, .unset] []))
                  refine Go.step (fun _ k => XS.iconst X0.here hx rfl (hb hby d1_148) k) ?_
                  show Go _ _ _ _ _ _ _ (s₁.setTop (mkF m 149 #[.val (.ref a0), .val (.int p1), .val (.int p2), .val (.int ((f1 p1) &&& (255 : Int32))), .unset, .val (.int (128 : Int32)), .val (.int (191 : Int32)), .unset, .unset] [(.int (4 : Int32))]))
                  refine Go.step (fun _ k => XS.istore X0.here hx rfl (hb hby d1_149) rfl (l' := #[.val (.ref a0), .val (.int p1), .val (.int p2), .val (.int ((f1 p1) &&& (255 : Int32))), .val (.int (4 : Int32)), .val (.int (128 : Int32)), .val (.int (191 : Int32)), .unset, .unset]) rfl k) ?_
                  show Go _ _ _ _ _ _ _ (s₁.setTop (mkF m 151 #[.val (.ref a0), .val (.int p1), .val (.int p2), .val (.int ((f1 p1) &&& (255 : Int32))), .val (.int (4 : Int32)), .val (.int (128 : Int32)), .val (.int (191 : Int32)), .unset, .unset] []))
                  refine Go.step (fun _ k => XS.sipush X0.here hx rfl (hb hby d1_151) k) ?_
                  show Go _ _ _ _ _ _ _ (s₁.setTop (mkF m 154 #[.val (.ref a0), .val (.int p1), .val (.int p2), .val (.int ((f1 p1) &&& (255 : Int32))), .val (.int (4 : Int32)), .val (.int (128 : Int32)), .val (.int (191 : Int32)), .unset, .unset] [(.int (143 : Int32))]))
                  refine Go.step (fun _ k => XS.istore X0.here hx rfl (hb hby d1_154) rfl (l' := #[.val (.ref a0), .val (.int p1), .val (.int p2), .val (.int ((f1 p1) &&& (255 : Int32))), .val (.int (4 : Int32)), .val (.int (128 : Int32)), .val (.int (143 : Int32)), .unset, .unset]) rfl k) ?_
                  show Go _ _ _ _ _ _ _ (s₁.setTop (mkF m 156 #[.val (.ref a0), .val (.int p1), .val (.int p2), .val (.int ((f1 p1) &&& (255 : Int32))), .val (.int (4 : Int32)), .val (.int (128 : Int32)), .val (.int (143 : Int32)), .unset, .unset] []))
                  refine Go.step (fun _ k => XS.goto X0.here hx rfl (pc0 := 156) (pc' := 161) rfl (hb hby d1_156) (by decide) (by decide) k) ?_
                  exact J161_2 (4 : Int32) (128 : Int32) (143 : Int32) _ _ X0 e0 N0 (by rw [own_i_4]; decide) (by
                    simp only [Int32.lt_iff_toInt_lt, ← Int32.toInt_inj, own_i_m3, own_i_m2, own_i_m1, own_i_0, own_i_1, own_i_2, own_i_3, own_i_4, own_i_5, own_i_7, own_i_15, own_i_31, own_i_63, own_i_128, own_i_143, own_i_144, own_i_159, own_i_160, own_i_191, own_i_192, own_i_194, own_i_223, own_i_224, own_i_225, own_i_237, own_i_239, own_i_240, own_i_241, own_i_243, own_i_244, own_i_248, own_i_255, own_i_2048, own_i_55296, own_i_57343, own_i_65536, own_i_1114111] at hc12 hc31 hc51 hc69 hc87 hc107 hc125 hc145
                    simp only [own_i_m3, own_i_m2, own_i_m1, own_i_0, own_i_1, own_i_2, own_i_3, own_i_4, own_i_5, own_i_7, own_i_15, own_i_31, own_i_63, own_i_128, own_i_143, own_i_144, own_i_159, own_i_160, own_i_191, own_i_192, own_i_194, own_i_223, own_i_224, own_i_225, own_i_237, own_i_239, own_i_240, own_i_241, own_i_243, own_i_244, own_i_248, own_i_255, own_i_2048, own_i_55296, own_i_57343, own_i_65536, own_i_1114111]
                    rw [own_L_4]
                    unfold own_M
                    (repeat' split) <;> first | rfl | (exfalso; omega))
                · skip
                  refine Go.step (fun _ k => XS.icmpYes X0.here hx rfl (pc0 := 145) (pc' := 159) rfl (hb hby d1_145) rfl (feq hc145).2 (by decide) (by decide) k) ?_
                  show Go _ _ _ _ _ _ _ (s₁.setTop (mkF m 159 #[.val (.ref a0), .val (.int p1), .val (.int p2), .val (.int ((f1 p1) &&& (255 : Int32))), .unset, .val (.int (128 : Int32)), .val (.int (191 : Int32)), .unset, .unset] []))
                  refine Go.step (fun _ k => XS.iconst X0.here hx rfl (hb hby d1_159) k) ?_
                  show Go _ _ _ _ _ _ _ (s₁.setTop (mkF m 160 #[.val (.ref a0), .val (.int p1), .val (.int p2), .val (.int ((f1 p1) &&& (255 : Int32))), .unset, .val (.int (128 : Int32)), .val (.int (191 : Int32)), .unset, .unset] [(.int (-1 : Int32))]))
                  refine Go.retI X0 hx Bd.returns hlk (hb hby d1_160) ?_ (by decide) (by decide)
                  rw [e0]
                  exact ⟨(by
                      refine congrArg (fun z => some (Value.int z)) ?_
                      simp only [Int32.lt_iff_toInt_lt, ← Int32.toInt_inj, own_i_m3, own_i_m2, own_i_m1, own_i_0, own_i_1, own_i_2, own_i_3, own_i_4, own_i_5, own_i_7, own_i_15, own_i_31, own_i_63, own_i_128, own_i_143, own_i_144, own_i_159, own_i_160, own_i_191, own_i_192, own_i_194, own_i_223, own_i_224, own_i_225, own_i_237, own_i_239, own_i_240, own_i_241, own_i_243, own_i_244, own_i_248, own_i_255, own_i_2048, own_i_55296, own_i_57343, own_i_65536, own_i_1114111] at hc12 hc31 hc51 hc69 hc87 hc107 hc125 hc145
                      
                      unfold own_M
                      (repeat' split) <;> first | rfl | (exfalso; omega)), N0, rfl⟩
              · skip
                refine Go.step (fun _ k => XS.icmpNo X0.here hx rfl (hb hby d1_125) rfl (flt hc125).1 k) ?_
                show Go _ _ _ _ _ _ _ (s₁.setTop (mkF m 128 #[.val (.ref a0), .val (.int p1), .val (.int p2), .val (.int ((f1 p1) &&& (255 : Int32))), .unset, .val (.int (128 : Int32)), .val (.int (191 : Int32)), .unset, .unset] []))
                refine Go.step (fun _ k => XS.iloadN X0.here hx rfl (hb hby d1_128) rfl  k) ?_
                show Go _ _ _ _ _ _ _ (s₁.setTop (mkF m 129 #[.val (.ref a0), .val (.int p1), .val (.int p2), .val (.int ((f1 p1) &&& (255 : Int32))), .unset, .val (.int (128 : Int32)), .val (.int (191 : Int32)), .unset, .unset] [(.int ((f1 p1) &&& (255 : Int32)))]))
                refine Go.step (fun _ k => XS.sipush X0.here hx rfl (hb hby d1_129) k) ?_
                show Go _ _ _ _ _ _ _ (s₁.setTop (mkF m 132 #[.val (.ref a0), .val (.int p1), .val (.int p2), .val (.int ((f1 p1) &&& (255 : Int32))), .unset, .val (.int (128 : Int32)), .val (.int (191 : Int32)), .unset, .unset] [(.int (243 : Int32)), (.int ((f1 p1) &&& (255 : Int32)))]))
                by_cases hc132 : (243 : Int32) < ((f1 p1) &&& (255 : Int32))
                · skip
                  refine Go.step (fun _ k => XS.icmpYes X0.here hx rfl (pc0 := 132) (pc' := 141) rfl (hb hby d1_132) rfl (tlt hc132).2.2.1 (by decide) (by decide) k) ?_
                  show Go _ _ _ _ _ _ _ (s₁.setTop (mkF m 141 #[.val (.ref a0), .val (.int p1), .val (.int p2), .val (.int ((f1 p1) &&& (255 : Int32))), .unset, .val (.int (128 : Int32)), .val (.int (191 : Int32)), .unset, .unset] []))
                  refine Go.step (fun _ k => XS.iloadN X0.here hx rfl (hb hby d1_141) rfl  k) ?_
                  show Go _ _ _ _ _ _ _ (s₁.setTop (mkF m 142 #[.val (.ref a0), .val (.int p1), .val (.int p2), .val (.int ((f1 p1) &&& (255 : Int32))), .unset, .val (.int (128 : Int32)), .val (.int (191 : Int32)), .unset, .unset] [(.int ((f1 p1) &&& (255 : Int32)))]))
                  refine Go.step (fun _ k => XS.sipush X0.here hx rfl (hb hby d1_142) k) ?_
                  show Go _ _ _ _ _ _ _ (s₁.setTop (mkF m 145 #[.val (.ref a0), .val (.int p1), .val (.int p2), .val (.int ((f1 p1) &&& (255 : Int32))), .unset, .val (.int (128 : Int32)), .val (.int (191 : Int32)), .unset, .unset] [(.int (244 : Int32)), (.int ((f1 p1) &&& (255 : Int32)))]))
                  by_cases hc145 : ((f1 p1) &&& (255 : Int32)) = (244 : Int32)
                  · skip
                    refine Go.step (fun _ k => XS.icmpNo X0.here hx rfl (hb hby d1_145) rfl (teq hc145).2 k) ?_
                    show Go _ _ _ _ _ _ _ (s₁.setTop (mkF m 148 #[.val (.ref a0), .val (.int p1), .val (.int p2), .val (.int ((f1 p1) &&& (255 : Int32))), .unset, .val (.int (128 : Int32)), .val (.int (191 : Int32)), .unset, .unset] []))
                    refine Go.step (fun _ k => XS.iconst X0.here hx rfl (hb hby d1_148) k) ?_
                    show Go _ _ _ _ _ _ _ (s₁.setTop (mkF m 149 #[.val (.ref a0), .val (.int p1), .val (.int p2), .val (.int ((f1 p1) &&& (255 : Int32))), .unset, .val (.int (128 : Int32)), .val (.int (191 : Int32)), .unset, .unset] [(.int (4 : Int32))]))
                    refine Go.step (fun _ k => XS.istore X0.here hx rfl (hb hby d1_149) rfl (l' := #[.val (.ref a0), .val (.int p1), .val (.int p2), .val (.int ((f1 p1) &&& (255 : Int32))), .val (.int (4 : Int32)), .val (.int (128 : Int32)), .val (.int (191 : Int32)), .unset, .unset]) rfl k) ?_
                    show Go _ _ _ _ _ _ _ (s₁.setTop (mkF m 151 #[.val (.ref a0), .val (.int p1), .val (.int p2), .val (.int ((f1 p1) &&& (255 : Int32))), .val (.int (4 : Int32)), .val (.int (128 : Int32)), .val (.int (191 : Int32)), .unset, .unset] []))
                    refine Go.step (fun _ k => XS.sipush X0.here hx rfl (hb hby d1_151) k) ?_
                    show Go _ _ _ _ _ _ _ (s₁.setTop (mkF m 154 #[.val (.ref a0), .val (.int p1), .val (.int p2), .val (.int ((f1 p1) &&& (255 : Int32))), .val (.int (4 : Int32)), .val (.int (128 : Int32)), .val (.int (191 : Int32)), .unset, .unset] [(.int (143 : Int32))]))
                    refine Go.step (fun _ k => XS.istore X0.here hx rfl (hb hby d1_154) rfl (l' := #[.val (.ref a0), .val (.int p1), .val (.int p2), .val (.int ((f1 p1) &&& (255 : Int32))), .val (.int (4 : Int32)), .val (.int (128 : Int32)), .val (.int (143 : Int32)), .unset, .unset]) rfl k) ?_
                    show Go _ _ _ _ _ _ _ (s₁.setTop (mkF m 156 #[.val (.ref a0), .val (.int p1), .val (.int p2), .val (.int ((f1 p1) &&& (255 : Int32))), .val (.int (4 : Int32)), .val (.int (128 : Int32)), .val (.int (143 : Int32)), .unset, .unset] []))
                    refine Go.step (fun _ k => XS.goto X0.here hx rfl (pc0 := 156) (pc' := 161) rfl (hb hby d1_156) (by decide) (by decide) k) ?_
                    exact J161_2 (4 : Int32) (128 : Int32) (143 : Int32) _ _ X0 e0 N0 (by rw [own_i_4]; decide) (by
                      simp only [Int32.lt_iff_toInt_lt, ← Int32.toInt_inj, own_i_m3, own_i_m2, own_i_m1, own_i_0, own_i_1, own_i_2, own_i_3, own_i_4, own_i_5, own_i_7, own_i_15, own_i_31, own_i_63, own_i_128, own_i_143, own_i_144, own_i_159, own_i_160, own_i_191, own_i_192, own_i_194, own_i_223, own_i_224, own_i_225, own_i_237, own_i_239, own_i_240, own_i_241, own_i_243, own_i_244, own_i_248, own_i_255, own_i_2048, own_i_55296, own_i_57343, own_i_65536, own_i_1114111] at hc12 hc31 hc51 hc69 hc87 hc107 hc125 hc132 hc145
                      simp only [own_i_m3, own_i_m2, own_i_m1, own_i_0, own_i_1, own_i_2, own_i_3, own_i_4, own_i_5, own_i_7, own_i_15, own_i_31, own_i_63, own_i_128, own_i_143, own_i_144, own_i_159, own_i_160, own_i_191, own_i_192, own_i_194, own_i_223, own_i_224, own_i_225, own_i_237, own_i_239, own_i_240, own_i_241, own_i_243, own_i_244, own_i_248, own_i_255, own_i_2048, own_i_55296, own_i_57343, own_i_65536, own_i_1114111]
                      rw [own_L_4]
                      unfold own_M
                      (repeat' split) <;> first | rfl | (exfalso; omega))
                  · skip
                    refine Go.step (fun _ k => XS.icmpYes X0.here hx rfl (pc0 := 145) (pc' := 159) rfl (hb hby d1_145) rfl (feq hc145).2 (by decide) (by decide) k) ?_
                    show Go _ _ _ _ _ _ _ (s₁.setTop (mkF m 159 #[.val (.ref a0), .val (.int p1), .val (.int p2), .val (.int ((f1 p1) &&& (255 : Int32))), .unset, .val (.int (128 : Int32)), .val (.int (191 : Int32)), .unset, .unset] []))
                    refine Go.step (fun _ k => XS.iconst X0.here hx rfl (hb hby d1_159) k) ?_
                    show Go _ _ _ _ _ _ _ (s₁.setTop (mkF m 160 #[.val (.ref a0), .val (.int p1), .val (.int p2), .val (.int ((f1 p1) &&& (255 : Int32))), .unset, .val (.int (128 : Int32)), .val (.int (191 : Int32)), .unset, .unset] [(.int (-1 : Int32))]))
                    refine Go.retI X0 hx Bd.returns hlk (hb hby d1_160) ?_ (by decide) (by decide)
                    rw [e0]
                    exact ⟨(by
                        refine congrArg (fun z => some (Value.int z)) ?_
                        simp only [Int32.lt_iff_toInt_lt, ← Int32.toInt_inj, own_i_m3, own_i_m2, own_i_m1, own_i_0, own_i_1, own_i_2, own_i_3, own_i_4, own_i_5, own_i_7, own_i_15, own_i_31, own_i_63, own_i_128, own_i_143, own_i_144, own_i_159, own_i_160, own_i_191, own_i_192, own_i_194, own_i_223, own_i_224, own_i_225, own_i_237, own_i_239, own_i_240, own_i_241, own_i_243, own_i_244, own_i_248, own_i_255, own_i_2048, own_i_55296, own_i_57343, own_i_65536, own_i_1114111] at hc12 hc31 hc51 hc69 hc87 hc107 hc125 hc132 hc145
                        
                        unfold own_M
                        (repeat' split) <;> first | rfl | (exfalso; omega)), N0, rfl⟩
                · skip
                  refine Go.step (fun _ k => XS.icmpNo X0.here hx rfl (hb hby d1_132) rfl (flt hc132).2.2.1 k) ?_
                  show Go _ _ _ _ _ _ _ (s₁.setTop (mkF m 135 #[.val (.ref a0), .val (.int p1), .val (.int p2), .val (.int ((f1 p1) &&& (255 : Int32))), .unset, .val (.int (128 : Int32)), .val (.int (191 : Int32)), .unset, .unset] []))
                  refine Go.step (fun _ k => XS.iconst X0.here hx rfl (hb hby d1_135) k) ?_
                  show Go _ _ _ _ _ _ _ (s₁.setTop (mkF m 136 #[.val (.ref a0), .val (.int p1), .val (.int p2), .val (.int ((f1 p1) &&& (255 : Int32))), .unset, .val (.int (128 : Int32)), .val (.int (191 : Int32)), .unset, .unset] [(.int (4 : Int32))]))
                  refine Go.step (fun _ k => XS.istore X0.here hx rfl (hb hby d1_136) rfl (l' := #[.val (.ref a0), .val (.int p1), .val (.int p2), .val (.int ((f1 p1) &&& (255 : Int32))), .val (.int (4 : Int32)), .val (.int (128 : Int32)), .val (.int (191 : Int32)), .unset, .unset]) rfl k) ?_
                  show Go _ _ _ _ _ _ _ (s₁.setTop (mkF m 138 #[.val (.ref a0), .val (.int p1), .val (.int p2), .val (.int ((f1 p1) &&& (255 : Int32))), .val (.int (4 : Int32)), .val (.int (128 : Int32)), .val (.int (191 : Int32)), .unset, .unset] []))
                  refine Go.step (fun _ k => XS.goto X0.here hx rfl (pc0 := 138) (pc' := 161) rfl (hb hby d1_138) (by decide) (by decide) k) ?_
                  exact J161_2 (4 : Int32) (128 : Int32) (191 : Int32) _ _ X0 e0 N0 (by rw [own_i_4]; decide) (by
                    simp only [Int32.lt_iff_toInt_lt, ← Int32.toInt_inj, own_i_m3, own_i_m2, own_i_m1, own_i_0, own_i_1, own_i_2, own_i_3, own_i_4, own_i_5, own_i_7, own_i_15, own_i_31, own_i_63, own_i_128, own_i_143, own_i_144, own_i_159, own_i_160, own_i_191, own_i_192, own_i_194, own_i_223, own_i_224, own_i_225, own_i_237, own_i_239, own_i_240, own_i_241, own_i_243, own_i_244, own_i_248, own_i_255, own_i_2048, own_i_55296, own_i_57343, own_i_65536, own_i_1114111] at hc12 hc31 hc51 hc69 hc87 hc107 hc125 hc132
                    simp only [own_i_m3, own_i_m2, own_i_m1, own_i_0, own_i_1, own_i_2, own_i_3, own_i_4, own_i_5, own_i_7, own_i_15, own_i_31, own_i_63, own_i_128, own_i_143, own_i_144, own_i_159, own_i_160, own_i_191, own_i_192, own_i_194, own_i_223, own_i_224, own_i_225, own_i_237, own_i_239, own_i_240, own_i_241, own_i_243, own_i_244, own_i_248, own_i_255, own_i_2048, own_i_55296, own_i_57343, own_i_65536, own_i_1114111]
                    rw [own_L_4]
                    unfold own_M
                    (repeat' split) <;> first | rfl | (exfalso; omega))
          · skip
            refine Go.step (fun _ k => XS.icmpNo X0.here hx rfl (hb hby d1_87) rfl (flt hc87).1 k) ?_
            show Go _ _ _ _ _ _ _ (s₁.setTop (mkF m 90 #[.val (.ref a0), .val (.int p1), .val (.int p2), .val (.int ((f1 p1) &&& (255 : Int32))), .unset, .val (.int (128 : Int32)), .val (.int (191 : Int32)), .unset, .unset] []))
            refine Go.step (fun _ k => XS.iloadN X0.here hx rfl (hb hby d1_90) rfl  k) ?_
            show Go _ _ _ _ _ _ _ (s₁.setTop (mkF m 91 #[.val (.ref a0), .val (.int p1), .val (.int p2), .val (.int ((f1 p1) &&& (255 : Int32))), .unset, .val (.int (128 : Int32)), .val (.int (191 : Int32)), .unset, .unset] [(.int ((f1 p1) &&& (255 : Int32)))]))
            refine Go.step (fun _ k => XS.sipush X0.here hx rfl (hb hby d1_91) k) ?_
            show Go _ _ _ _ _ _ _ (s₁.setTop (mkF m 94 #[.val (.ref a0), .val (.int p1), .val (.int p2), .val (.int ((f1 p1) &&& (255 : Int32))), .unset, .val (.int (128 : Int32)), .val (.int (191 : Int32)), .unset, .unset] [(.int (239 : Int32)), (.int ((f1 p1) &&& (255 : Int32)))]))
            by_cases hc94 : (239 : Int32) < ((f1 p1) &&& (255 : Int32))
            · skip
              refine Go.step (fun _ k => XS.icmpYes X0.here hx rfl (pc0 := 94) (pc' := 103) rfl (hb hby d1_94) rfl (tlt hc94).2.2.1 (by decide) (by decide) k) ?_
              show Go _ _ _ _ _ _ _ (s₁.setTop (mkF m 103 #[.val (.ref a0), .val (.int p1), .val (.int p2), .val (.int ((f1 p1) &&& (255 : Int32))), .unset, .val (.int (128 : Int32)), .val (.int (191 : Int32)), .unset, .unset] []))
              refine Go.step (fun _ k => XS.iloadN X0.here hx rfl (hb hby d1_103) rfl  k) ?_
              show Go _ _ _ _ _ _ _ (s₁.setTop (mkF m 104 #[.val (.ref a0), .val (.int p1), .val (.int p2), .val (.int ((f1 p1) &&& (255 : Int32))), .unset, .val (.int (128 : Int32)), .val (.int (191 : Int32)), .unset, .unset] [(.int ((f1 p1) &&& (255 : Int32)))]))
              refine Go.step (fun _ k => XS.sipush X0.here hx rfl (hb hby d1_104) k) ?_
              show Go _ _ _ _ _ _ _ (s₁.setTop (mkF m 107 #[.val (.ref a0), .val (.int p1), .val (.int p2), .val (.int ((f1 p1) &&& (255 : Int32))), .unset, .val (.int (128 : Int32)), .val (.int (191 : Int32)), .unset, .unset] [(.int (240 : Int32)), (.int ((f1 p1) &&& (255 : Int32)))]))
              by_cases hc107 : ((f1 p1) &&& (255 : Int32)) = (240 : Int32)
              · skip
                refine Go.step (fun _ k => XS.icmpNo X0.here hx rfl (hb hby d1_107) rfl (teq hc107).2 k) ?_
                show Go _ _ _ _ _ _ _ (s₁.setTop (mkF m 110 #[.val (.ref a0), .val (.int p1), .val (.int p2), .val (.int ((f1 p1) &&& (255 : Int32))), .unset, .val (.int (128 : Int32)), .val (.int (191 : Int32)), .unset, .unset] []))
                refine Go.step (fun _ k => XS.iconst X0.here hx rfl (hb hby d1_110) k) ?_
                show Go _ _ _ _ _ _ _ (s₁.setTop (mkF m 111 #[.val (.ref a0), .val (.int p1), .val (.int p2), .val (.int ((f1 p1) &&& (255 : Int32))), .unset, .val (.int (128 : Int32)), .val (.int (191 : Int32)), .unset, .unset] [(.int (4 : Int32))]))
                refine Go.step (fun _ k => XS.istore X0.here hx rfl (hb hby d1_111) rfl (l' := #[.val (.ref a0), .val (.int p1), .val (.int p2), .val (.int ((f1 p1) &&& (255 : Int32))), .val (.int (4 : Int32)), .val (.int (128 : Int32)), .val (.int (191 : Int32)), .unset, .unset]) rfl k) ?_
                show Go _ _ _ _ _ _ _ (s₁.setTop (mkF m 113 #[.val (.ref a0), .val (.int p1), .val (.int p2), .val (.int ((f1 p1) &&& (255 : Int32))), .val (.int (4 : Int32)), .val (.int (128 : Int32)), .val (.int (191 : Int32)), .unset, .unset] []))
                refine Go.step (fun _ k => XS.sipush X0.here hx rfl (hb hby d1_113) k) ?_
                show Go _ _ _ _ _ _ _ (s₁.setTop (mkF m 116 #[.val (.ref a0), .val (.int p1), .val (.int p2), .val (.int ((f1 p1) &&& (255 : Int32))), .val (.int (4 : Int32)), .val (.int (128 : Int32)), .val (.int (191 : Int32)), .unset, .unset] [(.int (144 : Int32))]))
                refine Go.step (fun _ k => XS.istore X0.here hx rfl (hb hby d1_116) rfl (l' := #[.val (.ref a0), .val (.int p1), .val (.int p2), .val (.int ((f1 p1) &&& (255 : Int32))), .val (.int (4 : Int32)), .val (.int (144 : Int32)), .val (.int (191 : Int32)), .unset, .unset]) rfl k) ?_
                show Go _ _ _ _ _ _ _ (s₁.setTop (mkF m 118 #[.val (.ref a0), .val (.int p1), .val (.int p2), .val (.int ((f1 p1) &&& (255 : Int32))), .val (.int (4 : Int32)), .val (.int (144 : Int32)), .val (.int (191 : Int32)), .unset, .unset] []))
                refine Go.step (fun _ k => XS.goto X0.here hx rfl (pc0 := 118) (pc' := 161) rfl (hb hby d1_118) (by decide) (by decide) k) ?_
                exact J161_2 (4 : Int32) (144 : Int32) (191 : Int32) _ _ X0 e0 N0 (by rw [own_i_4]; decide) (by
                  simp only [Int32.lt_iff_toInt_lt, ← Int32.toInt_inj, own_i_m3, own_i_m2, own_i_m1, own_i_0, own_i_1, own_i_2, own_i_3, own_i_4, own_i_5, own_i_7, own_i_15, own_i_31, own_i_63, own_i_128, own_i_143, own_i_144, own_i_159, own_i_160, own_i_191, own_i_192, own_i_194, own_i_223, own_i_224, own_i_225, own_i_237, own_i_239, own_i_240, own_i_241, own_i_243, own_i_244, own_i_248, own_i_255, own_i_2048, own_i_55296, own_i_57343, own_i_65536, own_i_1114111] at hc12 hc31 hc51 hc69 hc87 hc94 hc107
                  simp only [own_i_m3, own_i_m2, own_i_m1, own_i_0, own_i_1, own_i_2, own_i_3, own_i_4, own_i_5, own_i_7, own_i_15, own_i_31, own_i_63, own_i_128, own_i_143, own_i_144, own_i_159, own_i_160, own_i_191, own_i_192, own_i_194, own_i_223, own_i_224, own_i_225, own_i_237, own_i_239, own_i_240, own_i_241, own_i_243, own_i_244, own_i_248, own_i_255, own_i_2048, own_i_55296, own_i_57343, own_i_65536, own_i_1114111]
                  rw [own_L_4]
                  unfold own_M
                  (repeat' split) <;> first | rfl | (exfalso; omega))
              · skip
                refine Go.step (fun _ k => XS.icmpYes X0.here hx rfl (pc0 := 107) (pc' := 121) rfl (hb hby d1_107) rfl (feq hc107).2 (by decide) (by decide) k) ?_
                show Go _ _ _ _ _ _ _ (s₁.setTop (mkF m 121 #[.val (.ref a0), .val (.int p1), .val (.int p2), .val (.int ((f1 p1) &&& (255 : Int32))), .unset, .val (.int (128 : Int32)), .val (.int (191 : Int32)), .unset, .unset] []))
                refine Go.step (fun _ k => XS.iloadN X0.here hx rfl (hb hby d1_121) rfl  k) ?_
                show Go _ _ _ _ _ _ _ (s₁.setTop (mkF m 122 #[.val (.ref a0), .val (.int p1), .val (.int p2), .val (.int ((f1 p1) &&& (255 : Int32))), .unset, .val (.int (128 : Int32)), .val (.int (191 : Int32)), .unset, .unset] [(.int ((f1 p1) &&& (255 : Int32)))]))
                refine Go.step (fun _ k => XS.sipush X0.here hx rfl (hb hby d1_122) k) ?_
                show Go _ _ _ _ _ _ _ (s₁.setTop (mkF m 125 #[.val (.ref a0), .val (.int p1), .val (.int p2), .val (.int ((f1 p1) &&& (255 : Int32))), .unset, .val (.int (128 : Int32)), .val (.int (191 : Int32)), .unset, .unset] [(.int (241 : Int32)), (.int ((f1 p1) &&& (255 : Int32)))]))
                by_cases hc125 : ((f1 p1) &&& (255 : Int32)) < (241 : Int32)
                · skip
                  refine Go.step (fun _ k => XS.icmpYes X0.here hx rfl (pc0 := 125) (pc' := 141) rfl (hb hby d1_125) rfl (tlt hc125).1 (by decide) (by decide) k) ?_
                  show Go _ _ _ _ _ _ _ (s₁.setTop (mkF m 141 #[.val (.ref a0), .val (.int p1), .val (.int p2), .val (.int ((f1 p1) &&& (255 : Int32))), .unset, .val (.int (128 : Int32)), .val (.int (191 : Int32)), .unset, .unset] []))
                  refine Go.step (fun _ k => XS.iloadN X0.here hx rfl (hb hby d1_141) rfl  k) ?_
                  show Go _ _ _ _ _ _ _ (s₁.setTop (mkF m 142 #[.val (.ref a0), .val (.int p1), .val (.int p2), .val (.int ((f1 p1) &&& (255 : Int32))), .unset, .val (.int (128 : Int32)), .val (.int (191 : Int32)), .unset, .unset] [(.int ((f1 p1) &&& (255 : Int32)))]))
                  refine Go.step (fun _ k => XS.sipush X0.here hx rfl (hb hby d1_142) k) ?_
                  show Go _ _ _ _ _ _ _ (s₁.setTop (mkF m 145 #[.val (.ref a0), .val (.int p1), .val (.int p2), .val (.int ((f1 p1) &&& (255 : Int32))), .unset, .val (.int (128 : Int32)), .val (.int (191 : Int32)), .unset, .unset] [(.int (244 : Int32)), (.int ((f1 p1) &&& (255 : Int32)))]))
                  by_cases hc145 : ((f1 p1) &&& (255 : Int32)) = (244 : Int32)
                  · skip
                    refine Go.step (fun _ k => XS.icmpNo X0.here hx rfl (hb hby d1_145) rfl (teq hc145).2 k) ?_
                    show Go _ _ _ _ _ _ _ (s₁.setTop (mkF m 148 #[.val (.ref a0), .val (.int p1), .val (.int p2), .val (.int ((f1 p1) &&& (255 : Int32))), .unset, .val (.int (128 : Int32)), .val (.int (191 : Int32)), .unset, .unset] []))
                    refine Go.step (fun _ k => XS.iconst X0.here hx rfl (hb hby d1_148) k) ?_
                    show Go _ _ _ _ _ _ _ (s₁.setTop (mkF m 149 #[.val (.ref a0), .val (.int p1), .val (.int p2), .val (.int ((f1 p1) &&& (255 : Int32))), .unset, .val (.int (128 : Int32)), .val (.int (191 : Int32)), .unset, .unset] [(.int (4 : Int32))]))
                    refine Go.step (fun _ k => XS.istore X0.here hx rfl (hb hby d1_149) rfl (l' := #[.val (.ref a0), .val (.int p1), .val (.int p2), .val (.int ((f1 p1) &&& (255 : Int32))), .val (.int (4 : Int32)), .val (.int (128 : Int32)), .val (.int (191 : Int32)), .unset, .unset]) rfl k) ?_
                    show Go _ _ _ _ _ _ _ (s₁.setTop (mkF m 151 #[.val (.ref a0), .val (.int p1), .val (.int p2), .val (.int ((f1 p1) &&& (255 : Int32))), .val (.int (4 : Int32)), .val (.int (128 : Int32)), .val (.int (191 : Int32)), .unset, .unset] []))
                    refine Go.step (fun _ k => XS.sipush X0.here hx rfl (hb hby d1_151) k) ?_
                    show Go _ _ _ _ _ _ _ (s₁.setTop (mkF m 154 #[.val (.ref a0), .val (.int p1), .val (.int p2), .val (.int ((f1 p1) &&& (255 : Int32))), .val (.int (4 : Int32)), .val (.int (128 : Int32)), .val (.int (191 : Int32)), .unset, .unset] [(.int (143 : Int32))]))
                    refine Go.step (fun _ k => XS.istore X0.here hx rfl (hb hby d1_154) rfl (l' := #[.val (.ref a0), .val (.int p1), .val (.int p2), .val (.int ((f1 p1) &&& (255 : Int32))), .val (.int (4 : Int32)), .val (.int (128 : Int32)), .val (.int (143 : Int32)), .unset, .unset]) rfl k) ?_
                    show Go _ _ _ _ _ _ _ (s₁.setTop (mkF m 156 #[.val (.ref a0), .val (.int p1), .val (.int p2), .val (.int ((f1 p1) &&& (255 : Int32))), .val (.int (4 : Int32)), .val (.int (128 : Int32)), .val (.int (143 : Int32)), .unset, .unset] []))
                    refine Go.step (fun _ k => XS.goto X0.here hx rfl (pc0 := 156) (pc' := 161) rfl (hb hby d1_156) (by decide) (by decide) k) ?_
                    exact J161_2 (4 : Int32) (128 : Int32) (143 : Int32) _ _ X0 e0 N0 (by rw [own_i_4]; decide) (by
                      simp only [Int32.lt_iff_toInt_lt, ← Int32.toInt_inj, own_i_m3, own_i_m2, own_i_m1, own_i_0, own_i_1, own_i_2, own_i_3, own_i_4, own_i_5, own_i_7, own_i_15, own_i_31, own_i_63, own_i_128, own_i_143, own_i_144, own_i_159, own_i_160, own_i_191, own_i_192, own_i_194, own_i_223, own_i_224, own_i_225, own_i_237, own_i_239, own_i_240, own_i_241, own_i_243, own_i_244, own_i_248, own_i_255, own_i_2048, own_i_55296, own_i_57343, own_i_65536, own_i_1114111] at hc12 hc31 hc51 hc69 hc87 hc94 hc107 hc125 hc145
                      simp only [own_i_m3, own_i_m2, own_i_m1, own_i_0, own_i_1, own_i_2, own_i_3, own_i_4, own_i_5, own_i_7, own_i_15, own_i_31, own_i_63, own_i_128, own_i_143, own_i_144, own_i_159, own_i_160, own_i_191, own_i_192, own_i_194, own_i_223, own_i_224, own_i_225, own_i_237, own_i_239, own_i_240, own_i_241, own_i_243, own_i_244, own_i_248, own_i_255, own_i_2048, own_i_55296, own_i_57343, own_i_65536, own_i_1114111]
                      rw [own_L_4]
                      unfold own_M
                      (repeat' split) <;> first | rfl | (exfalso; omega))
                  · skip
                    refine Go.step (fun _ k => XS.icmpYes X0.here hx rfl (pc0 := 145) (pc' := 159) rfl (hb hby d1_145) rfl (feq hc145).2 (by decide) (by decide) k) ?_
                    show Go _ _ _ _ _ _ _ (s₁.setTop (mkF m 159 #[.val (.ref a0), .val (.int p1), .val (.int p2), .val (.int ((f1 p1) &&& (255 : Int32))), .unset, .val (.int (128 : Int32)), .val (.int (191 : Int32)), .unset, .unset] []))
                    refine Go.step (fun _ k => XS.iconst X0.here hx rfl (hb hby d1_159) k) ?_
                    show Go _ _ _ _ _ _ _ (s₁.setTop (mkF m 160 #[.val (.ref a0), .val (.int p1), .val (.int p2), .val (.int ((f1 p1) &&& (255 : Int32))), .unset, .val (.int (128 : Int32)), .val (.int (191 : Int32)), .unset, .unset] [(.int (-1 : Int32))]))
                    refine Go.retI X0 hx Bd.returns hlk (hb hby d1_160) ?_ (by decide) (by decide)
                    rw [e0]
                    exact ⟨(by
                        refine congrArg (fun z => some (Value.int z)) ?_
                        simp only [Int32.lt_iff_toInt_lt, ← Int32.toInt_inj, own_i_m3, own_i_m2, own_i_m1, own_i_0, own_i_1, own_i_2, own_i_3, own_i_4, own_i_5, own_i_7, own_i_15, own_i_31, own_i_63, own_i_128, own_i_143, own_i_144, own_i_159, own_i_160, own_i_191, own_i_192, own_i_194, own_i_223, own_i_224, own_i_225, own_i_237, own_i_239, own_i_240, own_i_241, own_i_243, own_i_244, own_i_248, own_i_255, own_i_2048, own_i_55296, own_i_57343, own_i_65536, own_i_1114111] at hc12 hc31 hc51 hc69 hc87 hc94 hc107 hc125 hc145
                        
                        unfold own_M
                        (repeat' split) <;> first | rfl | (exfalso; omega)), N0, rfl⟩
                · skip
                  refine Go.step (fun _ k => XS.icmpNo X0.here hx rfl (hb hby d1_125) rfl (flt hc125).1 k) ?_
                  show Go _ _ _ _ _ _ _ (s₁.setTop (mkF m 128 #[.val (.ref a0), .val (.int p1), .val (.int p2), .val (.int ((f1 p1) &&& (255 : Int32))), .unset, .val (.int (128 : Int32)), .val (.int (191 : Int32)), .unset, .unset] []))
                  refine Go.step (fun _ k => XS.iloadN X0.here hx rfl (hb hby d1_128) rfl  k) ?_
                  show Go _ _ _ _ _ _ _ (s₁.setTop (mkF m 129 #[.val (.ref a0), .val (.int p1), .val (.int p2), .val (.int ((f1 p1) &&& (255 : Int32))), .unset, .val (.int (128 : Int32)), .val (.int (191 : Int32)), .unset, .unset] [(.int ((f1 p1) &&& (255 : Int32)))]))
                  refine Go.step (fun _ k => XS.sipush X0.here hx rfl (hb hby d1_129) k) ?_
                  show Go _ _ _ _ _ _ _ (s₁.setTop (mkF m 132 #[.val (.ref a0), .val (.int p1), .val (.int p2), .val (.int ((f1 p1) &&& (255 : Int32))), .unset, .val (.int (128 : Int32)), .val (.int (191 : Int32)), .unset, .unset] [(.int (243 : Int32)), (.int ((f1 p1) &&& (255 : Int32)))]))
                  by_cases hc132 : (243 : Int32) < ((f1 p1) &&& (255 : Int32))
                  · skip
                    refine Go.step (fun _ k => XS.icmpYes X0.here hx rfl (pc0 := 132) (pc' := 141) rfl (hb hby d1_132) rfl (tlt hc132).2.2.1 (by decide) (by decide) k) ?_
                    show Go _ _ _ _ _ _ _ (s₁.setTop (mkF m 141 #[.val (.ref a0), .val (.int p1), .val (.int p2), .val (.int ((f1 p1) &&& (255 : Int32))), .unset, .val (.int (128 : Int32)), .val (.int (191 : Int32)), .unset, .unset] []))
                    refine Go.step (fun _ k => XS.iloadN X0.here hx rfl (hb hby d1_141) rfl  k) ?_
                    show Go _ _ _ _ _ _ _ (s₁.setTop (mkF m 142 #[.val (.ref a0), .val (.int p1), .val (.int p2), .val (.int ((f1 p1) &&& (255 : Int32))), .unset, .val (.int (128 : Int32)), .val (.int (191 : Int32)), .unset, .unset] [(.int ((f1 p1) &&& (255 : Int32)))]))
                    refine Go.step (fun _ k => XS.sipush X0.here hx rfl (hb hby d1_142) k) ?_
                    show Go _ _ _ _ _ _ _ (s₁.setTop (mkF m 145 #[.val (.ref a0), .val (.int p1), .val (.int p2), .val (.int ((f1 p1) &&& (255 : Int32))), .unset, .val (.int (128 : Int32)), .val (.int (191 : Int32)), .unset, .unset] [(.int (244 : Int32)), (.int ((f1 p1) &&& (255 : Int32)))]))
                    by_cases hc145 : ((f1 p1) &&& (255 : Int32)) = (244 : Int32)
                    · skip
                      refine Go.step (fun _ k => XS.icmpNo X0.here hx rfl (hb hby d1_145) rfl (teq hc145).2 k) ?_
                      show Go _ _ _ _ _ _ _ (s₁.setTop (mkF m 148 #[.val (.ref a0), .val (.int p1), .val (.int p2), .val (.int ((f1 p1) &&& (255 : Int32))), .unset, .val (.int (128 : Int32)), .val (.int (191 : Int32)), .unset, .unset] []))
                      refine Go.step (fun _ k => XS.iconst X0.here hx rfl (hb hby d1_148) k) ?_
                      show Go _ _ _ _ _ _ _ (s₁.setTop (mkF m 149 #[.val (.ref a0), .val (.int p1), .val (.int p2), .val (.int ((f1 p1) &&& (255 : Int32))), .unset, .val (.int (128 : Int32)), .val (.int (191 : Int32)), .unset, .unset] [(.int (4 : Int32))]))
                      refine Go.step (fun _ k => XS.istore X0.here hx rfl (hb hby d1_149) rfl (l' := #[.val (.ref a0), .val (.int p1), .val (.int p2), .val (.int ((f1 p1) &&& (255 : Int32))), .val (.int (4 : Int32)), .val (.int (128 : Int32)), .val (.int (191 : Int32)), .unset, .unset]) rfl k) ?_
                      show Go _ _ _ _ _ _ _ (s₁.setTop (mkF m 151 #[.val (.ref a0), .val (.int p1), .val (.int p2), .val (.int ((f1 p1) &&& (255 : Int32))), .val (.int (4 : Int32)), .val (.int (128 : Int32)), .val (.int (191 : Int32)), .unset, .unset] []))
                      refine Go.step (fun _ k => XS.sipush X0.here hx rfl (hb hby d1_151) k) ?_
                      show Go _ _ _ _ _ _ _ (s₁.setTop (mkF m 154 #[.val (.ref a0), .val (.int p1), .val (.int p2), .val (.int ((f1 p1) &&& (255 : Int32))), .val (.int (4 : Int32)), .val (.int (128 : Int32)), .val (.int (191 : Int32)), .unset, .unset] [(.int (143 : Int32))]))
                      refine Go.step (fun _ k => XS.istore X0.here hx rfl (hb hby d1_154) rfl (l' := #[.val (.ref a0), .val (.int p1), .val (.int p2), .val (.int ((f1 p1) &&& (255 : Int32))), .val (.int (4 : Int32)), .val (.int (128 : Int32)), .val (.int (143 : Int32)), .unset, .unset]) rfl k) ?_
                      show Go _ _ _ _ _ _ _ (s₁.setTop (mkF m 156 #[.val (.ref a0), .val (.int p1), .val (.int p2), .val (.int ((f1 p1) &&& (255 : Int32))), .val (.int (4 : Int32)), .val (.int (128 : Int32)), .val (.int (143 : Int32)), .unset, .unset] []))
                      refine Go.step (fun _ k => XS.goto X0.here hx rfl (pc0 := 156) (pc' := 161) rfl (hb hby d1_156) (by decide) (by decide) k) ?_
                      exact J161_2 (4 : Int32) (128 : Int32) (143 : Int32) _ _ X0 e0 N0 (by rw [own_i_4]; decide) (by
                        simp only [Int32.lt_iff_toInt_lt, ← Int32.toInt_inj, own_i_m3, own_i_m2, own_i_m1, own_i_0, own_i_1, own_i_2, own_i_3, own_i_4, own_i_5, own_i_7, own_i_15, own_i_31, own_i_63, own_i_128, own_i_143, own_i_144, own_i_159, own_i_160, own_i_191, own_i_192, own_i_194, own_i_223, own_i_224, own_i_225, own_i_237, own_i_239, own_i_240, own_i_241, own_i_243, own_i_244, own_i_248, own_i_255, own_i_2048, own_i_55296, own_i_57343, own_i_65536, own_i_1114111] at hc12 hc31 hc51 hc69 hc87 hc94 hc107 hc125 hc132 hc145
                        simp only [own_i_m3, own_i_m2, own_i_m1, own_i_0, own_i_1, own_i_2, own_i_3, own_i_4, own_i_5, own_i_7, own_i_15, own_i_31, own_i_63, own_i_128, own_i_143, own_i_144, own_i_159, own_i_160, own_i_191, own_i_192, own_i_194, own_i_223, own_i_224, own_i_225, own_i_237, own_i_239, own_i_240, own_i_241, own_i_243, own_i_244, own_i_248, own_i_255, own_i_2048, own_i_55296, own_i_57343, own_i_65536, own_i_1114111]
                        rw [own_L_4]
                        unfold own_M
                        (repeat' split) <;> first | rfl | (exfalso; omega))
                    · skip
                      refine Go.step (fun _ k => XS.icmpYes X0.here hx rfl (pc0 := 145) (pc' := 159) rfl (hb hby d1_145) rfl (feq hc145).2 (by decide) (by decide) k) ?_
                      show Go _ _ _ _ _ _ _ (s₁.setTop (mkF m 159 #[.val (.ref a0), .val (.int p1), .val (.int p2), .val (.int ((f1 p1) &&& (255 : Int32))), .unset, .val (.int (128 : Int32)), .val (.int (191 : Int32)), .unset, .unset] []))
                      refine Go.step (fun _ k => XS.iconst X0.here hx rfl (hb hby d1_159) k) ?_
                      show Go _ _ _ _ _ _ _ (s₁.setTop (mkF m 160 #[.val (.ref a0), .val (.int p1), .val (.int p2), .val (.int ((f1 p1) &&& (255 : Int32))), .unset, .val (.int (128 : Int32)), .val (.int (191 : Int32)), .unset, .unset] [(.int (-1 : Int32))]))
                      refine Go.retI X0 hx Bd.returns hlk (hb hby d1_160) ?_ (by decide) (by decide)
                      rw [e0]
                      exact ⟨(by
                          refine congrArg (fun z => some (Value.int z)) ?_
                          simp only [Int32.lt_iff_toInt_lt, ← Int32.toInt_inj, own_i_m3, own_i_m2, own_i_m1, own_i_0, own_i_1, own_i_2, own_i_3, own_i_4, own_i_5, own_i_7, own_i_15, own_i_31, own_i_63, own_i_128, own_i_143, own_i_144, own_i_159, own_i_160, own_i_191, own_i_192, own_i_194, own_i_223, own_i_224, own_i_225, own_i_237, own_i_239, own_i_240, own_i_241, own_i_243, own_i_244, own_i_248, own_i_255, own_i_2048, own_i_55296, own_i_57343, own_i_65536, own_i_1114111] at hc12 hc31 hc51 hc69 hc87 hc94 hc107 hc125 hc132 hc145
                          
                          unfold own_M
                          (repeat' split) <;> first | rfl | (exfalso; omega)), N0, rfl⟩
                  · skip
                    refine Go.step (fun _ k => XS.icmpNo X0.here hx rfl (hb hby d1_132) rfl (flt hc132).2.2.1 k) ?_
                    show Go _ _ _ _ _ _ _ (s₁.setTop (mkF m 135 #[.val (.ref a0), .val (.int p1), .val (.int p2), .val (.int ((f1 p1) &&& (255 : Int32))), .unset, .val (.int (128 : Int32)), .val (.int (191 : Int32)), .unset, .unset] []))
                    refine Go.step (fun _ k => XS.iconst X0.here hx rfl (hb hby d1_135) k) ?_
                    show Go _ _ _ _ _ _ _ (s₁.setTop (mkF m 136 #[.val (.ref a0), .val (.int p1), .val (.int p2), .val (.int ((f1 p1) &&& (255 : Int32))), .unset, .val (.int (128 : Int32)), .val (.int (191 : Int32)), .unset, .unset] [(.int (4 : Int32))]))
                    refine Go.step (fun _ k => XS.istore X0.here hx rfl (hb hby d1_136) rfl (l' := #[.val (.ref a0), .val (.int p1), .val (.int p2), .val (.int ((f1 p1) &&& (255 : Int32))), .val (.int (4 : Int32)), .val (.int (128 : Int32)), .val (.int (191 : Int32)), .unset, .unset]) rfl k) ?_
                    show Go _ _ _ _ _ _ _ (s₁.setTop (mkF m 138 #[.val (.ref a0), .val (.int p1), .val (.int p2), .val (.int ((f1 p1) &&& (255 : Int32))), .val (.int (4 : Int32)), .val (.int (128 : Int32)), .val (.int (191 : Int32)), .unset, .unset] []))
                    refine Go.step (fun _ k => XS.goto X0.here hx rfl (pc0 := 138) (pc' := 161) rfl (hb hby d1_138) (by decide) (by decide) k) ?_
                    exact J161_2 (4 : Int32) (128 : Int32) (191 : Int32) _ _ X0 e0 N0 (by rw [own_i_4]; decide) (by
                      simp only [Int32.lt_iff_toInt_lt, ← Int32.toInt_inj, own_i_m3, own_i_m2, own_i_m1, own_i_0, own_i_1, own_i_2, own_i_3, own_i_4, own_i_5, own_i_7, own_i_15, own_i_31, own_i_63, own_i_128, own_i_143, own_i_144, own_i_159, own_i_160, own_i_191, own_i_192, own_i_194, own_i_223, own_i_224, own_i_225, own_i_237, own_i_239, own_i_240, own_i_241, own_i_243, own_i_244, own_i_248, own_i_255, own_i_2048, own_i_55296, own_i_57343, own_i_65536, own_i_1114111] at hc12 hc31 hc51 hc69 hc87 hc94 hc107 hc125 hc132
                      simp only [own_i_m3, own_i_m2, own_i_m1, own_i_0, own_i_1, own_i_2, own_i_3, own_i_4, own_i_5, own_i_7, own_i_15, own_i_31, own_i_63, own_i_128, own_i_143, own_i_144, own_i_159, own_i_160, own_i_191, own_i_192, own_i_194, own_i_223, own_i_224, own_i_225, own_i_237, own_i_239, own_i_240, own_i_241, own_i_243, own_i_244, own_i_248, own_i_255, own_i_2048, own_i_55296, own_i_57343, own_i_65536, own_i_1114111]
                      rw [own_L_4]
                      unfold own_M
                      (repeat' split) <;> first | rfl | (exfalso; omega))
            · skip
              refine Go.step (fun _ k => XS.icmpNo X0.here hx rfl (hb hby d1_94) rfl (flt hc94).2.2.1 k) ?_
              show Go _ _ _ _ _ _ _ (s₁.setTop (mkF m 97 #[.val (.ref a0), .val (.int p1), .val (.int p2), .val (.int ((f1 p1) &&& (255 : Int32))), .unset, .val (.int (128 : Int32)), .val (.int (191 : Int32)), .unset, .unset] []))
              refine Go.step (fun _ k => XS.iconst X0.here hx rfl (hb hby d1_97) k) ?_
              show Go _ _ _ _ _ _ _ (s₁.setTop (mkF m 98 #[.val (.ref a0), .val (.int p1), .val (.int p2), .val (.int ((f1 p1) &&& (255 : Int32))), .unset, .val (.int (128 : Int32)), .val (.int (191 : Int32)), .unset, .unset] [(.int (3 : Int32))]))
              refine Go.step (fun _ k => XS.istore X0.here hx rfl (hb hby d1_98) rfl (l' := #[.val (.ref a0), .val (.int p1), .val (.int p2), .val (.int ((f1 p1) &&& (255 : Int32))), .val (.int (3 : Int32)), .val (.int (128 : Int32)), .val (.int (191 : Int32)), .unset, .unset]) rfl k) ?_
              show Go _ _ _ _ _ _ _ (s₁.setTop (mkF m 100 #[.val (.ref a0), .val (.int p1), .val (.int p2), .val (.int ((f1 p1) &&& (255 : Int32))), .val (.int (3 : Int32)), .val (.int (128 : Int32)), .val (.int (191 : Int32)), .unset, .unset] []))
              refine Go.step (fun _ k => XS.goto X0.here hx rfl (pc0 := 100) (pc' := 161) rfl (hb hby d1_100) (by decide) (by decide) k) ?_
              exact J161_2 (3 : Int32) (128 : Int32) (191 : Int32) _ _ X0 e0 N0 (by rw [own_i_3]; decide) (by
                simp only [Int32.lt_iff_toInt_lt, ← Int32.toInt_inj, own_i_m3, own_i_m2, own_i_m1, own_i_0, own_i_1, own_i_2, own_i_3, own_i_4, own_i_5, own_i_7, own_i_15, own_i_31, own_i_63, own_i_128, own_i_143, own_i_144, own_i_159, own_i_160, own_i_191, own_i_192, own_i_194, own_i_223, own_i_224, own_i_225, own_i_237, own_i_239, own_i_240, own_i_241, own_i_243, own_i_244, own_i_248, own_i_255, own_i_2048, own_i_55296, own_i_57343, own_i_65536, own_i_1114111] at hc12 hc31 hc51 hc69 hc87 hc94
                simp only [own_i_m3, own_i_m2, own_i_m1, own_i_0, own_i_1, own_i_2, own_i_3, own_i_4, own_i_5, own_i_7, own_i_15, own_i_31, own_i_63, own_i_128, own_i_143, own_i_144, own_i_159, own_i_160, own_i_191, own_i_192, own_i_194, own_i_223, own_i_224, own_i_225, own_i_237, own_i_239, own_i_240, own_i_241, own_i_243, own_i_244, own_i_248, own_i_255, own_i_2048, own_i_55296, own_i_57343, own_i_65536, own_i_1114111]
                rw [own_L_3]
                unfold own_M
                (repeat' split) <;> first | rfl | (exfalso; omega))
    · skip
      refine Go.step (fun _ k => XS.icmpNo X0.here hx rfl (hb hby d1_31) rfl (flt hc31).1 k) ?_
      show Go _ _ _ _ _ _ _ (s₁.setTop (mkF m 34 #[.val (.ref a0), .val (.int p1), .val (.int p2), .val (.int ((f1 p1) &&& (255 : Int32))), .unset, .val (.int (128 : Int32)), .val (.int (191 : Int32)), .unset, .unset] []))
      refine Go.step (fun _ k => XS.iloadN X0.here hx rfl (hb hby d1_34) rfl  k) ?_
      show Go _ _ _ _ _ _ _ (s₁.setTop (mkF m 35 #[.val (.ref a0), .val (.int p1), .val (.int p2), .val (.int ((f1 p1) &&& (255 : Int32))), .unset, .val (.int (128 : Int32)), .val (.int (191 : Int32)), .unset, .unset] [(.int ((f1 p1) &&& (255 : Int32)))]))
      refine Go.step (fun _ k => XS.sipush X0.here hx rfl (hb hby d1_35) k) ?_
      show Go _ _ _ _ _ _ _ (s₁.setTop (mkF m 38 #[.val (.ref a0), .val (.int p1), .val (.int p2), .val (.int ((f1 p1) &&& (255 : Int32))), .unset, .val (.int (128 : Int32)), .val (.int (191 : Int32)), .unset, .unset] [(.int (223 : Int32)), (.int ((f1 p1) &&& (255 : Int32)))]))
      by_cases hc38 : (223 : Int32) < ((f1 p1) &&& (255 : Int32))
      · skip
        refine Go.step (fun _ k => XS.icmpYes X0.here hx rfl (pc0 := 38) (pc' := 47) rfl (hb hby d1_38) rfl (tlt hc38).2.2.1 (by decide) (by decide) k) ?_
        show Go _ _ _ _ _ _ _ (s₁.setTop (mkF m 47 #[.val (.ref a0), .val (.int p1), .val (.int p2), .val (.int ((f1 p1) &&& (255 : Int32))), .unset, .val (.int (128 : Int32)), .val (.int (191 : Int32)), .unset, .unset] []))
        refine Go.step (fun _ k => XS.iloadN X0.here hx rfl (hb hby d1_47) rfl  k) ?_
        show Go _ _ _ _ _ _ _ (s₁.setTop (mkF m 48 #[.val (.ref a0), .val (.int p1), .val (.int p2), .val (.int ((f1 p1) &&& (255 : Int32))), .unset, .val (.int (128 : Int32)), .val (.int (191 : Int32)), .unset, .unset] [(.int ((f1 p1) &&& (255 : Int32)))]))
        refine Go.step (fun _ k => XS.sipush X0.here hx rfl (hb hby d1_48) k) ?_
        show Go _ _ _ _ _ _ _ (s₁.setTop (mkF m 51 #[.val (.ref a0), .val (.int p1), .val (.int p2), .val (.int ((f1 p1) &&& (255 : Int32))), .unset, .val (.int (128 : Int32)), .val (.int (191 : Int32)), .unset, .unset] [(.int (224 : Int32)), (.int ((f1 p1) &&& (255 : Int32)))]))
        by_cases hc51 : ((f1 p1) &&& (255 : Int32)) = (224 : Int32)
        · skip
          refine Go.step (fun _ k => XS.icmpNo X0.here hx rfl (hb hby d1_51) rfl (teq hc51).2 k) ?_
          show Go _ _ _ _ _ _ _ (s₁.setTop (mkF m 54 #[.val (.ref a0), .val (.int p1), .val (.int p2), .val (.int ((f1 p1) &&& (255 : Int32))), .unset, .val (.int (128 : Int32)), .val (.int (191 : Int32)), .unset, .unset] []))
          refine Go.step (fun _ k => XS.iconst X0.here hx rfl (hb hby d1_54) k) ?_
          show Go _ _ _ _ _ _ _ (s₁.setTop (mkF m 55 #[.val (.ref a0), .val (.int p1), .val (.int p2), .val (.int ((f1 p1) &&& (255 : Int32))), .unset, .val (.int (128 : Int32)), .val (.int (191 : Int32)), .unset, .unset] [(.int (3 : Int32))]))
          refine Go.step (fun _ k => XS.istore X0.here hx rfl (hb hby d1_55) rfl (l' := #[.val (.ref a0), .val (.int p1), .val (.int p2), .val (.int ((f1 p1) &&& (255 : Int32))), .val (.int (3 : Int32)), .val (.int (128 : Int32)), .val (.int (191 : Int32)), .unset, .unset]) rfl k) ?_
          show Go _ _ _ _ _ _ _ (s₁.setTop (mkF m 57 #[.val (.ref a0), .val (.int p1), .val (.int p2), .val (.int ((f1 p1) &&& (255 : Int32))), .val (.int (3 : Int32)), .val (.int (128 : Int32)), .val (.int (191 : Int32)), .unset, .unset] []))
          refine Go.step (fun _ k => XS.sipush X0.here hx rfl (hb hby d1_57) k) ?_
          show Go _ _ _ _ _ _ _ (s₁.setTop (mkF m 60 #[.val (.ref a0), .val (.int p1), .val (.int p2), .val (.int ((f1 p1) &&& (255 : Int32))), .val (.int (3 : Int32)), .val (.int (128 : Int32)), .val (.int (191 : Int32)), .unset, .unset] [(.int (160 : Int32))]))
          refine Go.step (fun _ k => XS.istore X0.here hx rfl (hb hby d1_60) rfl (l' := #[.val (.ref a0), .val (.int p1), .val (.int p2), .val (.int ((f1 p1) &&& (255 : Int32))), .val (.int (3 : Int32)), .val (.int (160 : Int32)), .val (.int (191 : Int32)), .unset, .unset]) rfl k) ?_
          show Go _ _ _ _ _ _ _ (s₁.setTop (mkF m 62 #[.val (.ref a0), .val (.int p1), .val (.int p2), .val (.int ((f1 p1) &&& (255 : Int32))), .val (.int (3 : Int32)), .val (.int (160 : Int32)), .val (.int (191 : Int32)), .unset, .unset] []))
          refine Go.step (fun _ k => XS.goto X0.here hx rfl (pc0 := 62) (pc' := 161) rfl (hb hby d1_62) (by decide) (by decide) k) ?_
          exact J161_2 (3 : Int32) (160 : Int32) (191 : Int32) _ _ X0 e0 N0 (by rw [own_i_3]; decide) (by
            simp only [Int32.lt_iff_toInt_lt, ← Int32.toInt_inj, own_i_m3, own_i_m2, own_i_m1, own_i_0, own_i_1, own_i_2, own_i_3, own_i_4, own_i_5, own_i_7, own_i_15, own_i_31, own_i_63, own_i_128, own_i_143, own_i_144, own_i_159, own_i_160, own_i_191, own_i_192, own_i_194, own_i_223, own_i_224, own_i_225, own_i_237, own_i_239, own_i_240, own_i_241, own_i_243, own_i_244, own_i_248, own_i_255, own_i_2048, own_i_55296, own_i_57343, own_i_65536, own_i_1114111] at hc12 hc31 hc38 hc51
            simp only [own_i_m3, own_i_m2, own_i_m1, own_i_0, own_i_1, own_i_2, own_i_3, own_i_4, own_i_5, own_i_7, own_i_15, own_i_31, own_i_63, own_i_128, own_i_143, own_i_144, own_i_159, own_i_160, own_i_191, own_i_192, own_i_194, own_i_223, own_i_224, own_i_225, own_i_237, own_i_239, own_i_240, own_i_241, own_i_243, own_i_244, own_i_248, own_i_255, own_i_2048, own_i_55296, own_i_57343, own_i_65536, own_i_1114111]
            rw [own_L_3]
            unfold own_M
            (repeat' split) <;> first | rfl | (exfalso; omega))
        · skip
          refine Go.step (fun _ k => XS.icmpYes X0.here hx rfl (pc0 := 51) (pc' := 65) rfl (hb hby d1_51) rfl (feq hc51).2 (by decide) (by decide) k) ?_
          show Go _ _ _ _ _ _ _ (s₁.setTop (mkF m 65 #[.val (.ref a0), .val (.int p1), .val (.int p2), .val (.int ((f1 p1) &&& (255 : Int32))), .unset, .val (.int (128 : Int32)), .val (.int (191 : Int32)), .unset, .unset] []))
          refine Go.step (fun _ k => XS.iloadN X0.here hx rfl (hb hby d1_65) rfl  k) ?_
          show Go _ _ _ _ _ _ _ (s₁.setTop (mkF m 66 #[.val (.ref a0), .val (.int p1), .val (.int p2), .val (.int ((f1 p1) &&& (255 : Int32))), .unset, .val (.int (128 : Int32)), .val (.int (191 : Int32)), .unset, .unset] [(.int ((f1 p1) &&& (255 : Int32)))]))
          refine Go.step (fun _ k => XS.sipush X0.here hx rfl (hb hby d1_66) k) ?_
          show Go _ _ _ _ _ _ _ (s₁.setTop (mkF m 69 #[.val (.ref a0), .val (.int p1), .val (.int p2), .val (.int ((f1 p1) &&& (255 : Int32))), .unset, .val (.int (128 : Int32)), .val (.int (191 : Int32)), .unset, .unset] [(.int (237 : Int32)), (.int ((f1 p1) &&& (255 : Int32)))]))
          by_cases hc69 : ((f1 p1) &&& (255 : Int32)) = (237 : Int32)
          · skip
            refine Go.step (fun _ k => XS.icmpNo X0.here hx rfl (hb hby d1_69) rfl (teq hc69).2 k) ?_
            show Go _ _ _ _ _ _ _ (s₁.setTop (mkF m 72 #[.val (.ref a0), .val (.int p1), .val (.int p2), .val (.int ((f1 p1) &&& (255 : Int32))), .unset, .val (.int (128 : Int32)), .val (.int (191 : Int32)), .unset, .unset] []))
            refine Go.step (fun _ k => XS.iconst X0.here hx rfl (hb hby d1_72) k) ?_
            show Go _ _ _ _ _ _ _ (s₁.setTop (mkF m 73 #[.val (.ref a0), .val (.int p1), .val (.int p2), .val (.int ((f1 p1) &&& (255 : Int32))), .unset, .val (.int (128 : Int32)), .val (.int (191 : Int32)), .unset, .unset] [(.int (3 : Int32))]))
            refine Go.step (fun _ k => XS.istore X0.here hx rfl (hb hby d1_73) rfl (l' := #[.val (.ref a0), .val (.int p1), .val (.int p2), .val (.int ((f1 p1) &&& (255 : Int32))), .val (.int (3 : Int32)), .val (.int (128 : Int32)), .val (.int (191 : Int32)), .unset, .unset]) rfl k) ?_
            show Go _ _ _ _ _ _ _ (s₁.setTop (mkF m 75 #[.val (.ref a0), .val (.int p1), .val (.int p2), .val (.int ((f1 p1) &&& (255 : Int32))), .val (.int (3 : Int32)), .val (.int (128 : Int32)), .val (.int (191 : Int32)), .unset, .unset] []))
            refine Go.step (fun _ k => XS.sipush X0.here hx rfl (hb hby d1_75) k) ?_
            show Go _ _ _ _ _ _ _ (s₁.setTop (mkF m 78 #[.val (.ref a0), .val (.int p1), .val (.int p2), .val (.int ((f1 p1) &&& (255 : Int32))), .val (.int (3 : Int32)), .val (.int (128 : Int32)), .val (.int (191 : Int32)), .unset, .unset] [(.int (159 : Int32))]))
            refine Go.step (fun _ k => XS.istore X0.here hx rfl (hb hby d1_78) rfl (l' := #[.val (.ref a0), .val (.int p1), .val (.int p2), .val (.int ((f1 p1) &&& (255 : Int32))), .val (.int (3 : Int32)), .val (.int (128 : Int32)), .val (.int (159 : Int32)), .unset, .unset]) rfl k) ?_
            show Go _ _ _ _ _ _ _ (s₁.setTop (mkF m 80 #[.val (.ref a0), .val (.int p1), .val (.int p2), .val (.int ((f1 p1) &&& (255 : Int32))), .val (.int (3 : Int32)), .val (.int (128 : Int32)), .val (.int (159 : Int32)), .unset, .unset] []))
            refine Go.step (fun _ k => XS.goto X0.here hx rfl (pc0 := 80) (pc' := 161) rfl (hb hby d1_80) (by decide) (by decide) k) ?_
            exact J161_2 (3 : Int32) (128 : Int32) (159 : Int32) _ _ X0 e0 N0 (by rw [own_i_3]; decide) (by
              simp only [Int32.lt_iff_toInt_lt, ← Int32.toInt_inj, own_i_m3, own_i_m2, own_i_m1, own_i_0, own_i_1, own_i_2, own_i_3, own_i_4, own_i_5, own_i_7, own_i_15, own_i_31, own_i_63, own_i_128, own_i_143, own_i_144, own_i_159, own_i_160, own_i_191, own_i_192, own_i_194, own_i_223, own_i_224, own_i_225, own_i_237, own_i_239, own_i_240, own_i_241, own_i_243, own_i_244, own_i_248, own_i_255, own_i_2048, own_i_55296, own_i_57343, own_i_65536, own_i_1114111] at hc12 hc31 hc38 hc51 hc69
              simp only [own_i_m3, own_i_m2, own_i_m1, own_i_0, own_i_1, own_i_2, own_i_3, own_i_4, own_i_5, own_i_7, own_i_15, own_i_31, own_i_63, own_i_128, own_i_143, own_i_144, own_i_159, own_i_160, own_i_191, own_i_192, own_i_194, own_i_223, own_i_224, own_i_225, own_i_237, own_i_239, own_i_240, own_i_241, own_i_243, own_i_244, own_i_248, own_i_255, own_i_2048, own_i_55296, own_i_57343, own_i_65536, own_i_1114111]
              rw [own_L_3]
              unfold own_M
              (repeat' split) <;> first | rfl | (exfalso; omega))
          · skip
            refine Go.step (fun _ k => XS.icmpYes X0.here hx rfl (pc0 := 69) (pc' := 83) rfl (hb hby d1_69) rfl (feq hc69).2 (by decide) (by decide) k) ?_
            show Go _ _ _ _ _ _ _ (s₁.setTop (mkF m 83 #[.val (.ref a0), .val (.int p1), .val (.int p2), .val (.int ((f1 p1) &&& (255 : Int32))), .unset, .val (.int (128 : Int32)), .val (.int (191 : Int32)), .unset, .unset] []))
            refine Go.step (fun _ k => XS.iloadN X0.here hx rfl (hb hby d1_83) rfl  k) ?_
            show Go _ _ _ _ _ _ _ (s₁.setTop (mkF m 84 #[.val (.ref a0), .val (.int p1), .val (.int p2), .val (.int ((f1 p1) &&& (255 : Int32))), .unset, .val (.int (128 : Int32)), .val (.int (191 : Int32)), .unset, .unset] [(.int ((f1 p1) &&& (255 : Int32)))]))
            refine Go.step (fun _ k => XS.sipush X0.here hx rfl (hb hby d1_84) k) ?_
            show Go _ _ _ _ _ _ _ (s₁.setTop (mkF m 87 #[.val (.ref a0), .val (.int p1), .val (.int p2), .val (.int ((f1 p1) &&& (255 : Int32))), .unset, .val (.int (128 : Int32)), .val (.int (191 : Int32)), .unset, .unset] [(.int (225 : Int32)), (.int ((f1 p1) &&& (255 : Int32)))]))
            by_cases hc87 : ((f1 p1) &&& (255 : Int32)) < (225 : Int32)
            · skip
              refine Go.step (fun _ k => XS.icmpYes X0.here hx rfl (pc0 := 87) (pc' := 103) rfl (hb hby d1_87) rfl (tlt hc87).1 (by decide) (by decide) k) ?_
              show Go _ _ _ _ _ _ _ (s₁.setTop (mkF m 103 #[.val (.ref a0), .val (.int p1), .val (.int p2), .val (.int ((f1 p1) &&& (255 : Int32))), .unset, .val (.int (128 : Int32)), .val (.int (191 : Int32)), .unset, .unset] []))
              refine Go.step (fun _ k => XS.iloadN X0.here hx rfl (hb hby d1_103) rfl  k) ?_
              show Go _ _ _ _ _ _ _ (s₁.setTop (mkF m 104 #[.val (.ref a0), .val (.int p1), .val (.int p2), .val (.int ((f1 p1) &&& (255 : Int32))), .unset, .val (.int (128 : Int32)), .val (.int (191 : Int32)), .unset, .unset] [(.int ((f1 p1) &&& (255 : Int32)))]))
              refine Go.step (fun _ k => XS.sipush X0.here hx rfl (hb hby d1_104) k) ?_
              show Go _ _ _ _ _ _ _ (s₁.setTop (mkF m 107 #[.val (.ref a0), .val (.int p1), .val (.int p2), .val (.int ((f1 p1) &&& (255 : Int32))), .unset, .val (.int (128 : Int32)), .val (.int (191 : Int32)), .unset, .unset] [(.int (240 : Int32)), (.int ((f1 p1) &&& (255 : Int32)))]))
              by_cases hc107 : ((f1 p1) &&& (255 : Int32)) = (240 : Int32)
              · skip
                refine Go.step (fun _ k => XS.icmpNo X0.here hx rfl (hb hby d1_107) rfl (teq hc107).2 k) ?_
                show Go _ _ _ _ _ _ _ (s₁.setTop (mkF m 110 #[.val (.ref a0), .val (.int p1), .val (.int p2), .val (.int ((f1 p1) &&& (255 : Int32))), .unset, .val (.int (128 : Int32)), .val (.int (191 : Int32)), .unset, .unset] []))
                refine Go.step (fun _ k => XS.iconst X0.here hx rfl (hb hby d1_110) k) ?_
                show Go _ _ _ _ _ _ _ (s₁.setTop (mkF m 111 #[.val (.ref a0), .val (.int p1), .val (.int p2), .val (.int ((f1 p1) &&& (255 : Int32))), .unset, .val (.int (128 : Int32)), .val (.int (191 : Int32)), .unset, .unset] [(.int (4 : Int32))]))
                refine Go.step (fun _ k => XS.istore X0.here hx rfl (hb hby d1_111) rfl (l' := #[.val (.ref a0), .val (.int p1), .val (.int p2), .val (.int ((f1 p1) &&& (255 : Int32))), .val (.int (4 : Int32)), .val (.int (128 : Int32)), .val (.int (191 : Int32)), .unset, .unset]) rfl k) ?_
                show Go _ _ _ _ _ _ _ (s₁.setTop (mkF m 113 #[.val (.ref a0), .val (.int p1), .val (.int p2), .val (.int ((f1 p1) &&& (255 : Int32))), .val (.int (4 : Int32)), .val (.int (128 : Int32)), .val (.int (191 : Int32)), .unset, .unset] []))
                refine Go.step (fun _ k => XS.sipush X0.here hx rfl (hb hby d1_113) k) ?_
                show Go _ _ _ _ _ _ _ (s₁.setTop (mkF m 116 #[.val (.ref a0), .val (.int p1), .val (.int p2), .val (.int ((f1 p1) &&& (255 : Int32))), .val (.int (4 : Int32)), .val (.int (128 : Int32)), .val (.int (191 : Int32)), .unset, .unset] [(.int (144 : Int32))]))
                refine Go.step (fun _ k => XS.istore X0.here hx rfl (hb hby d1_116) rfl (l' := #[.val (.ref a0), .val (.int p1), .val (.int p2), .val (.int ((f1 p1) &&& (255 : Int32))), .val (.int (4 : Int32)), .val (.int (144 : Int32)), .val (.int (191 : Int32)), .unset, .unset]) rfl k) ?_
                show Go _ _ _ _ _ _ _ (s₁.setTop (mkF m 118 #[.val (.ref a0), .val (.int p1), .val (.int p2), .val (.int ((f1 p1) &&& (255 : Int32))), .val (.int (4 : Int32)), .val (.int (144 : Int32)), .val (.int (191 : Int32)), .unset, .unset] []))
                refine Go.step (fun _ k => XS.goto X0.here hx rfl (pc0 := 118) (pc' := 161) rfl (hb hby d1_118) (by decide) (by decide) k) ?_
                exact J161_2 (4 : Int32) (144 : Int32) (191 : Int32) _ _ X0 e0 N0 (by rw [own_i_4]; decide) (by
                  simp only [Int32.lt_iff_toInt_lt, ← Int32.toInt_inj, own_i_m3, own_i_m2, own_i_m1, own_i_0, own_i_1, own_i_2, own_i_3, own_i_4, own_i_5, own_i_7, own_i_15, own_i_31, own_i_63, own_i_128, own_i_143, own_i_144, own_i_159, own_i_160, own_i_191, own_i_192, own_i_194, own_i_223, own_i_224, own_i_225, own_i_237, own_i_239, own_i_240, own_i_241, own_i_243, own_i_244, own_i_248, own_i_255, own_i_2048, own_i_55296, own_i_57343, own_i_65536, own_i_1114111] at hc12 hc31 hc38 hc51 hc69 hc87 hc107
                  simp only [own_i_m3, own_i_m2, own_i_m1, own_i_0, own_i_1, own_i_2, own_i_3, own_i_4, own_i_5, own_i_7, own_i_15, own_i_31, own_i_63, own_i_128, own_i_143, own_i_144, own_i_159, own_i_160, own_i_191, own_i_192, own_i_194, own_i_223, own_i_224, own_i_225, own_i_237, own_i_239, own_i_240, own_i_241, own_i_243, own_i_244, own_i_248, own_i_255, own_i_2048, own_i_55296, own_i_57343, own_i_65536, own_i_1114111]
                  rw [own_L_4]
                  unfold own_M
                  (repeat' split) <;> first | rfl | (exfalso; omega))
              · skip
                refine Go.step (fun _ k => XS.icmpYes X0.here hx rfl (pc0 := 107) (pc' := 121) rfl (hb hby d1_107) rfl (feq hc107).2 (by decide) (by decide) k) ?_
                show Go _ _ _ _ _ _ _ (s₁.setTop (mkF m 121 #[.val (.ref a0), .val (.int p1), .val (.int p2), .val (.int ((f1 p1) &&& (255 : Int32))), .unset, .val (.int (128 : Int32)), .val (.int (191 : Int32)), .unset, .unset] []))
                refine Go.step (fun _ k => XS.iloadN X0.here hx rfl (hb hby d1_121) rfl  k) ?_
                show Go _ _ _ _ _ _ _ (s₁.setTop (mkF m 122 #[.val (.ref a0), .val (.int p1), .val (.int p2), .val (.int ((f1 p1) &&& (255 : Int32))), .unset, .val (.int (128 : Int32)), .val (.int (191 : Int32)), .unset, .unset] [(.int ((f1 p1) &&& (255 : Int32)))]))
                refine Go.step (fun _ k => XS.sipush X0.here hx rfl (hb hby d1_122) k) ?_
                show Go _ _ _ _ _ _ _ (s₁.setTop (mkF m 125 #[.val (.ref a0), .val (.int p1), .val (.int p2), .val (.int ((f1 p1) &&& (255 : Int32))), .unset, .val (.int (128 : Int32)), .val (.int (191 : Int32)), .unset, .unset] [(.int (241 : Int32)), (.int ((f1 p1) &&& (255 : Int32)))]))
                by_cases hc125 : ((f1 p1) &&& (255 : Int32)) < (241 : Int32)
                · skip
                  refine Go.step (fun _ k => XS.icmpYes X0.here hx rfl (pc0 := 125) (pc' := 141) rfl (hb hby d1_125) rfl (tlt hc125).1 (by decide) (by decide) k) ?_
                  show Go _ _ _ _ _ _ _ (s₁.setTop (mkF m 141 #[.val (.ref a0), .val (.int p1), .val (.int p2), .val (.int ((f1 p1) &&& (255 : Int32))), .unset, .val (.int (128 : Int32)), .val (.int (191 : Int32)), .unset, .unset] []))
                  refine Go.step (fun _ k => XS.iloadN X0.here hx rfl (hb hby d1_141) rfl  k) ?_
                  show Go _ _ _ _ _ _ _ (s₁.setTop (mkF m 142 #[.val (.ref a0), .val (.int p1), .val (.int p2), .val (.int ((f1 p1) &&& (255 : Int32))), .unset, .val (.int (128 : Int32)), .val (.int (191 : Int32)), .unset, .unset] [(.int ((f1 p1) &&& (255 : Int32)))]))
                  refine Go.step (fun _ k => XS.sipush X0.here hx rfl (hb hby d1_142) k) ?_
                  show Go _ _ _ _ _ _ _ (s₁.setTop (mkF m 145 #[.val (.ref a0), .val (.int p1), .val (.int p2), .val (.int ((f1 p1) &&& (255 : Int32))), .unset, .val (.int (128 : Int32)), .val (.int (191 : Int32)), .unset, .unset] [(.int (244 : Int32)), (.int ((f1 p1) &&& (255 : Int32)))]))
                  by_cases hc145 : ((f1 p1) &&& (255 : Int32)) = (244 : Int32)
                  · skip
                    refine Go.step (fun _ k => XS.icmpNo X0.here hx rfl (hb hby d1_145) rfl (teq hc145).2 k) ?_
                    show Go _ _ _ _ _ _ _ (s₁.setTop (mkF m 148 #[.val (.ref a0), .val (.int p1), .val (.int p2), .val (.int ((f1 p1) &&& (255 : Int32))), .unset, .val (.int (128 : Int32)), .val (.int (191 : Int32)), .unset, .unset] []))
                    refine Go.step (fun _ k => XS.iconst X0.here hx rfl (hb hby d1_148) k) ?_
                    show Go _ _ _ _ _ _ _ (s₁.setTop (mkF m 149 #[.val (.ref a0), .val (.int p1), .val (.int p2), .val (.int ((f1 p1) &&& (255 : Int32))), .unset, .val (.int (128 : Int32)), .val (.int (191 : Int32)), .unset, .unset] [(.int (4 : Int32))]))
                    refine Go.step (fun _ k => XS.istore X0.here hx rfl (hb hby d1_149) rfl (l' := #[.val (.ref a0), .val (.int p1), .val (.int p2), .val (.int ((f1 p1) &&& (255 : Int32))), .val (.int (4 : Int32)), .val (.int (128 : Int32)), .val (.int (191 : Int32)), .unset, .unset]) rfl k) ?_
                    show Go _ _ _ _ _ _ _ (s₁.setTop (mkF m 151 #[.val (.ref a0), .val (.int p1), .val (.int p2), .val (.int ((f1 p1) &&& (255 : Int32))), .val (.int (4 : Int32)), .val (.int (128 : Int32)), .val (.int (191 : Int32)), .unset, .unset] []))
                    refine Go.step (fun _ k => XS.sipush X0.here hx rfl (hb hby d1_151) k) ?_
                    show Go _ _ _ _ _ _ _ (s₁.setTop (mkF m 154 #[.val (.ref a0), .val (.int p1), .val (.int p2), .val (.int ((f1 p1) &&& (255 : Int32))), .val (.int (4 : Int32)), .val (.int (128 : Int32)), .val (.int (191 : Int32)), .unset, .unset] [(.int (143 : Int32))]))
                    refine Go.step (fun _ k => XS.istore X0.here hx rfl (hb hby d1_154) rfl (l' := #[.val (.ref a0), .val (.int p1), .val (.int p2), .val (.int ((f1 p1) &&& (255 : Int32))), .val (.int (4 : Int32)), .val (.int (128 : Int32)), .val (.int (143 : Int32)), .unset, .unset]) rfl k) ?_
                    show Go _ _ _ _ _ _ _ (s₁.setTop (mkF m 156 #[.val (.ref a0), .val (.int p1), .val (.int p2), .val (.int ((f1 p1) &&& (255 : Int32))), .val (.int (4 : Int32)), .val (.int (128 : Int32)), .val (.int (143 : Int32)), .unset, .unset] []))
                    refine Go.step (fun _ k => XS.goto X0.here hx rfl (pc0 := 156) (pc' := 161) rfl (hb hby d1_156) (by decide) (by decide) k) ?_
                    exact J161_2 (4 : Int32) (128 : Int32) (143 : Int32) _ _ X0 e0 N0 (by rw [own_i_4]; decide) (by
                      simp only [Int32.lt_iff_toInt_lt, ← Int32.toInt_inj, own_i_m3, own_i_m2, own_i_m1, own_i_0, own_i_1, own_i_2, own_i_3, own_i_4, own_i_5, own_i_7, own_i_15, own_i_31, own_i_63, own_i_128, own_i_143, own_i_144, own_i_159, own_i_160, own_i_191, own_i_192, own_i_194, own_i_223, own_i_224, own_i_225, own_i_237, own_i_239, own_i_240, own_i_241, own_i_243, own_i_244, own_i_248, own_i_255, own_i_2048, own_i_55296, own_i_57343, own_i_65536, own_i_1114111] at hc12 hc31 hc38 hc51 hc69 hc87 hc107 hc125 hc145
                      simp only [own_i_m3, own_i_m2, own_i_m1, own_i_0, own_i_1, own_i_2, own_i_3, own_i_4, own_i_5, own_i_7, own_i_15, own_i_31, own_i_63, own_i_128, own_i_143, own_i_144, own_i_159, own_i_160, own_i_191, own_i_192, own_i_194, own_i_223, own_i_224, own_i_225, own_i_237, own_i_239, own_i_240, own_i_241, own_i_243, own_i_244, own_i_248, own_i_255, own_i_2048, own_i_55296, own_i_57343, own_i_65536, own_i_1114111]
                      rw [own_L_4]
                      unfold own_M
                      (repeat' split) <;> first | rfl | (exfalso; omega))
                  · skip
                    refine Go.step (fun _ k => XS.icmpYes X0.here hx rfl (pc0 := 145) (pc' := 159) rfl (hb hby d1_145) rfl (feq hc145).2 (by decide) (by decide) k) ?_
                    show Go _ _ _ _ _ _ _ (s₁.setTop (mkF m 159 #[.val (.ref a0), .val (.int p1), .val (.int p2), .val (.int ((f1 p1) &&& (255 : Int32))), .unset, .val (.int (128 : Int32)), .val (.int (191 : Int32)), .unset, .unset] []))
                    refine Go.step (fun _ k => XS.iconst X0.here hx rfl (hb hby d1_159) k) ?_
                    show Go _ _ _ _ _ _ _ (s₁.setTop (mkF m 160 #[.val (.ref a0), .val (.int p1), .val (.int p2), .val (.int ((f1 p1) &&& (255 : Int32))), .unset, .val (.int (128 : Int32)), .val (.int (191 : Int32)), .unset, .unset] [(.int (-1 : Int32))]))
                    refine Go.retI X0 hx Bd.returns hlk (hb hby d1_160) ?_ (by decide) (by decide)
                    rw [e0]
                    exact ⟨(by
                        refine congrArg (fun z => some (Value.int z)) ?_
                        simp only [Int32.lt_iff_toInt_lt, ← Int32.toInt_inj, own_i_m3, own_i_m2, own_i_m1, own_i_0, own_i_1, own_i_2, own_i_3, own_i_4, own_i_5, own_i_7, own_i_15, own_i_31, own_i_63, own_i_128, own_i_143, own_i_144, own_i_159, own_i_160, own_i_191, own_i_192, own_i_194, own_i_223, own_i_224, own_i_225, own_i_237, own_i_239, own_i_240, own_i_241, own_i_243, own_i_244, own_i_248, own_i_255, own_i_2048, own_i_55296, own_i_57343, own_i_65536, own_i_1114111] at hc12 hc31 hc38 hc51 hc69 hc87 hc107 hc125 hc145
                        
                        unfold own_M
                        (repeat' split) <;> first | rfl | (exfalso; omega)), N0, rfl⟩
                · skip
                  refine Go.step (fun _ k => XS.icmpNo X0.here hx rfl (hb hby d1_125) rfl (flt hc125).1 k) ?_
                  show Go _ _ _ _ _ _ _ (s₁.setTop (mkF m 128 #[.val (.ref a0), .val (.int p1), .val (.int p2), .val (.int ((f1 p1) &&& (255 : Int32))), .unset, .val (.int (128 : Int32)), .val (.int (191 : Int32)), .unset, .unset] []))
                  refine Go.step (fun _ k => XS.iloadN X0.here hx rfl (hb hby d1_128) rfl  k) ?_
                  show Go _ _ _ _ _ _ _ (s₁.setTop (mkF m 129 #[.val (.ref a0), .val (.int p1), .val (.int p2), .val (.int ((f1 p1) &&& (255 : Int32))), .unset, .val (.int (128 : Int32)), .val (.int (191 : Int32)), .unset, .unset] [(.int ((f1 p1) &&& (255 : Int32)))]))
                  refine Go.step (fun _ k => XS.sipush X0.here hx rfl (hb hby d1_129) k) ?_
                  show Go _ _ _ _ _ _ _ (s₁.setTop (mkF m 132 #[.val (.ref a0), .val (.int p1), .val (.int p2), .val (.int ((f1 p1) &&& (255 : Int32))), .unset, .val (.int (128 : Int32)), .val (.int (191 : Int32)), .unset, .unset] [(.int (243 : Int32)), (.int ((f1 p1) &&& (255 : Int32)))]))
                  by_cases hc132 : (243 : Int32) < ((f1 p1) &&& (255 : Int32))
                  · skip
                    refine Go.step (fun _ k => XS.icmpYes X0.here hx rfl (pc0 := 132) (pc' := 141) rfl (hb hby d1_132) rfl (tlt hc132).2.2.1 (by decide) (by decide) k) ?_
                    show Go _ _ _ _ _ _ _ (s₁.setTop (mkF m 141 #[.val (.ref a0), .val (.int p1), .val (.int p2), .val (.int ((f1 p1) &&& (255 : Int32))), .unset, .val (.int (128 : Int32)), .val (.int (191 : Int32)), .unset, .unset] []))
                    refine Go.step (fun _ k => XS.iloadN X0.here hx rfl (hb hby d1_141) rfl  k) ?_
                    show Go _ _ _ _ _ _ _ (s₁.setTop (mkF m 142 #[.val (.ref a0), .val (.int p1), .val (.int p2), .val (.int ((f1 p1) &&& (255 : Int32))), .unset, .val (.int (128 : Int32)), .val (.int (191 : Int32)), .unset, .unset] [(.int ((f1 p1) &&& (255 : Int32)))]))
                    refine Go.step (fun _ k => XS.sipush X0.here hx rfl (hb hby d1_142) k) ?_
                    show Go _ _ _ _ _ _ _ (s₁.setTop (mkF m 145 #[.val (.ref a0), .val (.int p1), .val (.int p2), .val (.int ((f1 p1) &&& (255 : Int32))), .unset, .val (.int (128 : Int32)), .val (.int (191 : Int32)), .unset, .unset] [(.int (244 : Int32)), (.int ((f1 p1) &&& (255 : Int32)))]))
                    by_cases hc145 : ((f1 p1) &&& (255 : Int32)) = (244 : Int32)
                    · skip
                      refine Go.step (fun _ k => XS.icmpNo X0.here hx rfl (hb hby d1_145) rfl (teq hc145).2 k) ?_
                      show Go _ _ _ _ _ _ _ (s₁.setTop (mkF m 148 #[.val (.ref a0), .val (.int p1), .val (.int p2), .val (.int ((f1 p1) &&& (255 : Int32))), .unset, .val (.int (128 : Int32)), .val (.int (191 : Int32)), .unset, .unset] []))
                      refine Go.step (fun _ k => XS.iconst X0.here hx rfl (hb hby d1_148) k) ?_
                      show Go _ _ _ _ _ _ _ (s₁.setTop (mkF m 149 #[.val (.ref a0), .val (.int p1), .val (.int p2), .val (.int ((f1 p1) &&& (255 : Int32))), .unset, .val (.int (128 : Int32)), .val (.int (191 : Int32)), .unset, .unset] [(.int (4 : Int32))]))
                      refine Go.step (fun _ k => XS.istore X0.here hx rfl (hb hby d1_149) rfl (l' := #[.val (.ref a0), .val (.int p1), .val (.int p2), .val (.int ((f1 p1) &&& (255 : Int32))), .val (.int (4 : Int32)), .val (.int (128 : Int32)), .val (.int (191 : Int32)), .unset, .unset]) rfl k) ?_
                      show Go _ _ _ _ _ _ _ (s₁.setTop (mkF m 151 #[.val (.ref a0), .val (.int p1), .val (.int p2), .val (.int ((f1 p1) &&& (255 : Int32))), .val (.int (4 : Int32)), .val (.int (128 : Int32)), .val (.int (191 : Int32)), .unset, .unset] []))
                      refine Go.step (fun _ k => XS.sipush X0.here hx rfl (hb hby d1_151) k) ?_
                      show Go _ _ _ _ _ _ _ (s₁.setTop (mkF m 154 #[.val (.ref a0), .val (.int p1), .val (.int p2), .val (.int ((f1 p1) &&& (255 : Int32))), .val (.int (4 : Int32)), .val (.int (128 : Int32)), .val (.int (191 : Int32)), .unset, .unset] [(.int (143 : Int32))]))
                      refine Go.step (fun _ k => XS.istore X0.here hx rfl (hb hby d1_154) rfl (l' := #[.val (.ref a0), .val (.int p1), .val (.int p2), .val (.int ((f1 p1) &&& (255 : Int32))), .val (.int (4 : Int32)), .val (.int (128 : Int32)), .val (.int (143 : Int32)), .unset, .unset]) rfl k) ?_
                      show Go _ _ _ _ _ _ _ (s₁.setTop (mkF m 156 #[.val (.ref a0), .val (.int p1), .val (.int p2), .val (.int ((f1 p1) &&& (255 : Int32))), .val (.int (4 : Int32)), .val (.int (128 : Int32)), .val (.int (143 : Int32)), .unset, .unset] []))
                      refine Go.step (fun _ k => XS.goto X0.here hx rfl (pc0 := 156) (pc' := 161) rfl (hb hby d1_156) (by decide) (by decide) k) ?_
                      exact J161_2 (4 : Int32) (128 : Int32) (143 : Int32) _ _ X0 e0 N0 (by rw [own_i_4]; decide) (by
                        simp only [Int32.lt_iff_toInt_lt, ← Int32.toInt_inj, own_i_m3, own_i_m2, own_i_m1, own_i_0, own_i_1, own_i_2, own_i_3, own_i_4, own_i_5, own_i_7, own_i_15, own_i_31, own_i_63, own_i_128, own_i_143, own_i_144, own_i_159, own_i_160, own_i_191, own_i_192, own_i_194, own_i_223, own_i_224, own_i_225, own_i_237, own_i_239, own_i_240, own_i_241, own_i_243, own_i_244, own_i_248, own_i_255, own_i_2048, own_i_55296, own_i_57343, own_i_65536, own_i_1114111] at hc12 hc31 hc38 hc51 hc69 hc87 hc107 hc125 hc132 hc145
                        simp only [own_i_m3, own_i_m2, own_i_m1, own_i_0, own_i_1, own_i_2, own_i_3, own_i_4, own_i_5, own_i_7, own_i_15, own_i_31, own_i_63, own_i_128, own_i_143, own_i_144, own_i_159, own_i_160, own_i_191, own_i_192, own_i_194, own_i_223, own_i_224, own_i_225, own_i_237, own_i_239, own_i_240, own_i_241, own_i_243, own_i_244, own_i_248, own_i_255, own_i_2048, own_i_55296, own_i_57343, own_i_65536, own_i_1114111]
                        rw [own_L_4]
                        unfold own_M
                        (repeat' split) <;> first | rfl | (exfalso; omega))
                    · skip
                      refine Go.step (fun _ k => XS.icmpYes X0.here hx rfl (pc0 := 145) (pc' := 159) rfl (hb hby d1_145) rfl (feq hc145).2 (by decide) (by decide) k) ?_
                      show Go _ _ _ _ _ _ _ (s₁.setTop (mkF m 159 #[.val (.ref a0), .val (.int p1), .val (.int p2), .val (.int ((f1 p1) &&& (255 : Int32))), .unset, .val (.int (128 : Int32)), .val (.int (191 : Int32)), .unset, .unset] []))
                      refine Go.step (fun _ k => XS.iconst X0.here hx rfl (hb hby d1_159) k) ?_
                      show Go _ _ _ _ _ _ _ (s₁.setTop (mkF m 160 #[.val (.ref a0), .val (.int p1), .val (.int p2), .val (.int ((f1 p1) &&& (255 : Int32))), .unset, .val (.int (128 : Int32)), .val (.int (191 : Int32)), .unset, .unset] [(.int (-1 : Int32))]))
                      refine Go.retI X0 hx Bd.returns hlk (hb hby d1_160) ?_ (by decide) (by decide)
                      rw [e0]
                      exact ⟨(by
                          refine congrArg (fun z => some (Value.int z)) ?_
                          simp only [Int32.lt_iff_toInt_lt, ← Int32.toInt_inj, own_i_m3, own_i_m2, own_i_m1, own_i_0, own_i_1, own_i_2, own_i_3, own_i_4, own_i_5, own_i_7, own_i_15, own_i_31, own_i_63, own_i_128, own_i_143, own_i_144, own_i_159, own_i_160, own_i_191, own_i_192, own_i_194, own_i_223, own_i_224, own_i_225, own_i_237, own_i_239, own_i_240, own_i_241, own_i_243, own_i_244, own_i_248, own_i_255, own_i_2048, own_i_55296, own_i_57343, own_i_65536, own_i_1114111] at hc12 hc31 hc38 hc51 hc69 hc87 hc107 hc125 hc132 hc145
                          
                          unfold own_M
                          (repeat' split) <;> first | rfl | (exfalso; omega)), N0, rfl⟩
                  · skip
                    refine Go.step (fun _ k => XS.icmpNo X0.here hx rfl (hb hby d1_132) rfl (flt hc132).2.2.1 k) ?_
                    show Go _ _ _ _ _ _ _ (s₁.setTop (mkF m 135 #[.val (.ref a0), .val (.int p1), .val (.int p2), .val (.int ((f1 p1) &&& (255 : Int32))), .unset, .val (.int (128 : Int32)), .val (.int (191 : Int32)), .unset, .unset] []))
                    refine Go.step (fun _ k => XS.iconst X0.here hx rfl (hb hby d1_135) k) ?_
                    show Go _ _ _ _ _ _ _ (s₁.setTop (mkF m 136 #[.val (.ref a0), .val (.int p1), .val (.int p2), .val (.int ((f1 p1) &&& (255 : Int32))), .unset, .val (.int (128 : Int32)), .val (.int (191 : Int32)), .unset, .unset] [(.int (4 : Int32))]))
                    refine Go.step (fun _ k => XS.istore X0.here hx rfl (hb hby d1_136) rfl (l' := #[.val (.ref a0), .val (.int p1), .val (.int p2), .val (.int ((f1 p1) &&& (255 : Int32))), .val (.int (4 : Int32)), .val (.int (128 : Int32)), .val (.int (191 : Int32)), .unset, .unset]) rfl k) ?_
                    show Go _ _ _ _ _ _ _ (s₁.setTop (mkF m 138 #[.val (.ref a0), .val (.int p1), .val (.int p2), .val (.int ((f1 p1) &&& (255 : Int32))), .val (.int (4 : Int32)), .val (.int (128 : Int32)), .val (.int (191 : Int32)), .unset, .unset] []))
                    refine Go.step (fun _ k => XS.goto X0.here hx rfl (pc0 := 138) (pc' := 161) rfl (hb hby d1_138) (by decide) (by decide) k) ?_
                    exact J161_2 (4 : Int32) (128 : Int32) (191 : Int32) _ _ X0 e0 N0 (by rw [own_i_4]; decide) (by
                      simp only [Int32.lt_iff_toInt_lt, ← Int32.toInt_inj, own_i_m3, own_i_m2, own_i_m1, own_i_0, own_i_1, own_i_2, own_i_3, own_i_4, own_i_5, own_i_7, own_i_15, own_i_31, own_i_63, own_i_128, own_i_143, own_i_144, own_i_159, own_i_160, own_i_191, own_i_192, own_i_194, own_i_223, own_i_224, own_i_225, own_i_237, own_i_239, own_i_240, own_i_241, own_i_243, own_i_244, own_i_248, own_i_255, own_i_2048, own_i_55296, own_i_57343, own_i_65536, own_i_1114111] at hc12 hc31 hc38 hc51 hc69 hc87 hc107 hc125 hc132
                      simp only [own_i_m3, own_i_m2, own_i_m1, own_i_0, own_i_1, own_i_2, own_i_3, own_i_4, own_i_5, own_i_7, own_i_15, own_i_31, own_i_63, own_i_128, own_i_143, own_i_144, own_i_159, own_i_160, own_i_191, own_i_192, own_i_194, own_i_223, own_i_224, own_i_225, own_i_237, own_i_239, own_i_240, own_i_241, own_i_243, own_i_244, own_i_248, own_i_255, own_i_2048, own_i_55296, own_i_57343, own_i_65536, own_i_1114111]
                      rw [own_L_4]
                      unfold own_M
                      (repeat' split) <;> first | rfl | (exfalso; omega))
            · skip
              refine Go.step (fun _ k => XS.icmpNo X0.here hx rfl (hb hby d1_87) rfl (flt hc87).1 k) ?_
              show Go _ _ _ _ _ _ _ (s₁.setTop (mkF m 90 #[.val (.ref a0), .val (.int p1), .val (.int p2), .val (.int ((f1 p1) &&& (255 : Int32))), .unset, .val (.int (128 : Int32)), .val (.int (191 : Int32)), .unset, .unset] []))
              refine Go.step (fun _ k => XS.iloadN X0.here hx rfl (hb hby d1_90) rfl  k) ?_
              show Go _ _ _ _ _ _ _ (s₁.setTop (mkF m 91 #[.val (.ref a0), .val (.int p1), .val (.int p2), .val (.int ((f1 p1) &&& (255 : Int32))), .unset, .val (.int (128 : Int32)), .val (.int (191 : Int32)), .unset, .unset] [(.int ((f1 p1) &&& (255 : Int32)))]))
              refine Go.step (fun _ k => XS.sipush X0.here hx rfl (hb hby d1_91) k) ?_
              show Go _ _ _ _ _ _ _ (s₁.setTop (mkF m 94 #[.val (.ref a0), .val (.int p1), .val (.int p2), .val (.int ((f1 p1) &&& (255 : Int32))), .unset, .val (.int (128 : Int32)), .val (.int (191 : Int32)), .unset, .unset] [(.int (239 : Int32)), (.int ((f1 p1) &&& (255 : Int32)))]))
              by_cases hc94 : (239 : Int32) < ((f1 p1) &&& (255 : Int32))
              · skip
                refine Go.step (fun _ k => XS.icmpYes X0.here hx rfl (pc0 := 94) (pc' := 103) rfl (hb hby d1_94) rfl (tlt hc94).2.2.1 (by decide) (by decide) k) ?_
                show Go _ _ _ _ _ _ _ (s₁.setTop (mkF m 103 #[.val (.ref a0), .val (.int p1), .val (.int p2), .val (.int ((f1 p1) &&& (255 : Int32))), .unset, .val (.int (128 : Int32)), .val (.int (191 : Int32)), .unset, .unset] []))
                refine Go.step (fun _ k => XS.iloadN X0.here hx rfl (hb hby d1_103) rfl  k) ?_
                show Go _ _ _ _ _ _ _ (s₁.setTop (mkF m 104 #[.val (.ref a0), .val (.int p1), .val (.int p2), .val (.int ((f1 p1) &&& (255 : Int32))), .unset, .val (.int (128 : Int32)), .val (.int (191 : Int32)), .unset, .unset] [(.int ((f1 p1) &&& (255 : Int32)))]))
                refine Go.step (fun _ k => XS.sipush X0.here hx rfl (hb hby d1_104) k) ?_
                show Go _ _ _ _ _ _ _ (s₁.setTop (mkF m 107 #[.val (.ref a0), .val (.int p1), .val (.int p2), .val (.int ((f1 p1) &&& (255 : Int32))), .unset, .val (.int (128 : Int32)), .val (.int (191 : Int32)), .unset, .unset] [(.int (240 : Int32)), (.int ((f1 p1) &&& (255 : Int32)))]))
                by_cases hc107 : ((f1 p1) &&& (255 : Int32)) = (240 : Int32)
                · skip
                  refine Go.step (fun _ k => XS.icmpNo X0.here hx rfl (hb hby d1_107) rfl (teq hc107).2 k) ?_
                  show Go _ _ _ _ _ _ _ (s₁.setTop (mkF m 110 #[.val (.ref a0), .val (.int p1), .val (.int p2), .val (.int ((f1 p1) &&& (255 : Int32))), .unset, .val (.int (128 : Int32)), .val (.int (191 : Int32)), .unset, .unset] []))
                  refine Go.step (fun _ k => XS.iconst X0.here hx rfl (hb hby d1_110) k) ?_
                  show Go _ _ _ _ _ _ _ (s₁.setTop (mkF m 111 #[.val (.ref a0), .val (.int p1), .val (.int p2), .val (.int ((f1 p1) &&& (255 : Int32))), .unset, .val (.int (128 : Int32)), .val (.int (191 : Int32)), .unset, .unset] [(.int (4 : Int32))]))
                  refine Go.step (fun _ k => XS.istore X0.here hx rfl (hb hby d1_111) rfl (l' := #[.val (.ref a0), .val (.int p1), .val (.int p2), .val (.int ((f1 p1) &&& (255 : Int32))), .val (.int (4 : Int32)), .val (.int (128 : Int32)), .val (.int (191 : Int32)), .unset, .unset]) rfl k) ?_
                  show Go _ _ _ _ _ _ _ (s₁.setTop (mkF m 113 #[.val (.ref a0), .val (.int p1), .val (.int p2), .val (.int ((f1 p1) &&& (255 : Int32))), .val (.int (4 : Int32)), .val (.int (128 : Int32)), .val (.int (191 : Int32)), .unset, .unset] []))
                  refine Go.step (fun _ k => XS.sipush X0.here hx rfl (hb hby d1_113) k) ?_
                  show Go _ _ _ _ _ _ _ (s₁.setTop (mkF m 116 #[.val (.ref a0), .val (.int p1), .val (.int p2), .val (.int ((f1 p1) &&& (255 : Int32))), .val (.int (4 : Int32)), .val (.int (128 : Int32)), .val (.int (191 : Int32)), .unset, .unset] [(.int (144 : Int32))]))
                  refine Go.step (fun _ k => XS.istore X0.here hx rfl (hb hby d1_116) rfl (l' := #[.val (.ref a0), .val (.int p1), .val (.int p2), .val (.int ((f1 p1) &&& (255 : Int32))), .val (.int (4 : Int32)), .val (.int (144 : Int32)), .val (.int (191 : Int32)), .unset, .unset]) rfl k) ?_
                  show Go _ _ _ _ _ _ _ (s₁.setTop (mkF m 118 #[.val (.ref a0), .val (.int p1), .val (.int p2), .val (.int ((f1 p1) &&& (255 : Int32))), .val (.int (4 : Int32)), .val (.int (144 : Int32)), .val (.int (191 : Int32)), .unset, .unset] []))
                  refine Go.step (fun _ k => XS.goto X0.here hx rfl (pc0 := 118) (pc' := 161) rfl (hb hby d1_118) (by decide) (by decide) k) ?_
                  exact J161_2 (4 : Int32) (144 : Int32) (191 : Int32) _ _ X0 e0 N0 (by rw [own_i_4]; decide) (by
                    simp only [Int32.lt_iff_toInt_lt, ← Int32.toInt_inj, own_i_m3, own_i_m2, own_i_m1, own_i_0, own_i_1, own_i_2, own_i_3, own_i_4, own_i_5, own_i_7, own_i_15, own_i_31, own_i_63, own_i_128, own_i_143, own_i_144, own_i_159, own_i_160, own_i_191, own_i_192, own_i_194, own_i_223, own_i_224, own_i_225, own_i_237, own_i_239, own_i_240, own_i_241, own_i_243, own_i_244, own_i_248, own_i_255, own_i_2048, own_i_55296, own_i_57343, own_i_65536, own_i_1114111] at hc12 hc31 hc38 hc51 hc69 hc87 hc94 hc107
                    simp only [own_i_m3, own_i_m2, own_i_m1, own_i_0, own_i_1, own_i_2, own_i_3, own_i_4, own_i_5, own_i_7, own_i_15, own_i_31, own_i_63, own_i_128, own_i_143, own_i_144, own_i_159, own_i_160, own_i_191, own_i_192, own_i_194, own_i_223, own_i_224, own_i_225, own_i_237, own_i_239, own_i_240, own_i_241, own_i_243, own_i_244, own_i_248, own_i_255, own_i_2048, own_i_55296, own_i_57343, own_i_65536, own_i_1114111]
                    rw [own_L_4]
                    unfold own_M
                    (repeat' split) <;> first | rfl | (exfalso; omega))
                · skip
                  refine Go.step (fun _ k => XS.icmpYes X0.here hx rfl (pc0 := 107) (pc' := 121) rfl (hb hby d1_107) rfl (feq hc107).2 (by decide) (by decide) k) ?_
                  show Go _ _ _ _ _ _ _ (s₁.setTop (mkF m 121 #[.val (.ref a0), .val (.int p1), .val (.int p2), .val (.int ((f1 p1) &&& (255 : Int32))), .unset, .val (.int (128 : Int32)), .val (.int (191 : Int32)), .unset, .unset] []))
                  refine Go.step (fun _ k => XS.iloadN X0.here hx rfl (hb hby d1_121) rfl  k) ?_
                  show Go _ _ _ _ _ _ _ (s₁.setTop (mkF m 122 #[.val (.ref a0), .val (.int p1), .val (.int p2), .val (.int ((f1 p1) &&& (255 : Int32))), .unset, .val (.int (128 : Int32)), .val (.int (191 : Int32)), .unset, .unset] [(.int ((f1 p1) &&& (255 : Int32)))]))
                  refine Go.step (fun _ k => XS.sipush X0.here hx rfl (hb hby d1_122) k) ?_
                  show Go _ _ _ _ _ _ _ (s₁.setTop (mkF m 125 #[.val (.ref a0), .val (.int p1), .val (.int p2), .val (.int ((f1 p1) &&& (255 : Int32))), .unset, .val (.int (128 : Int32)), .val (.int (191 : Int32)), .unset, .unset] [(.int (241 : Int32)), (.int ((f1 p1) &&& (255 : Int32)))]))
                  by_cases hc125 : ((f1 p1) &&& (255 : Int32)) < (241 : Int32)
                  · skip
                    refine Go.step (fun _ k => XS.icmpYes X0.here hx rfl (pc0 := 125) (pc' := 141) rfl (hb hby d1_125) rfl (tlt hc125).1 (by decide) (by decide) k) ?_
                    show Go _ _ _ _ _ _ _ (s₁.setTop (mkF m 141 #[.val (.ref a0), .val (.int p1), .val (.int p2), .val (.int ((f1 p1) &&& (255 : Int32))), .unset, .val (.int (128 : Int32)), .val (.int (191 : Int32)), .unset, .unset] []))
                    refine Go.step (fun _ k => XS.iloadN X0.here hx rfl (hb hby d1_141) rfl  k) ?_
                    show Go _ _ _ _ _ _ _ (s₁.setTop (mkF m 142 #[.val (.ref a0), .val (.int p1), .val (.int p2), .val (.int ((f1 p1) &&& (255 : Int32))), .unset, .val (.int (128 : Int32)), .val (.int (191 : Int32)), .unset, .unset] [(.int ((f1 p1) &&& (255 : Int32)))]))
                    refine Go.step (fun _ k => XS.sipush X0.here hx rfl (hb hby d1_142) k) ?_
                    show Go _ _ _ _ _ _ _ (s₁.setTop (mkF m 145 #[.val (.ref a0), .val (.int p1), .val (.int p2), .val (.int ((f1 p1) &&& (255 : Int32))), .unset, .val (.int (128 : Int32)), .val (.int (191 : Int32)), .unset, .unset] [(.int (244 : Int32)), (.int ((f1 p1) &&& (255 : Int32)))]))
                    by_cases hc145 : ((f1 p1) &&& (255 : Int32)) = (244 : Int32)
                    · skip
                      refine Go.step (fun _ k => XS.icmpNo X0.here hx rfl (hb hby d1_145) rfl (teq hc145).2 k) ?_
                      show Go _ _ _ _ _ _ _ (s₁.setTop (mkF m 148 #[.val (.ref a0), .val (.int p1), .val (.int p2), .val (.int ((f1 p1) &&& (255 : Int32))), .unset, .val (.int (128 : Int32)), .val (.int (191 : Int32)), .unset, .unset] []))
                      refine Go.step (fun _ k => XS.iconst X0.here hx rfl (hb hby d1_148) k) ?_
                      show Go _ _ _ _ _ _ _ (s₁.setTop (mkF m 149 #[.val (.ref a0), .val (.int p1), .val (.int p2), .val (.int ((f1 p1) &&& (255 : Int32))), .unset, .val (.int (128 : Int32)), .val (.int (191 : Int32)), .unset, .unset] [(.int (4 : Int32))]))
                      refine Go.step (fun _ k => XS.istore X0.here hx rfl (hb hby d1_149) rfl (l' := #[.val (.ref a0), .val (.int p1), .val (.int p2), .val (.int ((f1 p1) &&& (255 : Int32))), .val (.int (4 : Int32)), .val (.int (128 : Int32)), .val (.int (191 : Int32)), .unset, .unset]) rfl k) ?_
                      show Go _ _ _ _ _ _ _ (s₁.setTop (mkF m 151 #[.val (.ref a0), .val (.int p1), .val (.int p2), .val (.int ((f1 p1) &&& (255 : Int32))), .val (.int (4 : Int32)), .val (.int (128 : Int32)), .val (.int (191 : Int32)), .unset, .unset] []))
                      refine Go.step (fun _ k => XS.sipush X0.here hx rfl (hb hby d1_151) k) ?_
                      show Go _ _ _ _ _ _ _ (s₁.setTop (mkF m 154 #[.val (.ref a0), .val (.int p1), .val (.int p2), .val (.int ((f1 p1) &&& (255 : Int32))), .val (.int (4 : Int32)), .val (.int (128 : Int32)), .val (.int (191 : Int32)), .unset, .unset] [(.int (143 : Int32))]))
                      refine Go.step (fun _ k => XS.istore X0.here hx rfl (hb hby d1_154) rfl (l' := #[.val (.ref a0), .val (.int p1), .val (.int p2), .val (.int ((f1 p1) &&& (255 : Int32))), .val (.int (4 : Int32)), .val (.int (128 : Int32)), .val (.int (143 : Int32)), .unset, .unset]) rfl k) ?_
                      show Go _ _ _ _ _ _ _ (s₁.setTop (mkF m 156 #[.val (.ref a0), .val (.int p1), .val (.int p2), .val (.int ((f1 p1) &&& (255 : Int32))), .val (.int (4 : Int32)), .val (.int (128 : Int32)), .val (.int (143 : Int32)), .unset, .unset] []))
                      refine Go.step (fun _ k => XS.goto X0.here hx rfl (pc0 := 156) (pc' := 161) rfl (hb hby d1_156) (by decide) (by decide) k) ?_
                      exact J161_2 (4 : Int32) (128 : Int32) (143 : Int32) _ _ X0 e0 N0 (by rw [own_i_4]; decide) (by
                        simp only [Int32.lt_iff_toInt_lt, ← Int32.toInt_inj, own_i_m3, own_i_m2, own_i_m1, own_i_0, own_i_1, own_i_2, own_i_3, own_i_4, own_i_5, own_i_7, own_i_15, own_i_31, own_i_63, own_i_128, own_i_143, own_i_144, own_i_159, own_i_160, own_i_191, own_i_192, own_i_194, own_i_223, own_i_224, own_i_225, own_i_237, own_i_239, own_i_240, own_i_241, own_i_243, own_i_244, own_i_248, own_i_255, own_i_2048, own_i_55296, own_i_57343, own_i_65536, own_i_1114111] at hc12 hc31 hc38 hc51 hc69 hc87 hc94 hc107 hc125 hc145
                        simp only [own_i_m3, own_i_m2, own_i_m1, own_i_0, own_i_1, own_i_2, own_i_3, own_i_4, own_i_5, own_i_7, own_i_15, own_i_31, own_i_63, own_i_128, own_i_143, own_i_144, own_i_159, own_i_160, own_i_191, own_i_192, own_i_194, own_i_223, own_i_224, own_i_225, own_i_237, own_i_239, own_i_240, own_i_241, own_i_243, own_i_244, own_i_248, own_i_255, own_i_2048, own_i_55296, own_i_57343, own_i_65536, own_i_1114111]
                        rw [own_L_4]
                        unfold own_M
                        (repeat' split) <;> first | rfl | (exfalso; omega))
                    · skip
                      refine Go.step (fun _ k => XS.icmpYes X0.here hx rfl (pc0 := 145) (pc' := 159) rfl (hb hby d1_145) rfl (feq hc145).2 (by decide) (by decide) k) ?_
                      show Go _ _ _ _ _ _ _ (s₁.setTop (mkF m 159 #[.val (.ref a0), .val (.int p1), .val (.int p2), .val (.int ((f1 p1) &&& (255 : Int32))), .unset, .val (.int (128 : Int32)), .val (.int (191 : Int32)), .unset, .unset] []))
                      refine Go.step (fun _ k => XS.iconst X0.here hx rfl (hb hby d1_159) k) ?_
                      show Go _ _ _ _ _ _ _ (s₁.setTop (mkF m 160 #[.val (.ref a0), .val (.int p1), .val (.int p2), .val (.int ((f1 p1) &&& (255 : Int32))), .unset, .val (.int (128 : Int32)), .val (.int (191 : Int32)), .unset, .unset] [(.int (-1 : Int32))]))
                      refine Go.retI X0 hx Bd.returns hlk (hb hby d1_160) ?_ (by decide) (by decide)
                      rw [e0]
                      exact ⟨(by
                          refine congrArg (fun z => some (Value.int z)) ?_
                          simp only [Int32.lt_iff_toInt_lt, ← Int32.toInt_inj, own_i_m3, own_i_m2, own_i_m1, own_i_0, own_i_1, own_i_2, own_i_3, own_i_4, own_i_5, own_i_7, own_i_15, own_i_31, own_i_63, own_i_128, own_i_143, own_i_144, own_i_159, own_i_160, own_i_191, own_i_192, own_i_194, own_i_223, own_i_224, own_i_225, own_i_237, own_i_239, own_i_240, own_i_241, own_i_243, own_i_244, own_i_248, own_i_255, own_i_2048, own_i_55296, own_i_57343, own_i_65536, own_i_1114111] at hc12 hc31 hc38 hc51 hc69 hc87 hc94 hc107 hc125 hc145
                          
                          unfold own_M
                          (repeat' split) <;> first | rfl | (exfalso; omega)), N0, rfl⟩
                  · skip
                    refine Go.step (fun _ k => XS.icmpNo X0.here hx rfl (hb hby d1_125) rfl (flt hc125).1 k) ?_
                    show Go _ _ _ _ _ _ _ (s₁.setTop (mkF m 128 #[.val (.ref a0), .val (.int p1), .val (.int p2), .val (.int ((f1 p1) &&& (255 : Int32))), .unset, .val (.int (128 : Int32)), .val (.int (191 : Int32)), .unset, .unset] []))
                    refine Go.step (fun _ k => XS.iloadN X0.here hx rfl (hb hby d1_128) rfl  k) ?_
                    show Go _ _ _ _ _ _ _ (s₁.setTop (mkF m 129 #[.val (.ref a0), .val (.int p1), .val (.int p2), .val (.int ((f1 p1) &&& (255 : Int32))), .unset, .val (.int (128 : Int32)), .val (.int (191 : Int32)), .unset, .unset] [(.int ((f1 p1) &&& (255 : Int32)))]))
                    refine Go.step (fun _ k => XS.sipush X0.here hx rfl (hb hby d1_129) k) ?_
                    show Go _ _ _ _ _ _ _ (s₁.setTop (mkF m 132 #[.val (.ref a0), .val (.int p1), .val (.int p2), .val (.int ((f1 p1) &&& (255 : Int32))), .unset, .val (.int (128 : Int32)), .val (.int (191 : Int32)), .unset, .unset] [(.int (243 : Int32)), (.int ((f1 p1) &&& (255 : Int32)))]))
                    by_cases hc132 : (243 : Int32) < ((f1 p1) &&& (255 : Int32))
                    · skip
                      refine Go.step (fun _ k => XS.icmpYes X0.here hx rfl (pc0 := 132) (pc' := 141) rfl (hb hby d1_132) rfl (tlt hc132).2.2.1 (by decide) (by decide) k) ?_
                      show Go _ _ _ _ _ _ _ (s₁.setTop (mkF m 141 #[.val (.ref a0), .val (.int p1), .val (.int p2), .val (.int ((f1 p1) &&& (255 : Int32))), .unset, .val (.int (128 : Int32)), .val (.int (191 : Int32)), .unset, .unset] []))
                      refine Go.step (fun _ k => XS.iloadN X0.here hx rfl (hb hby d1_141) rfl  k) ?_
                      show Go _ _ _ _ _ _ _ (s₁.setTop (mkF m 142 #[.val (.ref a0), .val (.int p1), .val (.int p2), .val (.int ((f1 p1) &&& (255 : Int32))), .unset, .val (.int (128 : Int32)), .val (.int (191 : Int32)), .unset, .unset] [(.int ((f1 p1) &&& (255 : Int32)))]))
                      refine Go.step (fun _ k => XS.sipush X0.here hx rfl (hb hby d1_142) k) ?_
                      show Go _ _ _ _ _ _ _ (s₁.setTop (mkF m 145 #[.val (.ref a0), .val (.int p1), .val (.int p2), .val (.int ((f1 p1) &&& (255 : Int32))), .unset, .val (.int (128 : Int32)), .val (.int (191 : Int32)), .unset, .unset] [(.int (244 : Int32)), (.int ((f1 p1) &&& (255 : Int32)))]))
                      by_cases hc145 : ((f1 p1) &&& (255 : Int32)) = (244 : Int32)
                      · skip
                        refine Go.step (fun _ k => XS.icmpNo X0.here hx rfl (hb hby d1_145) rfl (teq hc145).2 k) ?_
                        show Go _ _ _ _ _ _ _ (s₁.setTop (mkF m 148 #[.val (.ref a0), .val (.int p1), .val (.int p2), .val (.int ((f1 p1) &&& (255 : Int32))), .unset, .val (.int (128 : Int32)), .val (.int (191 : Int32)), .unset, .unset] []))
                        refine Go.step (fun _ k => XS.iconst X0.here hx rfl (hb hby d1_148) k) ?_
                        show Go _ _ _ _ _ _ _ (s₁.setTop (mkF m 149 #[.val (.ref a0), .val (.int p1), .val (.int p2), .val (.int ((f1 p1) &&& (255 : Int32))), .unset, .val (.int (128 : Int32)), .val (.int (191 : Int32)), .unset, .unset] [(.int (4 : Int32))]))
                        refine Go.step (fun _ k => XS.istore X0.here hx rfl (hb hby d1_149) rfl (l' := #[.val (.ref a0), .val (.int p1), .val (.int p2), .val (.int ((f1 p1) &&& (255 : Int32))), .val (.int (4 : Int32)), .val (.int (128 : Int32)), .val (.int (191 : Int32)), .unset, .unset]) rfl k) ?_
                        show Go _ _ _ _ _ _ _ (s₁.setTop (mkF m 151 #[.val (.ref a0), .val (.int p1), .val (.int p2), .val (.int ((f1 p1) &&& (255 : Int32))), .val (.int (4 : Int32)), .val (.int (128 : Int32)), .val (.int (191 : Int32)), .unset, .unset] []))
                        refine Go.step (fun _ k => XS.sipush X0.here hx rfl (hb hby d1_151) k) ?_
                        show Go _ _ _ _ _ _ _ (s₁.setTop (mkF m 154 #[.val (.ref a0), .val (.int p1), .val (.int p2), .val (.int ((f1 p1) &&& (255 : Int32))), .val (.int (4 : Int32)), .val (.int (128 : Int32)), .val (.int (191 : Int32)), .unset, .unset] [(.int (143 : Int32))]))
                        refine Go.step (fun _ k => XS.istore X0.here hx rfl (hb hby d1_154) rfl (l' := #[.val (.ref a0), .val (.int p1), .val (.int p2), .val (.int ((f1 p1) &&& (255 : Int32))), .val (.int (4 : Int32)), .val (.int (128 : Int32)), .val (.int (143 : Int32)), .unset, .unset]) rfl k) ?_
                        show Go _ _ _ _ _ _ _ (s₁.setTop (mkF m 156 #[.val (.ref a0), .val (.int p1), .val (.int p2), .val (.int ((f1 p1) &&& (255 : Int32))), .val (.int (4 : Int32)), .val (.int (128 : Int32)), .val (.int (143 : Int32)), .unset, .unset] []))
                        refine Go.step (fun _ k => XS.goto X0.here hx rfl (pc0 := 156) (pc' := 161) rfl (hb hby d1_156) (by decide) (by decide) k) ?_
                        exact J161_2 (4 : Int32) (128 : Int32) (143 : Int32) _ _ X0 e0 N0 (by rw [own_i_4]; decide) (by
                          simp only [Int32.lt_iff_toInt_lt, ← Int32.toInt_inj, own_i_m3, own_i_m2, own_i_m1, own_i_0, own_i_1, own_i_2, own_i_3, own_i_4, own_i_5, own_i_7, own_i_15, own_i_31, own_i_63, own_i_128, own_i_143, own_i_144, own_i_159, own_i_160, own_i_191, own_i_192, own_i_194, own_i_223, own_i_224, own_i_225, own_i_237, own_i_239, own_i_240, own_i_241, own_i_243, own_i_244, own_i_248, own_i_255, own_i_2048, own_i_55296, own_i_57343, own_i_65536, own_i_1114111] at hc12 hc31 hc38 hc51 hc69 hc87 hc94 hc107 hc125 hc132 hc145
                          simp only [own_i_m3, own_i_m2, own_i_m1, own_i_0, own_i_1, own_i_2, own_i_3, own_i_4, own_i_5, own_i_7, own_i_15, own_i_31, own_i_63, own_i_128, own_i_143, own_i_144, own_i_159, own_i_160, own_i_191, own_i_192, own_i_194, own_i_223, own_i_224, own_i_225, own_i_237, own_i_239, own_i_240, own_i_241, own_i_243, own_i_244, own_i_248, own_i_255, own_i_2048, own_i_55296, own_i_57343, own_i_65536, own_i_1114111]
                          rw [own_L_4]
                          unfold own_M
                          (repeat' split) <;> first | rfl | (exfalso; omega))
                      · skip
                        refine Go.step (fun _ k => XS.icmpYes X0.here hx rfl (pc0 := 145) (pc' := 159) rfl (hb hby d1_145) rfl (feq hc145).2 (by decide) (by decide) k) ?_
                        show Go _ _ _ _ _ _ _ (s₁.setTop (mkF m 159 #[.val (.ref a0), .val (.int p1), .val (.int p2), .val (.int ((f1 p1) &&& (255 : Int32))), .unset, .val (.int (128 : Int32)), .val (.int (191 : Int32)), .unset, .unset] []))
                        refine Go.step (fun _ k => XS.iconst X0.here hx rfl (hb hby d1_159) k) ?_
                        show Go _ _ _ _ _ _ _ (s₁.setTop (mkF m 160 #[.val (.ref a0), .val (.int p1), .val (.int p2), .val (.int ((f1 p1) &&& (255 : Int32))), .unset, .val (.int (128 : Int32)), .val (.int (191 : Int32)), .unset, .unset] [(.int (-1 : Int32))]))
                        refine Go.retI X0 hx Bd.returns hlk (hb hby d1_160) ?_ (by decide) (by decide)
                        rw [e0]
                        exact ⟨(by
                            refine congrArg (fun z => some (Value.int z)) ?_
                            simp only [Int32.lt_iff_toInt_lt, ← Int32.toInt_inj, own_i_m3, own_i_m2, own_i_m1, own_i_0, own_i_1, own_i_2, own_i_3, own_i_4, own_i_5, own_i_7, own_i_15, own_i_31, own_i_63, own_i_128, own_i_143, own_i_144, own_i_159, own_i_160, own_i_191, own_i_192, own_i_194, own_i_223, own_i_224, own_i_225, own_i_237, own_i_239, own_i_240, own_i_241, own_i_243, own_i_244, own_i_248, own_i_255, own_i_2048, own_i_55296, own_i_57343, own_i_65536, own_i_1114111] at hc12 hc31 hc38 hc51 hc69 hc87 hc94 hc107 hc125 hc132 hc145
                            
                            unfold own_M
                            (repeat' split) <;> first | rfl | (exfalso; omega)), N0, rfl⟩
                    · skip
                      refine Go.step (fun _ k => XS.icmpNo X0.here hx rfl (hb hby d1_132) rfl (flt hc132).2.2.1 k) ?_
                      show Go _ _ _ _ _ _ _ (s₁.setTop (mkF m 135 #[.val (.ref a0), .val (.int p1), .val (.int p2), .val (.int ((f1 p1) &&& (255 : Int32))), .unset, .val (.int (128 : Int32)), .val (.int (191 : Int32)), .unset, .unset] []))
                      refine Go.step (fun _ k => XS.iconst X0.here hx rfl (hb hby d1_135) k) ?_
                      show Go _ _ _ _ _ _ _ (s₁.setTop (mkF m 136 #[.val (.ref a0), .val (.int p1), .val (.int p2), .val (.int ((f1 p1) &&& (255 : Int32))), .unset, .val (.int (128 : Int32)), .val (.int (191 : Int32)), .unset, .unset] [(.int (4 : Int32))]))
                      refine Go.step (fun _ k => XS.istore X0.here hx rfl (hb hby d1_136) rfl (l' := #[.val (.ref a0), .val (.int p1), .val (.int p2), .val (.int ((f1 p1) &&& (255 : Int32))), .val (.int (4 : Int32)), .val (.int (128 : Int32)), .val (.int (191 : Int32)), .unset, .unset]) rfl k) ?_
                      show Go _ _ _ _ _ _ _ (s₁.setTop (mkF m 138 #[.val (.ref a0), .val (.int p1), .val (.int p2), .val (.int ((f1 p1) &&& (255 : Int32))), .val (.int (4 : Int32)), .val (.int (128 : Int32)), .val (.int (191 : Int32)), .unset, .unset] []))
                      refine Go.step (fun _ k => XS.goto X0.here hx rfl (pc0 := 138) (pc' := 161) rfl (hb hby d1_138) (by decide) (by decide) k) ?_
                      exact J161_2 (4 : Int32) (128 : Int32) (191 : Int32) _ _ X0 e0 N0 (by rw [own_i_4]; decide) (by
                        simp only [Int32.lt_iff_toInt_lt, ← Int32.toInt_inj, own_i_m3, own_i_m2, own_i_m1, own_i_0, own_i_1, own_i_2, own_i_3, own_i_4, own_i_5, own_i_7, own_i_15, own_i_31, own_i_63, own_i_128, own_i_143, own_i_144, own_i_159, own_i_160, own_i_191, own_i_192, own_i_194, own_i_223, own_i_224, own_i_225, own_i_237, own_i_239, own_i_240, own_i_241, own_i_243, own_i_244, own_i_248, own_i_255, own_i_2048, own_i_55296, own_i_57343, own_i_65536, own_i_1114111] at hc12 hc31 hc38 hc51 hc69 hc87 hc94 hc107 hc125 hc132
                        simp only [own_i_m3, own_i_m2, own_i_m1, own_i_0, own_i_1, own_i_2, own_i_3, own_i_4, own_i_5, own_i_7, own_i_15, own_i_31, own_i_63, own_i_128, own_i_143, own_i_144, own_i_159, own_i_160, own_i_191, own_i_192, own_i_194, own_i_223, own_i_224, own_i_225, own_i_237, own_i_239, own_i_240, own_i_241, own_i_243, own_i_244, own_i_248, own_i_255, own_i_2048, own_i_55296, own_i_57343, own_i_65536, own_i_1114111]
                        rw [own_L_4]
                        unfold own_M
                        (repeat' split) <;> first | rfl | (exfalso; omega))
              · skip
                refine Go.step (fun _ k => XS.icmpNo X0.here hx rfl (hb hby d1_94) rfl (flt hc94).2.2.1 k) ?_
                show Go _ _ _ _ _ _ _ (s₁.setTop (mkF m 97 #[.val (.ref a0), .val (.int p1), .val (.int p2), .val (.int ((f1 p1) &&& (255 : Int32))), .unset, .val (.int (128 : Int32)), .val (.int (191 : Int32)), .unset, .unset] []))
                refine Go.step (fun _ k => XS.iconst X0.here hx rfl (hb hby d1_97) k) ?_
                show Go _ _ _ _ _ _ _ (s₁.setTop (mkF m 98 #[.val (.ref a0), .val (.int p1), .val (.int p2), .val (.int ((f1 p1) &&& (255 : Int32))), .unset, .val (.int (128 : Int32)), .val (.int (191 : Int32)), .unset, .unset] [(.int (3 : Int32))]))
                refine Go.step (fun _ k => XS.istore X0.here hx rfl (hb hby d1_98) rfl (l' := #[.val (.ref a0), .val (.int p1), .val (.int p2), .val (.int ((f1 p1) &&& (255 : Int32))), .val (.int (3 : Int32)), .val (.int (128 : Int32)), .val (.int (191 : Int32)), .unset, .unset]) rfl k) ?_
                show Go _ _ _ _ _ _ _ (s₁.setTop (mkF m 100 #[.val (.ref a0), .val (.int p1), .val (.int p2), .val (.int ((f1 p1) &&& (255 : Int32))), .val (.int (3 : Int32)), .val (.int (128 : Int32)), .val (.int (191 : Int32)), .unset, .unset] []))
                refine Go.step (fun _ k => XS.goto X0.here hx rfl (pc0 := 100) (pc' := 161) rfl (hb hby d1_100) (by decide) (by decide) k) ?_
                exact J161_2 (3 : Int32) (128 : Int32) (191 : Int32) _ _ X0 e0 N0 (by rw [own_i_3]; decide) (by
                  simp only [Int32.lt_iff_toInt_lt, ← Int32.toInt_inj, own_i_m3, own_i_m2, own_i_m1, own_i_0, own_i_1, own_i_2, own_i_3, own_i_4, own_i_5, own_i_7, own_i_15, own_i_31, own_i_63, own_i_128, own_i_143, own_i_144, own_i_159, own_i_160, own_i_191, own_i_192, own_i_194, own_i_223, own_i_224, own_i_225, own_i_237, own_i_239, own_i_240, own_i_241, own_i_243, own_i_244, own_i_248, own_i_255, own_i_2048, own_i_55296, own_i_57343, own_i_65536, own_i_1114111] at hc12 hc31 hc38 hc51 hc69 hc87 hc94
                  simp only [own_i_m3, own_i_m2, own_i_m1, own_i_0, own_i_1, own_i_2, own_i_3, own_i_4, own_i_5, own_i_7, own_i_15, own_i_31, own_i_63, own_i_128, own_i_143, own_i_144, own_i_159, own_i_160, own_i_191, own_i_192, own_i_194, own_i_223, own_i_224, own_i_225, own_i_237, own_i_239, own_i_240, own_i_241, own_i_243, own_i_244, own_i_248, own_i_255, own_i_2048, own_i_55296, own_i_57343, own_i_65536, own_i_1114111]
                  rw [own_L_3]
                  unfold own_M
                  (repeat' split) <;> first | rfl | (exfalso; omega))
      · skip
        refine Go.step (fun _ k => XS.icmpNo X0.here hx rfl (hb hby d1_38) rfl (flt hc38).2.2.1 k) ?_
        show Go _ _ _ _ _ _ _ (s₁.setTop (mkF m 41 #[.val (.ref a0), .val (.int p1), .val (.int p2), .val (.int ((f1 p1) &&& (255 : Int32))), .unset, .val (.int (128 : Int32)), .val (.int (191 : Int32)), .unset, .unset] []))
        refine Go.step (fun _ k => XS.iconst X0.here hx rfl (hb hby d1_41) k) ?_
        show Go _ _ _ _ _ _ _ (s₁.setTop (mkF m 42 #[.val (.ref a0), .val (.int p1), .val (.int p2), .val (.int ((f1 p1) &&& (255 : Int32))), .unset, .val (.int (128 : Int32)), .val (.int (191 : Int32)), .unset, .unset] [(.int (2 : Int32))]))
        refine Go.step (fun _ k => XS.istore X0.here hx rfl (hb hby d1_42) rfl (l' := #[.val (.ref a0), .val (.int p1), .val (.int p2), .val (.int ((f1 p1) &&& (255 : Int32))), .val (.int (2 : Int32)), .val (.int (128 : Int32)), .val (.int (191 : Int32)), .unset, .unset]) rfl k) ?_
        show Go _ _ _ _ _ _ _ (s₁.setTop (mkF m 44 #[.val (.ref a0), .val (.int p1), .val (.int p2), .val (.int ((f1 p1) &&& (255 : Int32))), .val (.int (2 : Int32)), .val (.int (128 : Int32)), .val (.int (191 : Int32)), .unset, .unset] []))
        refine Go.step (fun _ k => XS.goto X0.here hx rfl (pc0 := 44) (pc' := 161) rfl (hb hby d1_44) (by decide) (by decide) k) ?_
        exact J161_2 (2 : Int32) (128 : Int32) (191 : Int32) _ _ X0 e0 N0 (by rw [own_i_2]; decide) (by
          simp only [Int32.lt_iff_toInt_lt, ← Int32.toInt_inj, own_i_m3, own_i_m2, own_i_m1, own_i_0, own_i_1, own_i_2, own_i_3, own_i_4, own_i_5, own_i_7, own_i_15, own_i_31, own_i_63, own_i_128, own_i_143, own_i_144, own_i_159, own_i_160, own_i_191, own_i_192, own_i_194, own_i_223, own_i_224, own_i_225, own_i_237, own_i_239, own_i_240, own_i_241, own_i_243, own_i_244, own_i_248, own_i_255, own_i_2048, own_i_55296, own_i_57343, own_i_65536, own_i_1114111] at hc12 hc31 hc38
          simp only [own_i_m3, own_i_m2, own_i_m1, own_i_0, own_i_1, own_i_2, own_i_3, own_i_4, own_i_5, own_i_7, own_i_15, own_i_31, own_i_63, own_i_128, own_i_143, own_i_144, own_i_159, own_i_160, own_i_191, own_i_192, own_i_194, own_i_223, own_i_224, own_i_225, own_i_237, own_i_239, own_i_240, own_i_241, own_i_243, own_i_244, own_i_248, own_i_255, own_i_2048, own_i_55296, own_i_57343, own_i_65536, own_i_1114111]
          rw [own_L_2]
          unfold own_M
          (repeat' split) <;> first | rfl | (exfalso; omega))
theorem d4_0 : decode jdk_29_method_65_code 0 = .ok (.iload_n 0, 1) := by decide +kernel
theorem d4_1 : decode jdk_29_method_65_code 1 = .ok (.iload_n 1, 1) := by decide +kernel
theorem d4_2 : decode jdk_29_method_65_code 2 = .ok (.if_icmp .lt 7, 3) := by decide +kernel
theorem d4_5 : decode jdk_29_method_65_code 5 = .ok (.iload_n 0, 1) := by decide +kernel
theorem d4_6 : decode jdk_29_method_65_code 6 = .ok (.goto 4, 3) := by decide +kernel
theorem d4_9 : decode jdk_29_method_65_code 9 = .ok (.iload_n 1, 1) := by decide +kernel
theorem d4_10 : decode jdk_29_method_65_code 10 = .ok (.ireturn, 1) := by decide +kernel
theorem ef_4 (m : MethodId) (p0 : Int32) (p1 : Int32) : entryFrame m #[(.int p0), (.int p1)] 2 = mkF m 0 #[.val (.int p0), .val (.int p1)] [] := by first | (simp [entryFrame, mkF, argsToLocals, Value.category]; done) | rfl
def Q4 (Z : State) (p0 : Int32) (p1 : Int32) (h0 : Heap) (n0 : Nat) (v : Option Value) (h : Heap) (L : List Loc) : Prop := (v = some (.int (if p0 < p1 then p1 else p0))) ∧ (Fr n0 L) ∧ (h = h0)
set_option maxRecDepth 65536 in
set_option maxHeartbeats 40000000 in
theorem rm4 (l : Launch) (Z : State) (aZ : Array Value) (hw : ∀ d ∈ tables_1, d.before aZ Z = true) (ws : List Jvm.Cond) (p0 : Int32) (p1 : Int32) (h0 : Heap) (n0 : Nat) (Z0 : n0 ≤ h0.size)  :
    MetFree l (⟨"java/lang/Math", "max", "(II)I"⟩ : MethodName) (head1 (Jvm.Cond.code (⟨"java/lang/Math", "max", "(II)I"⟩ : MethodName) jdk_29_method_65_code 2 (some .int) :: ws) ({ frames := 0, cells := 0, slots := 0, locals := 0 } : Room)) (fun a U => a = #[(.int p0), (.int p1)] ∧ Z.Warmed39 U.vm ∧ U.heap = h0) (fun _ _ _ _ _ => True) (fun _ U o U' => ∃ v L, o = .returned v ∧ Q4 Z p0 p1 h0 n0 v U'.heap L ∧ FrameEnd U o U' L ({ frames := 0, cells := 0, slots := 0, locals := 0 } : Room).cells ({ frames := 0, cells := 0, slots := 0, locals := 0 } : Room).slots) := by
  refine MetFree.of_bodySF (Jvm.Free.JP.mathPlain rfl (by decide +kernel)) hisR ?_
  intro p e s m args below meth c s₁ Bd hml0 hP hK
  obtain ⟨rfl, hZ, hh⟩ := hP
  have hx := Bd.exec
  have hby := Bd.bytes
  have hml : c.maxLocals = 2 := hml0
  have hown : s.vm.findClass "java/lang/Math" = some m.cls := findClass_of_methodNamed Bd.named
  have hnm := (name_of_methodNamed Bd.named Bd.method).1
  have hlk : meth.locks = false := BodyLoose.notSynchronized Bd
  have X0 : Stand p l e ({ frames := 0, cells := 0, slots := 0, locals := 0 } : Room) s m #[(.int p0), (.int p1)] below meth c s₁ [] 0 0 := Stand.of_body Bd
  have e0 : s₁.heap = h0 := by rw [← hh, Bd.state]; rfl
  have N0 := Fr.nil n0
  have sq0 : h0.size ≤ h0.size := Nat.le_refl _
  change Go p e below s ({ frames := 0, cells := 0, slots := 0, locals := 0 } : Room).cells ({ frames := 0, cells := 0, slots := 0, locals := 0 } : Room).slots (Q4 Z p0 p1 h0 n0) (s₁.setTop (entryFrame m #[(.int p0), (.int p1)] 2))
  rw [ef_4 m p0 p1]
  show Go _ _ _ _ _ _ _ (s₁.setTop (mkF m 0 #[.val (.int p0), .val (.int p1)] []))
  refine Go.step (fun _ k => XS.iloadN X0.here hx rfl (hb hby d4_0) rfl  k) ?_
  show Go _ _ _ _ _ _ _ (s₁.setTop (mkF m 1 #[.val (.int p0), .val (.int p1)] [(.int p0)]))
  refine Go.step (fun _ k => XS.iloadN X0.here hx rfl (hb hby d4_1) rfl  k) ?_
  show Go _ _ _ _ _ _ _ (s₁.setTop (mkF m 2 #[.val (.int p0), .val (.int p1)] [(.int p1), (.int p0)]))
  by_cases hc2 : p0 < p1
  · skip
    refine Go.step (fun _ k => XS.icmpYes X0.here hx rfl (pc0 := 2) (pc' := 9) rfl (hb hby d4_2) rfl (tlt hc2).1 (by decide) (by decide) k) ?_
    show Go _ _ _ _ _ _ _ (s₁.setTop (mkF m 9 #[.val (.int p0), .val (.int p1)] []))
    refine Go.step (fun _ k => XS.iloadN X0.here hx rfl (hb hby d4_9) rfl  k) ?_
    show Go _ _ _ _ _ _ _ (s₁.setTop (mkF m 10 #[.val (.int p0), .val (.int p1)] [(.int p1)]))
    refine Go.retI X0 hx Bd.returns hlk (hb hby d4_10) ?_ (by decide) (by decide)
    rw [e0]
    exact ⟨(by first | rfl | rw [if_pos hc2] | rw [if_neg hc2]), N0, rfl⟩
  · skip
    refine Go.step (fun _ k => XS.icmpNo X0.here hx rfl (hb hby d4_2) rfl (flt hc2).1 k) ?_
    show Go _ _ _ _ _ _ _ (s₁.setTop (mkF m 5 #[.val (.int p0), .val (.int p1)] []))
    refine Go.step (fun _ k => XS.iloadN X0.here hx rfl (hb hby d4_5) rfl  k) ?_
    show Go _ _ _ _ _ _ _ (s₁.setTop (mkF m 6 #[.val (.int p0), .val (.int p1)] [(.int p0)]))
    refine Go.step (fun _ k => XS.goto X0.here hx rfl (pc0 := 6) (pc' := 10) rfl (hb hby d4_6) (by decide) (by decide) k) ?_
    show Go _ _ _ _ _ _ _ (s₁.setTop (mkF m 10 #[.val (.int p0), .val (.int p1)] [(.int p0)]))
    refine Go.retI X0 hx Bd.returns hlk (hb hby d4_10) ?_ (by decide) (by decide)
    rw [e0]
    exact ⟨(by first | rfl | rw [if_pos hc2] | rw [if_neg hc2]), N0, rfl⟩
theorem d5_0 : decode jdk_29_method_69_code 0 = .ok (.iload_n 0, 1) := by decide +kernel
theorem d5_1 : decode jdk_29_method_69_code 1 = .ok (.iload_n 1, 1) := by decide +kernel
theorem d5_2 : decode jdk_29_method_69_code 2 = .ok (.if_icmp .gt 7, 3) := by decide +kernel
theorem d5_5 : decode jdk_29_method_69_code 5 = .ok (.iload_n 0, 1) := by decide +kernel
theorem d5_6 : decode jdk_29_method_69_code 6 = .ok (.goto 4, 3) := by decide +kernel
theorem d5_9 : decode jdk_29_method_69_code 9 = .ok (.iload_n 1, 1) := by decide +kernel
theorem d5_10 : decode jdk_29_method_69_code 10 = .ok (.ireturn, 1) := by decide +kernel
theorem ef_5 (m : MethodId) (p0 : Int32) (p1 : Int32) : entryFrame m #[(.int p0), (.int p1)] 2 = mkF m 0 #[.val (.int p0), .val (.int p1)] [] := by first | (simp [entryFrame, mkF, argsToLocals, Value.category]; done) | rfl
def Q5 (Z : State) (p0 : Int32) (p1 : Int32) (h0 : Heap) (n0 : Nat) (v : Option Value) (h : Heap) (L : List Loc) : Prop := (v = some (.int (if p1 < p0 then p1 else p0))) ∧ (Fr n0 L) ∧ (h = h0)
set_option maxRecDepth 65536 in
set_option maxHeartbeats 40000000 in
theorem rm5 (l : Launch) (Z : State) (aZ : Array Value) (hw : ∀ d ∈ tables_1, d.before aZ Z = true) (ws : List Jvm.Cond) (p0 : Int32) (p1 : Int32) (h0 : Heap) (n0 : Nat) (Z0 : n0 ≤ h0.size)  :
    MetFree l (⟨"java/lang/Math", "min", "(II)I"⟩ : MethodName) (head1 (Jvm.Cond.code (⟨"java/lang/Math", "min", "(II)I"⟩ : MethodName) jdk_29_method_69_code 2 (some .int) :: ws) ({ frames := 0, cells := 0, slots := 0, locals := 0 } : Room)) (fun a U => a = #[(.int p0), (.int p1)] ∧ Z.Warmed39 U.vm ∧ U.heap = h0) (fun _ _ _ _ _ => True) (fun _ U o U' => ∃ v L, o = .returned v ∧ Q5 Z p0 p1 h0 n0 v U'.heap L ∧ FrameEnd U o U' L ({ frames := 0, cells := 0, slots := 0, locals := 0 } : Room).cells ({ frames := 0, cells := 0, slots := 0, locals := 0 } : Room).slots) := by
  refine MetFree.of_bodySF (Jvm.Free.JP.mathPlain rfl (by decide +kernel)) hisR ?_
  intro p e s m args below meth c s₁ Bd hml0 hP hK
  obtain ⟨rfl, hZ, hh⟩ := hP
  have hx := Bd.exec
  have hby := Bd.bytes
  have hml : c.maxLocals = 2 := hml0
  have hown : s.vm.findClass "java/lang/Math" = some m.cls := findClass_of_methodNamed Bd.named
  have hnm := (name_of_methodNamed Bd.named Bd.method).1
  have hlk : meth.locks = false := BodyLoose.notSynchronized Bd
  have X0 : Stand p l e ({ frames := 0, cells := 0, slots := 0, locals := 0 } : Room) s m #[(.int p0), (.int p1)] below meth c s₁ [] 0 0 := Stand.of_body Bd
  have e0 : s₁.heap = h0 := by rw [← hh, Bd.state]; rfl
  have N0 := Fr.nil n0
  have sq0 : h0.size ≤ h0.size := Nat.le_refl _
  change Go p e below s ({ frames := 0, cells := 0, slots := 0, locals := 0 } : Room).cells ({ frames := 0, cells := 0, slots := 0, locals := 0 } : Room).slots (Q5 Z p0 p1 h0 n0) (s₁.setTop (entryFrame m #[(.int p0), (.int p1)] 2))
  rw [ef_5 m p0 p1]
  show Go _ _ _ _ _ _ _ (s₁.setTop (mkF m 0 #[.val (.int p0), .val (.int p1)] []))
  refine Go.step (fun _ k => XS.iloadN X0.here hx rfl (hb hby d5_0) rfl  k) ?_
  show Go _ _ _ _ _ _ _ (s₁.setTop (mkF m 1 #[.val (.int p0), .val (.int p1)] [(.int p0)]))
  refine Go.step (fun _ k => XS.iloadN X0.here hx rfl (hb hby d5_1) rfl  k) ?_
  show Go _ _ _ _ _ _ _ (s₁.setTop (mkF m 2 #[.val (.int p0), .val (.int p1)] [(.int p1), (.int p0)]))
  by_cases hc2 : p1 < p0
  · skip
    refine Go.step (fun _ k => XS.icmpYes X0.here hx rfl (pc0 := 2) (pc' := 9) rfl (hb hby d5_2) rfl (tlt hc2).2.2.1 (by decide) (by decide) k) ?_
    show Go _ _ _ _ _ _ _ (s₁.setTop (mkF m 9 #[.val (.int p0), .val (.int p1)] []))
    refine Go.step (fun _ k => XS.iloadN X0.here hx rfl (hb hby d5_9) rfl  k) ?_
    show Go _ _ _ _ _ _ _ (s₁.setTop (mkF m 10 #[.val (.int p0), .val (.int p1)] [(.int p1)]))
    refine Go.retI X0 hx Bd.returns hlk (hb hby d5_10) ?_ (by decide) (by decide)
    rw [e0]
    exact ⟨(by first | rfl | rw [if_pos hc2] | rw [if_neg hc2]), N0, rfl⟩
  · skip
    refine Go.step (fun _ k => XS.icmpNo X0.here hx rfl (hb hby d5_2) rfl (flt hc2).2.2.1 k) ?_
    show Go _ _ _ _ _ _ _ (s₁.setTop (mkF m 5 #[.val (.int p0), .val (.int p1)] []))
    refine Go.step (fun _ k => XS.iloadN X0.here hx rfl (hb hby d5_5) rfl  k) ?_
    show Go _ _ _ _ _ _ _ (s₁.setTop (mkF m 6 #[.val (.int p0), .val (.int p1)] [(.int p0)]))
    refine Go.step (fun _ k => XS.goto X0.here hx rfl (pc0 := 6) (pc' := 10) rfl (hb hby d5_6) (by decide) (by decide) k) ?_
    show Go _ _ _ _ _ _ _ (s₁.setTop (mkF m 10 #[.val (.int p0), .val (.int p1)] [(.int p0)]))
    refine Go.retI X0 hx Bd.returns hlk (hb hby d5_10) ?_ (by decide) (by decide)
    rw [e0]
    exact ⟨(by first | rfl | rw [if_pos hc2] | rw [if_neg hc2]), N0, rfl⟩
theorem pn_38 : plainName "com/example/omniform/omniform/Utf8MeasurePinLaw" = true := by first | (simp [plainName, overriddenIn]; done) | decide +kernel
theorem pd_0 : parseMethodDescriptor "(II)I" = some ⟨[.int, .int], some .int⟩ := by decide +kernel
theorem d3_0 : decode method_4_code 0 = .ok (.iload_n 0, 1) := by decide +kernel
theorem d3_1 : decode method_4_code 1 = .ok (.bipush 6, 2) := by decide +kernel
theorem d3_3 : decode method_4_code 3 = .ok (.iload_n 1, 1) := by decide +kernel
theorem d3_4 : decode method_4_code 4 = .ok (.imul, 1) := by decide +kernel
theorem d3_5 : decode method_4_code 5 = .ok (.ishl, 1) := by decide +kernel
theorem d3_6 : decode method_4_code 6 = .ok (.istore_n 3, 1) := by decide +kernel
theorem d3_7 : decode method_4_code 7 = .ok (.iload_n 3, 1) := by decide +kernel
theorem d3_8 : decode method_4_code 8 = .ok (.iconst 1, 1) := by decide +kernel
theorem d3_9 : decode method_4_code 9 = .ok (.bipush 6, 2) := by decide +kernel
theorem d3_11 : decode method_4_code 11 = .ok (.iload_n 1, 1) := by decide +kernel
theorem d3_12 : decode method_4_code 12 = .ok (.imul, 1) := by decide +kernel
theorem d3_13 : decode method_4_code 13 = .ok (.ishl, 1) := by decide +kernel
theorem d3_14 : decode method_4_code 14 = .ok (.iadd, 1) := by decide +kernel
theorem d3_15 : decode method_4_code 15 = .ok (.iconst 1, 1) := by decide +kernel
theorem d3_16 : decode method_4_code 16 = .ok (.isub, 1) := by decide +kernel
theorem d3_17 : decode method_4_code 17 = .ok (.istore 4, 2) := by decide +kernel
theorem d3_19 : decode method_4_code 19 = .ok (.iload_n 3, 1) := by decide +kernel
theorem d3_20 : decode method_4_code 20 = .ok (.iload_n 2, 1) := by decide +kernel
theorem d3_21 : decode method_4_code 21 = .ok (.invokestatic 19, 3) := by decide +kernel
theorem d3_24 : decode method_4_code 24 = .ok (.istore 5, 2) := by decide +kernel
theorem d3_26 : decode method_4_code 26 = .ok (.iload 4, 2) := by decide +kernel
theorem d3_28 : decode method_4_code 28 = .ok (.ldc 25, 2) := by decide +kernel
theorem d3_30 : decode method_4_code 30 = .ok (.invokestatic 26, 3) := by decide +kernel
theorem d3_33 : decode method_4_code 33 = .ok (.istore 6, 2) := by decide +kernel
theorem d3_35 : decode method_4_code 35 = .ok (.iload 5, 2) := by decide +kernel
theorem d3_37 : decode method_4_code 37 = .ok (.iload 6, 2) := by decide +kernel
theorem d3_39 : decode method_4_code 39 = .ok (.if_icmp .gt 21, 3) := by decide +kernel
theorem d3_42 : decode method_4_code 42 = .ok (.iload 5, 2) := by decide +kernel
theorem d3_44 : decode method_4_code 44 = .ok (.ldc 29, 2) := by decide +kernel
theorem d3_46 : decode method_4_code 46 = .ok (.if_icmp .lt 10, 3) := by decide +kernel
theorem d3_49 : decode method_4_code 49 = .ok (.iload 6, 2) := by decide +kernel
theorem d3_51 : decode method_4_code 51 = .ok (.ldc 30, 2) := by decide +kernel
theorem d3_53 : decode method_4_code 53 = .ok (.if_icmp .le 7, 3) := by decide +kernel
theorem d3_56 : decode method_4_code 56 = .ok (.iconst 1, 1) := by decide +kernel
theorem d3_57 : decode method_4_code 57 = .ok (.goto 4, 3) := by decide +kernel
theorem d3_60 : decode method_4_code 60 = .ok (.iconst 0, 1) := by decide +kernel
theorem d3_61 : decode method_4_code 61 = .ok (.ireturn, 1) := by decide +kernel
theorem ef_v0 (m : MethodId) (p0 : Int32) (p1 : Int32) (p2 : Int32) : entryFrame m #[(.int p0), (.int p1), (.int p2)] 7 = mkF m 0 #[.val (.int p0), .val (.int p1), .val (.int p2), .unset, .unset, .unset, .unset] [] := by first | (simp [entryFrame, mkF, argsToLocals, Value.category]; done) | rfl
def Qv0 (Z : State) (p0 : Int32) (p1 : Int32) (p2 : Int32) (h0 : Heap) (n0 : Nat) (v : Option Value) (h : Heap) (L : List Loc) : Prop := ∃ (w : Int32), (v = some (.int w)) ∧ (Fr n0 L) ∧ (h = h0) ∧ ((w.toInt = 1 ∧ own_Vi (p0.toInt * 1) (p0.toInt * 1 + 0) p2.toInt) ∨ (w.toInt = 0 ∧ ¬ own_Vi (p0.toInt * 1) (p0.toInt * 1 + 0) p2.toInt))
set_option maxRecDepth 65536 in
set_option maxHeartbeats 40000000 in
theorem rmv0 (l : Launch) (Z : State) (aZ : Array Value) (hw : ∀ d ∈ tables_1, d.before aZ Z = true) (ws : List Jvm.Cond) (p0 : Int32) (p1 : Int32) (p2 : Int32) (h0 : Heap) (n0 : Nat) (Z0 : n0 ≤ h0.size) (hm : p1 = (0 : Int32)) (hv0 : 0 ≤ p0.toInt ∧ p0.toInt < 2097152) (hmn : 0 ≤ p2.toInt ∧ p2.toInt ≤ 65536) :
    MetFree l (⟨"com/example/omniform/omniform/Utf8MeasurePinLaw", "viable", "(III)Z"⟩ : MethodName) (head1 (Jvm.Cond.code (⟨"com/example/omniform/omniform/Utf8MeasurePinLaw", "viable", "(III)Z"⟩ : MethodName) method_4_code 7 (some .boolean) :: ws) ({ frames := 1, cells := 0, slots := 0, locals := 13 } : Room)) (fun a U => a = #[(.int p0), (.int p1), (.int p2)] ∧ Z.Warmed39 U.vm ∧ U.heap = h0) (fun _ _ _ _ _ => True) (fun _ U o U' => ∃ v L, o = .returned v ∧ Qv0 Z p0 p1 p2 h0 n0 v U'.heap L ∧ FrameEnd U o U' L ({ frames := 1, cells := 0, slots := 0, locals := 13 } : Room).cells ({ frames := 1, cells := 0, slots := 0, locals := 13 } : Room).slots) := by
  refine MetFree.of_bodySF (plainFor_of_name pn_38) hisR ?_
  intro p e s m args below meth c s₁ Bd hml0 hP hK
  obtain ⟨rfl, hZ, hh⟩ := hP
  have hx := Bd.exec
  have hby := Bd.bytes
  have hml : c.maxLocals = 7 := hml0
  have hown : s.vm.findClass "com/example/omniform/omniform/Utf8MeasurePinLaw" = some m.cls := findClass_of_methodNamed Bd.named
  have hnm := (name_of_methodNamed Bd.named Bd.method).1
  have hlk : meth.locks = false := BodyLoose.notSynchronized Bd
  have X0 : Stand p l e ({ frames := 1, cells := 0, slots := 0, locals := 13 } : Room) s m #[(.int p0), (.int p1), (.int p2)] below meth c s₁ [] 0 0 := Stand.of_body Bd
  have e0 : s₁.heap = h0 := by rw [← hh, Bd.state]; rfl
  have N0 := Fr.nil n0
  have sq0 : h0.size ≤ h0.size := Nat.le_refl _
  change Go p e below s ({ frames := 1, cells := 0, slots := 0, locals := 13 } : Room).cells ({ frames := 1, cells := 0, slots := 0, locals := 13 } : Room).slots (Qv0 Z p0 p1 p2 h0 n0) (s₁.setTop (entryFrame m #[(.int p0), (.int p1), (.int p2)] 7))
  rw [ef_v0 m p0 p1 p2]
  subst hm
  show Go _ _ _ _ _ _ _ (s₁.setTop (mkF m 0 #[.val (.int p0), .val (.int (0 : Int32)), .val (.int p2), .unset, .unset, .unset, .unset] []))
  refine Go.step (fun _ k => XS.iloadN X0.here hx rfl (hb hby d3_0) rfl  k) ?_
  show Go _ _ _ _ _ _ _ (s₁.setTop (mkF m 1 #[.val (.int p0), .val (.int (0 : Int32)), .val (.int p2), .unset, .unset, .unset, .unset] [(.int p0)]))
  refine Go.step (fun _ k => XS.bipush X0.here hx rfl (hb hby d3_1) k) ?_
  show Go _ _ _ _ _ _ _ (s₁.setTop (mkF m 3 #[.val (.int p0), .val (.int (0 : Int32)), .val (.int p2), .unset, .unset, .unset, .unset] [(.int (6 : Int32)), (.int p0)]))
  refine Go.step (fun _ k => XS.iloadN X0.here hx rfl (hb hby d3_3) rfl  k) ?_
  show Go _ _ _ _ _ _ _ (s₁.setTop (mkF m 4 #[.val (.int p0), .val (.int (0 : Int32)), .val (.int p2), .unset, .unset, .unset, .unset] [(.int (0 : Int32)), (.int (6 : Int32)), (.int p0)]))
  refine Go.step (fun _ k => XS.imul X0.here hx rfl (hb hby d3_4) rfl k) ?_
  show Go _ _ _ _ _ _ _ (s₁.setTop (mkF m 5 #[.val (.int p0), .val (.int (0 : Int32)), .val (.int p2), .unset, .unset, .unset, .unset] [(.int (0 : Int32)), (.int p0)]))
  refine Go.step (fun _ k => XS.ishl X0.here hx rfl (hb hby d3_5) rfl k) ?_
  show Go _ _ _ _ _ _ _ (s₁.setTop (mkF m 6 #[.val (.int p0), .val (.int (0 : Int32)), .val (.int p2), .unset, .unset, .unset, .unset] [(.int (p0 <<< ((0 : Int32) &&& 31)))]))
  obtain ⟨va, q_va⟩ : ∃ z : Int32, z = (p0 <<< ((0 : Int32) &&& 31)) := ⟨_, rfl⟩
  rw [← q_va]
  have hva : va.toInt = p0.toInt * 1 := by
    have a := c_ishl p0 0 0 (by decide)
    have e : ((2 ^ 0 : Nat) : Int) = 1 := by decide
    rw [e, ← q_va] at a
    have := rng32 va
    omega
  show Go _ _ _ _ _ _ _ (s₁.setTop (mkF m 6 #[.val (.int p0), .val (.int (0 : Int32)), .val (.int p2), .unset, .unset, .unset, .unset] [(.int va)]))
  refine Go.step (fun _ k => XS.istoreN X0.here hx rfl (hb hby d3_6) rfl (l' := #[.val (.int p0), .val (.int (0 : Int32)), .val (.int p2), .val (.int va), .unset, .unset, .unset]) rfl k) ?_
  show Go _ _ _ _ _ _ _ (s₁.setTop (mkF m 7 #[.val (.int p0), .val (.int (0 : Int32)), .val (.int p2), .val (.int va), .unset, .unset, .unset] []))
  refine Go.step (fun _ k => XS.iloadN X0.here hx rfl (hb hby d3_7) rfl  k) ?_
  show Go _ _ _ _ _ _ _ (s₁.setTop (mkF m 8 #[.val (.int p0), .val (.int (0 : Int32)), .val (.int p2), .val (.int va), .unset, .unset, .unset] [(.int va)]))
  refine Go.step (fun _ k => XS.iconst X0.here hx rfl (hb hby d3_8) k) ?_
  show Go _ _ _ _ _ _ _ (s₁.setTop (mkF m 9 #[.val (.int p0), .val (.int (0 : Int32)), .val (.int p2), .val (.int va), .unset, .unset, .unset] [(.int (1 : Int32)), (.int va)]))
  refine Go.step (fun _ k => XS.bipush X0.here hx rfl (hb hby d3_9) k) ?_
  show Go _ _ _ _ _ _ _ (s₁.setTop (mkF m 11 #[.val (.int p0), .val (.int (0 : Int32)), .val (.int p2), .val (.int va), .unset, .unset, .unset] [(.int (6 : Int32)), (.int (1 : Int32)), (.int va)]))
  refine Go.step (fun _ k => XS.iloadN X0.here hx rfl (hb hby d3_11) rfl  k) ?_
  show Go _ _ _ _ _ _ _ (s₁.setTop (mkF m 12 #[.val (.int p0), .val (.int (0 : Int32)), .val (.int p2), .val (.int va), .unset, .unset, .unset] [(.int (0 : Int32)), (.int (6 : Int32)), (.int (1 : Int32)), (.int va)]))
  refine Go.step (fun _ k => XS.imul X0.here hx rfl (hb hby d3_12) rfl k) ?_
  show Go _ _ _ _ _ _ _ (s₁.setTop (mkF m 13 #[.val (.int p0), .val (.int (0 : Int32)), .val (.int p2), .val (.int va), .unset, .unset, .unset] [(.int (0 : Int32)), (.int (1 : Int32)), (.int va)]))
  refine Go.step (fun _ k => XS.ishl X0.here hx rfl (hb hby d3_13) rfl k) ?_
  show Go _ _ _ _ _ _ _ (s₁.setTop (mkF m 14 #[.val (.int p0), .val (.int (0 : Int32)), .val (.int p2), .val (.int va), .unset, .unset, .unset] [(.int ((1 : Int32) <<< ((0 : Int32) &&& 31))), (.int va)]))
  refine Go.step (fun _ k => XS.iadd X0.here hx rfl (hb hby d3_14) rfl k) ?_
  show Go _ _ _ _ _ _ _ (s₁.setTop (mkF m 15 #[.val (.int p0), .val (.int (0 : Int32)), .val (.int p2), .val (.int va), .unset, .unset, .unset] [(.int (va + ((1 : Int32) <<< ((0 : Int32) &&& 31))))]))
  refine Go.step (fun _ k => XS.iconst X0.here hx rfl (hb hby d3_15) k) ?_
  show Go _ _ _ _ _ _ _ (s₁.setTop (mkF m 16 #[.val (.int p0), .val (.int (0 : Int32)), .val (.int p2), .val (.int va), .unset, .unset, .unset] [(.int (1 : Int32)), (.int (va + ((1 : Int32) <<< ((0 : Int32) &&& 31))))]))
  refine Go.step (fun _ k => XS.isub X0.here hx rfl (hb hby d3_16) rfl k) ?_
  show Go _ _ _ _ _ _ _ (s₁.setTop (mkF m 17 #[.val (.int p0), .val (.int (0 : Int32)), .val (.int p2), .val (.int va), .unset, .unset, .unset] [(.int ((va + ((1 : Int32) <<< ((0 : Int32) &&& 31))) - (1 : Int32)))]))
  obtain ⟨vb, q_vb⟩ : ∃ z : Int32, z = ((va + ((1 : Int32) <<< ((0 : Int32) &&& 31))) - (1 : Int32)) := ⟨_, rfl⟩
  rw [← q_vb]
  have hvb : vb.toInt = va.toInt + 0 := by
    have a1 := c_iadd va ((1 : Int32) <<< ((0 : Int32) &&& 31))
    have a2 := rng32 (va + ((1 : Int32) <<< ((0 : Int32) &&& 31)))
    have e : ((1 : Int32) <<< ((0 : Int32) &&& 31)).toInt = 1 := by decide
    rw [e] at a1
    have a3 := c_isub (va + ((1 : Int32) <<< ((0 : Int32) &&& 31))) 1
    rw [own_i_1, ← q_vb] at a3
    have := rng32 vb
    omega
  show Go _ _ _ _ _ _ _ (s₁.setTop (mkF m 17 #[.val (.int p0), .val (.int (0 : Int32)), .val (.int p2), .val (.int va), .unset, .unset, .unset] [(.int vb)]))
  refine Go.step (fun _ k => XS.istore X0.here hx rfl (hb hby d3_17) rfl (l' := #[.val (.int p0), .val (.int (0 : Int32)), .val (.int p2), .val (.int va), .val (.int vb), .unset, .unset]) rfl k) ?_
  show Go _ _ _ _ _ _ _ (s₁.setTop (mkF m 19 #[.val (.int p0), .val (.int (0 : Int32)), .val (.int p2), .val (.int va), .val (.int vb), .unset, .unset] []))
  refine Go.step (fun _ k => XS.iloadN X0.here hx rfl (hb hby d3_19) rfl  k) ?_
  show Go _ _ _ _ _ _ _ (s₁.setTop (mkF m 20 #[.val (.int p0), .val (.int (0 : Int32)), .val (.int p2), .val (.int va), .val (.int vb), .unset, .unset] [(.int va)]))
  refine Go.step (fun _ k => XS.iloadN X0.here hx rfl (hb hby d3_20) rfl  k) ?_
  show Go _ _ _ _ _ _ _ (s₁.setTop (mkF m 21 #[.val (.int p0), .val (.int (0 : Int32)), .val (.int p2), .val (.int va), .val (.int vb), .unset, .unset] [(.int p2), (.int va)]))
  obtain ⟨_, _, ⟨T1, L1, k1, n1⟩, -, X1, ⟨Lc1, hQ1, l1, y1, z1⟩, st1⟩ := Jvm.LawKit.callS X0 hx (y := (⟨"java/lang/Math", "max", "(II)I"⟩ : MethodName)) hown (mvT hZ (hw _ (List.mem_of_getElem? (i := 12) rfl))) (mvT hZ (hw _ (List.mem_of_getElem? (i := 13) rfl))) (mvT hZ (hw _ (List.mem_of_getElem? (i := 14) rfl))) (mvT hZ (hw _ (List.mem_of_getElem? (i := 15) rfl))) (by decide) (backOf (W := 0) (rm4 l Z aZ hw [] va p2 h0 n0 Z0 ) hZ (hw _ (List.mem_of_getElem? (i := 15) rfl)) (hw _ (List.mem_of_getElem? (i := 14) rfl)) (by decide) (by decide)) (g := (mkF m 21 #[.val (.int p0), .val (.int (0 : Int32)), .val (.int p2), .val (.int va), .val (.int vb), .unset, .unset] [(.int p2), (.int va)])) rfl (by rw [hml]; rfl) (argsL := [(.int va), (.int p2)]) (rest := []) (lenOf pd_0 rfl) rfl (by show 2 * 0 + _ ≤ _; exact Nat.le_of_eq rfl) (hb hby d3_21) (fun _ _ => ⟨rfl, e0, (by decide : 0 + 0 ≤ _), (by decide : 0 + 0 ≤ _)⟩)
  dsimp only [Pt.U, Pt.locs, Pt.cells, Pt.slots] at X1 l1 y1 z1 st1 hQ1
  subst l1 y1 z1
  obtain ⟨rfl, Nq1, e1⟩ := hQ1
  have N1 := Fr.app N0 Nq1
  refine Go.step st1 ?_
  show Go _ _ _ _ _ _ _ (T1.setTop (mkF m 24 #[.val (.int p0), .val (.int (0 : Int32)), .val (.int p2), .val (.int va), .val (.int vb), .unset, .unset] [(.int (if va < p2 then p2 else va))]))
  obtain ⟨lo, q_lo⟩ : ∃ z : Int32, z = (if va < p2 then p2 else va) := ⟨_, rfl⟩
  rw [← q_lo]
  have hlo : (lo.toInt = va.toInt ∧ p2.toInt ≤ va.toInt) ∨ (lo.toInt = p2.toInt ∧ va.toInt < p2.toInt) := by
    rw [q_lo]; split
    · rename_i h; simp only [Int32.lt_iff_toInt_lt, ← Int32.toInt_inj, own_i_m3, own_i_m2, own_i_m1, own_i_0, own_i_1, own_i_2, own_i_3, own_i_4, own_i_5, own_i_7, own_i_15, own_i_31, own_i_63, own_i_128, own_i_143, own_i_144, own_i_159, own_i_160, own_i_191, own_i_192, own_i_194, own_i_223, own_i_224, own_i_225, own_i_237, own_i_239, own_i_240, own_i_241, own_i_243, own_i_244, own_i_248, own_i_255, own_i_2048, own_i_55296, own_i_57343, own_i_65536, own_i_1114111] at h; exact Or.inr ⟨rfl, h⟩
    · rename_i h; simp only [Int32.lt_iff_toInt_lt, ← Int32.toInt_inj, own_i_m3, own_i_m2, own_i_m1, own_i_0, own_i_1, own_i_2, own_i_3, own_i_4, own_i_5, own_i_7, own_i_15, own_i_31, own_i_63, own_i_128, own_i_143, own_i_144, own_i_159, own_i_160, own_i_191, own_i_192, own_i_194, own_i_223, own_i_224, own_i_225, own_i_237, own_i_239, own_i_240, own_i_241, own_i_243, own_i_244, own_i_248, own_i_255, own_i_2048, own_i_55296, own_i_57343, own_i_65536, own_i_1114111] at h; exact Or.inl ⟨rfl, by omega⟩
  show Go _ _ _ _ _ _ _ (T1.setTop (mkF m 24 #[.val (.int p0), .val (.int (0 : Int32)), .val (.int p2), .val (.int va), .val (.int vb), .unset, .unset] [(.int lo)]))
  refine Go.step (fun _ k => XS.istore X1.here hx rfl (hb hby d3_24) rfl (l' := #[.val (.int p0), .val (.int (0 : Int32)), .val (.int p2), .val (.int va), .val (.int vb), .val (.int lo), .unset]) rfl k) ?_
  show Go _ _ _ _ _ _ _ (T1.setTop (mkF m 26 #[.val (.int p0), .val (.int (0 : Int32)), .val (.int p2), .val (.int va), .val (.int vb), .val (.int lo), .unset] []))
  refine Go.step (fun _ k => XS.iload X1.here hx rfl (hb hby d3_26) rfl  k) ?_
  show Go _ _ _ _ _ _ _ (T1.setTop (mkF m 28 #[.val (.int p0), .val (.int (0 : Int32)), .val (.int p2), .val (.int va), .val (.int vb), .val (.int lo), .unset] [(.int vb)]))
  refine Go.step (X1.ldcInt hx hown (mvT hZ (hw _ (List.mem_of_getElem? (i := 16) rfl))) (g := (mkF m 28 #[.val (.int p0), .val (.int (0 : Int32)), .val (.int p2), .val (.int va), .val (.int vb), .val (.int lo), .unset] [(.int vb)])) rfl (hb hby d3_28)) ?_
  show Go _ _ _ _ _ _ _ (T1.setTop (mkF m 30 #[.val (.int p0), .val (.int (0 : Int32)), .val (.int p2), .val (.int va), .val (.int vb), .val (.int lo), .unset] [(.int (1114111 : Int32)), (.int vb)]))
  obtain ⟨_, _, ⟨T2, L2, k2, n2⟩, -, X2, ⟨Lc2, hQ2, l2, y2, z2⟩, st2⟩ := Jvm.LawKit.callS X1 hx (y := (⟨"java/lang/Math", "min", "(II)I"⟩ : MethodName)) hown (mvT hZ (hw _ (List.mem_of_getElem? (i := 17) rfl))) (mvT hZ (hw _ (List.mem_of_getElem? (i := 18) rfl))) (mvT hZ (hw _ (List.mem_of_getElem? (i := 14) rfl))) (mvT hZ (hw _ (List.mem_of_getElem? (i := 19) rfl))) (by decide) (backOf (W := 0) (rm5 l Z aZ hw [] vb (1114111 : Int32) h0 n0 Z0 ) hZ (hw _ (List.mem_of_getElem? (i := 19) rfl)) (hw _ (List.mem_of_getElem? (i := 14) rfl)) (by decide) (by decide)) (g := (mkF m 30 #[.val (.int p0), .val (.int (0 : Int32)), .val (.int p2), .val (.int va), .val (.int vb), .val (.int lo), .unset] [(.int (1114111 : Int32)), (.int vb)])) rfl (by rw [hml]; rfl) (argsL := [(.int vb), (.int (1114111 : Int32))]) (rest := []) (lenOf pd_0 rfl) rfl (by show 2 * 0 + _ ≤ _; exact Nat.le_of_eq rfl) (hb hby d3_30) (fun _ _ => ⟨rfl, e1, (by decide : 0 + 0 ≤ _), (by decide : 0 + 0 ≤ _)⟩)
  dsimp only [Pt.U, Pt.locs, Pt.cells, Pt.slots] at X2 l2 y2 z2 st2 hQ2
  subst l2 y2 z2
  obtain ⟨rfl, Nq2, e2⟩ := hQ2
  have N2 := Fr.app N1 Nq2
  refine Go.step st2 ?_
  show Go _ _ _ _ _ _ _ (T2.setTop (mkF m 33 #[.val (.int p0), .val (.int (0 : Int32)), .val (.int p2), .val (.int va), .val (.int vb), .val (.int lo), .unset] [(.int (if (1114111 : Int32) < vb then (1114111 : Int32) else vb))]))
  obtain ⟨hi, q_hi⟩ : ∃ z : Int32, z = (if (1114111 : Int32) < vb then (1114111 : Int32) else vb) := ⟨_, rfl⟩
  rw [← q_hi]
  have hhi : (hi.toInt = vb.toInt ∧ vb.toInt ≤ 1114111) ∨ (hi.toInt = 1114111 ∧ 1114111 < vb.toInt) := by
    rw [q_hi]; split
    · rename_i h; simp only [Int32.lt_iff_toInt_lt, ← Int32.toInt_inj, own_i_m3, own_i_m2, own_i_m1, own_i_0, own_i_1, own_i_2, own_i_3, own_i_4, own_i_5, own_i_7, own_i_15, own_i_31, own_i_63, own_i_128, own_i_143, own_i_144, own_i_159, own_i_160, own_i_191, own_i_192, own_i_194, own_i_223, own_i_224, own_i_225, own_i_237, own_i_239, own_i_240, own_i_241, own_i_243, own_i_244, own_i_248, own_i_255, own_i_2048, own_i_55296, own_i_57343, own_i_65536, own_i_1114111] at h; exact Or.inr ⟨own_i_1114111, h⟩
    · rename_i h; simp only [Int32.lt_iff_toInt_lt, ← Int32.toInt_inj, own_i_m3, own_i_m2, own_i_m1, own_i_0, own_i_1, own_i_2, own_i_3, own_i_4, own_i_5, own_i_7, own_i_15, own_i_31, own_i_63, own_i_128, own_i_143, own_i_144, own_i_159, own_i_160, own_i_191, own_i_192, own_i_194, own_i_223, own_i_224, own_i_225, own_i_237, own_i_239, own_i_240, own_i_241, own_i_243, own_i_244, own_i_248, own_i_255, own_i_2048, own_i_55296, own_i_57343, own_i_65536, own_i_1114111] at h; exact Or.inl ⟨rfl, by omega⟩
  show Go _ _ _ _ _ _ _ (T2.setTop (mkF m 33 #[.val (.int p0), .val (.int (0 : Int32)), .val (.int p2), .val (.int va), .val (.int vb), .val (.int lo), .unset] [(.int hi)]))
  refine Go.step (fun _ k => XS.istore X2.here hx rfl (hb hby d3_33) rfl (l' := #[.val (.int p0), .val (.int (0 : Int32)), .val (.int p2), .val (.int va), .val (.int vb), .val (.int lo), .val (.int hi)]) rfl k) ?_
  show Go _ _ _ _ _ _ _ (T2.setTop (mkF m 35 #[.val (.int p0), .val (.int (0 : Int32)), .val (.int p2), .val (.int va), .val (.int vb), .val (.int lo), .val (.int hi)] []))
  refine Go.step (fun _ k => XS.iload X2.here hx rfl (hb hby d3_35) rfl  k) ?_
  show Go _ _ _ _ _ _ _ (T2.setTop (mkF m 37 #[.val (.int p0), .val (.int (0 : Int32)), .val (.int p2), .val (.int va), .val (.int vb), .val (.int lo), .val (.int hi)] [(.int lo)]))
  refine Go.step (fun _ k => XS.iload X2.here hx rfl (hb hby d3_37) rfl  k) ?_
  show Go _ _ _ _ _ _ _ (T2.setTop (mkF m 39 #[.val (.int p0), .val (.int (0 : Int32)), .val (.int p2), .val (.int va), .val (.int vb), .val (.int lo), .val (.int hi)] [(.int hi), (.int lo)]))
  by_cases hc39 : hi < lo
  · skip
    refine Go.step (fun _ k => XS.icmpYes X2.here hx rfl (pc0 := 39) (pc' := 60) rfl (hb hby d3_39) rfl (tlt hc39).2.2.1 (by decide) (by decide) k) ?_
    show Go _ _ _ _ _ _ _ (T2.setTop (mkF m 60 #[.val (.int p0), .val (.int (0 : Int32)), .val (.int p2), .val (.int va), .val (.int vb), .val (.int lo), .val (.int hi)] []))
    refine Go.step (fun _ k => XS.iconst X2.here hx rfl (hb hby d3_60) k) ?_
    show Go _ _ _ _ _ _ _ (T2.setTop (mkF m 61 #[.val (.int p0), .val (.int (0 : Int32)), .val (.int p2), .val (.int va), .val (.int vb), .val (.int lo), .val (.int hi)] [(.int (0 : Int32))]))
    refine Go.retN X2 hx (t := .boolean) Bd.returns (by simp) hlk (hb hby d3_61) ?_ (by decide) (by decide)
    rw [e2]
    exact ⟨(nar .boolean (0 : Int32)), (rfl), N2, rfl, (Or.inr ⟨(by rw [own_nb0]; exact own_i_0), (by
        simp only [Int32.lt_iff_toInt_lt, ← Int32.toInt_inj, own_i_m3, own_i_m2, own_i_m1, own_i_0, own_i_1, own_i_2, own_i_3, own_i_4, own_i_5, own_i_7, own_i_15, own_i_31, own_i_63, own_i_128, own_i_143, own_i_144, own_i_159, own_i_160, own_i_191, own_i_192, own_i_194, own_i_223, own_i_224, own_i_225, own_i_237, own_i_239, own_i_240, own_i_241, own_i_243, own_i_244, own_i_248, own_i_255, own_i_2048, own_i_55296, own_i_57343, own_i_65536, own_i_1114111] at hc39
        unfold own_Vi
        omega)⟩)⟩
  · skip
    refine Go.step (fun _ k => XS.icmpNo X2.here hx rfl (hb hby d3_39) rfl (flt hc39).2.2.1 k) ?_
    show Go _ _ _ _ _ _ _ (T2.setTop (mkF m 42 #[.val (.int p0), .val (.int (0 : Int32)), .val (.int p2), .val (.int va), .val (.int vb), .val (.int lo), .val (.int hi)] []))
    refine Go.step (fun _ k => XS.iload X2.here hx rfl (hb hby d3_42) rfl  k) ?_
    show Go _ _ _ _ _ _ _ (T2.setTop (mkF m 44 #[.val (.int p0), .val (.int (0 : Int32)), .val (.int p2), .val (.int va), .val (.int vb), .val (.int lo), .val (.int hi)] [(.int lo)]))
    refine Go.step (X2.ldcInt hx hown (mvT hZ (hw _ (List.mem_of_getElem? (i := 20) rfl))) (g := (mkF m 44 #[.val (.int p0), .val (.int (0 : Int32)), .val (.int p2), .val (.int va), .val (.int vb), .val (.int lo), .val (.int hi)] [(.int lo)])) rfl (hb hby d3_44)) ?_
    show Go _ _ _ _ _ _ _ (T2.setTop (mkF m 46 #[.val (.int p0), .val (.int (0 : Int32)), .val (.int p2), .val (.int va), .val (.int vb), .val (.int lo), .val (.int hi)] [(.int (55296 : Int32)), (.int lo)]))
    by_cases hc46 : lo < (55296 : Int32)
    · skip
      refine Go.step (fun _ k => XS.icmpYes X2.here hx rfl (pc0 := 46) (pc' := 56) rfl (hb hby d3_46) rfl (tlt hc46).1 (by decide) (by decide) k) ?_
      show Go _ _ _ _ _ _ _ (T2.setTop (mkF m 56 #[.val (.int p0), .val (.int (0 : Int32)), .val (.int p2), .val (.int va), .val (.int vb), .val (.int lo), .val (.int hi)] []))
      refine Go.step (fun _ k => XS.iconst X2.here hx rfl (hb hby d3_56) k) ?_
      show Go _ _ _ _ _ _ _ (T2.setTop (mkF m 57 #[.val (.int p0), .val (.int (0 : Int32)), .val (.int p2), .val (.int va), .val (.int vb), .val (.int lo), .val (.int hi)] [(.int (1 : Int32))]))
      refine Go.step (fun _ k => XS.goto X2.here hx rfl (pc0 := 57) (pc' := 61) rfl (hb hby d3_57) (by decide) (by decide) k) ?_
      show Go _ _ _ _ _ _ _ (T2.setTop (mkF m 61 #[.val (.int p0), .val (.int (0 : Int32)), .val (.int p2), .val (.int va), .val (.int vb), .val (.int lo), .val (.int hi)] [(.int (1 : Int32))]))
      refine Go.retN X2 hx (t := .boolean) Bd.returns (by simp) hlk (hb hby d3_61) ?_ (by decide) (by decide)
      rw [e2]
      exact ⟨(nar .boolean (1 : Int32)), (rfl), N2, rfl, (Or.inl ⟨(by rw [own_nb1]; exact own_i_1), (by
          simp only [Int32.lt_iff_toInt_lt, ← Int32.toInt_inj, own_i_m3, own_i_m2, own_i_m1, own_i_0, own_i_1, own_i_2, own_i_3, own_i_4, own_i_5, own_i_7, own_i_15, own_i_31, own_i_63, own_i_128, own_i_143, own_i_144, own_i_159, own_i_160, own_i_191, own_i_192, own_i_194, own_i_223, own_i_224, own_i_225, own_i_237, own_i_239, own_i_240, own_i_241, own_i_243, own_i_244, own_i_248, own_i_255, own_i_2048, own_i_55296, own_i_57343, own_i_65536, own_i_1114111] at hc39 hc46
          unfold own_Vi
          omega)⟩)⟩
    · skip
      refine Go.step (fun _ k => XS.icmpNo X2.here hx rfl (hb hby d3_46) rfl (flt hc46).1 k) ?_
      show Go _ _ _ _ _ _ _ (T2.setTop (mkF m 49 #[.val (.int p0), .val (.int (0 : Int32)), .val (.int p2), .val (.int va), .val (.int vb), .val (.int lo), .val (.int hi)] []))
      refine Go.step (fun _ k => XS.iload X2.here hx rfl (hb hby d3_49) rfl  k) ?_
      show Go _ _ _ _ _ _ _ (T2.setTop (mkF m 51 #[.val (.int p0), .val (.int (0 : Int32)), .val (.int p2), .val (.int va), .val (.int vb), .val (.int lo), .val (.int hi)] [(.int hi)]))
      refine Go.step (X2.ldcInt hx hown (mvT hZ (hw _ (List.mem_of_getElem? (i := 25) rfl))) (g := (mkF m 51 #[.val (.int p0), .val (.int (0 : Int32)), .val (.int p2), .val (.int va), .val (.int vb), .val (.int lo), .val (.int hi)] [(.int hi)])) rfl (hb hby d3_51)) ?_
      show Go _ _ _ _ _ _ _ (T2.setTop (mkF m 53 #[.val (.int p0), .val (.int (0 : Int32)), .val (.int p2), .val (.int va), .val (.int vb), .val (.int lo), .val (.int hi)] [(.int (57343 : Int32)), (.int hi)]))
      by_cases hc53 : (57343 : Int32) < hi
      · skip
        refine Go.step (fun _ k => XS.icmpNo X2.here hx rfl (hb hby d3_53) rfl (tlt hc53).2.2.2 k) ?_
        show Go _ _ _ _ _ _ _ (T2.setTop (mkF m 56 #[.val (.int p0), .val (.int (0 : Int32)), .val (.int p2), .val (.int va), .val (.int vb), .val (.int lo), .val (.int hi)] []))
        refine Go.step (fun _ k => XS.iconst X2.here hx rfl (hb hby d3_56) k) ?_
        show Go _ _ _ _ _ _ _ (T2.setTop (mkF m 57 #[.val (.int p0), .val (.int (0 : Int32)), .val (.int p2), .val (.int va), .val (.int vb), .val (.int lo), .val (.int hi)] [(.int (1 : Int32))]))
        refine Go.step (fun _ k => XS.goto X2.here hx rfl (pc0 := 57) (pc' := 61) rfl (hb hby d3_57) (by decide) (by decide) k) ?_
        show Go _ _ _ _ _ _ _ (T2.setTop (mkF m 61 #[.val (.int p0), .val (.int (0 : Int32)), .val (.int p2), .val (.int va), .val (.int vb), .val (.int lo), .val (.int hi)] [(.int (1 : Int32))]))
        refine Go.retN X2 hx (t := .boolean) Bd.returns (by simp) hlk (hb hby d3_61) ?_ (by decide) (by decide)
        rw [e2]
        exact ⟨(nar .boolean (1 : Int32)), (rfl), N2, rfl, (Or.inl ⟨(by rw [own_nb1]; exact own_i_1), (by
            simp only [Int32.lt_iff_toInt_lt, ← Int32.toInt_inj, own_i_m3, own_i_m2, own_i_m1, own_i_0, own_i_1, own_i_2, own_i_3, own_i_4, own_i_5, own_i_7, own_i_15, own_i_31, own_i_63, own_i_128, own_i_143, own_i_144, own_i_159, own_i_160, own_i_191, own_i_192, own_i_194, own_i_223, own_i_224, own_i_225, own_i_237, own_i_239, own_i_240, own_i_241, own_i_243, own_i_244, own_i_248, own_i_255, own_i_2048, own_i_55296, own_i_57343, own_i_65536, own_i_1114111] at hc39 hc46 hc53
            unfold own_Vi
            omega)⟩)⟩
      · skip
        refine Go.step (fun _ k => XS.icmpYes X2.here hx rfl (pc0 := 53) (pc' := 60) rfl (hb hby d3_53) rfl (flt hc53).2.2.2 (by decide) (by decide) k) ?_
        show Go _ _ _ _ _ _ _ (T2.setTop (mkF m 60 #[.val (.int p0), .val (.int (0 : Int32)), .val (.int p2), .val (.int va), .val (.int vb), .val (.int lo), .val (.int hi)] []))
        refine Go.step (fun _ k => XS.iconst X2.here hx rfl (hb hby d3_60) k) ?_
        show Go _ _ _ _ _ _ _ (T2.setTop (mkF m 61 #[.val (.int p0), .val (.int (0 : Int32)), .val (.int p2), .val (.int va), .val (.int vb), .val (.int lo), .val (.int hi)] [(.int (0 : Int32))]))
        refine Go.retN X2 hx (t := .boolean) Bd.returns (by simp) hlk (hb hby d3_61) ?_ (by decide) (by decide)
        rw [e2]
        exact ⟨(nar .boolean (0 : Int32)), (rfl), N2, rfl, (Or.inr ⟨(by rw [own_nb0]; exact own_i_0), (by
            simp only [Int32.lt_iff_toInt_lt, ← Int32.toInt_inj, own_i_m3, own_i_m2, own_i_m1, own_i_0, own_i_1, own_i_2, own_i_3, own_i_4, own_i_5, own_i_7, own_i_15, own_i_31, own_i_63, own_i_128, own_i_143, own_i_144, own_i_159, own_i_160, own_i_191, own_i_192, own_i_194, own_i_223, own_i_224, own_i_225, own_i_237, own_i_239, own_i_240, own_i_241, own_i_243, own_i_244, own_i_248, own_i_255, own_i_2048, own_i_55296, own_i_57343, own_i_65536, own_i_1114111] at hc39 hc46 hc53
            unfold own_Vi
            omega)⟩)⟩
theorem ef_v1 (m : MethodId) (p0 : Int32) (p1 : Int32) (p2 : Int32) : entryFrame m #[(.int p0), (.int p1), (.int p2)] 7 = mkF m 0 #[.val (.int p0), .val (.int p1), .val (.int p2), .unset, .unset, .unset, .unset] [] := by first | (simp [entryFrame, mkF, argsToLocals, Value.category]; done) | rfl
def Qv1 (Z : State) (p0 : Int32) (p1 : Int32) (p2 : Int32) (h0 : Heap) (n0 : Nat) (v : Option Value) (h : Heap) (L : List Loc) : Prop := ∃ (w : Int32), (v = some (.int w)) ∧ (Fr n0 L) ∧ (h = h0) ∧ ((w.toInt = 1 ∧ own_Vi (p0.toInt * 64) (p0.toInt * 64 + 63) p2.toInt) ∨ (w.toInt = 0 ∧ ¬ own_Vi (p0.toInt * 64) (p0.toInt * 64 + 63) p2.toInt))
set_option maxRecDepth 65536 in
set_option maxHeartbeats 40000000 in
theorem rmv1 (l : Launch) (Z : State) (aZ : Array Value) (hw : ∀ d ∈ tables_1, d.before aZ Z = true) (ws : List Jvm.Cond) (p0 : Int32) (p1 : Int32) (p2 : Int32) (h0 : Heap) (n0 : Nat) (Z0 : n0 ≤ h0.size) (hm : p1 = (1 : Int32)) (hv0 : 0 ≤ p0.toInt ∧ p0.toInt < 32768) (hmn : 0 ≤ p2.toInt ∧ p2.toInt ≤ 65536) :
    MetFree l (⟨"com/example/omniform/omniform/Utf8MeasurePinLaw", "viable", "(III)Z"⟩ : MethodName) (head1 (Jvm.Cond.code (⟨"com/example/omniform/omniform/Utf8MeasurePinLaw", "viable", "(III)Z"⟩ : MethodName) method_4_code 7 (some .boolean) :: ws) ({ frames := 1, cells := 0, slots := 0, locals := 13 } : Room)) (fun a U => a = #[(.int p0), (.int p1), (.int p2)] ∧ Z.Warmed39 U.vm ∧ U.heap = h0) (fun _ _ _ _ _ => True) (fun _ U o U' => ∃ v L, o = .returned v ∧ Qv1 Z p0 p1 p2 h0 n0 v U'.heap L ∧ FrameEnd U o U' L ({ frames := 1, cells := 0, slots := 0, locals := 13 } : Room).cells ({ frames := 1, cells := 0, slots := 0, locals := 13 } : Room).slots) := by
  refine MetFree.of_bodySF (plainFor_of_name pn_38) hisR ?_
  intro p e s m args below meth c s₁ Bd hml0 hP hK
  obtain ⟨rfl, hZ, hh⟩ := hP
  have hx := Bd.exec
  have hby := Bd.bytes
  have hml : c.maxLocals = 7 := hml0
  have hown : s.vm.findClass "com/example/omniform/omniform/Utf8MeasurePinLaw" = some m.cls := findClass_of_methodNamed Bd.named
  have hnm := (name_of_methodNamed Bd.named Bd.method).1
  have hlk : meth.locks = false := BodyLoose.notSynchronized Bd
  have X0 : Stand p l e ({ frames := 1, cells := 0, slots := 0, locals := 13 } : Room) s m #[(.int p0), (.int p1), (.int p2)] below meth c s₁ [] 0 0 := Stand.of_body Bd
  have e0 : s₁.heap = h0 := by rw [← hh, Bd.state]; rfl
  have N0 := Fr.nil n0
  have sq0 : h0.size ≤ h0.size := Nat.le_refl _
  change Go p e below s ({ frames := 1, cells := 0, slots := 0, locals := 13 } : Room).cells ({ frames := 1, cells := 0, slots := 0, locals := 13 } : Room).slots (Qv1 Z p0 p1 p2 h0 n0) (s₁.setTop (entryFrame m #[(.int p0), (.int p1), (.int p2)] 7))
  rw [ef_v1 m p0 p1 p2]
  subst hm
  show Go _ _ _ _ _ _ _ (s₁.setTop (mkF m 0 #[.val (.int p0), .val (.int (1 : Int32)), .val (.int p2), .unset, .unset, .unset, .unset] []))
  refine Go.step (fun _ k => XS.iloadN X0.here hx rfl (hb hby d3_0) rfl  k) ?_
  show Go _ _ _ _ _ _ _ (s₁.setTop (mkF m 1 #[.val (.int p0), .val (.int (1 : Int32)), .val (.int p2), .unset, .unset, .unset, .unset] [(.int p0)]))
  refine Go.step (fun _ k => XS.bipush X0.here hx rfl (hb hby d3_1) k) ?_
  show Go _ _ _ _ _ _ _ (s₁.setTop (mkF m 3 #[.val (.int p0), .val (.int (1 : Int32)), .val (.int p2), .unset, .unset, .unset, .unset] [(.int (6 : Int32)), (.int p0)]))
  refine Go.step (fun _ k => XS.iloadN X0.here hx rfl (hb hby d3_3) rfl  k) ?_
  show Go _ _ _ _ _ _ _ (s₁.setTop (mkF m 4 #[.val (.int p0), .val (.int (1 : Int32)), .val (.int p2), .unset, .unset, .unset, .unset] [(.int (1 : Int32)), (.int (6 : Int32)), (.int p0)]))
  refine Go.step (fun _ k => XS.imul X0.here hx rfl (hb hby d3_4) rfl k) ?_
  show Go _ _ _ _ _ _ _ (s₁.setTop (mkF m 5 #[.val (.int p0), .val (.int (1 : Int32)), .val (.int p2), .unset, .unset, .unset, .unset] [(.int (6 : Int32)), (.int p0)]))
  refine Go.step (fun _ k => XS.ishl X0.here hx rfl (hb hby d3_5) rfl k) ?_
  show Go _ _ _ _ _ _ _ (s₁.setTop (mkF m 6 #[.val (.int p0), .val (.int (1 : Int32)), .val (.int p2), .unset, .unset, .unset, .unset] [(.int (p0 <<< ((6 : Int32) &&& 31)))]))
  obtain ⟨va, q_va⟩ : ∃ z : Int32, z = (p0 <<< ((6 : Int32) &&& 31)) := ⟨_, rfl⟩
  rw [← q_va]
  have hva : va.toInt = p0.toInt * 64 := by
    have a := c_ishl p0 6 6 (by decide)
    have e : ((2 ^ 6 : Nat) : Int) = 64 := by decide
    rw [e, ← q_va] at a
    have := rng32 va
    omega
  show Go _ _ _ _ _ _ _ (s₁.setTop (mkF m 6 #[.val (.int p0), .val (.int (1 : Int32)), .val (.int p2), .unset, .unset, .unset, .unset] [(.int va)]))
  refine Go.step (fun _ k => XS.istoreN X0.here hx rfl (hb hby d3_6) rfl (l' := #[.val (.int p0), .val (.int (1 : Int32)), .val (.int p2), .val (.int va), .unset, .unset, .unset]) rfl k) ?_
  show Go _ _ _ _ _ _ _ (s₁.setTop (mkF m 7 #[.val (.int p0), .val (.int (1 : Int32)), .val (.int p2), .val (.int va), .unset, .unset, .unset] []))
  refine Go.step (fun _ k => XS.iloadN X0.here hx rfl (hb hby d3_7) rfl  k) ?_
  show Go _ _ _ _ _ _ _ (s₁.setTop (mkF m 8 #[.val (.int p0), .val (.int (1 : Int32)), .val (.int p2), .val (.int va), .unset, .unset, .unset] [(.int va)]))
  refine Go.step (fun _ k => XS.iconst X0.here hx rfl (hb hby d3_8) k) ?_
  show Go _ _ _ _ _ _ _ (s₁.setTop (mkF m 9 #[.val (.int p0), .val (.int (1 : Int32)), .val (.int p2), .val (.int va), .unset, .unset, .unset] [(.int (1 : Int32)), (.int va)]))
  refine Go.step (fun _ k => XS.bipush X0.here hx rfl (hb hby d3_9) k) ?_
  show Go _ _ _ _ _ _ _ (s₁.setTop (mkF m 11 #[.val (.int p0), .val (.int (1 : Int32)), .val (.int p2), .val (.int va), .unset, .unset, .unset] [(.int (6 : Int32)), (.int (1 : Int32)), (.int va)]))
  refine Go.step (fun _ k => XS.iloadN X0.here hx rfl (hb hby d3_11) rfl  k) ?_
  show Go _ _ _ _ _ _ _ (s₁.setTop (mkF m 12 #[.val (.int p0), .val (.int (1 : Int32)), .val (.int p2), .val (.int va), .unset, .unset, .unset] [(.int (1 : Int32)), (.int (6 : Int32)), (.int (1 : Int32)), (.int va)]))
  refine Go.step (fun _ k => XS.imul X0.here hx rfl (hb hby d3_12) rfl k) ?_
  show Go _ _ _ _ _ _ _ (s₁.setTop (mkF m 13 #[.val (.int p0), .val (.int (1 : Int32)), .val (.int p2), .val (.int va), .unset, .unset, .unset] [(.int (6 : Int32)), (.int (1 : Int32)), (.int va)]))
  refine Go.step (fun _ k => XS.ishl X0.here hx rfl (hb hby d3_13) rfl k) ?_
  show Go _ _ _ _ _ _ _ (s₁.setTop (mkF m 14 #[.val (.int p0), .val (.int (1 : Int32)), .val (.int p2), .val (.int va), .unset, .unset, .unset] [(.int ((1 : Int32) <<< ((6 : Int32) &&& 31))), (.int va)]))
  refine Go.step (fun _ k => XS.iadd X0.here hx rfl (hb hby d3_14) rfl k) ?_
  show Go _ _ _ _ _ _ _ (s₁.setTop (mkF m 15 #[.val (.int p0), .val (.int (1 : Int32)), .val (.int p2), .val (.int va), .unset, .unset, .unset] [(.int (va + ((1 : Int32) <<< ((6 : Int32) &&& 31))))]))
  refine Go.step (fun _ k => XS.iconst X0.here hx rfl (hb hby d3_15) k) ?_
  show Go _ _ _ _ _ _ _ (s₁.setTop (mkF m 16 #[.val (.int p0), .val (.int (1 : Int32)), .val (.int p2), .val (.int va), .unset, .unset, .unset] [(.int (1 : Int32)), (.int (va + ((1 : Int32) <<< ((6 : Int32) &&& 31))))]))
  refine Go.step (fun _ k => XS.isub X0.here hx rfl (hb hby d3_16) rfl k) ?_
  show Go _ _ _ _ _ _ _ (s₁.setTop (mkF m 17 #[.val (.int p0), .val (.int (1 : Int32)), .val (.int p2), .val (.int va), .unset, .unset, .unset] [(.int ((va + ((1 : Int32) <<< ((6 : Int32) &&& 31))) - (1 : Int32)))]))
  obtain ⟨vb, q_vb⟩ : ∃ z : Int32, z = ((va + ((1 : Int32) <<< ((6 : Int32) &&& 31))) - (1 : Int32)) := ⟨_, rfl⟩
  rw [← q_vb]
  have hvb : vb.toInt = va.toInt + 63 := by
    have a1 := c_iadd va ((1 : Int32) <<< ((6 : Int32) &&& 31))
    have a2 := rng32 (va + ((1 : Int32) <<< ((6 : Int32) &&& 31)))
    have e : ((1 : Int32) <<< ((6 : Int32) &&& 31)).toInt = 64 := by decide
    rw [e] at a1
    have a3 := c_isub (va + ((1 : Int32) <<< ((6 : Int32) &&& 31))) 1
    rw [own_i_1, ← q_vb] at a3
    have := rng32 vb
    omega
  show Go _ _ _ _ _ _ _ (s₁.setTop (mkF m 17 #[.val (.int p0), .val (.int (1 : Int32)), .val (.int p2), .val (.int va), .unset, .unset, .unset] [(.int vb)]))
  refine Go.step (fun _ k => XS.istore X0.here hx rfl (hb hby d3_17) rfl (l' := #[.val (.int p0), .val (.int (1 : Int32)), .val (.int p2), .val (.int va), .val (.int vb), .unset, .unset]) rfl k) ?_
  show Go _ _ _ _ _ _ _ (s₁.setTop (mkF m 19 #[.val (.int p0), .val (.int (1 : Int32)), .val (.int p2), .val (.int va), .val (.int vb), .unset, .unset] []))
  refine Go.step (fun _ k => XS.iloadN X0.here hx rfl (hb hby d3_19) rfl  k) ?_
  show Go _ _ _ _ _ _ _ (s₁.setTop (mkF m 20 #[.val (.int p0), .val (.int (1 : Int32)), .val (.int p2), .val (.int va), .val (.int vb), .unset, .unset] [(.int va)]))
  refine Go.step (fun _ k => XS.iloadN X0.here hx rfl (hb hby d3_20) rfl  k) ?_
  show Go _ _ _ _ _ _ _ (s₁.setTop (mkF m 21 #[.val (.int p0), .val (.int (1 : Int32)), .val (.int p2), .val (.int va), .val (.int vb), .unset, .unset] [(.int p2), (.int va)]))
  obtain ⟨_, _, ⟨T1, L1, k1, n1⟩, -, X1, ⟨Lc1, hQ1, l1, y1, z1⟩, st1⟩ := Jvm.LawKit.callS X0 hx (y := (⟨"java/lang/Math", "max", "(II)I"⟩ : MethodName)) hown (mvT hZ (hw _ (List.mem_of_getElem? (i := 12) rfl))) (mvT hZ (hw _ (List.mem_of_getElem? (i := 13) rfl))) (mvT hZ (hw _ (List.mem_of_getElem? (i := 14) rfl))) (mvT hZ (hw _ (List.mem_of_getElem? (i := 15) rfl))) (by decide) (backOf (W := 0) (rm4 l Z aZ hw [] va p2 h0 n0 Z0 ) hZ (hw _ (List.mem_of_getElem? (i := 15) rfl)) (hw _ (List.mem_of_getElem? (i := 14) rfl)) (by decide) (by decide)) (g := (mkF m 21 #[.val (.int p0), .val (.int (1 : Int32)), .val (.int p2), .val (.int va), .val (.int vb), .unset, .unset] [(.int p2), (.int va)])) rfl (by rw [hml]; rfl) (argsL := [(.int va), (.int p2)]) (rest := []) (lenOf pd_0 rfl) rfl (by show 2 * 0 + _ ≤ _; exact Nat.le_of_eq rfl) (hb hby d3_21) (fun _ _ => ⟨rfl, e0, (by decide : 0 + 0 ≤ _), (by decide : 0 + 0 ≤ _)⟩)
  dsimp only [Pt.U, Pt.locs, Pt.cells, Pt.slots] at X1 l1 y1 z1 st1 hQ1
  subst l1 y1 z1
  obtain ⟨rfl, Nq1, e1⟩ := hQ1
  have N1 := Fr.app N0 Nq1
  refine Go.step st1 ?_
  show Go _ _ _ _ _ _ _ (T1.setTop (mkF m 24 #[.val (.int p0), .val (.int (1 : Int32)), .val (.int p2), .val (.int va), .val (.int vb), .unset, .unset] [(.int (if va < p2 then p2 else va))]))
  obtain ⟨lo, q_lo⟩ : ∃ z : Int32, z = (if va < p2 then p2 else va) := ⟨_, rfl⟩
  rw [← q_lo]
  have hlo : (lo.toInt = va.toInt ∧ p2.toInt ≤ va.toInt) ∨ (lo.toInt = p2.toInt ∧ va.toInt < p2.toInt) := by
    rw [q_lo]; split
    · rename_i h; simp only [Int32.lt_iff_toInt_lt, ← Int32.toInt_inj, own_i_m3, own_i_m2, own_i_m1, own_i_0, own_i_1, own_i_2, own_i_3, own_i_4, own_i_5, own_i_7, own_i_15, own_i_31, own_i_63, own_i_128, own_i_143, own_i_144, own_i_159, own_i_160, own_i_191, own_i_192, own_i_194, own_i_223, own_i_224, own_i_225, own_i_237, own_i_239, own_i_240, own_i_241, own_i_243, own_i_244, own_i_248, own_i_255, own_i_2048, own_i_55296, own_i_57343, own_i_65536, own_i_1114111] at h; exact Or.inr ⟨rfl, h⟩
    · rename_i h; simp only [Int32.lt_iff_toInt_lt, ← Int32.toInt_inj, own_i_m3, own_i_m2, own_i_m1, own_i_0, own_i_1, own_i_2, own_i_3, own_i_4, own_i_5, own_i_7, own_i_15, own_i_31, own_i_63, own_i_128, own_i_143, own_i_144, own_i_159, own_i_160, own_i_191, own_i_192, own_i_194, own_i_223, own_i_224, own_i_225, own_i_237, own_i_239, own_i_240, own_i_241, own_i_243, own_i_244, own_i_248, own_i_255, own_i_2048, own_i_55296, own_i_57343, own_i_65536, own_i_1114111] at h; exact Or.inl ⟨rfl, by omega⟩
  show Go _ _ _ _ _ _ _ (T1.setTop (mkF m 24 #[.val (.int p0), .val (.int (1 : Int32)), .val (.int p2), .val (.int va), .val (.int vb), .unset, .unset] [(.int lo)]))
  refine Go.step (fun _ k => XS.istore X1.here hx rfl (hb hby d3_24) rfl (l' := #[.val (.int p0), .val (.int (1 : Int32)), .val (.int p2), .val (.int va), .val (.int vb), .val (.int lo), .unset]) rfl k) ?_
  show Go _ _ _ _ _ _ _ (T1.setTop (mkF m 26 #[.val (.int p0), .val (.int (1 : Int32)), .val (.int p2), .val (.int va), .val (.int vb), .val (.int lo), .unset] []))
  refine Go.step (fun _ k => XS.iload X1.here hx rfl (hb hby d3_26) rfl  k) ?_
  show Go _ _ _ _ _ _ _ (T1.setTop (mkF m 28 #[.val (.int p0), .val (.int (1 : Int32)), .val (.int p2), .val (.int va), .val (.int vb), .val (.int lo), .unset] [(.int vb)]))
  refine Go.step (X1.ldcInt hx hown (mvT hZ (hw _ (List.mem_of_getElem? (i := 16) rfl))) (g := (mkF m 28 #[.val (.int p0), .val (.int (1 : Int32)), .val (.int p2), .val (.int va), .val (.int vb), .val (.int lo), .unset] [(.int vb)])) rfl (hb hby d3_28)) ?_
  show Go _ _ _ _ _ _ _ (T1.setTop (mkF m 30 #[.val (.int p0), .val (.int (1 : Int32)), .val (.int p2), .val (.int va), .val (.int vb), .val (.int lo), .unset] [(.int (1114111 : Int32)), (.int vb)]))
  obtain ⟨_, _, ⟨T2, L2, k2, n2⟩, -, X2, ⟨Lc2, hQ2, l2, y2, z2⟩, st2⟩ := Jvm.LawKit.callS X1 hx (y := (⟨"java/lang/Math", "min", "(II)I"⟩ : MethodName)) hown (mvT hZ (hw _ (List.mem_of_getElem? (i := 17) rfl))) (mvT hZ (hw _ (List.mem_of_getElem? (i := 18) rfl))) (mvT hZ (hw _ (List.mem_of_getElem? (i := 14) rfl))) (mvT hZ (hw _ (List.mem_of_getElem? (i := 19) rfl))) (by decide) (backOf (W := 0) (rm5 l Z aZ hw [] vb (1114111 : Int32) h0 n0 Z0 ) hZ (hw _ (List.mem_of_getElem? (i := 19) rfl)) (hw _ (List.mem_of_getElem? (i := 14) rfl)) (by decide) (by decide)) (g := (mkF m 30 #[.val (.int p0), .val (.int (1 : Int32)), .val (.int p2), .val (.int va), .val (.int vb), .val (.int lo), .unset] [(.int (1114111 : Int32)), (.int vb)])) rfl (by rw [hml]; rfl) (argsL := [(.int vb), (.int (1114111 : Int32))]) (rest := []) (lenOf pd_0 rfl) rfl (by show 2 * 0 + _ ≤ _; exact Nat.le_of_eq rfl) (hb hby d3_30) (fun _ _ => ⟨rfl, e1, (by decide : 0 + 0 ≤ _), (by decide : 0 + 0 ≤ _)⟩)
  dsimp only [Pt.U, Pt.locs, Pt.cells, Pt.slots] at X2 l2 y2 z2 st2 hQ2
  subst l2 y2 z2
  obtain ⟨rfl, Nq2, e2⟩ := hQ2
  have N2 := Fr.app N1 Nq2
  refine Go.step st2 ?_
  show Go _ _ _ _ _ _ _ (T2.setTop (mkF m 33 #[.val (.int p0), .val (.int (1 : Int32)), .val (.int p2), .val (.int va), .val (.int vb), .val (.int lo), .unset] [(.int (if (1114111 : Int32) < vb then (1114111 : Int32) else vb))]))
  obtain ⟨hi, q_hi⟩ : ∃ z : Int32, z = (if (1114111 : Int32) < vb then (1114111 : Int32) else vb) := ⟨_, rfl⟩
  rw [← q_hi]
  have hhi : (hi.toInt = vb.toInt ∧ vb.toInt ≤ 1114111) ∨ (hi.toInt = 1114111 ∧ 1114111 < vb.toInt) := by
    rw [q_hi]; split
    · rename_i h; simp only [Int32.lt_iff_toInt_lt, ← Int32.toInt_inj, own_i_m3, own_i_m2, own_i_m1, own_i_0, own_i_1, own_i_2, own_i_3, own_i_4, own_i_5, own_i_7, own_i_15, own_i_31, own_i_63, own_i_128, own_i_143, own_i_144, own_i_159, own_i_160, own_i_191, own_i_192, own_i_194, own_i_223, own_i_224, own_i_225, own_i_237, own_i_239, own_i_240, own_i_241, own_i_243, own_i_244, own_i_248, own_i_255, own_i_2048, own_i_55296, own_i_57343, own_i_65536, own_i_1114111] at h; exact Or.inr ⟨own_i_1114111, h⟩
    · rename_i h; simp only [Int32.lt_iff_toInt_lt, ← Int32.toInt_inj, own_i_m3, own_i_m2, own_i_m1, own_i_0, own_i_1, own_i_2, own_i_3, own_i_4, own_i_5, own_i_7, own_i_15, own_i_31, own_i_63, own_i_128, own_i_143, own_i_144, own_i_159, own_i_160, own_i_191, own_i_192, own_i_194, own_i_223, own_i_224, own_i_225, own_i_237, own_i_239, own_i_240, own_i_241, own_i_243, own_i_244, own_i_248, own_i_255, own_i_2048, own_i_55296, own_i_57343, own_i_65536, own_i_1114111] at h; exact Or.inl ⟨rfl, by omega⟩
  show Go _ _ _ _ _ _ _ (T2.setTop (mkF m 33 #[.val (.int p0), .val (.int (1 : Int32)), .val (.int p2), .val (.int va), .val (.int vb), .val (.int lo), .unset] [(.int hi)]))
  refine Go.step (fun _ k => XS.istore X2.here hx rfl (hb hby d3_33) rfl (l' := #[.val (.int p0), .val (.int (1 : Int32)), .val (.int p2), .val (.int va), .val (.int vb), .val (.int lo), .val (.int hi)]) rfl k) ?_
  show Go _ _ _ _ _ _ _ (T2.setTop (mkF m 35 #[.val (.int p0), .val (.int (1 : Int32)), .val (.int p2), .val (.int va), .val (.int vb), .val (.int lo), .val (.int hi)] []))
  refine Go.step (fun _ k => XS.iload X2.here hx rfl (hb hby d3_35) rfl  k) ?_
  show Go _ _ _ _ _ _ _ (T2.setTop (mkF m 37 #[.val (.int p0), .val (.int (1 : Int32)), .val (.int p2), .val (.int va), .val (.int vb), .val (.int lo), .val (.int hi)] [(.int lo)]))
  refine Go.step (fun _ k => XS.iload X2.here hx rfl (hb hby d3_37) rfl  k) ?_
  show Go _ _ _ _ _ _ _ (T2.setTop (mkF m 39 #[.val (.int p0), .val (.int (1 : Int32)), .val (.int p2), .val (.int va), .val (.int vb), .val (.int lo), .val (.int hi)] [(.int hi), (.int lo)]))
  by_cases hc39 : hi < lo
  · skip
    refine Go.step (fun _ k => XS.icmpYes X2.here hx rfl (pc0 := 39) (pc' := 60) rfl (hb hby d3_39) rfl (tlt hc39).2.2.1 (by decide) (by decide) k) ?_
    show Go _ _ _ _ _ _ _ (T2.setTop (mkF m 60 #[.val (.int p0), .val (.int (1 : Int32)), .val (.int p2), .val (.int va), .val (.int vb), .val (.int lo), .val (.int hi)] []))
    refine Go.step (fun _ k => XS.iconst X2.here hx rfl (hb hby d3_60) k) ?_
    show Go _ _ _ _ _ _ _ (T2.setTop (mkF m 61 #[.val (.int p0), .val (.int (1 : Int32)), .val (.int p2), .val (.int va), .val (.int vb), .val (.int lo), .val (.int hi)] [(.int (0 : Int32))]))
    refine Go.retN X2 hx (t := .boolean) Bd.returns (by simp) hlk (hb hby d3_61) ?_ (by decide) (by decide)
    rw [e2]
    exact ⟨(nar .boolean (0 : Int32)), (rfl), N2, rfl, (Or.inr ⟨(by rw [own_nb0]; exact own_i_0), (by
        simp only [Int32.lt_iff_toInt_lt, ← Int32.toInt_inj, own_i_m3, own_i_m2, own_i_m1, own_i_0, own_i_1, own_i_2, own_i_3, own_i_4, own_i_5, own_i_7, own_i_15, own_i_31, own_i_63, own_i_128, own_i_143, own_i_144, own_i_159, own_i_160, own_i_191, own_i_192, own_i_194, own_i_223, own_i_224, own_i_225, own_i_237, own_i_239, own_i_240, own_i_241, own_i_243, own_i_244, own_i_248, own_i_255, own_i_2048, own_i_55296, own_i_57343, own_i_65536, own_i_1114111] at hc39
        unfold own_Vi
        omega)⟩)⟩
  · skip
    refine Go.step (fun _ k => XS.icmpNo X2.here hx rfl (hb hby d3_39) rfl (flt hc39).2.2.1 k) ?_
    show Go _ _ _ _ _ _ _ (T2.setTop (mkF m 42 #[.val (.int p0), .val (.int (1 : Int32)), .val (.int p2), .val (.int va), .val (.int vb), .val (.int lo), .val (.int hi)] []))
    refine Go.step (fun _ k => XS.iload X2.here hx rfl (hb hby d3_42) rfl  k) ?_
    show Go _ _ _ _ _ _ _ (T2.setTop (mkF m 44 #[.val (.int p0), .val (.int (1 : Int32)), .val (.int p2), .val (.int va), .val (.int vb), .val (.int lo), .val (.int hi)] [(.int lo)]))
    refine Go.step (X2.ldcInt hx hown (mvT hZ (hw _ (List.mem_of_getElem? (i := 20) rfl))) (g := (mkF m 44 #[.val (.int p0), .val (.int (1 : Int32)), .val (.int p2), .val (.int va), .val (.int vb), .val (.int lo), .val (.int hi)] [(.int lo)])) rfl (hb hby d3_44)) ?_
    show Go _ _ _ _ _ _ _ (T2.setTop (mkF m 46 #[.val (.int p0), .val (.int (1 : Int32)), .val (.int p2), .val (.int va), .val (.int vb), .val (.int lo), .val (.int hi)] [(.int (55296 : Int32)), (.int lo)]))
    by_cases hc46 : lo < (55296 : Int32)
    · skip
      refine Go.step (fun _ k => XS.icmpYes X2.here hx rfl (pc0 := 46) (pc' := 56) rfl (hb hby d3_46) rfl (tlt hc46).1 (by decide) (by decide) k) ?_
      show Go _ _ _ _ _ _ _ (T2.setTop (mkF m 56 #[.val (.int p0), .val (.int (1 : Int32)), .val (.int p2), .val (.int va), .val (.int vb), .val (.int lo), .val (.int hi)] []))
      refine Go.step (fun _ k => XS.iconst X2.here hx rfl (hb hby d3_56) k) ?_
      show Go _ _ _ _ _ _ _ (T2.setTop (mkF m 57 #[.val (.int p0), .val (.int (1 : Int32)), .val (.int p2), .val (.int va), .val (.int vb), .val (.int lo), .val (.int hi)] [(.int (1 : Int32))]))
      refine Go.step (fun _ k => XS.goto X2.here hx rfl (pc0 := 57) (pc' := 61) rfl (hb hby d3_57) (by decide) (by decide) k) ?_
      show Go _ _ _ _ _ _ _ (T2.setTop (mkF m 61 #[.val (.int p0), .val (.int (1 : Int32)), .val (.int p2), .val (.int va), .val (.int vb), .val (.int lo), .val (.int hi)] [(.int (1 : Int32))]))
      refine Go.retN X2 hx (t := .boolean) Bd.returns (by simp) hlk (hb hby d3_61) ?_ (by decide) (by decide)
      rw [e2]
      exact ⟨(nar .boolean (1 : Int32)), (rfl), N2, rfl, (Or.inl ⟨(by rw [own_nb1]; exact own_i_1), (by
          simp only [Int32.lt_iff_toInt_lt, ← Int32.toInt_inj, own_i_m3, own_i_m2, own_i_m1, own_i_0, own_i_1, own_i_2, own_i_3, own_i_4, own_i_5, own_i_7, own_i_15, own_i_31, own_i_63, own_i_128, own_i_143, own_i_144, own_i_159, own_i_160, own_i_191, own_i_192, own_i_194, own_i_223, own_i_224, own_i_225, own_i_237, own_i_239, own_i_240, own_i_241, own_i_243, own_i_244, own_i_248, own_i_255, own_i_2048, own_i_55296, own_i_57343, own_i_65536, own_i_1114111] at hc39 hc46
          unfold own_Vi
          omega)⟩)⟩
    · skip
      refine Go.step (fun _ k => XS.icmpNo X2.here hx rfl (hb hby d3_46) rfl (flt hc46).1 k) ?_
      show Go _ _ _ _ _ _ _ (T2.setTop (mkF m 49 #[.val (.int p0), .val (.int (1 : Int32)), .val (.int p2), .val (.int va), .val (.int vb), .val (.int lo), .val (.int hi)] []))
      refine Go.step (fun _ k => XS.iload X2.here hx rfl (hb hby d3_49) rfl  k) ?_
      show Go _ _ _ _ _ _ _ (T2.setTop (mkF m 51 #[.val (.int p0), .val (.int (1 : Int32)), .val (.int p2), .val (.int va), .val (.int vb), .val (.int lo), .val (.int hi)] [(.int hi)]))
      refine Go.step (X2.ldcInt hx hown (mvT hZ (hw _ (List.mem_of_getElem? (i := 25) rfl))) (g := (mkF m 51 #[.val (.int p0), .val (.int (1 : Int32)), .val (.int p2), .val (.int va), .val (.int vb), .val (.int lo), .val (.int hi)] [(.int hi)])) rfl (hb hby d3_51)) ?_
      show Go _ _ _ _ _ _ _ (T2.setTop (mkF m 53 #[.val (.int p0), .val (.int (1 : Int32)), .val (.int p2), .val (.int va), .val (.int vb), .val (.int lo), .val (.int hi)] [(.int (57343 : Int32)), (.int hi)]))
      by_cases hc53 : (57343 : Int32) < hi
      · skip
        refine Go.step (fun _ k => XS.icmpNo X2.here hx rfl (hb hby d3_53) rfl (tlt hc53).2.2.2 k) ?_
        show Go _ _ _ _ _ _ _ (T2.setTop (mkF m 56 #[.val (.int p0), .val (.int (1 : Int32)), .val (.int p2), .val (.int va), .val (.int vb), .val (.int lo), .val (.int hi)] []))
        refine Go.step (fun _ k => XS.iconst X2.here hx rfl (hb hby d3_56) k) ?_
        show Go _ _ _ _ _ _ _ (T2.setTop (mkF m 57 #[.val (.int p0), .val (.int (1 : Int32)), .val (.int p2), .val (.int va), .val (.int vb), .val (.int lo), .val (.int hi)] [(.int (1 : Int32))]))
        refine Go.step (fun _ k => XS.goto X2.here hx rfl (pc0 := 57) (pc' := 61) rfl (hb hby d3_57) (by decide) (by decide) k) ?_
        show Go _ _ _ _ _ _ _ (T2.setTop (mkF m 61 #[.val (.int p0), .val (.int (1 : Int32)), .val (.int p2), .val (.int va), .val (.int vb), .val (.int lo), .val (.int hi)] [(.int (1 : Int32))]))
        refine Go.retN X2 hx (t := .boolean) Bd.returns (by simp) hlk (hb hby d3_61) ?_ (by decide) (by decide)
        rw [e2]
        exact ⟨(nar .boolean (1 : Int32)), (rfl), N2, rfl, (Or.inl ⟨(by rw [own_nb1]; exact own_i_1), (by
            simp only [Int32.lt_iff_toInt_lt, ← Int32.toInt_inj, own_i_m3, own_i_m2, own_i_m1, own_i_0, own_i_1, own_i_2, own_i_3, own_i_4, own_i_5, own_i_7, own_i_15, own_i_31, own_i_63, own_i_128, own_i_143, own_i_144, own_i_159, own_i_160, own_i_191, own_i_192, own_i_194, own_i_223, own_i_224, own_i_225, own_i_237, own_i_239, own_i_240, own_i_241, own_i_243, own_i_244, own_i_248, own_i_255, own_i_2048, own_i_55296, own_i_57343, own_i_65536, own_i_1114111] at hc39 hc46 hc53
            unfold own_Vi
            omega)⟩)⟩
      · skip
        refine Go.step (fun _ k => XS.icmpYes X2.here hx rfl (pc0 := 53) (pc' := 60) rfl (hb hby d3_53) rfl (flt hc53).2.2.2 (by decide) (by decide) k) ?_
        show Go _ _ _ _ _ _ _ (T2.setTop (mkF m 60 #[.val (.int p0), .val (.int (1 : Int32)), .val (.int p2), .val (.int va), .val (.int vb), .val (.int lo), .val (.int hi)] []))
        refine Go.step (fun _ k => XS.iconst X2.here hx rfl (hb hby d3_60) k) ?_
        show Go _ _ _ _ _ _ _ (T2.setTop (mkF m 61 #[.val (.int p0), .val (.int (1 : Int32)), .val (.int p2), .val (.int va), .val (.int vb), .val (.int lo), .val (.int hi)] [(.int (0 : Int32))]))
        refine Go.retN X2 hx (t := .boolean) Bd.returns (by simp) hlk (hb hby d3_61) ?_ (by decide) (by decide)
        rw [e2]
        exact ⟨(nar .boolean (0 : Int32)), (rfl), N2, rfl, (Or.inr ⟨(by rw [own_nb0]; exact own_i_0), (by
            simp only [Int32.lt_iff_toInt_lt, ← Int32.toInt_inj, own_i_m3, own_i_m2, own_i_m1, own_i_0, own_i_1, own_i_2, own_i_3, own_i_4, own_i_5, own_i_7, own_i_15, own_i_31, own_i_63, own_i_128, own_i_143, own_i_144, own_i_159, own_i_160, own_i_191, own_i_192, own_i_194, own_i_223, own_i_224, own_i_225, own_i_237, own_i_239, own_i_240, own_i_241, own_i_243, own_i_244, own_i_248, own_i_255, own_i_2048, own_i_55296, own_i_57343, own_i_65536, own_i_1114111] at hc39 hc46 hc53
            unfold own_Vi
            omega)⟩)⟩
theorem ef_v2 (m : MethodId) (p0 : Int32) (p1 : Int32) (p2 : Int32) : entryFrame m #[(.int p0), (.int p1), (.int p2)] 7 = mkF m 0 #[.val (.int p0), .val (.int p1), .val (.int p2), .unset, .unset, .unset, .unset] [] := by first | (simp [entryFrame, mkF, argsToLocals, Value.category]; done) | rfl
def Qv2 (Z : State) (p0 : Int32) (p1 : Int32) (p2 : Int32) (h0 : Heap) (n0 : Nat) (v : Option Value) (h : Heap) (L : List Loc) : Prop := ∃ (w : Int32), (v = some (.int w)) ∧ (Fr n0 L) ∧ (h = h0) ∧ ((w.toInt = 1 ∧ own_Vi (p0.toInt * 4096) (p0.toInt * 4096 + 4095) p2.toInt) ∨ (w.toInt = 0 ∧ ¬ own_Vi (p0.toInt * 4096) (p0.toInt * 4096 + 4095) p2.toInt))
set_option maxRecDepth 65536 in
set_option maxHeartbeats 40000000 in
theorem rmv2 (l : Launch) (Z : State) (aZ : Array Value) (hw : ∀ d ∈ tables_1, d.before aZ Z = true) (ws : List Jvm.Cond) (p0 : Int32) (p1 : Int32) (p2 : Int32) (h0 : Heap) (n0 : Nat) (Z0 : n0 ≤ h0.size) (hm : p1 = (2 : Int32)) (hv0 : 0 ≤ p0.toInt ∧ p0.toInt < 512) (hmn : 0 ≤ p2.toInt ∧ p2.toInt ≤ 65536) :
    MetFree l (⟨"com/example/omniform/omniform/Utf8MeasurePinLaw", "viable", "(III)Z"⟩ : MethodName) (head1 (Jvm.Cond.code (⟨"com/example/omniform/omniform/Utf8MeasurePinLaw", "viable", "(III)Z"⟩ : MethodName) method_4_code 7 (some .boolean) :: ws) ({ frames := 1, cells := 0, slots := 0, locals := 13 } : Room)) (fun a U => a = #[(.int p0), (.int p1), (.int p2)] ∧ Z.Warmed39 U.vm ∧ U.heap = h0) (fun _ _ _ _ _ => True) (fun _ U o U' => ∃ v L, o = .returned v ∧ Qv2 Z p0 p1 p2 h0 n0 v U'.heap L ∧ FrameEnd U o U' L ({ frames := 1, cells := 0, slots := 0, locals := 13 } : Room).cells ({ frames := 1, cells := 0, slots := 0, locals := 13 } : Room).slots) := by
  refine MetFree.of_bodySF (plainFor_of_name pn_38) hisR ?_
  intro p e s m args below meth c s₁ Bd hml0 hP hK
  obtain ⟨rfl, hZ, hh⟩ := hP
  have hx := Bd.exec
  have hby := Bd.bytes
  have hml : c.maxLocals = 7 := hml0
  have hown : s.vm.findClass "com/example/omniform/omniform/Utf8MeasurePinLaw" = some m.cls := findClass_of_methodNamed Bd.named
  have hnm := (name_of_methodNamed Bd.named Bd.method).1
  have hlk : meth.locks = false := BodyLoose.notSynchronized Bd
  have X0 : Stand p l e ({ frames := 1, cells := 0, slots := 0, locals := 13 } : Room) s m #[(.int p0), (.int p1), (.int p2)] below meth c s₁ [] 0 0 := Stand.of_body Bd
  have e0 : s₁.heap = h0 := by rw [← hh, Bd.state]; rfl
  have N0 := Fr.nil n0
  have sq0 : h0.size ≤ h0.size := Nat.le_refl _
  change Go p e below s ({ frames := 1, cells := 0, slots := 0, locals := 13 } : Room).cells ({ frames := 1, cells := 0, slots := 0, locals := 13 } : Room).slots (Qv2 Z p0 p1 p2 h0 n0) (s₁.setTop (entryFrame m #[(.int p0), (.int p1), (.int p2)] 7))
  rw [ef_v2 m p0 p1 p2]
  subst hm
  show Go _ _ _ _ _ _ _ (s₁.setTop (mkF m 0 #[.val (.int p0), .val (.int (2 : Int32)), .val (.int p2), .unset, .unset, .unset, .unset] []))
  refine Go.step (fun _ k => XS.iloadN X0.here hx rfl (hb hby d3_0) rfl  k) ?_
  show Go _ _ _ _ _ _ _ (s₁.setTop (mkF m 1 #[.val (.int p0), .val (.int (2 : Int32)), .val (.int p2), .unset, .unset, .unset, .unset] [(.int p0)]))
  refine Go.step (fun _ k => XS.bipush X0.here hx rfl (hb hby d3_1) k) ?_
  show Go _ _ _ _ _ _ _ (s₁.setTop (mkF m 3 #[.val (.int p0), .val (.int (2 : Int32)), .val (.int p2), .unset, .unset, .unset, .unset] [(.int (6 : Int32)), (.int p0)]))
  refine Go.step (fun _ k => XS.iloadN X0.here hx rfl (hb hby d3_3) rfl  k) ?_
  show Go _ _ _ _ _ _ _ (s₁.setTop (mkF m 4 #[.val (.int p0), .val (.int (2 : Int32)), .val (.int p2), .unset, .unset, .unset, .unset] [(.int (2 : Int32)), (.int (6 : Int32)), (.int p0)]))
  refine Go.step (fun _ k => XS.imul X0.here hx rfl (hb hby d3_4) rfl k) ?_
  show Go _ _ _ _ _ _ _ (s₁.setTop (mkF m 5 #[.val (.int p0), .val (.int (2 : Int32)), .val (.int p2), .unset, .unset, .unset, .unset] [(.int (12 : Int32)), (.int p0)]))
  refine Go.step (fun _ k => XS.ishl X0.here hx rfl (hb hby d3_5) rfl k) ?_
  show Go _ _ _ _ _ _ _ (s₁.setTop (mkF m 6 #[.val (.int p0), .val (.int (2 : Int32)), .val (.int p2), .unset, .unset, .unset, .unset] [(.int (p0 <<< ((12 : Int32) &&& 31)))]))
  obtain ⟨va, q_va⟩ : ∃ z : Int32, z = (p0 <<< ((12 : Int32) &&& 31)) := ⟨_, rfl⟩
  rw [← q_va]
  have hva : va.toInt = p0.toInt * 4096 := by
    have a := c_ishl p0 12 12 (by decide)
    have e : ((2 ^ 12 : Nat) : Int) = 4096 := by decide
    rw [e, ← q_va] at a
    have := rng32 va
    omega
  show Go _ _ _ _ _ _ _ (s₁.setTop (mkF m 6 #[.val (.int p0), .val (.int (2 : Int32)), .val (.int p2), .unset, .unset, .unset, .unset] [(.int va)]))
  refine Go.step (fun _ k => XS.istoreN X0.here hx rfl (hb hby d3_6) rfl (l' := #[.val (.int p0), .val (.int (2 : Int32)), .val (.int p2), .val (.int va), .unset, .unset, .unset]) rfl k) ?_
  show Go _ _ _ _ _ _ _ (s₁.setTop (mkF m 7 #[.val (.int p0), .val (.int (2 : Int32)), .val (.int p2), .val (.int va), .unset, .unset, .unset] []))
  refine Go.step (fun _ k => XS.iloadN X0.here hx rfl (hb hby d3_7) rfl  k) ?_
  show Go _ _ _ _ _ _ _ (s₁.setTop (mkF m 8 #[.val (.int p0), .val (.int (2 : Int32)), .val (.int p2), .val (.int va), .unset, .unset, .unset] [(.int va)]))
  refine Go.step (fun _ k => XS.iconst X0.here hx rfl (hb hby d3_8) k) ?_
  show Go _ _ _ _ _ _ _ (s₁.setTop (mkF m 9 #[.val (.int p0), .val (.int (2 : Int32)), .val (.int p2), .val (.int va), .unset, .unset, .unset] [(.int (1 : Int32)), (.int va)]))
  refine Go.step (fun _ k => XS.bipush X0.here hx rfl (hb hby d3_9) k) ?_
  show Go _ _ _ _ _ _ _ (s₁.setTop (mkF m 11 #[.val (.int p0), .val (.int (2 : Int32)), .val (.int p2), .val (.int va), .unset, .unset, .unset] [(.int (6 : Int32)), (.int (1 : Int32)), (.int va)]))
  refine Go.step (fun _ k => XS.iloadN X0.here hx rfl (hb hby d3_11) rfl  k) ?_
  show Go _ _ _ _ _ _ _ (s₁.setTop (mkF m 12 #[.val (.int p0), .val (.int (2 : Int32)), .val (.int p2), .val (.int va), .unset, .unset, .unset] [(.int (2 : Int32)), (.int (6 : Int32)), (.int (1 : Int32)), (.int va)]))
  refine Go.step (fun _ k => XS.imul X0.here hx rfl (hb hby d3_12) rfl k) ?_
  show Go _ _ _ _ _ _ _ (s₁.setTop (mkF m 13 #[.val (.int p0), .val (.int (2 : Int32)), .val (.int p2), .val (.int va), .unset, .unset, .unset] [(.int (12 : Int32)), (.int (1 : Int32)), (.int va)]))
  refine Go.step (fun _ k => XS.ishl X0.here hx rfl (hb hby d3_13) rfl k) ?_
  show Go _ _ _ _ _ _ _ (s₁.setTop (mkF m 14 #[.val (.int p0), .val (.int (2 : Int32)), .val (.int p2), .val (.int va), .unset, .unset, .unset] [(.int ((1 : Int32) <<< ((12 : Int32) &&& 31))), (.int va)]))
  refine Go.step (fun _ k => XS.iadd X0.here hx rfl (hb hby d3_14) rfl k) ?_
  show Go _ _ _ _ _ _ _ (s₁.setTop (mkF m 15 #[.val (.int p0), .val (.int (2 : Int32)), .val (.int p2), .val (.int va), .unset, .unset, .unset] [(.int (va + ((1 : Int32) <<< ((12 : Int32) &&& 31))))]))
  refine Go.step (fun _ k => XS.iconst X0.here hx rfl (hb hby d3_15) k) ?_
  show Go _ _ _ _ _ _ _ (s₁.setTop (mkF m 16 #[.val (.int p0), .val (.int (2 : Int32)), .val (.int p2), .val (.int va), .unset, .unset, .unset] [(.int (1 : Int32)), (.int (va + ((1 : Int32) <<< ((12 : Int32) &&& 31))))]))
  refine Go.step (fun _ k => XS.isub X0.here hx rfl (hb hby d3_16) rfl k) ?_
  show Go _ _ _ _ _ _ _ (s₁.setTop (mkF m 17 #[.val (.int p0), .val (.int (2 : Int32)), .val (.int p2), .val (.int va), .unset, .unset, .unset] [(.int ((va + ((1 : Int32) <<< ((12 : Int32) &&& 31))) - (1 : Int32)))]))
  obtain ⟨vb, q_vb⟩ : ∃ z : Int32, z = ((va + ((1 : Int32) <<< ((12 : Int32) &&& 31))) - (1 : Int32)) := ⟨_, rfl⟩
  rw [← q_vb]
  have hvb : vb.toInt = va.toInt + 4095 := by
    have a1 := c_iadd va ((1 : Int32) <<< ((12 : Int32) &&& 31))
    have a2 := rng32 (va + ((1 : Int32) <<< ((12 : Int32) &&& 31)))
    have e : ((1 : Int32) <<< ((12 : Int32) &&& 31)).toInt = 4096 := by decide
    rw [e] at a1
    have a3 := c_isub (va + ((1 : Int32) <<< ((12 : Int32) &&& 31))) 1
    rw [own_i_1, ← q_vb] at a3
    have := rng32 vb
    omega
  show Go _ _ _ _ _ _ _ (s₁.setTop (mkF m 17 #[.val (.int p0), .val (.int (2 : Int32)), .val (.int p2), .val (.int va), .unset, .unset, .unset] [(.int vb)]))
  refine Go.step (fun _ k => XS.istore X0.here hx rfl (hb hby d3_17) rfl (l' := #[.val (.int p0), .val (.int (2 : Int32)), .val (.int p2), .val (.int va), .val (.int vb), .unset, .unset]) rfl k) ?_
  show Go _ _ _ _ _ _ _ (s₁.setTop (mkF m 19 #[.val (.int p0), .val (.int (2 : Int32)), .val (.int p2), .val (.int va), .val (.int vb), .unset, .unset] []))
  refine Go.step (fun _ k => XS.iloadN X0.here hx rfl (hb hby d3_19) rfl  k) ?_
  show Go _ _ _ _ _ _ _ (s₁.setTop (mkF m 20 #[.val (.int p0), .val (.int (2 : Int32)), .val (.int p2), .val (.int va), .val (.int vb), .unset, .unset] [(.int va)]))
  refine Go.step (fun _ k => XS.iloadN X0.here hx rfl (hb hby d3_20) rfl  k) ?_
  show Go _ _ _ _ _ _ _ (s₁.setTop (mkF m 21 #[.val (.int p0), .val (.int (2 : Int32)), .val (.int p2), .val (.int va), .val (.int vb), .unset, .unset] [(.int p2), (.int va)]))
  obtain ⟨_, _, ⟨T1, L1, k1, n1⟩, -, X1, ⟨Lc1, hQ1, l1, y1, z1⟩, st1⟩ := Jvm.LawKit.callS X0 hx (y := (⟨"java/lang/Math", "max", "(II)I"⟩ : MethodName)) hown (mvT hZ (hw _ (List.mem_of_getElem? (i := 12) rfl))) (mvT hZ (hw _ (List.mem_of_getElem? (i := 13) rfl))) (mvT hZ (hw _ (List.mem_of_getElem? (i := 14) rfl))) (mvT hZ (hw _ (List.mem_of_getElem? (i := 15) rfl))) (by decide) (backOf (W := 0) (rm4 l Z aZ hw [] va p2 h0 n0 Z0 ) hZ (hw _ (List.mem_of_getElem? (i := 15) rfl)) (hw _ (List.mem_of_getElem? (i := 14) rfl)) (by decide) (by decide)) (g := (mkF m 21 #[.val (.int p0), .val (.int (2 : Int32)), .val (.int p2), .val (.int va), .val (.int vb), .unset, .unset] [(.int p2), (.int va)])) rfl (by rw [hml]; rfl) (argsL := [(.int va), (.int p2)]) (rest := []) (lenOf pd_0 rfl) rfl (by show 2 * 0 + _ ≤ _; exact Nat.le_of_eq rfl) (hb hby d3_21) (fun _ _ => ⟨rfl, e0, (by decide : 0 + 0 ≤ _), (by decide : 0 + 0 ≤ _)⟩)
  dsimp only [Pt.U, Pt.locs, Pt.cells, Pt.slots] at X1 l1 y1 z1 st1 hQ1
  subst l1 y1 z1
  obtain ⟨rfl, Nq1, e1⟩ := hQ1
  have N1 := Fr.app N0 Nq1
  refine Go.step st1 ?_
  show Go _ _ _ _ _ _ _ (T1.setTop (mkF m 24 #[.val (.int p0), .val (.int (2 : Int32)), .val (.int p2), .val (.int va), .val (.int vb), .unset, .unset] [(.int (if va < p2 then p2 else va))]))
  obtain ⟨lo, q_lo⟩ : ∃ z : Int32, z = (if va < p2 then p2 else va) := ⟨_, rfl⟩
  rw [← q_lo]
  have hlo : (lo.toInt = va.toInt ∧ p2.toInt ≤ va.toInt) ∨ (lo.toInt = p2.toInt ∧ va.toInt < p2.toInt) := by
    rw [q_lo]; split
    · rename_i h; simp only [Int32.lt_iff_toInt_lt, ← Int32.toInt_inj, own_i_m3, own_i_m2, own_i_m1, own_i_0, own_i_1, own_i_2, own_i_3, own_i_4, own_i_5, own_i_7, own_i_15, own_i_31, own_i_63, own_i_128, own_i_143, own_i_144, own_i_159, own_i_160, own_i_191, own_i_192, own_i_194, own_i_223, own_i_224, own_i_225, own_i_237, own_i_239, own_i_240, own_i_241, own_i_243, own_i_244, own_i_248, own_i_255, own_i_2048, own_i_55296, own_i_57343, own_i_65536, own_i_1114111] at h; exact Or.inr ⟨rfl, h⟩
    · rename_i h; simp only [Int32.lt_iff_toInt_lt, ← Int32.toInt_inj, own_i_m3, own_i_m2, own_i_m1, own_i_0, own_i_1, own_i_2, own_i_3, own_i_4, own_i_5, own_i_7, own_i_15, own_i_31, own_i_63, own_i_128, own_i_143, own_i_144, own_i_159, own_i_160, own_i_191, own_i_192, own_i_194, own_i_223, own_i_224, own_i_225, own_i_237, own_i_239, own_i_240, own_i_241, own_i_243, own_i_244, own_i_248, own_i_255, own_i_2048, own_i_55296, own_i_57343, own_i_65536, own_i_1114111] at h; exact Or.inl ⟨rfl, by omega⟩
  show Go _ _ _ _ _ _ _ (T1.setTop (mkF m 24 #[.val (.int p0), .val (.int (2 : Int32)), .val (.int p2), .val (.int va), .val (.int vb), .unset, .unset] [(.int lo)]))
  refine Go.step (fun _ k => XS.istore X1.here hx rfl (hb hby d3_24) rfl (l' := #[.val (.int p0), .val (.int (2 : Int32)), .val (.int p2), .val (.int va), .val (.int vb), .val (.int lo), .unset]) rfl k) ?_
  show Go _ _ _ _ _ _ _ (T1.setTop (mkF m 26 #[.val (.int p0), .val (.int (2 : Int32)), .val (.int p2), .val (.int va), .val (.int vb), .val (.int lo), .unset] []))
  refine Go.step (fun _ k => XS.iload X1.here hx rfl (hb hby d3_26) rfl  k) ?_
  show Go _ _ _ _ _ _ _ (T1.setTop (mkF m 28 #[.val (.int p0), .val (.int (2 : Int32)), .val (.int p2), .val (.int va), .val (.int vb), .val (.int lo), .unset] [(.int vb)]))
  refine Go.step (X1.ldcInt hx hown (mvT hZ (hw _ (List.mem_of_getElem? (i := 16) rfl))) (g := (mkF m 28 #[.val (.int p0), .val (.int (2 : Int32)), .val (.int p2), .val (.int va), .val (.int vb), .val (.int lo), .unset] [(.int vb)])) rfl (hb hby d3_28)) ?_
  show Go _ _ _ _ _ _ _ (T1.setTop (mkF m 30 #[.val (.int p0), .val (.int (2 : Int32)), .val (.int p2), .val (.int va), .val (.int vb), .val (.int lo), .unset] [(.int (1114111 : Int32)), (.int vb)]))
  obtain ⟨_, _, ⟨T2, L2, k2, n2⟩, -, X2, ⟨Lc2, hQ2, l2, y2, z2⟩, st2⟩ := Jvm.LawKit.callS X1 hx (y := (⟨"java/lang/Math", "min", "(II)I"⟩ : MethodName)) hown (mvT hZ (hw _ (List.mem_of_getElem? (i := 17) rfl))) (mvT hZ (hw _ (List.mem_of_getElem? (i := 18) rfl))) (mvT hZ (hw _ (List.mem_of_getElem? (i := 14) rfl))) (mvT hZ (hw _ (List.mem_of_getElem? (i := 19) rfl))) (by decide) (backOf (W := 0) (rm5 l Z aZ hw [] vb (1114111 : Int32) h0 n0 Z0 ) hZ (hw _ (List.mem_of_getElem? (i := 19) rfl)) (hw _ (List.mem_of_getElem? (i := 14) rfl)) (by decide) (by decide)) (g := (mkF m 30 #[.val (.int p0), .val (.int (2 : Int32)), .val (.int p2), .val (.int va), .val (.int vb), .val (.int lo), .unset] [(.int (1114111 : Int32)), (.int vb)])) rfl (by rw [hml]; rfl) (argsL := [(.int vb), (.int (1114111 : Int32))]) (rest := []) (lenOf pd_0 rfl) rfl (by show 2 * 0 + _ ≤ _; exact Nat.le_of_eq rfl) (hb hby d3_30) (fun _ _ => ⟨rfl, e1, (by decide : 0 + 0 ≤ _), (by decide : 0 + 0 ≤ _)⟩)
  dsimp only [Pt.U, Pt.locs, Pt.cells, Pt.slots] at X2 l2 y2 z2 st2 hQ2
  subst l2 y2 z2
  obtain ⟨rfl, Nq2, e2⟩ := hQ2
  have N2 := Fr.app N1 Nq2
  refine Go.step st2 ?_
  show Go _ _ _ _ _ _ _ (T2.setTop (mkF m 33 #[.val (.int p0), .val (.int (2 : Int32)), .val (.int p2), .val (.int va), .val (.int vb), .val (.int lo), .unset] [(.int (if (1114111 : Int32) < vb then (1114111 : Int32) else vb))]))
  obtain ⟨hi, q_hi⟩ : ∃ z : Int32, z = (if (1114111 : Int32) < vb then (1114111 : Int32) else vb) := ⟨_, rfl⟩
  rw [← q_hi]
  have hhi : (hi.toInt = vb.toInt ∧ vb.toInt ≤ 1114111) ∨ (hi.toInt = 1114111 ∧ 1114111 < vb.toInt) := by
    rw [q_hi]; split
    · rename_i h; simp only [Int32.lt_iff_toInt_lt, ← Int32.toInt_inj, own_i_m3, own_i_m2, own_i_m1, own_i_0, own_i_1, own_i_2, own_i_3, own_i_4, own_i_5, own_i_7, own_i_15, own_i_31, own_i_63, own_i_128, own_i_143, own_i_144, own_i_159, own_i_160, own_i_191, own_i_192, own_i_194, own_i_223, own_i_224, own_i_225, own_i_237, own_i_239, own_i_240, own_i_241, own_i_243, own_i_244, own_i_248, own_i_255, own_i_2048, own_i_55296, own_i_57343, own_i_65536, own_i_1114111] at h; exact Or.inr ⟨own_i_1114111, h⟩
    · rename_i h; simp only [Int32.lt_iff_toInt_lt, ← Int32.toInt_inj, own_i_m3, own_i_m2, own_i_m1, own_i_0, own_i_1, own_i_2, own_i_3, own_i_4, own_i_5, own_i_7, own_i_15, own_i_31, own_i_63, own_i_128, own_i_143, own_i_144, own_i_159, own_i_160, own_i_191, own_i_192, own_i_194, own_i_223, own_i_224, own_i_225, own_i_237, own_i_239, own_i_240, own_i_241, own_i_243, own_i_244, own_i_248, own_i_255, own_i_2048, own_i_55296, own_i_57343, own_i_65536, own_i_1114111] at h; exact Or.inl ⟨rfl, by omega⟩
  show Go _ _ _ _ _ _ _ (T2.setTop (mkF m 33 #[.val (.int p0), .val (.int (2 : Int32)), .val (.int p2), .val (.int va), .val (.int vb), .val (.int lo), .unset] [(.int hi)]))
  refine Go.step (fun _ k => XS.istore X2.here hx rfl (hb hby d3_33) rfl (l' := #[.val (.int p0), .val (.int (2 : Int32)), .val (.int p2), .val (.int va), .val (.int vb), .val (.int lo), .val (.int hi)]) rfl k) ?_
  show Go _ _ _ _ _ _ _ (T2.setTop (mkF m 35 #[.val (.int p0), .val (.int (2 : Int32)), .val (.int p2), .val (.int va), .val (.int vb), .val (.int lo), .val (.int hi)] []))
  refine Go.step (fun _ k => XS.iload X2.here hx rfl (hb hby d3_35) rfl  k) ?_
  show Go _ _ _ _ _ _ _ (T2.setTop (mkF m 37 #[.val (.int p0), .val (.int (2 : Int32)), .val (.int p2), .val (.int va), .val (.int vb), .val (.int lo), .val (.int hi)] [(.int lo)]))
  refine Go.step (fun _ k => XS.iload X2.here hx rfl (hb hby d3_37) rfl  k) ?_
  show Go _ _ _ _ _ _ _ (T2.setTop (mkF m 39 #[.val (.int p0), .val (.int (2 : Int32)), .val (.int p2), .val (.int va), .val (.int vb), .val (.int lo), .val (.int hi)] [(.int hi), (.int lo)]))
  by_cases hc39 : hi < lo
  · skip
    refine Go.step (fun _ k => XS.icmpYes X2.here hx rfl (pc0 := 39) (pc' := 60) rfl (hb hby d3_39) rfl (tlt hc39).2.2.1 (by decide) (by decide) k) ?_
    show Go _ _ _ _ _ _ _ (T2.setTop (mkF m 60 #[.val (.int p0), .val (.int (2 : Int32)), .val (.int p2), .val (.int va), .val (.int vb), .val (.int lo), .val (.int hi)] []))
    refine Go.step (fun _ k => XS.iconst X2.here hx rfl (hb hby d3_60) k) ?_
    show Go _ _ _ _ _ _ _ (T2.setTop (mkF m 61 #[.val (.int p0), .val (.int (2 : Int32)), .val (.int p2), .val (.int va), .val (.int vb), .val (.int lo), .val (.int hi)] [(.int (0 : Int32))]))
    refine Go.retN X2 hx (t := .boolean) Bd.returns (by simp) hlk (hb hby d3_61) ?_ (by decide) (by decide)
    rw [e2]
    exact ⟨(nar .boolean (0 : Int32)), (rfl), N2, rfl, (Or.inr ⟨(by rw [own_nb0]; exact own_i_0), (by
        simp only [Int32.lt_iff_toInt_lt, ← Int32.toInt_inj, own_i_m3, own_i_m2, own_i_m1, own_i_0, own_i_1, own_i_2, own_i_3, own_i_4, own_i_5, own_i_7, own_i_15, own_i_31, own_i_63, own_i_128, own_i_143, own_i_144, own_i_159, own_i_160, own_i_191, own_i_192, own_i_194, own_i_223, own_i_224, own_i_225, own_i_237, own_i_239, own_i_240, own_i_241, own_i_243, own_i_244, own_i_248, own_i_255, own_i_2048, own_i_55296, own_i_57343, own_i_65536, own_i_1114111] at hc39
        unfold own_Vi
        omega)⟩)⟩
  · skip
    refine Go.step (fun _ k => XS.icmpNo X2.here hx rfl (hb hby d3_39) rfl (flt hc39).2.2.1 k) ?_
    show Go _ _ _ _ _ _ _ (T2.setTop (mkF m 42 #[.val (.int p0), .val (.int (2 : Int32)), .val (.int p2), .val (.int va), .val (.int vb), .val (.int lo), .val (.int hi)] []))
    refine Go.step (fun _ k => XS.iload X2.here hx rfl (hb hby d3_42) rfl  k) ?_
    show Go _ _ _ _ _ _ _ (T2.setTop (mkF m 44 #[.val (.int p0), .val (.int (2 : Int32)), .val (.int p2), .val (.int va), .val (.int vb), .val (.int lo), .val (.int hi)] [(.int lo)]))
    refine Go.step (X2.ldcInt hx hown (mvT hZ (hw _ (List.mem_of_getElem? (i := 20) rfl))) (g := (mkF m 44 #[.val (.int p0), .val (.int (2 : Int32)), .val (.int p2), .val (.int va), .val (.int vb), .val (.int lo), .val (.int hi)] [(.int lo)])) rfl (hb hby d3_44)) ?_
    show Go _ _ _ _ _ _ _ (T2.setTop (mkF m 46 #[.val (.int p0), .val (.int (2 : Int32)), .val (.int p2), .val (.int va), .val (.int vb), .val (.int lo), .val (.int hi)] [(.int (55296 : Int32)), (.int lo)]))
    by_cases hc46 : lo < (55296 : Int32)
    · skip
      refine Go.step (fun _ k => XS.icmpYes X2.here hx rfl (pc0 := 46) (pc' := 56) rfl (hb hby d3_46) rfl (tlt hc46).1 (by decide) (by decide) k) ?_
      show Go _ _ _ _ _ _ _ (T2.setTop (mkF m 56 #[.val (.int p0), .val (.int (2 : Int32)), .val (.int p2), .val (.int va), .val (.int vb), .val (.int lo), .val (.int hi)] []))
      refine Go.step (fun _ k => XS.iconst X2.here hx rfl (hb hby d3_56) k) ?_
      show Go _ _ _ _ _ _ _ (T2.setTop (mkF m 57 #[.val (.int p0), .val (.int (2 : Int32)), .val (.int p2), .val (.int va), .val (.int vb), .val (.int lo), .val (.int hi)] [(.int (1 : Int32))]))
      refine Go.step (fun _ k => XS.goto X2.here hx rfl (pc0 := 57) (pc' := 61) rfl (hb hby d3_57) (by decide) (by decide) k) ?_
      show Go _ _ _ _ _ _ _ (T2.setTop (mkF m 61 #[.val (.int p0), .val (.int (2 : Int32)), .val (.int p2), .val (.int va), .val (.int vb), .val (.int lo), .val (.int hi)] [(.int (1 : Int32))]))
      refine Go.retN X2 hx (t := .boolean) Bd.returns (by simp) hlk (hb hby d3_61) ?_ (by decide) (by decide)
      rw [e2]
      exact ⟨(nar .boolean (1 : Int32)), (rfl), N2, rfl, (Or.inl ⟨(by rw [own_nb1]; exact own_i_1), (by
          simp only [Int32.lt_iff_toInt_lt, ← Int32.toInt_inj, own_i_m3, own_i_m2, own_i_m1, own_i_0, own_i_1, own_i_2, own_i_3, own_i_4, own_i_5, own_i_7, own_i_15, own_i_31, own_i_63, own_i_128, own_i_143, own_i_144, own_i_159, own_i_160, own_i_191, own_i_192, own_i_194, own_i_223, own_i_224, own_i_225, own_i_237, own_i_239, own_i_240, own_i_241, own_i_243, own_i_244, own_i_248, own_i_255, own_i_2048, own_i_55296, own_i_57343, own_i_65536, own_i_1114111] at hc39 hc46
          unfold own_Vi
          omega)⟩)⟩
    · skip
      refine Go.step (fun _ k => XS.icmpNo X2.here hx rfl (hb hby d3_46) rfl (flt hc46).1 k) ?_
      show Go _ _ _ _ _ _ _ (T2.setTop (mkF m 49 #[.val (.int p0), .val (.int (2 : Int32)), .val (.int p2), .val (.int va), .val (.int vb), .val (.int lo), .val (.int hi)] []))
      refine Go.step (fun _ k => XS.iload X2.here hx rfl (hb hby d3_49) rfl  k) ?_
      show Go _ _ _ _ _ _ _ (T2.setTop (mkF m 51 #[.val (.int p0), .val (.int (2 : Int32)), .val (.int p2), .val (.int va), .val (.int vb), .val (.int lo), .val (.int hi)] [(.int hi)]))
      refine Go.step (X2.ldcInt hx hown (mvT hZ (hw _ (List.mem_of_getElem? (i := 25) rfl))) (g := (mkF m 51 #[.val (.int p0), .val (.int (2 : Int32)), .val (.int p2), .val (.int va), .val (.int vb), .val (.int lo), .val (.int hi)] [(.int hi)])) rfl (hb hby d3_51)) ?_
      show Go _ _ _ _ _ _ _ (T2.setTop (mkF m 53 #[.val (.int p0), .val (.int (2 : Int32)), .val (.int p2), .val (.int va), .val (.int vb), .val (.int lo), .val (.int hi)] [(.int (57343 : Int32)), (.int hi)]))
      by_cases hc53 : (57343 : Int32) < hi
      · skip
        refine Go.step (fun _ k => XS.icmpNo X2.here hx rfl (hb hby d3_53) rfl (tlt hc53).2.2.2 k) ?_
        show Go _ _ _ _ _ _ _ (T2.setTop (mkF m 56 #[.val (.int p0), .val (.int (2 : Int32)), .val (.int p2), .val (.int va), .val (.int vb), .val (.int lo), .val (.int hi)] []))
        refine Go.step (fun _ k => XS.iconst X2.here hx rfl (hb hby d3_56) k) ?_
        show Go _ _ _ _ _ _ _ (T2.setTop (mkF m 57 #[.val (.int p0), .val (.int (2 : Int32)), .val (.int p2), .val (.int va), .val (.int vb), .val (.int lo), .val (.int hi)] [(.int (1 : Int32))]))
        refine Go.step (fun _ k => XS.goto X2.here hx rfl (pc0 := 57) (pc' := 61) rfl (hb hby d3_57) (by decide) (by decide) k) ?_
        show Go _ _ _ _ _ _ _ (T2.setTop (mkF m 61 #[.val (.int p0), .val (.int (2 : Int32)), .val (.int p2), .val (.int va), .val (.int vb), .val (.int lo), .val (.int hi)] [(.int (1 : Int32))]))
        refine Go.retN X2 hx (t := .boolean) Bd.returns (by simp) hlk (hb hby d3_61) ?_ (by decide) (by decide)
        rw [e2]
        exact ⟨(nar .boolean (1 : Int32)), (rfl), N2, rfl, (Or.inl ⟨(by rw [own_nb1]; exact own_i_1), (by
            simp only [Int32.lt_iff_toInt_lt, ← Int32.toInt_inj, own_i_m3, own_i_m2, own_i_m1, own_i_0, own_i_1, own_i_2, own_i_3, own_i_4, own_i_5, own_i_7, own_i_15, own_i_31, own_i_63, own_i_128, own_i_143, own_i_144, own_i_159, own_i_160, own_i_191, own_i_192, own_i_194, own_i_223, own_i_224, own_i_225, own_i_237, own_i_239, own_i_240, own_i_241, own_i_243, own_i_244, own_i_248, own_i_255, own_i_2048, own_i_55296, own_i_57343, own_i_65536, own_i_1114111] at hc39 hc46 hc53
            unfold own_Vi
            omega)⟩)⟩
      · skip
        refine Go.step (fun _ k => XS.icmpYes X2.here hx rfl (pc0 := 53) (pc' := 60) rfl (hb hby d3_53) rfl (flt hc53).2.2.2 (by decide) (by decide) k) ?_
        show Go _ _ _ _ _ _ _ (T2.setTop (mkF m 60 #[.val (.int p0), .val (.int (2 : Int32)), .val (.int p2), .val (.int va), .val (.int vb), .val (.int lo), .val (.int hi)] []))
        refine Go.step (fun _ k => XS.iconst X2.here hx rfl (hb hby d3_60) k) ?_
        show Go _ _ _ _ _ _ _ (T2.setTop (mkF m 61 #[.val (.int p0), .val (.int (2 : Int32)), .val (.int p2), .val (.int va), .val (.int vb), .val (.int lo), .val (.int hi)] [(.int (0 : Int32))]))
        refine Go.retN X2 hx (t := .boolean) Bd.returns (by simp) hlk (hb hby d3_61) ?_ (by decide) (by decide)
        rw [e2]
        exact ⟨(nar .boolean (0 : Int32)), (rfl), N2, rfl, (Or.inr ⟨(by rw [own_nb0]; exact own_i_0), (by
            simp only [Int32.lt_iff_toInt_lt, ← Int32.toInt_inj, own_i_m3, own_i_m2, own_i_m1, own_i_0, own_i_1, own_i_2, own_i_3, own_i_4, own_i_5, own_i_7, own_i_15, own_i_31, own_i_63, own_i_128, own_i_143, own_i_144, own_i_159, own_i_160, own_i_191, own_i_192, own_i_194, own_i_223, own_i_224, own_i_225, own_i_237, own_i_239, own_i_240, own_i_241, own_i_243, own_i_244, own_i_248, own_i_255, own_i_2048, own_i_55296, own_i_57343, own_i_65536, own_i_1114111] at hc39 hc46 hc53
            unfold own_Vi
            omega)⟩)⟩
theorem ef_v3 (m : MethodId) (p0 : Int32) (p1 : Int32) (p2 : Int32) : entryFrame m #[(.int p0), (.int p1), (.int p2)] 7 = mkF m 0 #[.val (.int p0), .val (.int p1), .val (.int p2), .unset, .unset, .unset, .unset] [] := by first | (simp [entryFrame, mkF, argsToLocals, Value.category]; done) | rfl
def Qv3 (Z : State) (p0 : Int32) (p1 : Int32) (p2 : Int32) (h0 : Heap) (n0 : Nat) (v : Option Value) (h : Heap) (L : List Loc) : Prop := ∃ (w : Int32), (v = some (.int w)) ∧ (Fr n0 L) ∧ (h = h0) ∧ ((w.toInt = 1 ∧ own_Vi (p0.toInt * 262144) (p0.toInt * 262144 + 262143) p2.toInt) ∨ (w.toInt = 0 ∧ ¬ own_Vi (p0.toInt * 262144) (p0.toInt * 262144 + 262143) p2.toInt))
set_option maxRecDepth 65536 in
set_option maxHeartbeats 40000000 in
theorem rmv3 (l : Launch) (Z : State) (aZ : Array Value) (hw : ∀ d ∈ tables_1, d.before aZ Z = true) (ws : List Jvm.Cond) (p0 : Int32) (p1 : Int32) (p2 : Int32) (h0 : Heap) (n0 : Nat) (Z0 : n0 ≤ h0.size) (hm : p1 = (3 : Int32)) (hv0 : 0 ≤ p0.toInt ∧ p0.toInt < 8) (hmn : 0 ≤ p2.toInt ∧ p2.toInt ≤ 65536) :
    MetFree l (⟨"com/example/omniform/omniform/Utf8MeasurePinLaw", "viable", "(III)Z"⟩ : MethodName) (head1 (Jvm.Cond.code (⟨"com/example/omniform/omniform/Utf8MeasurePinLaw", "viable", "(III)Z"⟩ : MethodName) method_4_code 7 (some .boolean) :: ws) ({ frames := 1, cells := 0, slots := 0, locals := 13 } : Room)) (fun a U => a = #[(.int p0), (.int p1), (.int p2)] ∧ Z.Warmed39 U.vm ∧ U.heap = h0) (fun _ _ _ _ _ => True) (fun _ U o U' => ∃ v L, o = .returned v ∧ Qv3 Z p0 p1 p2 h0 n0 v U'.heap L ∧ FrameEnd U o U' L ({ frames := 1, cells := 0, slots := 0, locals := 13 } : Room).cells ({ frames := 1, cells := 0, slots := 0, locals := 13 } : Room).slots) := by
  refine MetFree.of_bodySF (plainFor_of_name pn_38) hisR ?_
  intro p e s m args below meth c s₁ Bd hml0 hP hK
  obtain ⟨rfl, hZ, hh⟩ := hP
  have hx := Bd.exec
  have hby := Bd.bytes
  have hml : c.maxLocals = 7 := hml0
  have hown : s.vm.findClass "com/example/omniform/omniform/Utf8MeasurePinLaw" = some m.cls := findClass_of_methodNamed Bd.named
  have hnm := (name_of_methodNamed Bd.named Bd.method).1
  have hlk : meth.locks = false := BodyLoose.notSynchronized Bd
  have X0 : Stand p l e ({ frames := 1, cells := 0, slots := 0, locals := 13 } : Room) s m #[(.int p0), (.int p1), (.int p2)] below meth c s₁ [] 0 0 := Stand.of_body Bd
  have e0 : s₁.heap = h0 := by rw [← hh, Bd.state]; rfl
  have N0 := Fr.nil n0
  have sq0 : h0.size ≤ h0.size := Nat.le_refl _
  change Go p e below s ({ frames := 1, cells := 0, slots := 0, locals := 13 } : Room).cells ({ frames := 1, cells := 0, slots := 0, locals := 13 } : Room).slots (Qv3 Z p0 p1 p2 h0 n0) (s₁.setTop (entryFrame m #[(.int p0), (.int p1), (.int p2)] 7))
  rw [ef_v3 m p0 p1 p2]
  subst hm
  show Go _ _ _ _ _ _ _ (s₁.setTop (mkF m 0 #[.val (.int p0), .val (.int (3 : Int32)), .val (.int p2), .unset, .unset, .unset, .unset] []))
  refine Go.step (fun _ k => XS.iloadN X0.here hx rfl (hb hby d3_0) rfl  k) ?_
  show Go _ _ _ _ _ _ _ (s₁.setTop (mkF m 1 #[.val (.int p0), .val (.int (3 : Int32)), .val (.int p2), .unset, .unset, .unset, .unset] [(.int p0)]))
  refine Go.step (fun _ k => XS.bipush X0.here hx rfl (hb hby d3_1) k) ?_
  show Go _ _ _ _ _ _ _ (s₁.setTop (mkF m 3 #[.val (.int p0), .val (.int (3 : Int32)), .val (.int p2), .unset, .unset, .unset, .unset] [(.int (6 : Int32)), (.int p0)]))
  refine Go.step (fun _ k => XS.iloadN X0.here hx rfl (hb hby d3_3) rfl  k) ?_
  show Go _ _ _ _ _ _ _ (s₁.setTop (mkF m 4 #[.val (.int p0), .val (.int (3 : Int32)), .val (.int p2), .unset, .unset, .unset, .unset] [(.int (3 : Int32)), (.int (6 : Int32)), (.int p0)]))
  refine Go.step (fun _ k => XS.imul X0.here hx rfl (hb hby d3_4) rfl k) ?_
  show Go _ _ _ _ _ _ _ (s₁.setTop (mkF m 5 #[.val (.int p0), .val (.int (3 : Int32)), .val (.int p2), .unset, .unset, .unset, .unset] [(.int (18 : Int32)), (.int p0)]))
  refine Go.step (fun _ k => XS.ishl X0.here hx rfl (hb hby d3_5) rfl k) ?_
  show Go _ _ _ _ _ _ _ (s₁.setTop (mkF m 6 #[.val (.int p0), .val (.int (3 : Int32)), .val (.int p2), .unset, .unset, .unset, .unset] [(.int (p0 <<< ((18 : Int32) &&& 31)))]))
  obtain ⟨va, q_va⟩ : ∃ z : Int32, z = (p0 <<< ((18 : Int32) &&& 31)) := ⟨_, rfl⟩
  rw [← q_va]
  have hva : va.toInt = p0.toInt * 262144 := by
    have a := c_ishl p0 18 18 (by decide)
    have e : ((2 ^ 18 : Nat) : Int) = 262144 := by decide
    rw [e, ← q_va] at a
    have := rng32 va
    omega
  show Go _ _ _ _ _ _ _ (s₁.setTop (mkF m 6 #[.val (.int p0), .val (.int (3 : Int32)), .val (.int p2), .unset, .unset, .unset, .unset] [(.int va)]))
  refine Go.step (fun _ k => XS.istoreN X0.here hx rfl (hb hby d3_6) rfl (l' := #[.val (.int p0), .val (.int (3 : Int32)), .val (.int p2), .val (.int va), .unset, .unset, .unset]) rfl k) ?_
  show Go _ _ _ _ _ _ _ (s₁.setTop (mkF m 7 #[.val (.int p0), .val (.int (3 : Int32)), .val (.int p2), .val (.int va), .unset, .unset, .unset] []))
  refine Go.step (fun _ k => XS.iloadN X0.here hx rfl (hb hby d3_7) rfl  k) ?_
  show Go _ _ _ _ _ _ _ (s₁.setTop (mkF m 8 #[.val (.int p0), .val (.int (3 : Int32)), .val (.int p2), .val (.int va), .unset, .unset, .unset] [(.int va)]))
  refine Go.step (fun _ k => XS.iconst X0.here hx rfl (hb hby d3_8) k) ?_
  show Go _ _ _ _ _ _ _ (s₁.setTop (mkF m 9 #[.val (.int p0), .val (.int (3 : Int32)), .val (.int p2), .val (.int va), .unset, .unset, .unset] [(.int (1 : Int32)), (.int va)]))
  refine Go.step (fun _ k => XS.bipush X0.here hx rfl (hb hby d3_9) k) ?_
  show Go _ _ _ _ _ _ _ (s₁.setTop (mkF m 11 #[.val (.int p0), .val (.int (3 : Int32)), .val (.int p2), .val (.int va), .unset, .unset, .unset] [(.int (6 : Int32)), (.int (1 : Int32)), (.int va)]))
  refine Go.step (fun _ k => XS.iloadN X0.here hx rfl (hb hby d3_11) rfl  k) ?_
  show Go _ _ _ _ _ _ _ (s₁.setTop (mkF m 12 #[.val (.int p0), .val (.int (3 : Int32)), .val (.int p2), .val (.int va), .unset, .unset, .unset] [(.int (3 : Int32)), (.int (6 : Int32)), (.int (1 : Int32)), (.int va)]))
  refine Go.step (fun _ k => XS.imul X0.here hx rfl (hb hby d3_12) rfl k) ?_
  show Go _ _ _ _ _ _ _ (s₁.setTop (mkF m 13 #[.val (.int p0), .val (.int (3 : Int32)), .val (.int p2), .val (.int va), .unset, .unset, .unset] [(.int (18 : Int32)), (.int (1 : Int32)), (.int va)]))
  refine Go.step (fun _ k => XS.ishl X0.here hx rfl (hb hby d3_13) rfl k) ?_
  show Go _ _ _ _ _ _ _ (s₁.setTop (mkF m 14 #[.val (.int p0), .val (.int (3 : Int32)), .val (.int p2), .val (.int va), .unset, .unset, .unset] [(.int ((1 : Int32) <<< ((18 : Int32) &&& 31))), (.int va)]))
  refine Go.step (fun _ k => XS.iadd X0.here hx rfl (hb hby d3_14) rfl k) ?_
  show Go _ _ _ _ _ _ _ (s₁.setTop (mkF m 15 #[.val (.int p0), .val (.int (3 : Int32)), .val (.int p2), .val (.int va), .unset, .unset, .unset] [(.int (va + ((1 : Int32) <<< ((18 : Int32) &&& 31))))]))
  refine Go.step (fun _ k => XS.iconst X0.here hx rfl (hb hby d3_15) k) ?_
  show Go _ _ _ _ _ _ _ (s₁.setTop (mkF m 16 #[.val (.int p0), .val (.int (3 : Int32)), .val (.int p2), .val (.int va), .unset, .unset, .unset] [(.int (1 : Int32)), (.int (va + ((1 : Int32) <<< ((18 : Int32) &&& 31))))]))
  refine Go.step (fun _ k => XS.isub X0.here hx rfl (hb hby d3_16) rfl k) ?_
  show Go _ _ _ _ _ _ _ (s₁.setTop (mkF m 17 #[.val (.int p0), .val (.int (3 : Int32)), .val (.int p2), .val (.int va), .unset, .unset, .unset] [(.int ((va + ((1 : Int32) <<< ((18 : Int32) &&& 31))) - (1 : Int32)))]))
  obtain ⟨vb, q_vb⟩ : ∃ z : Int32, z = ((va + ((1 : Int32) <<< ((18 : Int32) &&& 31))) - (1 : Int32)) := ⟨_, rfl⟩
  rw [← q_vb]
  have hvb : vb.toInt = va.toInt + 262143 := by
    have a1 := c_iadd va ((1 : Int32) <<< ((18 : Int32) &&& 31))
    have a2 := rng32 (va + ((1 : Int32) <<< ((18 : Int32) &&& 31)))
    have e : ((1 : Int32) <<< ((18 : Int32) &&& 31)).toInt = 262144 := by decide
    rw [e] at a1
    have a3 := c_isub (va + ((1 : Int32) <<< ((18 : Int32) &&& 31))) 1
    rw [own_i_1, ← q_vb] at a3
    have := rng32 vb
    omega
  show Go _ _ _ _ _ _ _ (s₁.setTop (mkF m 17 #[.val (.int p0), .val (.int (3 : Int32)), .val (.int p2), .val (.int va), .unset, .unset, .unset] [(.int vb)]))
  refine Go.step (fun _ k => XS.istore X0.here hx rfl (hb hby d3_17) rfl (l' := #[.val (.int p0), .val (.int (3 : Int32)), .val (.int p2), .val (.int va), .val (.int vb), .unset, .unset]) rfl k) ?_
  show Go _ _ _ _ _ _ _ (s₁.setTop (mkF m 19 #[.val (.int p0), .val (.int (3 : Int32)), .val (.int p2), .val (.int va), .val (.int vb), .unset, .unset] []))
  refine Go.step (fun _ k => XS.iloadN X0.here hx rfl (hb hby d3_19) rfl  k) ?_
  show Go _ _ _ _ _ _ _ (s₁.setTop (mkF m 20 #[.val (.int p0), .val (.int (3 : Int32)), .val (.int p2), .val (.int va), .val (.int vb), .unset, .unset] [(.int va)]))
  refine Go.step (fun _ k => XS.iloadN X0.here hx rfl (hb hby d3_20) rfl  k) ?_
  show Go _ _ _ _ _ _ _ (s₁.setTop (mkF m 21 #[.val (.int p0), .val (.int (3 : Int32)), .val (.int p2), .val (.int va), .val (.int vb), .unset, .unset] [(.int p2), (.int va)]))
  obtain ⟨_, _, ⟨T1, L1, k1, n1⟩, -, X1, ⟨Lc1, hQ1, l1, y1, z1⟩, st1⟩ := Jvm.LawKit.callS X0 hx (y := (⟨"java/lang/Math", "max", "(II)I"⟩ : MethodName)) hown (mvT hZ (hw _ (List.mem_of_getElem? (i := 12) rfl))) (mvT hZ (hw _ (List.mem_of_getElem? (i := 13) rfl))) (mvT hZ (hw _ (List.mem_of_getElem? (i := 14) rfl))) (mvT hZ (hw _ (List.mem_of_getElem? (i := 15) rfl))) (by decide) (backOf (W := 0) (rm4 l Z aZ hw [] va p2 h0 n0 Z0 ) hZ (hw _ (List.mem_of_getElem? (i := 15) rfl)) (hw _ (List.mem_of_getElem? (i := 14) rfl)) (by decide) (by decide)) (g := (mkF m 21 #[.val (.int p0), .val (.int (3 : Int32)), .val (.int p2), .val (.int va), .val (.int vb), .unset, .unset] [(.int p2), (.int va)])) rfl (by rw [hml]; rfl) (argsL := [(.int va), (.int p2)]) (rest := []) (lenOf pd_0 rfl) rfl (by show 2 * 0 + _ ≤ _; exact Nat.le_of_eq rfl) (hb hby d3_21) (fun _ _ => ⟨rfl, e0, (by decide : 0 + 0 ≤ _), (by decide : 0 + 0 ≤ _)⟩)
  dsimp only [Pt.U, Pt.locs, Pt.cells, Pt.slots] at X1 l1 y1 z1 st1 hQ1
  subst l1 y1 z1
  obtain ⟨rfl, Nq1, e1⟩ := hQ1
  have N1 := Fr.app N0 Nq1
  refine Go.step st1 ?_
  show Go _ _ _ _ _ _ _ (T1.setTop (mkF m 24 #[.val (.int p0), .val (.int (3 : Int32)), .val (.int p2), .val (.int va), .val (.int vb), .unset, .unset] [(.int (if va < p2 then p2 else va))]))
  obtain ⟨lo, q_lo⟩ : ∃ z : Int32, z = (if va < p2 then p2 else va) := ⟨_, rfl⟩
  rw [← q_lo]
  have hlo : (lo.toInt = va.toInt ∧ p2.toInt ≤ va.toInt) ∨ (lo.toInt = p2.toInt ∧ va.toInt < p2.toInt) := by
    rw [q_lo]; split
    · rename_i h; simp only [Int32.lt_iff_toInt_lt, ← Int32.toInt_inj, own_i_m3, own_i_m2, own_i_m1, own_i_0, own_i_1, own_i_2, own_i_3, own_i_4, own_i_5, own_i_7, own_i_15, own_i_31, own_i_63, own_i_128, own_i_143, own_i_144, own_i_159, own_i_160, own_i_191, own_i_192, own_i_194, own_i_223, own_i_224, own_i_225, own_i_237, own_i_239, own_i_240, own_i_241, own_i_243, own_i_244, own_i_248, own_i_255, own_i_2048, own_i_55296, own_i_57343, own_i_65536, own_i_1114111] at h; exact Or.inr ⟨rfl, h⟩
    · rename_i h; simp only [Int32.lt_iff_toInt_lt, ← Int32.toInt_inj, own_i_m3, own_i_m2, own_i_m1, own_i_0, own_i_1, own_i_2, own_i_3, own_i_4, own_i_5, own_i_7, own_i_15, own_i_31, own_i_63, own_i_128, own_i_143, own_i_144, own_i_159, own_i_160, own_i_191, own_i_192, own_i_194, own_i_223, own_i_224, own_i_225, own_i_237, own_i_239, own_i_240, own_i_241, own_i_243, own_i_244, own_i_248, own_i_255, own_i_2048, own_i_55296, own_i_57343, own_i_65536, own_i_1114111] at h; exact Or.inl ⟨rfl, by omega⟩
  show Go _ _ _ _ _ _ _ (T1.setTop (mkF m 24 #[.val (.int p0), .val (.int (3 : Int32)), .val (.int p2), .val (.int va), .val (.int vb), .unset, .unset] [(.int lo)]))
  refine Go.step (fun _ k => XS.istore X1.here hx rfl (hb hby d3_24) rfl (l' := #[.val (.int p0), .val (.int (3 : Int32)), .val (.int p2), .val (.int va), .val (.int vb), .val (.int lo), .unset]) rfl k) ?_
  show Go _ _ _ _ _ _ _ (T1.setTop (mkF m 26 #[.val (.int p0), .val (.int (3 : Int32)), .val (.int p2), .val (.int va), .val (.int vb), .val (.int lo), .unset] []))
  refine Go.step (fun _ k => XS.iload X1.here hx rfl (hb hby d3_26) rfl  k) ?_
  show Go _ _ _ _ _ _ _ (T1.setTop (mkF m 28 #[.val (.int p0), .val (.int (3 : Int32)), .val (.int p2), .val (.int va), .val (.int vb), .val (.int lo), .unset] [(.int vb)]))
  refine Go.step (X1.ldcInt hx hown (mvT hZ (hw _ (List.mem_of_getElem? (i := 16) rfl))) (g := (mkF m 28 #[.val (.int p0), .val (.int (3 : Int32)), .val (.int p2), .val (.int va), .val (.int vb), .val (.int lo), .unset] [(.int vb)])) rfl (hb hby d3_28)) ?_
  show Go _ _ _ _ _ _ _ (T1.setTop (mkF m 30 #[.val (.int p0), .val (.int (3 : Int32)), .val (.int p2), .val (.int va), .val (.int vb), .val (.int lo), .unset] [(.int (1114111 : Int32)), (.int vb)]))
  obtain ⟨_, _, ⟨T2, L2, k2, n2⟩, -, X2, ⟨Lc2, hQ2, l2, y2, z2⟩, st2⟩ := Jvm.LawKit.callS X1 hx (y := (⟨"java/lang/Math", "min", "(II)I"⟩ : MethodName)) hown (mvT hZ (hw _ (List.mem_of_getElem? (i := 17) rfl))) (mvT hZ (hw _ (List.mem_of_getElem? (i := 18) rfl))) (mvT hZ (hw _ (List.mem_of_getElem? (i := 14) rfl))) (mvT hZ (hw _ (List.mem_of_getElem? (i := 19) rfl))) (by decide) (backOf (W := 0) (rm5 l Z aZ hw [] vb (1114111 : Int32) h0 n0 Z0 ) hZ (hw _ (List.mem_of_getElem? (i := 19) rfl)) (hw _ (List.mem_of_getElem? (i := 14) rfl)) (by decide) (by decide)) (g := (mkF m 30 #[.val (.int p0), .val (.int (3 : Int32)), .val (.int p2), .val (.int va), .val (.int vb), .val (.int lo), .unset] [(.int (1114111 : Int32)), (.int vb)])) rfl (by rw [hml]; rfl) (argsL := [(.int vb), (.int (1114111 : Int32))]) (rest := []) (lenOf pd_0 rfl) rfl (by show 2 * 0 + _ ≤ _; exact Nat.le_of_eq rfl) (hb hby d3_30) (fun _ _ => ⟨rfl, e1, (by decide : 0 + 0 ≤ _), (by decide : 0 + 0 ≤ _)⟩)
  dsimp only [Pt.U, Pt.locs, Pt.cells, Pt.slots] at X2 l2 y2 z2 st2 hQ2
  subst l2 y2 z2
  obtain ⟨rfl, Nq2, e2⟩ := hQ2
  have N2 := Fr.app N1 Nq2
  refine Go.step st2 ?_
  show Go _ _ _ _ _ _ _ (T2.setTop (mkF m 33 #[.val (.int p0), .val (.int (3 : Int32)), .val (.int p2), .val (.int va), .val (.int vb), .val (.int lo), .unset] [(.int (if (1114111 : Int32) < vb then (1114111 : Int32) else vb))]))
  obtain ⟨hi, q_hi⟩ : ∃ z : Int32, z = (if (1114111 : Int32) < vb then (1114111 : Int32) else vb) := ⟨_, rfl⟩
  rw [← q_hi]
  have hhi : (hi.toInt = vb.toInt ∧ vb.toInt ≤ 1114111) ∨ (hi.toInt = 1114111 ∧ 1114111 < vb.toInt) := by
    rw [q_hi]; split
    · rename_i h; simp only [Int32.lt_iff_toInt_lt, ← Int32.toInt_inj, own_i_m3, own_i_m2, own_i_m1, own_i_0, own_i_1, own_i_2, own_i_3, own_i_4, own_i_5, own_i_7, own_i_15, own_i_31, own_i_63, own_i_128, own_i_143, own_i_144, own_i_159, own_i_160, own_i_191, own_i_192, own_i_194, own_i_223, own_i_224, own_i_225, own_i_237, own_i_239, own_i_240, own_i_241, own_i_243, own_i_244, own_i_248, own_i_255, own_i_2048, own_i_55296, own_i_57343, own_i_65536, own_i_1114111] at h; exact Or.inr ⟨own_i_1114111, h⟩
    · rename_i h; simp only [Int32.lt_iff_toInt_lt, ← Int32.toInt_inj, own_i_m3, own_i_m2, own_i_m1, own_i_0, own_i_1, own_i_2, own_i_3, own_i_4, own_i_5, own_i_7, own_i_15, own_i_31, own_i_63, own_i_128, own_i_143, own_i_144, own_i_159, own_i_160, own_i_191, own_i_192, own_i_194, own_i_223, own_i_224, own_i_225, own_i_237, own_i_239, own_i_240, own_i_241, own_i_243, own_i_244, own_i_248, own_i_255, own_i_2048, own_i_55296, own_i_57343, own_i_65536, own_i_1114111] at h; exact Or.inl ⟨rfl, by omega⟩
  show Go _ _ _ _ _ _ _ (T2.setTop (mkF m 33 #[.val (.int p0), .val (.int (3 : Int32)), .val (.int p2), .val (.int va), .val (.int vb), .val (.int lo), .unset] [(.int hi)]))
  refine Go.step (fun _ k => XS.istore X2.here hx rfl (hb hby d3_33) rfl (l' := #[.val (.int p0), .val (.int (3 : Int32)), .val (.int p2), .val (.int va), .val (.int vb), .val (.int lo), .val (.int hi)]) rfl k) ?_
  show Go _ _ _ _ _ _ _ (T2.setTop (mkF m 35 #[.val (.int p0), .val (.int (3 : Int32)), .val (.int p2), .val (.int va), .val (.int vb), .val (.int lo), .val (.int hi)] []))
  refine Go.step (fun _ k => XS.iload X2.here hx rfl (hb hby d3_35) rfl  k) ?_
  show Go _ _ _ _ _ _ _ (T2.setTop (mkF m 37 #[.val (.int p0), .val (.int (3 : Int32)), .val (.int p2), .val (.int va), .val (.int vb), .val (.int lo), .val (.int hi)] [(.int lo)]))
  refine Go.step (fun _ k => XS.iload X2.here hx rfl (hb hby d3_37) rfl  k) ?_
  show Go _ _ _ _ _ _ _ (T2.setTop (mkF m 39 #[.val (.int p0), .val (.int (3 : Int32)), .val (.int p2), .val (.int va), .val (.int vb), .val (.int lo), .val (.int hi)] [(.int hi), (.int lo)]))
  by_cases hc39 : hi < lo
  · skip
    refine Go.step (fun _ k => XS.icmpYes X2.here hx rfl (pc0 := 39) (pc' := 60) rfl (hb hby d3_39) rfl (tlt hc39).2.2.1 (by decide) (by decide) k) ?_
    show Go _ _ _ _ _ _ _ (T2.setTop (mkF m 60 #[.val (.int p0), .val (.int (3 : Int32)), .val (.int p2), .val (.int va), .val (.int vb), .val (.int lo), .val (.int hi)] []))
    refine Go.step (fun _ k => XS.iconst X2.here hx rfl (hb hby d3_60) k) ?_
    show Go _ _ _ _ _ _ _ (T2.setTop (mkF m 61 #[.val (.int p0), .val (.int (3 : Int32)), .val (.int p2), .val (.int va), .val (.int vb), .val (.int lo), .val (.int hi)] [(.int (0 : Int32))]))
    refine Go.retN X2 hx (t := .boolean) Bd.returns (by simp) hlk (hb hby d3_61) ?_ (by decide) (by decide)
    rw [e2]
    exact ⟨(nar .boolean (0 : Int32)), (rfl), N2, rfl, (Or.inr ⟨(by rw [own_nb0]; exact own_i_0), (by
        simp only [Int32.lt_iff_toInt_lt, ← Int32.toInt_inj, own_i_m3, own_i_m2, own_i_m1, own_i_0, own_i_1, own_i_2, own_i_3, own_i_4, own_i_5, own_i_7, own_i_15, own_i_31, own_i_63, own_i_128, own_i_143, own_i_144, own_i_159, own_i_160, own_i_191, own_i_192, own_i_194, own_i_223, own_i_224, own_i_225, own_i_237, own_i_239, own_i_240, own_i_241, own_i_243, own_i_244, own_i_248, own_i_255, own_i_2048, own_i_55296, own_i_57343, own_i_65536, own_i_1114111] at hc39
        unfold own_Vi
        omega)⟩)⟩
  · skip
    refine Go.step (fun _ k => XS.icmpNo X2.here hx rfl (hb hby d3_39) rfl (flt hc39).2.2.1 k) ?_
    show Go _ _ _ _ _ _ _ (T2.setTop (mkF m 42 #[.val (.int p0), .val (.int (3 : Int32)), .val (.int p2), .val (.int va), .val (.int vb), .val (.int lo), .val (.int hi)] []))
    refine Go.step (fun _ k => XS.iload X2.here hx rfl (hb hby d3_42) rfl  k) ?_
    show Go _ _ _ _ _ _ _ (T2.setTop (mkF m 44 #[.val (.int p0), .val (.int (3 : Int32)), .val (.int p2), .val (.int va), .val (.int vb), .val (.int lo), .val (.int hi)] [(.int lo)]))
    refine Go.step (X2.ldcInt hx hown (mvT hZ (hw _ (List.mem_of_getElem? (i := 20) rfl))) (g := (mkF m 44 #[.val (.int p0), .val (.int (3 : Int32)), .val (.int p2), .val (.int va), .val (.int vb), .val (.int lo), .val (.int hi)] [(.int lo)])) rfl (hb hby d3_44)) ?_
    show Go _ _ _ _ _ _ _ (T2.setTop (mkF m 46 #[.val (.int p0), .val (.int (3 : Int32)), .val (.int p2), .val (.int va), .val (.int vb), .val (.int lo), .val (.int hi)] [(.int (55296 : Int32)), (.int lo)]))
    by_cases hc46 : lo < (55296 : Int32)
    · skip
      refine Go.step (fun _ k => XS.icmpYes X2.here hx rfl (pc0 := 46) (pc' := 56) rfl (hb hby d3_46) rfl (tlt hc46).1 (by decide) (by decide) k) ?_
      show Go _ _ _ _ _ _ _ (T2.setTop (mkF m 56 #[.val (.int p0), .val (.int (3 : Int32)), .val (.int p2), .val (.int va), .val (.int vb), .val (.int lo), .val (.int hi)] []))
      refine Go.step (fun _ k => XS.iconst X2.here hx rfl (hb hby d3_56) k) ?_
      show Go _ _ _ _ _ _ _ (T2.setTop (mkF m 57 #[.val (.int p0), .val (.int (3 : Int32)), .val (.int p2), .val (.int va), .val (.int vb), .val (.int lo), .val (.int hi)] [(.int (1 : Int32))]))
      refine Go.step (fun _ k => XS.goto X2.here hx rfl (pc0 := 57) (pc' := 61) rfl (hb hby d3_57) (by decide) (by decide) k) ?_
      show Go _ _ _ _ _ _ _ (T2.setTop (mkF m 61 #[.val (.int p0), .val (.int (3 : Int32)), .val (.int p2), .val (.int va), .val (.int vb), .val (.int lo), .val (.int hi)] [(.int (1 : Int32))]))
      refine Go.retN X2 hx (t := .boolean) Bd.returns (by simp) hlk (hb hby d3_61) ?_ (by decide) (by decide)
      rw [e2]
      exact ⟨(nar .boolean (1 : Int32)), (rfl), N2, rfl, (Or.inl ⟨(by rw [own_nb1]; exact own_i_1), (by
          simp only [Int32.lt_iff_toInt_lt, ← Int32.toInt_inj, own_i_m3, own_i_m2, own_i_m1, own_i_0, own_i_1, own_i_2, own_i_3, own_i_4, own_i_5, own_i_7, own_i_15, own_i_31, own_i_63, own_i_128, own_i_143, own_i_144, own_i_159, own_i_160, own_i_191, own_i_192, own_i_194, own_i_223, own_i_224, own_i_225, own_i_237, own_i_239, own_i_240, own_i_241, own_i_243, own_i_244, own_i_248, own_i_255, own_i_2048, own_i_55296, own_i_57343, own_i_65536, own_i_1114111] at hc39 hc46
          unfold own_Vi
          omega)⟩)⟩
    · skip
      refine Go.step (fun _ k => XS.icmpNo X2.here hx rfl (hb hby d3_46) rfl (flt hc46).1 k) ?_
      show Go _ _ _ _ _ _ _ (T2.setTop (mkF m 49 #[.val (.int p0), .val (.int (3 : Int32)), .val (.int p2), .val (.int va), .val (.int vb), .val (.int lo), .val (.int hi)] []))
      refine Go.step (fun _ k => XS.iload X2.here hx rfl (hb hby d3_49) rfl  k) ?_
      show Go _ _ _ _ _ _ _ (T2.setTop (mkF m 51 #[.val (.int p0), .val (.int (3 : Int32)), .val (.int p2), .val (.int va), .val (.int vb), .val (.int lo), .val (.int hi)] [(.int hi)]))
      refine Go.step (X2.ldcInt hx hown (mvT hZ (hw _ (List.mem_of_getElem? (i := 25) rfl))) (g := (mkF m 51 #[.val (.int p0), .val (.int (3 : Int32)), .val (.int p2), .val (.int va), .val (.int vb), .val (.int lo), .val (.int hi)] [(.int hi)])) rfl (hb hby d3_51)) ?_
      show Go _ _ _ _ _ _ _ (T2.setTop (mkF m 53 #[.val (.int p0), .val (.int (3 : Int32)), .val (.int p2), .val (.int va), .val (.int vb), .val (.int lo), .val (.int hi)] [(.int (57343 : Int32)), (.int hi)]))
      by_cases hc53 : (57343 : Int32) < hi
      · skip
        refine Go.step (fun _ k => XS.icmpNo X2.here hx rfl (hb hby d3_53) rfl (tlt hc53).2.2.2 k) ?_
        show Go _ _ _ _ _ _ _ (T2.setTop (mkF m 56 #[.val (.int p0), .val (.int (3 : Int32)), .val (.int p2), .val (.int va), .val (.int vb), .val (.int lo), .val (.int hi)] []))
        refine Go.step (fun _ k => XS.iconst X2.here hx rfl (hb hby d3_56) k) ?_
        show Go _ _ _ _ _ _ _ (T2.setTop (mkF m 57 #[.val (.int p0), .val (.int (3 : Int32)), .val (.int p2), .val (.int va), .val (.int vb), .val (.int lo), .val (.int hi)] [(.int (1 : Int32))]))
        refine Go.step (fun _ k => XS.goto X2.here hx rfl (pc0 := 57) (pc' := 61) rfl (hb hby d3_57) (by decide) (by decide) k) ?_
        show Go _ _ _ _ _ _ _ (T2.setTop (mkF m 61 #[.val (.int p0), .val (.int (3 : Int32)), .val (.int p2), .val (.int va), .val (.int vb), .val (.int lo), .val (.int hi)] [(.int (1 : Int32))]))
        refine Go.retN X2 hx (t := .boolean) Bd.returns (by simp) hlk (hb hby d3_61) ?_ (by decide) (by decide)
        rw [e2]
        exact ⟨(nar .boolean (1 : Int32)), (rfl), N2, rfl, (Or.inl ⟨(by rw [own_nb1]; exact own_i_1), (by
            simp only [Int32.lt_iff_toInt_lt, ← Int32.toInt_inj, own_i_m3, own_i_m2, own_i_m1, own_i_0, own_i_1, own_i_2, own_i_3, own_i_4, own_i_5, own_i_7, own_i_15, own_i_31, own_i_63, own_i_128, own_i_143, own_i_144, own_i_159, own_i_160, own_i_191, own_i_192, own_i_194, own_i_223, own_i_224, own_i_225, own_i_237, own_i_239, own_i_240, own_i_241, own_i_243, own_i_244, own_i_248, own_i_255, own_i_2048, own_i_55296, own_i_57343, own_i_65536, own_i_1114111] at hc39 hc46 hc53
            unfold own_Vi
            omega)⟩)⟩
      · skip
        refine Go.step (fun _ k => XS.icmpYes X2.here hx rfl (pc0 := 53) (pc' := 60) rfl (hb hby d3_53) rfl (flt hc53).2.2.2 (by decide) (by decide) k) ?_
        show Go _ _ _ _ _ _ _ (T2.setTop (mkF m 60 #[.val (.int p0), .val (.int (3 : Int32)), .val (.int p2), .val (.int va), .val (.int vb), .val (.int lo), .val (.int hi)] []))
        refine Go.step (fun _ k => XS.iconst X2.here hx rfl (hb hby d3_60) k) ?_
        show Go _ _ _ _ _ _ _ (T2.setTop (mkF m 61 #[.val (.int p0), .val (.int (3 : Int32)), .val (.int p2), .val (.int va), .val (.int vb), .val (.int lo), .val (.int hi)] [(.int (0 : Int32))]))
        refine Go.retN X2 hx (t := .boolean) Bd.returns (by simp) hlk (hb hby d3_61) ?_ (by decide) (by decide)
        rw [e2]
        exact ⟨(nar .boolean (0 : Int32)), (rfl), N2, rfl, (Or.inr ⟨(by rw [own_nb0]; exact own_i_0), (by
            simp only [Int32.lt_iff_toInt_lt, ← Int32.toInt_inj, own_i_m3, own_i_m2, own_i_m1, own_i_0, own_i_1, own_i_2, own_i_3, own_i_4, own_i_5, own_i_7, own_i_15, own_i_31, own_i_63, own_i_128, own_i_143, own_i_144, own_i_159, own_i_160, own_i_191, own_i_192, own_i_194, own_i_223, own_i_224, own_i_225, own_i_237, own_i_239, own_i_240, own_i_241, own_i_243, own_i_244, own_i_248, own_i_255, own_i_2048, own_i_55296, own_i_57343, own_i_65536, own_i_1114111] at hc39 hc46 hc53
            unfold own_Vi
            omega)⟩)⟩
theorem d6_0 : decode method_3_code 0 = .ok (.iload_n 0, 1) := by decide +kernel
theorem d6_1 : decode method_3_code 1 = .ok (.sipush 192, 3) := by decide +kernel
theorem d6_4 : decode method_3_code 4 = .ok (.iand, 1) := by decide +kernel
theorem d6_5 : decode method_3_code 5 = .ok (.sipush 128, 3) := by decide +kernel
theorem d6_8 : decode method_3_code 8 = .ok (.if_icmp .ne 7, 3) := by decide +kernel
theorem d6_11 : decode method_3_code 11 = .ok (.iconst 1, 1) := by decide +kernel
theorem d6_12 : decode method_3_code 12 = .ok (.goto 4, 3) := by decide +kernel
theorem d6_15 : decode method_3_code 15 = .ok (.iconst 0, 1) := by decide +kernel
theorem d6_16 : decode method_3_code 16 = .ok (.ireturn, 1) := by decide +kernel
theorem ef_6 (m : MethodId) (p0 : Int32) : entryFrame m #[(.int p0)] 1 = mkF m 0 #[.val (.int p0)] [] := by first | (simp [entryFrame, mkF, argsToLocals, Value.category]; done) | rfl
def Q6 (Z : State) (p0 : Int32) (h0 : Heap) (n0 : Nat) (v : Option Value) (h : Heap) (L : List Loc) : Prop := ∃ (w : Int32), (v = some (.int w)) ∧ (Fr n0 L) ∧ (h = h0) ∧ ((w.toInt = 1 ∧ 128 ≤ p0.toInt ∧ p0.toInt < 192) ∨ (w.toInt = 0 ∧ ¬ (128 ≤ p0.toInt ∧ p0.toInt < 192)))
set_option maxRecDepth 65536 in
set_option maxHeartbeats 40000000 in
theorem rm6 (l : Launch) (Z : State) (aZ : Array Value) (hw : ∀ d ∈ tables_1, d.before aZ Z = true) (ws : List Jvm.Cond) (p0 : Int32) (h0 : Heap) (n0 : Nat) (Z0 : n0 ≤ h0.size) (hbb : 0 ≤ p0.toInt ∧ p0.toInt ≤ 255) :
    MetFree l (⟨"com/example/omniform/omniform/Utf8MeasurePinLaw", "cont", "(I)Z"⟩ : MethodName) (head1 (Jvm.Cond.code (⟨"com/example/omniform/omniform/Utf8MeasurePinLaw", "cont", "(I)Z"⟩ : MethodName) method_3_code 1 (some .boolean) :: ws) ({ frames := 0, cells := 0, slots := 0, locals := 0 } : Room)) (fun a U => a = #[(.int p0)] ∧ Z.Warmed39 U.vm ∧ U.heap = h0) (fun _ _ _ _ _ => True) (fun _ U o U' => ∃ v L, o = .returned v ∧ Q6 Z p0 h0 n0 v U'.heap L ∧ FrameEnd U o U' L ({ frames := 0, cells := 0, slots := 0, locals := 0 } : Room).cells ({ frames := 0, cells := 0, slots := 0, locals := 0 } : Room).slots) := by
  refine MetFree.of_bodySF (plainFor_of_name pn_38) hisR ?_
  intro p e s m args below meth c s₁ Bd hml0 hP hK
  obtain ⟨rfl, hZ, hh⟩ := hP
  have hx := Bd.exec
  have hby := Bd.bytes
  have hml : c.maxLocals = 1 := hml0
  have hown : s.vm.findClass "com/example/omniform/omniform/Utf8MeasurePinLaw" = some m.cls := findClass_of_methodNamed Bd.named
  have hnm := (name_of_methodNamed Bd.named Bd.method).1
  have hlk : meth.locks = false := BodyLoose.notSynchronized Bd
  have X0 : Stand p l e ({ frames := 0, cells := 0, slots := 0, locals := 0 } : Room) s m #[(.int p0)] below meth c s₁ [] 0 0 := Stand.of_body Bd
  have e0 : s₁.heap = h0 := by rw [← hh, Bd.state]; rfl
  have N0 := Fr.nil n0
  have sq0 : h0.size ≤ h0.size := Nat.le_refl _
  change Go p e below s ({ frames := 0, cells := 0, slots := 0, locals := 0 } : Room).cells ({ frames := 0, cells := 0, slots := 0, locals := 0 } : Room).slots (Q6 Z p0 h0 n0) (s₁.setTop (entryFrame m #[(.int p0)] 1))
  rw [ef_6 m p0]
  show Go _ _ _ _ _ _ _ (s₁.setTop (mkF m 0 #[.val (.int p0)] []))
  refine Go.step (fun _ k => XS.iloadN X0.here hx rfl (hb hby d6_0) rfl  k) ?_
  show Go _ _ _ _ _ _ _ (s₁.setTop (mkF m 1 #[.val (.int p0)] [(.int p0)]))
  refine Go.step (fun _ k => XS.sipush X0.here hx rfl (hb hby d6_1) k) ?_
  show Go _ _ _ _ _ _ _ (s₁.setTop (mkF m 4 #[.val (.int p0)] [(.int (192 : Int32)), (.int p0)]))
  refine Go.step (fun _ k => XS.iand X0.here hx rfl (hb hby d6_4) rfl k) ?_
  show Go _ _ _ _ _ _ _ (s₁.setTop (mkF m 5 #[.val (.int p0)] [(.int (p0 &&& (192 : Int32)))]))
  refine Go.step (fun _ k => XS.sipush X0.here hx rfl (hb hby d6_5) k) ?_
  show Go _ _ _ _ _ _ _ (s₁.setTop (mkF m 8 #[.val (.int p0)] [(.int (128 : Int32)), (.int (p0 &&& (192 : Int32)))]))
  by_cases hc8 : (p0 &&& (192 : Int32)) = (128 : Int32)
  · skip
    refine Go.step (fun _ k => XS.icmpNo X0.here hx rfl (hb hby d6_8) rfl (teq hc8).2 k) ?_
    show Go _ _ _ _ _ _ _ (s₁.setTop (mkF m 11 #[.val (.int p0)] []))
    refine Go.step (fun _ k => XS.iconst X0.here hx rfl (hb hby d6_11) k) ?_
    show Go _ _ _ _ _ _ _ (s₁.setTop (mkF m 12 #[.val (.int p0)] [(.int (1 : Int32))]))
    refine Go.step (fun _ k => XS.goto X0.here hx rfl (pc0 := 12) (pc' := 16) rfl (hb hby d6_12) (by decide) (by decide) k) ?_
    show Go _ _ _ _ _ _ _ (s₁.setTop (mkF m 16 #[.val (.int p0)] [(.int (1 : Int32))]))
    refine Go.retN X0 hx (t := .boolean) Bd.returns (by simp) hlk (hb hby d6_16) ?_ (by decide) (by decide)
    rw [e0]
    exact ⟨(nar .boolean (1 : Int32)), (rfl), N0, rfl, (Or.inl ⟨(by rw [own_nb1]; exact own_i_1), (by
        have q := (own_cls p0 hbb.1 hbb.2).2.2.2.2
        simp only [Int32.lt_iff_toInt_lt, ← Int32.toInt_inj, own_i_m3, own_i_m2, own_i_m1, own_i_0, own_i_1, own_i_2, own_i_3, own_i_4, own_i_5, own_i_7, own_i_15, own_i_31, own_i_63, own_i_128, own_i_143, own_i_144, own_i_159, own_i_160, own_i_191, own_i_192, own_i_194, own_i_223, own_i_224, own_i_225, own_i_237, own_i_239, own_i_240, own_i_241, own_i_243, own_i_244, own_i_248, own_i_255, own_i_2048, own_i_55296, own_i_57343, own_i_65536, own_i_1114111] at hc8
        rw [q] at hc8
        exact hc8)⟩)⟩
  · skip
    refine Go.step (fun _ k => XS.icmpYes X0.here hx rfl (pc0 := 8) (pc' := 15) rfl (hb hby d6_8) rfl (feq hc8).2 (by decide) (by decide) k) ?_
    show Go _ _ _ _ _ _ _ (s₁.setTop (mkF m 15 #[.val (.int p0)] []))
    refine Go.step (fun _ k => XS.iconst X0.here hx rfl (hb hby d6_15) k) ?_
    show Go _ _ _ _ _ _ _ (s₁.setTop (mkF m 16 #[.val (.int p0)] [(.int (0 : Int32))]))
    refine Go.retN X0 hx (t := .boolean) Bd.returns (by simp) hlk (hb hby d6_16) ?_ (by decide) (by decide)
    rw [e0]
    exact ⟨(nar .boolean (0 : Int32)), (rfl), N0, rfl, (Or.inr ⟨(by rw [own_nb0]; exact own_i_0), (by
        have q := (own_cls p0 hbb.1 hbb.2).2.2.2.2
        simp only [Int32.lt_iff_toInt_lt, ← Int32.toInt_inj, own_i_m3, own_i_m2, own_i_m1, own_i_0, own_i_1, own_i_2, own_i_3, own_i_4, own_i_5, own_i_7, own_i_15, own_i_31, own_i_63, own_i_128, own_i_143, own_i_144, own_i_159, own_i_160, own_i_191, own_i_192, own_i_194, own_i_223, own_i_224, own_i_225, own_i_237, own_i_239, own_i_240, own_i_241, own_i_243, own_i_244, own_i_248, own_i_255, own_i_2048, own_i_55296, own_i_57343, own_i_65536, own_i_1114111] at hc8
        rw [q] at hc8
        exact hc8)⟩)⟩
theorem own_M2 {c0 c1 c2 c3 av : Int} (h : 194 ≤ c0 ∧ c0 ≤ 223) : own_M c0 c1 c2 c3 av = own_L2 128 191 c1 av := by rw [own_M, if_neg (by omega), if_pos h]
theorem own_Mn {c0 c1 c2 c3 av : Int} (h : (128 ≤ c0 ∧ c0 < 194) ∨ 244 < c0) : own_M c0 c1 c2 c3 av = -1 := by rw [own_M, if_neg (by omega), if_neg (by omega), if_neg (by omega), if_neg (by omega), if_neg (by omega), if_neg (by omega), if_neg (by omega), if_neg (by omega)]
theorem own_M3a {c0 c1 c2 c3 av : Int} (h : c0 = 224) : own_M c0 c1 c2 c3 av = own_L3 160 191 c1 c2 av := by rw [own_M, if_neg (by omega), if_neg (by omega), if_pos h]
theorem own_M3b {c0 c1 c2 c3 av : Int} (h : c0 = 237) : own_M c0 c1 c2 c3 av = own_L3 128 159 c1 c2 av := by rw [own_M, if_neg (by omega), if_neg (by omega), if_neg (by omega), if_pos h]
theorem own_M3c {c0 c1 c2 c3 av : Int} (h : 225 ≤ c0 ∧ c0 ≤ 239 ∧ c0 ≠ 237) : own_M c0 c1 c2 c3 av = own_L3 128 191 c1 c2 av := by rw [own_M, if_neg (by omega), if_neg (by omega), if_neg (by omega), if_neg (by omega), if_pos ⟨h.1, h.2.1⟩]
theorem own_M4a {c0 c1 c2 c3 av : Int} (h : c0 = 240) : own_M c0 c1 c2 c3 av = own_L4 144 191 c1 c2 c3 av := by rw [own_M, if_neg (by omega), if_neg (by omega), if_neg (by omega), if_neg (by omega), if_neg (by omega), if_pos h]
theorem own_M4b {c0 c1 c2 c3 av : Int} (h : c0 = 244) : own_M c0 c1 c2 c3 av = own_L4 128 143 c1 c2 c3 av := by rw [own_M, if_neg (by omega), if_neg (by omega), if_neg (by omega), if_neg (by omega), if_neg (by omega), if_neg (by omega), if_neg (by omega), if_pos h]
theorem own_M4c {c0 c1 c2 c3 av : Int} (h : 241 ≤ c0 ∧ c0 ≤ 243) : own_M c0 c1 c2 c3 av = own_L4 128 191 c1 c2 c3 av := by rw [own_M, if_neg (by omega), if_neg (by omega), if_neg (by omega), if_neg (by omega), if_neg (by omega), if_neg (by omega), if_pos h]
theorem own_E1 {c0 c1 c2 c3 av : Int} (h0 : c0 < 128) : (1 : Int32) = own_M c0 c1 c2 c3 av := by
  rw [own_M, if_pos h0]
theorem own_E0 {c0 c1 c2 c3 av : Int} (h0 : ¬ c0 < 128) (h1 : ¬ (192 ≤ c0 ∧ c0 < 224)) (h2 : ¬ (224 ≤ c0 ∧ c0 < 240)) (h3 : ¬ (240 ≤ c0 ∧ c0 < 248)) : (-1 : Int32) = own_M c0 c1 c2 c3 av := by
  rw [own_Mn (by omega)]
theorem own_E2a {c0 c1 c2 c3 av : Int} (h0 : 192 ≤ c0 ∧ c0 < 224) (h1 : c0 < 194) : (-1 : Int32) = own_M c0 c1 c2 c3 av := by
  rw [own_Mn (by omega)]
theorem own_E2b {c0 c1 c2 c3 av : Int} (h0 : 192 ≤ c0 ∧ c0 < 224) (h1 : ¬ (c0 < 194)) (h2 : av < 2 ∨ ¬ (128 ≤ c1 ∧ c1 < 192)) : (-1 : Int32) = own_M c0 c1 c2 c3 av := by
  rw [own_M2 (by omega), own_L2, if_pos (by omega)]
theorem own_E2z {c0 c1 c2 c3 av : Int} (h0 : 192 ≤ c0 ∧ c0 < 224) (h1 : ¬ (c0 < 194)) (h2 : ¬ av < 2) (h3 : 128 ≤ c1 ∧ c1 < 192) : (2 : Int32) = own_M c0 c1 c2 c3 av := by
  rw [own_M2 (by omega), own_L2, if_neg (by omega)]
theorem own_E3b {c0 c1 c2 c3 av : Int} (h0 : 224 ≤ c0 ∧ c0 < 240) (h1 : av < 2 ∨ ¬ (128 ≤ c1 ∧ c1 < 192)) : (-1 : Int32) = own_M c0 c1 c2 c3 av := by
  rcases (by omega : c0 = 224 ∨ c0 = 237 ∨ (225 ≤ c0 ∧ c0 ≤ 239 ∧ c0 ≠ 237)) with h | h | h
  · first | (rw [own_M3a h, own_L3, if_pos (by omega)]; done) | (exfalso; omega)
  · first | (rw [own_M3b h, own_L3, if_pos (by omega)]; done) | (exfalso; omega)
  · first | (rw [own_M3c h, own_L3, if_pos (by omega)]; done) | (exfalso; omega)
theorem own_E3c {c0 c1 c2 c3 av : Int} (h0 : 224 ≤ c0 ∧ c0 < 240) (h1 : ¬ av < 2) (h2 : 128 ≤ c1 ∧ c1 < 192) (h3 : (c0 = 224 ∧ c1 < 160) ∨ (c0 = 237 ∧ 160 ≤ c1)) : (-1 : Int32) = own_M c0 c1 c2 c3 av := by
  rcases (by omega : c0 = 224 ∨ c0 = 237 ∨ (225 ≤ c0 ∧ c0 ≤ 239 ∧ c0 ≠ 237)) with h | h | h
  · first | (rw [own_M3a h, own_L3, if_pos (by omega)]; done) | (exfalso; omega)
  · first | (rw [own_M3b h, own_L3, if_pos (by omega)]; done) | (exfalso; omega)
  · first | (rw [own_M3c h, own_L3, if_pos (by omega)]; done) | (exfalso; omega)
theorem own_E3d {c0 c1 c2 c3 av : Int} (h0 : 224 ≤ c0 ∧ c0 < 240) (h1 : ¬ av < 2) (h2 : 128 ≤ c1 ∧ c1 < 192) (h3 : ¬ ((c0 = 224 ∧ c1 < 160) ∨ (c0 = 237 ∧ 160 ≤ c1))) (h4 : av < 3 ∨ ¬ (128 ≤ c2 ∧ c2 < 192)) : (-2 : Int32) = own_M c0 c1 c2 c3 av := by
  rcases (by omega : c0 = 224 ∨ c0 = 237 ∨ (225 ≤ c0 ∧ c0 ≤ 239 ∧ c0 ≠ 237)) with h | h | h
  · first | (rw [own_M3a h, own_L3, if_neg (by omega), if_pos (by omega)]; done) | (exfalso; omega)
  · first | (rw [own_M3b h, own_L3, if_neg (by omega), if_pos (by omega)]; done) | (exfalso; omega)
  · first | (rw [own_M3c h, own_L3, if_neg (by omega), if_pos (by omega)]; done) | (exfalso; omega)
theorem own_E3z {c0 c1 c2 c3 av : Int} (h0 : 224 ≤ c0 ∧ c0 < 240) (h1 : ¬ av < 2) (h2 : 128 ≤ c1 ∧ c1 < 192) (h3 : ¬ ((c0 = 224 ∧ c1 < 160) ∨ (c0 = 237 ∧ 160 ≤ c1))) (h4 : ¬ av < 3) (h5 : 128 ≤ c2 ∧ c2 < 192) : (3 : Int32) = own_M c0 c1 c2 c3 av := by
  rcases (by omega : c0 = 224 ∨ c0 = 237 ∨ (225 ≤ c0 ∧ c0 ≤ 239 ∧ c0 ≠ 237)) with h | h | h
  · first | (rw [own_M3a h, own_L3, if_neg (by omega), if_neg (by omega)]; done) | (exfalso; omega)
  · first | (rw [own_M3b h, own_L3, if_neg (by omega), if_neg (by omega)]; done) | (exfalso; omega)
  · first | (rw [own_M3c h, own_L3, if_neg (by omega), if_neg (by omega)]; done) | (exfalso; omega)
theorem own_E4a {c0 c1 c2 c3 av : Int} (h0 : 240 ≤ c0 ∧ c0 < 248) (h1 : 244 < c0) : (-1 : Int32) = own_M c0 c1 c2 c3 av := by
  rw [own_Mn (by omega)]
theorem own_E4b {c0 c1 c2 c3 av : Int} (h0 : 240 ≤ c0 ∧ c0 < 248) (h1 : ¬ (244 < c0)) (h2 : av < 2 ∨ ¬ (128 ≤ c1 ∧ c1 < 192)) : (-1 : Int32) = own_M c0 c1 c2 c3 av := by
  rcases (by omega : c0 = 240 ∨ c0 = 244 ∨ (241 ≤ c0 ∧ c0 ≤ 243)) with h | h | h
  · first | (rw [own_M4a h, own_L4, if_pos (by omega)]; done) | (exfalso; omega)
  · first | (rw [own_M4b h, own_L4, if_pos (by omega)]; done) | (exfalso; omega)
  · first | (rw [own_M4c h, own_L4, if_pos (by omega)]; done) | (exfalso; omega)
theorem own_E4c {c0 c1 c2 c3 av : Int} (h0 : 240 ≤ c0 ∧ c0 < 248) (h1 : ¬ (244 < c0)) (h2 : ¬ av < 2) (h3 : 128 ≤ c1 ∧ c1 < 192) (h4 : (c0 = 240 ∧ c1 < 144) ∨ (c0 = 244 ∧ 144 ≤ c1)) : (-1 : Int32) = own_M c0 c1 c2 c3 av := by
  rcases (by omega : c0 = 240 ∨ c0 = 244 ∨ (241 ≤ c0 ∧ c0 ≤ 243)) with h | h | h
  · first | (rw [own_M4a h, own_L4, if_pos (by omega)]; done) | (exfalso; omega)
  · first | (rw [own_M4b h, own_L4, if_pos (by omega)]; done) | (exfalso; omega)
  · first | (rw [own_M4c h, own_L4, if_pos (by omega)]; done) | (exfalso; omega)
theorem own_E4d {c0 c1 c2 c3 av : Int} (h0 : 240 ≤ c0 ∧ c0 < 248) (h1 : ¬ (244 < c0)) (h2 : ¬ av < 2) (h3 : 128 ≤ c1 ∧ c1 < 192) (h4 : ¬ ((c0 = 240 ∧ c1 < 144) ∨ (c0 = 244 ∧ 144 ≤ c1))) (h5 : av < 3 ∨ ¬ (128 ≤ c2 ∧ c2 < 192)) : (-2 : Int32) = own_M c0 c1 c2 c3 av := by
  rcases (by omega : c0 = 240 ∨ c0 = 244 ∨ (241 ≤ c0 ∧ c0 ≤ 243)) with h | h | h
  · first | (rw [own_M4a h, own_L4, if_neg (by omega), if_pos (by omega)]; done) | (exfalso; omega)
  · first | (rw [own_M4b h, own_L4, if_neg (by omega), if_pos (by omega)]; done) | (exfalso; omega)
  · first | (rw [own_M4c h, own_L4, if_neg (by omega), if_pos (by omega)]; done) | (exfalso; omega)
theorem own_E4e {c0 c1 c2 c3 av : Int} (h0 : 240 ≤ c0 ∧ c0 < 248) (h1 : ¬ (244 < c0)) (h2 : ¬ av < 2) (h3 : 128 ≤ c1 ∧ c1 < 192) (h4 : ¬ ((c0 = 240 ∧ c1 < 144) ∨ (c0 = 244 ∧ 144 ≤ c1))) (h5 : ¬ av < 3) (h6 : 128 ≤ c2 ∧ c2 < 192) (h7 : av < 4 ∨ ¬ (128 ≤ c3 ∧ c3 < 192)) : (-3 : Int32) = own_M c0 c1 c2 c3 av := by
  rcases (by omega : c0 = 240 ∨ c0 = 244 ∨ (241 ≤ c0 ∧ c0 ≤ 243)) with h | h | h
  · first | (rw [own_M4a h, own_L4, if_neg (by omega), if_neg (by omega), if_pos (by omega)]; done) | (exfalso; omega)
  · first | (rw [own_M4b h, own_L4, if_neg (by omega), if_neg (by omega), if_pos (by omega)]; done) | (exfalso; omega)
  · first | (rw [own_M4c h, own_L4, if_neg (by omega), if_neg (by omega), if_pos (by omega)]; done) | (exfalso; omega)
theorem own_E4z {c0 c1 c2 c3 av : Int} (h0 : 240 ≤ c0 ∧ c0 < 248) (h1 : ¬ (244 < c0)) (h2 : ¬ av < 2) (h3 : 128 ≤ c1 ∧ c1 < 192) (h4 : ¬ ((c0 = 240 ∧ c1 < 144) ∨ (c0 = 244 ∧ 144 ≤ c1))) (h5 : ¬ av < 3) (h6 : 128 ≤ c2 ∧ c2 < 192) (h7 : ¬ av < 4) (h8 : 128 ≤ c3 ∧ c3 < 192) : (4 : Int32) = own_M c0 c1 c2 c3 av := by
  rcases (by omega : c0 = 240 ∨ c0 = 244 ∨ (241 ≤ c0 ∧ c0 ≤ 243)) with h | h | h
  · first | (rw [own_M4a h, own_L4, if_neg (by omega), if_neg (by omega), if_neg (by omega)]; done) | (exfalso; omega)
  · first | (rw [own_M4b h, own_L4, if_neg (by omega), if_neg (by omega), if_neg (by omega)]; done) | (exfalso; omega)
  · first | (rw [own_M4c h, own_L4, if_neg (by omega), if_neg (by omega), if_neg (by omega)]; done) | (exfalso; omega)
theorem own_av2 {x : Int32} (h : x < (2 : Int32)) : x.toInt < 2 := by rw [Int32.lt_iff_toInt_lt, own_i_2] at h; exact h
theorem own_nav2 {x : Int32} (h : ¬ x < (2 : Int32)) : ¬ x.toInt < 2 := by rw [Int32.lt_iff_toInt_lt, own_i_2] at h; exact h
theorem own_av3 {x : Int32} (h : x < (3 : Int32)) : x.toInt < 3 := by rw [Int32.lt_iff_toInt_lt, own_i_3] at h; exact h
theorem own_nav3 {x : Int32} (h : ¬ x < (3 : Int32)) : ¬ x.toInt < 3 := by rw [Int32.lt_iff_toInt_lt, own_i_3] at h; exact h
theorem own_av4 {x : Int32} (h : x < (4 : Int32)) : x.toInt < 4 := by rw [Int32.lt_iff_toInt_lt, own_i_4] at h; exact h
theorem own_nav4 {x : Int32} (h : ¬ x < (4 : Int32)) : ¬ x.toInt < 4 := by rw [Int32.lt_iff_toInt_lt, own_i_4] at h; exact h
theorem pd_1 : parseMethodDescriptor "(III)Z" = some ⟨[.int, .int, .int], some .boolean⟩ := by decide +kernel
theorem pd_2 : parseMethodDescriptor "(I)Z" = some ⟨[.int], some .boolean⟩ := by decide +kernel
theorem d2_0 : decode method_5_code 0 = .ok (.iload_n 0, 1) := by decide +kernel
theorem d2_1 : decode method_5_code 1 = .ok (.sipush 128, 3) := by decide +kernel
theorem d2_4 : decode method_5_code 4 = .ok (.iand, 1) := by decide +kernel
theorem d2_5 : decode method_5_code 5 = .ok (.ifCond .ne 5, 3) := by decide +kernel
theorem d2_8 : decode method_5_code 8 = .ok (.iconst 1, 1) := by decide +kernel
theorem d2_9 : decode method_5_code 9 = .ok (.ireturn, 1) := by decide +kernel
theorem d2_10 : decode method_5_code 10 = .ok (.iload_n 0, 1) := by decide +kernel
theorem d2_11 : decode method_5_code 11 = .ok (.sipush 224, 3) := by decide +kernel
theorem d2_14 : decode method_5_code 14 = .ok (.iand, 1) := by decide +kernel
theorem d2_15 : decode method_5_code 15 = .ok (.sipush 192, 3) := by decide +kernel
theorem d2_18 : decode method_5_code 18 = .ok (.if_icmp .ne 20, 3) := by decide +kernel
theorem d2_21 : decode method_5_code 21 = .ok (.iconst 2, 1) := by decide +kernel
theorem d2_22 : decode method_5_code 22 = .ok (.istore 5, 2) := by decide +kernel
theorem d2_24 : decode method_5_code 24 = .ok (.iload_n 0, 1) := by decide +kernel
theorem d2_25 : decode method_5_code 25 = .ok (.bipush 31, 2) := by decide +kernel
theorem d2_27 : decode method_5_code 27 = .ok (.iand, 1) := by decide +kernel
theorem d2_28 : decode method_5_code 28 = .ok (.istore 6, 2) := by decide +kernel
theorem d2_30 : decode method_5_code 30 = .ok (.sipush 128, 3) := by decide +kernel
theorem d2_33 : decode method_5_code 33 = .ok (.istore 7, 2) := by decide +kernel
theorem d2_35 : decode method_5_code 35 = .ok (.goto 60, 3) := by decide +kernel
theorem d2_38 : decode method_5_code 38 = .ok (.iload_n 0, 1) := by decide +kernel
theorem d2_39 : decode method_5_code 39 = .ok (.sipush 240, 3) := by decide +kernel
theorem d2_42 : decode method_5_code 42 = .ok (.iand, 1) := by decide +kernel
theorem d2_43 : decode method_5_code 43 = .ok (.sipush 224, 3) := by decide +kernel
theorem d2_46 : decode method_5_code 46 = .ok (.if_icmp .ne 20, 3) := by decide +kernel
theorem d2_49 : decode method_5_code 49 = .ok (.iconst 3, 1) := by decide +kernel
theorem d2_50 : decode method_5_code 50 = .ok (.istore 5, 2) := by decide +kernel
theorem d2_52 : decode method_5_code 52 = .ok (.iload_n 0, 1) := by decide +kernel
theorem d2_53 : decode method_5_code 53 = .ok (.bipush 15, 2) := by decide +kernel
theorem d2_55 : decode method_5_code 55 = .ok (.iand, 1) := by decide +kernel
theorem d2_56 : decode method_5_code 56 = .ok (.istore 6, 2) := by decide +kernel
theorem d2_58 : decode method_5_code 58 = .ok (.sipush 2048, 3) := by decide +kernel
theorem d2_61 : decode method_5_code 61 = .ok (.istore 7, 2) := by decide +kernel
theorem d2_63 : decode method_5_code 63 = .ok (.goto 32, 3) := by decide +kernel
theorem d2_66 : decode method_5_code 66 = .ok (.iload_n 0, 1) := by decide +kernel
theorem d2_67 : decode method_5_code 67 = .ok (.sipush 248, 3) := by decide +kernel
theorem d2_70 : decode method_5_code 70 = .ok (.iand, 1) := by decide +kernel
theorem d2_71 : decode method_5_code 71 = .ok (.sipush 240, 3) := by decide +kernel
theorem d2_74 : decode method_5_code 74 = .ok (.if_icmp .ne 19, 3) := by decide +kernel
theorem d2_77 : decode method_5_code 77 = .ok (.iconst 4, 1) := by decide +kernel
theorem d2_78 : decode method_5_code 78 = .ok (.istore 5, 2) := by decide +kernel
theorem d2_80 : decode method_5_code 80 = .ok (.iload_n 0, 1) := by decide +kernel
theorem d2_81 : decode method_5_code 81 = .ok (.bipush 7, 2) := by decide +kernel
theorem d2_83 : decode method_5_code 83 = .ok (.iand, 1) := by decide +kernel
theorem d2_84 : decode method_5_code 84 = .ok (.istore 6, 2) := by decide +kernel
theorem d2_86 : decode method_5_code 86 = .ok (.ldc 31, 2) := by decide +kernel
theorem d2_88 : decode method_5_code 88 = .ok (.istore 7, 2) := by decide +kernel
theorem d2_90 : decode method_5_code 90 = .ok (.goto 5, 3) := by decide +kernel
theorem d2_93 : decode method_5_code 93 = .ok (.iconst (-1), 1) := by decide +kernel
theorem d2_94 : decode method_5_code 94 = .ok (.ireturn, 1) := by decide +kernel
theorem d2_95 : decode method_5_code 95 = .ok (.iload 6, 2) := by decide +kernel
theorem d2_97 : decode method_5_code 97 = .ok (.iload 5, 2) := by decide +kernel
theorem d2_99 : decode method_5_code 99 = .ok (.iconst 1, 1) := by decide +kernel
theorem d2_100 : decode method_5_code 100 = .ok (.isub, 1) := by decide +kernel
theorem d2_101 : decode method_5_code 101 = .ok (.iload 7, 2) := by decide +kernel
theorem d2_103 : decode method_5_code 103 = .ok (.invokestatic 32, 3) := by decide +kernel
theorem d2_106 : decode method_5_code 106 = .ok (.ifCond .ne 5, 3) := by decide +kernel
theorem d2_109 : decode method_5_code 109 = .ok (.iconst (-1), 1) := by decide +kernel
theorem d2_110 : decode method_5_code 110 = .ok (.ireturn, 1) := by decide +kernel
theorem d2_111 : decode method_5_code 111 = .ok (.iload 4, 2) := by decide +kernel
theorem d2_113 : decode method_5_code 113 = .ok (.iconst 2, 1) := by decide +kernel
theorem d2_114 : decode method_5_code 114 = .ok (.if_icmp .lt 10, 3) := by decide +kernel
theorem d2_117 : decode method_5_code 117 = .ok (.iload_n 1, 1) := by decide +kernel
theorem d2_118 : decode method_5_code 118 = .ok (.invokestatic 36, 3) := by decide +kernel
theorem d2_121 : decode method_5_code 121 = .ok (.ifCond .ne 5, 3) := by decide +kernel
theorem d2_124 : decode method_5_code 124 = .ok (.iconst (-1), 1) := by decide +kernel
theorem d2_125 : decode method_5_code 125 = .ok (.ireturn, 1) := by decide +kernel
theorem d2_126 : decode method_5_code 126 = .ok (.iload 6, 2) := by decide +kernel
theorem d2_128 : decode method_5_code 128 = .ok (.bipush 6, 2) := by decide +kernel
theorem d2_130 : decode method_5_code 130 = .ok (.ishl, 1) := by decide +kernel
theorem d2_131 : decode method_5_code 131 = .ok (.iload_n 1, 1) := by decide +kernel
theorem d2_132 : decode method_5_code 132 = .ok (.bipush 63, 2) := by decide +kernel
theorem d2_134 : decode method_5_code 134 = .ok (.iand, 1) := by decide +kernel
theorem d2_135 : decode method_5_code 135 = .ok (.ior, 1) := by decide +kernel
theorem d2_136 : decode method_5_code 136 = .ok (.istore 6, 2) := by decide +kernel
theorem d2_138 : decode method_5_code 138 = .ok (.iload 6, 2) := by decide +kernel
theorem d2_140 : decode method_5_code 140 = .ok (.iload 5, 2) := by decide +kernel
theorem d2_142 : decode method_5_code 142 = .ok (.iconst 2, 1) := by decide +kernel
theorem d2_143 : decode method_5_code 143 = .ok (.isub, 1) := by decide +kernel
theorem d2_144 : decode method_5_code 144 = .ok (.iload 7, 2) := by decide +kernel
theorem d2_146 : decode method_5_code 146 = .ok (.invokestatic 32, 3) := by decide +kernel
theorem d2_149 : decode method_5_code 149 = .ok (.ifCond .ne 5, 3) := by decide +kernel
theorem d2_152 : decode method_5_code 152 = .ok (.iconst (-1), 1) := by decide +kernel
theorem d2_153 : decode method_5_code 153 = .ok (.ireturn, 1) := by decide +kernel
theorem d2_154 : decode method_5_code 154 = .ok (.iload 5, 2) := by decide +kernel
theorem d2_156 : decode method_5_code 156 = .ok (.iconst 2, 1) := by decide +kernel
theorem d2_157 : decode method_5_code 157 = .ok (.if_icmp .ne 5, 3) := by decide +kernel
theorem d2_160 : decode method_5_code 160 = .ok (.iconst 2, 1) := by decide +kernel
theorem d2_161 : decode method_5_code 161 = .ok (.ireturn, 1) := by decide +kernel
theorem d2_162 : decode method_5_code 162 = .ok (.iload 4, 2) := by decide +kernel
theorem d2_164 : decode method_5_code 164 = .ok (.iconst 3, 1) := by decide +kernel
theorem d2_165 : decode method_5_code 165 = .ok (.if_icmp .lt 10, 3) := by decide +kernel
theorem d2_168 : decode method_5_code 168 = .ok (.iload_n 2, 1) := by decide +kernel
theorem d2_169 : decode method_5_code 169 = .ok (.invokestatic 36, 3) := by decide +kernel
theorem d2_172 : decode method_5_code 172 = .ok (.ifCond .ne 6, 3) := by decide +kernel
theorem d2_175 : decode method_5_code 175 = .ok (.bipush (-2), 2) := by decide +kernel
theorem d2_177 : decode method_5_code 177 = .ok (.ireturn, 1) := by decide +kernel
theorem d2_178 : decode method_5_code 178 = .ok (.iload 6, 2) := by decide +kernel
theorem d2_180 : decode method_5_code 180 = .ok (.bipush 6, 2) := by decide +kernel
theorem d2_182 : decode method_5_code 182 = .ok (.ishl, 1) := by decide +kernel
theorem d2_183 : decode method_5_code 183 = .ok (.iload_n 2, 1) := by decide +kernel
theorem d2_184 : decode method_5_code 184 = .ok (.bipush 63, 2) := by decide +kernel
theorem d2_186 : decode method_5_code 186 = .ok (.iand, 1) := by decide +kernel
theorem d2_187 : decode method_5_code 187 = .ok (.ior, 1) := by decide +kernel
theorem d2_188 : decode method_5_code 188 = .ok (.istore 6, 2) := by decide +kernel
theorem d2_190 : decode method_5_code 190 = .ok (.iload 6, 2) := by decide +kernel
theorem d2_192 : decode method_5_code 192 = .ok (.iload 5, 2) := by decide +kernel
theorem d2_194 : decode method_5_code 194 = .ok (.iconst 3, 1) := by decide +kernel
theorem d2_195 : decode method_5_code 195 = .ok (.isub, 1) := by decide +kernel
theorem d2_196 : decode method_5_code 196 = .ok (.iload 7, 2) := by decide +kernel
theorem d2_198 : decode method_5_code 198 = .ok (.invokestatic 32, 3) := by decide +kernel
theorem d2_201 : decode method_5_code 201 = .ok (.ifCond .ne 6, 3) := by decide +kernel
theorem d2_207 : decode method_5_code 207 = .ok (.iload 5, 2) := by decide +kernel
theorem d2_209 : decode method_5_code 209 = .ok (.iconst 3, 1) := by decide +kernel
theorem d2_210 : decode method_5_code 210 = .ok (.if_icmp .ne 5, 3) := by decide +kernel
theorem d2_213 : decode method_5_code 213 = .ok (.iconst 3, 1) := by decide +kernel
theorem d2_214 : decode method_5_code 214 = .ok (.ireturn, 1) := by decide +kernel
theorem d2_215 : decode method_5_code 215 = .ok (.iload 4, 2) := by decide +kernel
theorem d2_217 : decode method_5_code 217 = .ok (.iconst 4, 1) := by decide +kernel
theorem d2_218 : decode method_5_code 218 = .ok (.if_icmp .lt 10, 3) := by decide +kernel
theorem d2_221 : decode method_5_code 221 = .ok (.iload_n 3, 1) := by decide +kernel
theorem d2_222 : decode method_5_code 222 = .ok (.invokestatic 36, 3) := by decide +kernel
theorem d2_225 : decode method_5_code 225 = .ok (.ifCond .ne 6, 3) := by decide +kernel
theorem d2_228 : decode method_5_code 228 = .ok (.bipush (-3), 2) := by decide +kernel
theorem d2_230 : decode method_5_code 230 = .ok (.ireturn, 1) := by decide +kernel
theorem d2_231 : decode method_5_code 231 = .ok (.iload 6, 2) := by decide +kernel
theorem d2_233 : decode method_5_code 233 = .ok (.bipush 6, 2) := by decide +kernel
theorem d2_235 : decode method_5_code 235 = .ok (.ishl, 1) := by decide +kernel
theorem d2_236 : decode method_5_code 236 = .ok (.iload_n 3, 1) := by decide +kernel
theorem d2_237 : decode method_5_code 237 = .ok (.bipush 63, 2) := by decide +kernel
theorem d2_239 : decode method_5_code 239 = .ok (.iand, 1) := by decide +kernel
theorem d2_240 : decode method_5_code 240 = .ok (.ior, 1) := by decide +kernel
theorem d2_241 : decode method_5_code 241 = .ok (.istore 6, 2) := by decide +kernel
theorem d2_243 : decode method_5_code 243 = .ok (.iload 6, 2) := by decide +kernel
theorem d2_245 : decode method_5_code 245 = .ok (.iconst 0, 1) := by decide +kernel
theorem d2_246 : decode method_5_code 246 = .ok (.iload 7, 2) := by decide +kernel
theorem d2_248 : decode method_5_code 248 = .ok (.invokestatic 32, 3) := by decide +kernel
theorem d2_251 : decode method_5_code 251 = .ok (.ifCond .ne 6, 3) := by decide +kernel
theorem d2_257 : decode method_5_code 257 = .ok (.iconst 4, 1) := by decide +kernel
theorem d2_258 : decode method_5_code 258 = .ok (.ireturn, 1) := by decide +kernel
theorem ef_2 (m : MethodId) (p0 : Int32) (p1 : Int32) (p2 : Int32) (p3 : Int32) (p4 : Int32) : entryFrame m #[(.int p0), (.int p1), (.int p2), (.int p3), (.int p4)] 8 = mkF m 0 #[.val (.int p0), .val (.int p1), .val (.int p2), .val (.int p3), .val (.int p4), .unset, .unset, .unset] [] := by first | (simp [entryFrame, mkF, argsToLocals, Value.category]; done) | rfl
def Q2 (Z : State) (p0 : Int32) (p1 : Int32) (p2 : Int32) (p3 : Int32) (p4 : Int32) (h0 : Heap) (n0 : Nat) (v : Option Value) (h : Heap) (L : List Loc) : Prop := (v = some (.int (own_M p0.toInt p1.toInt p2.toInt p3.toInt p4.toInt))) ∧ (Fr n0 L) ∧ (h = h0)
set_option maxRecDepth 65536 in
set_option maxHeartbeats 40000000 in
theorem rm2 (l : Launch) (Z : State) (aZ : Array Value) (hw : ∀ d ∈ tables_1, d.before aZ Z = true) (ws : List Jvm.Cond) (p0 : Int32) (p1 : Int32) (p2 : Int32) (p3 : Int32) (p4 : Int32) (h0 : Heap) (n0 : Nat) (Z0 : n0 ≤ h0.size) (hp0 : 0 ≤ p0.toInt ∧ p0.toInt ≤ 255) (hp1 : 0 ≤ p1.toInt ∧ p1.toInt ≤ 255) (hp2 : 0 ≤ p2.toInt ∧ p2.toInt ≤ 255) (hp3 : 0 ≤ p3.toInt ∧ p3.toInt ≤ 255) (hp4 : 1 ≤ p4.toInt ∧ p4.toInt ≤ 4) :
    MetFree l (⟨"com/example/omniform/omniform/Utf8MeasurePinLaw", "expected", "(IIIII)I"⟩ : MethodName) (head1 (Jvm.Cond.code (⟨"com/example/omniform/omniform/Utf8MeasurePinLaw", "expected", "(IIIII)I"⟩ : MethodName) method_5_code 8 (some .int) :: ws) ({ frames := 2, cells := 0, slots := 0, locals := 31 } : Room)) (fun a U => a = #[(.int p0), (.int p1), (.int p2), (.int p3), (.int p4)] ∧ Z.Warmed39 U.vm ∧ U.heap = h0) (fun _ _ _ _ _ => True) (fun _ U o U' => ∃ v L, o = .returned v ∧ Q2 Z p0 p1 p2 p3 p4 h0 n0 v U'.heap L ∧ FrameEnd U o U' L ({ frames := 2, cells := 0, slots := 0, locals := 31 } : Room).cells ({ frames := 2, cells := 0, slots := 0, locals := 31 } : Room).slots) := by
  refine MetFree.of_bodySF (plainFor_of_name pn_38) hisR ?_
  intro p e s m args below meth c s₁ Bd hml0 hP hK
  obtain ⟨rfl, hZ, hh⟩ := hP
  have hx := Bd.exec
  have hby := Bd.bytes
  have hml : c.maxLocals = 8 := hml0
  have hown : s.vm.findClass "com/example/omniform/omniform/Utf8MeasurePinLaw" = some m.cls := findClass_of_methodNamed Bd.named
  have hnm := (name_of_methodNamed Bd.named Bd.method).1
  have hlk : meth.locks = false := BodyLoose.notSynchronized Bd
  have X0 : Stand p l e ({ frames := 2, cells := 0, slots := 0, locals := 31 } : Room) s m #[(.int p0), (.int p1), (.int p2), (.int p3), (.int p4)] below meth c s₁ [] 0 0 := Stand.of_body Bd
  have e0 : s₁.heap = h0 := by rw [← hh, Bd.state]; rfl
  have N0 := Fr.nil n0
  have sq0 : h0.size ≤ h0.size := Nat.le_refl _
  change Go p e below s ({ frames := 2, cells := 0, slots := 0, locals := 31 } : Room).cells ({ frames := 2, cells := 0, slots := 0, locals := 31 } : Room).slots (Q2 Z p0 p1 p2 p3 p4 h0 n0) (s₁.setTop (entryFrame m #[(.int p0), (.int p1), (.int p2), (.int p3), (.int p4)] 8))
  rw [ef_2 m p0 p1 p2 p3 p4]
  have kc := own_cls p0 hp0.1 hp0.2
  show Go _ _ _ _ _ _ _ (s₁.setTop (mkF m 0 #[.val (.int p0), .val (.int p1), .val (.int p2), .val (.int p3), .val (.int p4), .unset, .unset, .unset] []))
  refine Go.step (fun _ k => XS.iloadN X0.here hx rfl (hb hby d2_0) rfl  k) ?_
  show Go _ _ _ _ _ _ _ (s₁.setTop (mkF m 1 #[.val (.int p0), .val (.int p1), .val (.int p2), .val (.int p3), .val (.int p4), .unset, .unset, .unset] [(.int p0)]))
  refine Go.step (fun _ k => XS.sipush X0.here hx rfl (hb hby d2_1) k) ?_
  show Go _ _ _ _ _ _ _ (s₁.setTop (mkF m 4 #[.val (.int p0), .val (.int p1), .val (.int p2), .val (.int p3), .val (.int p4), .unset, .unset, .unset] [(.int (128 : Int32)), (.int p0)]))
  refine Go.step (fun _ k => XS.iand X0.here hx rfl (hb hby d2_4) rfl k) ?_
  show Go _ _ _ _ _ _ _ (s₁.setTop (mkF m 5 #[.val (.int p0), .val (.int p1), .val (.int p2), .val (.int p3), .val (.int p4), .unset, .unset, .unset] [(.int (p0 &&& (128 : Int32)))]))
  by_cases hc5 : (p0 &&& (128 : Int32)) = (0 : Int32)
  · skip
    refine Go.step (fun _ k => XS.ifNo X0.here hx rfl (hb hby d2_5) rfl ((if0 _ _).trans (teq hc5).2) k) ?_
    have k0 : p0.toInt < 128 := by
      have z := hc5
      simp only [Int32.lt_iff_toInt_lt, ← Int32.toInt_inj, own_i_m3, own_i_m2, own_i_m1, own_i_0, own_i_1, own_i_2, own_i_3, own_i_4, own_i_5, own_i_7, own_i_15, own_i_31, own_i_63, own_i_128, own_i_143, own_i_144, own_i_159, own_i_160, own_i_191, own_i_192, own_i_194, own_i_223, own_i_224, own_i_225, own_i_237, own_i_239, own_i_240, own_i_241, own_i_243, own_i_244, own_i_248, own_i_255, own_i_2048, own_i_55296, own_i_57343, own_i_65536, own_i_1114111] at z
      exact kc.1.mp z
    show Go _ _ _ _ _ _ _ (s₁.setTop (mkF m 8 #[.val (.int p0), .val (.int p1), .val (.int p2), .val (.int p3), .val (.int p4), .unset, .unset, .unset] []))
    refine Go.step (fun _ k => XS.iconst X0.here hx rfl (hb hby d2_8) k) ?_
    show Go _ _ _ _ _ _ _ (s₁.setTop (mkF m 9 #[.val (.int p0), .val (.int p1), .val (.int p2), .val (.int p3), .val (.int p4), .unset, .unset, .unset] [(.int (1 : Int32))]))
    refine Go.retI X0 hx Bd.returns hlk (hb hby d2_9) ?_ (by decide) (by decide)
    rw [e0]
    exact ⟨(congrArg (fun z => some (Value.int z)) (own_E1 k0)), N0, rfl⟩
  · skip
    refine Go.step (fun _ k => XS.ifYes X0.here hx rfl (pc0 := 5) (pc' := 10) rfl (hb hby d2_5) rfl ((if0 _ _).trans (feq hc5).2) (by decide) (by decide) k) ?_
    have k0 : ¬ (p0.toInt < 128) := by
      have z := hc5
      simp only [Int32.lt_iff_toInt_lt, ← Int32.toInt_inj, own_i_m3, own_i_m2, own_i_m1, own_i_0, own_i_1, own_i_2, own_i_3, own_i_4, own_i_5, own_i_7, own_i_15, own_i_31, own_i_63, own_i_128, own_i_143, own_i_144, own_i_159, own_i_160, own_i_191, own_i_192, own_i_194, own_i_223, own_i_224, own_i_225, own_i_237, own_i_239, own_i_240, own_i_241, own_i_243, own_i_244, own_i_248, own_i_255, own_i_2048, own_i_55296, own_i_57343, own_i_65536, own_i_1114111] at z
      exact fun y => z (kc.1.mpr y)
    show Go _ _ _ _ _ _ _ (s₁.setTop (mkF m 10 #[.val (.int p0), .val (.int p1), .val (.int p2), .val (.int p3), .val (.int p4), .unset, .unset, .unset] []))
    refine Go.step (fun _ k => XS.iloadN X0.here hx rfl (hb hby d2_10) rfl  k) ?_
    show Go _ _ _ _ _ _ _ (s₁.setTop (mkF m 11 #[.val (.int p0), .val (.int p1), .val (.int p2), .val (.int p3), .val (.int p4), .unset, .unset, .unset] [(.int p0)]))
    refine Go.step (fun _ k => XS.sipush X0.here hx rfl (hb hby d2_11) k) ?_
    show Go _ _ _ _ _ _ _ (s₁.setTop (mkF m 14 #[.val (.int p0), .val (.int p1), .val (.int p2), .val (.int p3), .val (.int p4), .unset, .unset, .unset] [(.int (224 : Int32)), (.int p0)]))
    refine Go.step (fun _ k => XS.iand X0.here hx rfl (hb hby d2_14) rfl k) ?_
    show Go _ _ _ _ _ _ _ (s₁.setTop (mkF m 15 #[.val (.int p0), .val (.int p1), .val (.int p2), .val (.int p3), .val (.int p4), .unset, .unset, .unset] [(.int (p0 &&& (224 : Int32)))]))
    refine Go.step (fun _ k => XS.sipush X0.here hx rfl (hb hby d2_15) k) ?_
    show Go _ _ _ _ _ _ _ (s₁.setTop (mkF m 18 #[.val (.int p0), .val (.int p1), .val (.int p2), .val (.int p3), .val (.int p4), .unset, .unset, .unset] [(.int (192 : Int32)), (.int (p0 &&& (224 : Int32)))]))
    by_cases hc18 : (p0 &&& (224 : Int32)) = (192 : Int32)
    · skip
      refine Go.step (fun _ k => XS.icmpNo X0.here hx rfl (hb hby d2_18) rfl (teq hc18).2 k) ?_
      show Go _ _ _ _ _ _ _ (s₁.setTop (mkF m 21 #[.val (.int p0), .val (.int p1), .val (.int p2), .val (.int p3), .val (.int p4), .unset, .unset, .unset] []))
      refine Go.step (fun _ k => XS.iconst X0.here hx rfl (hb hby d2_21) k) ?_
      show Go _ _ _ _ _ _ _ (s₁.setTop (mkF m 22 #[.val (.int p0), .val (.int p1), .val (.int p2), .val (.int p3), .val (.int p4), .unset, .unset, .unset] [(.int (2 : Int32))]))
      refine Go.step (fun _ k => XS.istore X0.here hx rfl (hb hby d2_22) rfl (l' := #[.val (.int p0), .val (.int p1), .val (.int p2), .val (.int p3), .val (.int p4), .val (.int (2 : Int32)), .unset, .unset]) rfl k) ?_
      show Go _ _ _ _ _ _ _ (s₁.setTop (mkF m 24 #[.val (.int p0), .val (.int p1), .val (.int p2), .val (.int p3), .val (.int p4), .val (.int (2 : Int32)), .unset, .unset] []))
      refine Go.step (fun _ k => XS.iloadN X0.here hx rfl (hb hby d2_24) rfl  k) ?_
      show Go _ _ _ _ _ _ _ (s₁.setTop (mkF m 25 #[.val (.int p0), .val (.int p1), .val (.int p2), .val (.int p3), .val (.int p4), .val (.int (2 : Int32)), .unset, .unset] [(.int p0)]))
      refine Go.step (fun _ k => XS.bipush X0.here hx rfl (hb hby d2_25) k) ?_
      show Go _ _ _ _ _ _ _ (s₁.setTop (mkF m 27 #[.val (.int p0), .val (.int p1), .val (.int p2), .val (.int p3), .val (.int p4), .val (.int (2 : Int32)), .unset, .unset] [(.int (31 : Int32)), (.int p0)]))
      refine Go.step (fun _ k => XS.iand X0.here hx rfl (hb hby d2_27) rfl k) ?_
      show Go _ _ _ _ _ _ _ (s₁.setTop (mkF m 28 #[.val (.int p0), .val (.int p1), .val (.int p2), .val (.int p3), .val (.int p4), .val (.int (2 : Int32)), .unset, .unset] [(.int (p0 &&& (31 : Int32)))]))
      obtain ⟨vv1, q_vv1⟩ : ∃ z : Int32, z = (p0 &&& (31 : Int32)) := ⟨_, rfl⟩
      rw [← q_vv1]
      have hvv1 : vv1.toInt = p0.toInt % 32 := by rw [q_vv1]; exact own_31 p0
      show Go _ _ _ _ _ _ _ (s₁.setTop (mkF m 28 #[.val (.int p0), .val (.int p1), .val (.int p2), .val (.int p3), .val (.int p4), .val (.int (2 : Int32)), .unset, .unset] [(.int vv1)]))
      refine Go.step (fun _ k => XS.istore X0.here hx rfl (hb hby d2_28) rfl (l' := #[.val (.int p0), .val (.int p1), .val (.int p2), .val (.int p3), .val (.int p4), .val (.int (2 : Int32)), .val (.int vv1), .unset]) rfl k) ?_
      show Go _ _ _ _ _ _ _ (s₁.setTop (mkF m 30 #[.val (.int p0), .val (.int p1), .val (.int p2), .val (.int p3), .val (.int p4), .val (.int (2 : Int32)), .val (.int vv1), .unset] []))
      refine Go.step (fun _ k => XS.sipush X0.here hx rfl (hb hby d2_30) k) ?_
      show Go _ _ _ _ _ _ _ (s₁.setTop (mkF m 33 #[.val (.int p0), .val (.int p1), .val (.int p2), .val (.int p3), .val (.int p4), .val (.int (2 : Int32)), .val (.int vv1), .unset] [(.int (128 : Int32))]))
      refine Go.step (fun _ k => XS.istore X0.here hx rfl (hb hby d2_33) rfl (l' := #[.val (.int p0), .val (.int p1), .val (.int p2), .val (.int p3), .val (.int p4), .val (.int (2 : Int32)), .val (.int vv1), .val (.int (128 : Int32))]) rfl k) ?_
      show Go _ _ _ _ _ _ _ (s₁.setTop (mkF m 35 #[.val (.int p0), .val (.int p1), .val (.int p2), .val (.int p3), .val (.int p4), .val (.int (2 : Int32)), .val (.int vv1), .val (.int (128 : Int32))] []))
      refine Go.step (fun _ k => XS.goto X0.here hx rfl (pc0 := 35) (pc' := 95) rfl (hb hby d2_35) (by decide) (by decide) k) ?_
      have kl : 192 ≤ p0.toInt ∧ p0.toInt < 224 := by
        simp only [Int32.lt_iff_toInt_lt, ← Int32.toInt_inj, own_i_m3, own_i_m2, own_i_m1, own_i_0, own_i_1, own_i_2, own_i_3, own_i_4, own_i_5, own_i_7, own_i_15, own_i_31, own_i_63, own_i_128, own_i_143, own_i_144, own_i_159, own_i_160, own_i_191, own_i_192, own_i_194, own_i_223, own_i_224, own_i_225, own_i_237, own_i_239, own_i_240, own_i_241, own_i_243, own_i_244, own_i_248, own_i_255, own_i_2048, own_i_55296, own_i_57343, own_i_65536, own_i_1114111] at hc18
        exact kc.2.1.mp hc18
      show Go _ _ _ _ _ _ _ (s₁.setTop (mkF m 95 #[.val (.int p0), .val (.int p1), .val (.int p2), .val (.int p3), .val (.int p4), .val (.int (2 : Int32)), .val (.int vv1), .val (.int (128 : Int32))] []))
      refine Go.step (fun _ k => XS.iload X0.here hx rfl (hb hby d2_95) rfl  k) ?_
      show Go _ _ _ _ _ _ _ (s₁.setTop (mkF m 97 #[.val (.int p0), .val (.int p1), .val (.int p2), .val (.int p3), .val (.int p4), .val (.int (2 : Int32)), .val (.int vv1), .val (.int (128 : Int32))] [(.int vv1)]))
      refine Go.step (fun _ k => XS.iload X0.here hx rfl (hb hby d2_97) rfl  k) ?_
      show Go _ _ _ _ _ _ _ (s₁.setTop (mkF m 99 #[.val (.int p0), .val (.int p1), .val (.int p2), .val (.int p3), .val (.int p4), .val (.int (2 : Int32)), .val (.int vv1), .val (.int (128 : Int32))] [(.int (2 : Int32)), (.int vv1)]))
      refine Go.step (fun _ k => XS.iconst X0.here hx rfl (hb hby d2_99) k) ?_
      show Go _ _ _ _ _ _ _ (s₁.setTop (mkF m 100 #[.val (.int p0), .val (.int p1), .val (.int p2), .val (.int p3), .val (.int p4), .val (.int (2 : Int32)), .val (.int vv1), .val (.int (128 : Int32))] [(.int (1 : Int32)), (.int (2 : Int32)), (.int vv1)]))
      refine Go.step (fun _ k => XS.isub X0.here hx rfl (hb hby d2_100) rfl k) ?_
      show Go _ _ _ _ _ _ _ (s₁.setTop (mkF m 101 #[.val (.int p0), .val (.int p1), .val (.int p2), .val (.int p3), .val (.int p4), .val (.int (2 : Int32)), .val (.int vv1), .val (.int (128 : Int32))] [(.int (1 : Int32)), (.int vv1)]))
      refine Go.step (fun _ k => XS.iload X0.here hx rfl (hb hby d2_101) rfl  k) ?_
      show Go _ _ _ _ _ _ _ (s₁.setTop (mkF m 103 #[.val (.int p0), .val (.int p1), .val (.int p2), .val (.int p3), .val (.int p4), .val (.int (2 : Int32)), .val (.int vv1), .val (.int (128 : Int32))] [(.int (128 : Int32)), (.int (1 : Int32)), (.int vv1)]))
      have pq1 : (1 : Int32) = (1 : Int32) := rfl
      have pq2 : 0 ≤ vv1.toInt ∧ vv1.toInt < 32768 := (by clear kc; omega)
      have pq3 : 0 ≤ (128 : Int32).toInt ∧ (128 : Int32).toInt ≤ 65536 := (by decide)
      obtain ⟨_, _, ⟨T4, L4, k4, n4⟩, -, X4, ⟨Lc4, hQ4, l4, y4, z4⟩, st4⟩ := Jvm.LawKit.callS X0 hx (y := (⟨"com/example/omniform/omniform/Utf8MeasurePinLaw", "viable", "(III)Z"⟩ : MethodName)) hown (mvT hZ (hw _ (List.mem_of_getElem? (i := 9) rfl))) (mvT hZ (hw _ (List.mem_of_getElem? (i := 10) rfl))) (mvT hZ (hw _ (List.mem_of_getElem? (i := 7) rfl))) (mvT hZ (hw _ (List.mem_of_getElem? (i := 11) rfl))) (by decide) (backOf (W := 0) (rmv1 l Z aZ hw [] vv1 (1 : Int32) (128 : Int32) h0 n0 Z0 pq1 pq2 pq3) hZ (hw _ (List.mem_of_getElem? (i := 11) rfl)) (hw _ (List.mem_of_getElem? (i := 7) rfl)) (by decide) (by decide)) (g := (mkF m 103 #[.val (.int p0), .val (.int p1), .val (.int p2), .val (.int p3), .val (.int p4), .val (.int (2 : Int32)), .val (.int vv1), .val (.int (128 : Int32))] [(.int (128 : Int32)), (.int (1 : Int32)), (.int vv1)])) rfl (by rw [hml]; rfl) (argsL := [(.int vv1), (.int (1 : Int32)), (.int (128 : Int32))]) (rest := []) (lenOf pd_1 rfl) rfl (by show 2 * 0 + _ ≤ _; exact Nat.le_of_eq rfl) (hb hby d2_103) (fun _ _ => ⟨rfl, e0, (by decide : 0 + 0 ≤ _), (by decide : 0 + 0 ≤ _)⟩)
      dsimp only [Pt.U, Pt.locs, Pt.cells, Pt.slots] at X4 l4 y4 z4 st4 hQ4
      subst l4 y4 z4
      obtain ⟨w_4, rfl, Nq4, e4, u4_0⟩ := hQ4
      have N4 := Fr.app N0 Nq4
      refine Go.step st4 ?_
      have s1 : (w_4 = 0 ↔ (p0.toInt < 194)) := by
        have g := u4_0
        unfold own_Vi at g
        simp only [own_i_128, own_i_2048, own_i_65536] at g
        simp only [← Int32.toInt_inj, own_i_0]
        clear kc
        omega
      show Go _ _ _ _ _ _ _ (T4.setTop (mkF m 106 #[.val (.int p0), .val (.int p1), .val (.int p2), .val (.int p3), .val (.int p4), .val (.int (2 : Int32)), .val (.int vv1), .val (.int (128 : Int32))] [(.int w_4)]))
      by_cases hc106 : w_4 = (0 : Int32)
      · skip
        refine Go.step (fun _ k => XS.ifNo X4.here hx rfl (hb hby d2_106) rfl ((if0 _ _).trans (teq hc106).2) k) ?_
        show Go _ _ _ _ _ _ _ (T4.setTop (mkF m 109 #[.val (.int p0), .val (.int p1), .val (.int p2), .val (.int p3), .val (.int p4), .val (.int (2 : Int32)), .val (.int vv1), .val (.int (128 : Int32))] []))
        refine Go.step (fun _ k => XS.iconst X4.here hx rfl (hb hby d2_109) k) ?_
        show Go _ _ _ _ _ _ _ (T4.setTop (mkF m 110 #[.val (.int p0), .val (.int p1), .val (.int p2), .val (.int p3), .val (.int p4), .val (.int (2 : Int32)), .val (.int vv1), .val (.int (128 : Int32))] [(.int (-1 : Int32))]))
        refine Go.retI X4 hx Bd.returns hlk (hb hby d2_110) ?_ (by decide) (by decide)
        rw [e4]
        exact ⟨(congrArg (fun z => some (Value.int z)) (own_E2a kl (s1.mp hc106))), N4, rfl⟩
      · skip
        refine Go.step (fun _ k => XS.ifYes X4.here hx rfl (pc0 := 106) (pc' := 111) rfl (hb hby d2_106) rfl ((if0 _ _).trans (feq hc106).2) (by decide) (by decide) k) ?_
        have t1 : ¬ (p0.toInt < 194) := fun q => hc106 (s1.mpr q)
        show Go _ _ _ _ _ _ _ (T4.setTop (mkF m 111 #[.val (.int p0), .val (.int p1), .val (.int p2), .val (.int p3), .val (.int p4), .val (.int (2 : Int32)), .val (.int vv1), .val (.int (128 : Int32))] []))
        refine Go.step (fun _ k => XS.iload X4.here hx rfl (hb hby d2_111) rfl  k) ?_
        show Go _ _ _ _ _ _ _ (T4.setTop (mkF m 113 #[.val (.int p0), .val (.int p1), .val (.int p2), .val (.int p3), .val (.int p4), .val (.int (2 : Int32)), .val (.int vv1), .val (.int (128 : Int32))] [(.int p4)]))
        refine Go.step (fun _ k => XS.iconst X4.here hx rfl (hb hby d2_113) k) ?_
        show Go _ _ _ _ _ _ _ (T4.setTop (mkF m 114 #[.val (.int p0), .val (.int p1), .val (.int p2), .val (.int p3), .val (.int p4), .val (.int (2 : Int32)), .val (.int vv1), .val (.int (128 : Int32))] [(.int (2 : Int32)), (.int p4)]))
        by_cases hc114 : p4 < (2 : Int32)
        · skip
          refine Go.step (fun _ k => XS.icmpYes X4.here hx rfl (pc0 := 114) (pc' := 124) rfl (hb hby d2_114) rfl (tlt hc114).1 (by decide) (by decide) k) ?_
          show Go _ _ _ _ _ _ _ (T4.setTop (mkF m 124 #[.val (.int p0), .val (.int p1), .val (.int p2), .val (.int p3), .val (.int p4), .val (.int (2 : Int32)), .val (.int vv1), .val (.int (128 : Int32))] []))
          refine Go.step (fun _ k => XS.iconst X4.here hx rfl (hb hby d2_124) k) ?_
          show Go _ _ _ _ _ _ _ (T4.setTop (mkF m 125 #[.val (.int p0), .val (.int p1), .val (.int p2), .val (.int p3), .val (.int p4), .val (.int (2 : Int32)), .val (.int vv1), .val (.int (128 : Int32))] [(.int (-1 : Int32))]))
          refine Go.retI X4 hx Bd.returns hlk (hb hby d2_125) ?_ (by decide) (by decide)
          rw [e4]
          exact ⟨(congrArg (fun z => some (Value.int z)) (own_E2b kl t1 (Or.inl (own_av2 hc114)))), N4, rfl⟩
        · skip
          refine Go.step (fun _ k => XS.icmpNo X4.here hx rfl (hb hby d2_114) rfl (flt hc114).1 k) ?_
          show Go _ _ _ _ _ _ _ (T4.setTop (mkF m 117 #[.val (.int p0), .val (.int p1), .val (.int p2), .val (.int p3), .val (.int p4), .val (.int (2 : Int32)), .val (.int vv1), .val (.int (128 : Int32))] []))
          refine Go.step (fun _ k => XS.iloadN X4.here hx rfl (hb hby d2_117) rfl  k) ?_
          show Go _ _ _ _ _ _ _ (T4.setTop (mkF m 118 #[.val (.int p0), .val (.int p1), .val (.int p2), .val (.int p3), .val (.int p4), .val (.int (2 : Int32)), .val (.int vv1), .val (.int (128 : Int32))] [(.int p1)]))
          have pq5 : 0 ≤ p1.toInt ∧ p1.toInt ≤ 255 := hp1
          obtain ⟨_, _, ⟨T6, L6, k6, n6⟩, -, X6, ⟨Lc6, hQ6, l6, y6, z6⟩, st6⟩ := Jvm.LawKit.callS X4 hx (y := (⟨"com/example/omniform/omniform/Utf8MeasurePinLaw", "cont", "(I)Z"⟩ : MethodName)) hown (mvT hZ (hw _ (List.mem_of_getElem? (i := 21) rfl))) (mvT hZ (hw _ (List.mem_of_getElem? (i := 22) rfl))) (mvT hZ (hw _ (List.mem_of_getElem? (i := 7) rfl))) (mvT hZ (hw _ (List.mem_of_getElem? (i := 23) rfl))) (by decide) (backOf (W := 0) (rm6 l Z aZ hw [] p1 h0 n0 Z0 pq5) hZ (hw _ (List.mem_of_getElem? (i := 23) rfl)) (hw _ (List.mem_of_getElem? (i := 7) rfl)) (by decide) (by decide)) (g := (mkF m 118 #[.val (.int p0), .val (.int p1), .val (.int p2), .val (.int p3), .val (.int p4), .val (.int (2 : Int32)), .val (.int vv1), .val (.int (128 : Int32))] [(.int p1)])) rfl (by rw [hml]; rfl) (argsL := [(.int p1)]) (rest := []) (lenOf pd_2 rfl) rfl (by show 2 * 0 + _ ≤ _; exact Nat.le_of_eq rfl) (hb hby d2_118) (fun _ _ => ⟨rfl, e4, (by decide : 0 + 0 ≤ _), (by decide : 0 + 0 ≤ _)⟩)
          dsimp only [Pt.U, Pt.locs, Pt.cells, Pt.slots] at X6 l6 y6 z6 st6 hQ6
          subst l6 y6 z6
          obtain ⟨w_6, rfl, Nq6, e6, u6_0⟩ := hQ6
          have N6 := Fr.app N4 Nq6
          refine Go.step st6 ?_
          have sc1 : (w_6 = 0 ↔ ¬ (128 ≤ p1.toInt ∧ p1.toInt < 192)) := by
            have g := u6_0
            simp only [← Int32.toInt_inj, own_i_0]
            omega
          show Go _ _ _ _ _ _ _ (T6.setTop (mkF m 121 #[.val (.int p0), .val (.int p1), .val (.int p2), .val (.int p3), .val (.int p4), .val (.int (2 : Int32)), .val (.int vv1), .val (.int (128 : Int32))] [(.int w_6)]))
          by_cases hc121 : w_6 = (0 : Int32)
          · skip
            refine Go.step (fun _ k => XS.ifNo X6.here hx rfl (hb hby d2_121) rfl ((if0 _ _).trans (teq hc121).2) k) ?_
            show Go _ _ _ _ _ _ _ (T6.setTop (mkF m 124 #[.val (.int p0), .val (.int p1), .val (.int p2), .val (.int p3), .val (.int p4), .val (.int (2 : Int32)), .val (.int vv1), .val (.int (128 : Int32))] []))
            refine Go.step (fun _ k => XS.iconst X6.here hx rfl (hb hby d2_124) k) ?_
            show Go _ _ _ _ _ _ _ (T6.setTop (mkF m 125 #[.val (.int p0), .val (.int p1), .val (.int p2), .val (.int p3), .val (.int p4), .val (.int (2 : Int32)), .val (.int vv1), .val (.int (128 : Int32))] [(.int (-1 : Int32))]))
            refine Go.retI X6 hx Bd.returns hlk (hb hby d2_125) ?_ (by decide) (by decide)
            rw [e6]
            exact ⟨(congrArg (fun z => some (Value.int z)) (own_E2b kl t1 (Or.inr (sc1.mp hc121)))), N6, rfl⟩
          · skip
            refine Go.step (fun _ k => XS.ifYes X6.here hx rfl (pc0 := 121) (pc' := 126) rfl (hb hby d2_121) rfl ((if0 _ _).trans (feq hc121).2) (by decide) (by decide) k) ?_
            have tc1 := Decidable.not_not.mp (fun q => hc121 (sc1.mpr q))
            show Go _ _ _ _ _ _ _ (T6.setTop (mkF m 126 #[.val (.int p0), .val (.int p1), .val (.int p2), .val (.int p3), .val (.int p4), .val (.int (2 : Int32)), .val (.int vv1), .val (.int (128 : Int32))] []))
            refine Go.step (fun _ k => XS.iload X6.here hx rfl (hb hby d2_126) rfl  k) ?_
            show Go _ _ _ _ _ _ _ (T6.setTop (mkF m 128 #[.val (.int p0), .val (.int p1), .val (.int p2), .val (.int p3), .val (.int p4), .val (.int (2 : Int32)), .val (.int vv1), .val (.int (128 : Int32))] [(.int vv1)]))
            refine Go.step (fun _ k => XS.bipush X6.here hx rfl (hb hby d2_128) k) ?_
            show Go _ _ _ _ _ _ _ (T6.setTop (mkF m 130 #[.val (.int p0), .val (.int p1), .val (.int p2), .val (.int p3), .val (.int p4), .val (.int (2 : Int32)), .val (.int vv1), .val (.int (128 : Int32))] [(.int (6 : Int32)), (.int vv1)]))
            refine Go.step (fun _ k => XS.ishl X6.here hx rfl (hb hby d2_130) rfl k) ?_
            show Go _ _ _ _ _ _ _ (T6.setTop (mkF m 131 #[.val (.int p0), .val (.int p1), .val (.int p2), .val (.int p3), .val (.int p4), .val (.int (2 : Int32)), .val (.int vv1), .val (.int (128 : Int32))] [(.int (vv1 <<< ((6 : Int32) &&& 31)))]))
            refine Go.step (fun _ k => XS.iloadN X6.here hx rfl (hb hby d2_131) rfl  k) ?_
            show Go _ _ _ _ _ _ _ (T6.setTop (mkF m 132 #[.val (.int p0), .val (.int p1), .val (.int p2), .val (.int p3), .val (.int p4), .val (.int (2 : Int32)), .val (.int vv1), .val (.int (128 : Int32))] [(.int p1), (.int (vv1 <<< ((6 : Int32) &&& 31)))]))
            refine Go.step (fun _ k => XS.bipush X6.here hx rfl (hb hby d2_132) k) ?_
            show Go _ _ _ _ _ _ _ (T6.setTop (mkF m 134 #[.val (.int p0), .val (.int p1), .val (.int p2), .val (.int p3), .val (.int p4), .val (.int (2 : Int32)), .val (.int vv1), .val (.int (128 : Int32))] [(.int (63 : Int32)), (.int p1), (.int (vv1 <<< ((6 : Int32) &&& 31)))]))
            refine Go.step (fun _ k => XS.iand X6.here hx rfl (hb hby d2_134) rfl k) ?_
            show Go _ _ _ _ _ _ _ (T6.setTop (mkF m 135 #[.val (.int p0), .val (.int p1), .val (.int p2), .val (.int p3), .val (.int p4), .val (.int (2 : Int32)), .val (.int vv1), .val (.int (128 : Int32))] [(.int (p1 &&& (63 : Int32))), (.int (vv1 <<< ((6 : Int32) &&& 31)))]))
            refine Go.step (fun _ k => XS.ior X6.here hx rfl (hb hby d2_135) rfl k) ?_
            show Go _ _ _ _ _ _ _ (T6.setTop (mkF m 136 #[.val (.int p0), .val (.int p1), .val (.int p2), .val (.int p3), .val (.int p4), .val (.int (2 : Int32)), .val (.int vv1), .val (.int (128 : Int32))] [(.int ((vv1 <<< ((6 : Int32) &&& 31)) ||| (p1 &&& (63 : Int32))))]))
            obtain ⟨vv2, q_vv2⟩ : ∃ z : Int32, z = ((vv1 <<< ((6 : Int32) &&& 31)) ||| (p1 &&& (63 : Int32))) := ⟨_, rfl⟩
            rw [← q_vv2]
            have hvv2 : vv2.toInt = vv1.toInt * 64 + p1.toInt % 64 := by rw [q_vv2]; exact own_shl _ _ (by omega) (by omega)
            show Go _ _ _ _ _ _ _ (T6.setTop (mkF m 136 #[.val (.int p0), .val (.int p1), .val (.int p2), .val (.int p3), .val (.int p4), .val (.int (2 : Int32)), .val (.int vv1), .val (.int (128 : Int32))] [(.int vv2)]))
            refine Go.step (fun _ k => XS.istore X6.here hx rfl (hb hby d2_136) rfl (l' := #[.val (.int p0), .val (.int p1), .val (.int p2), .val (.int p3), .val (.int p4), .val (.int (2 : Int32)), .val (.int vv2), .val (.int (128 : Int32))]) rfl k) ?_
            show Go _ _ _ _ _ _ _ (T6.setTop (mkF m 138 #[.val (.int p0), .val (.int p1), .val (.int p2), .val (.int p3), .val (.int p4), .val (.int (2 : Int32)), .val (.int vv2), .val (.int (128 : Int32))] []))
            refine Go.step (fun _ k => XS.iload X6.here hx rfl (hb hby d2_138) rfl  k) ?_
            show Go _ _ _ _ _ _ _ (T6.setTop (mkF m 140 #[.val (.int p0), .val (.int p1), .val (.int p2), .val (.int p3), .val (.int p4), .val (.int (2 : Int32)), .val (.int vv2), .val (.int (128 : Int32))] [(.int vv2)]))
            refine Go.step (fun _ k => XS.iload X6.here hx rfl (hb hby d2_140) rfl  k) ?_
            show Go _ _ _ _ _ _ _ (T6.setTop (mkF m 142 #[.val (.int p0), .val (.int p1), .val (.int p2), .val (.int p3), .val (.int p4), .val (.int (2 : Int32)), .val (.int vv2), .val (.int (128 : Int32))] [(.int (2 : Int32)), (.int vv2)]))
            refine Go.step (fun _ k => XS.iconst X6.here hx rfl (hb hby d2_142) k) ?_
            show Go _ _ _ _ _ _ _ (T6.setTop (mkF m 143 #[.val (.int p0), .val (.int p1), .val (.int p2), .val (.int p3), .val (.int p4), .val (.int (2 : Int32)), .val (.int vv2), .val (.int (128 : Int32))] [(.int (2 : Int32)), (.int (2 : Int32)), (.int vv2)]))
            refine Go.step (fun _ k => XS.isub X6.here hx rfl (hb hby d2_143) rfl k) ?_
            show Go _ _ _ _ _ _ _ (T6.setTop (mkF m 144 #[.val (.int p0), .val (.int p1), .val (.int p2), .val (.int p3), .val (.int p4), .val (.int (2 : Int32)), .val (.int vv2), .val (.int (128 : Int32))] [(.int (0 : Int32)), (.int vv2)]))
            refine Go.step (fun _ k => XS.iload X6.here hx rfl (hb hby d2_144) rfl  k) ?_
            show Go _ _ _ _ _ _ _ (T6.setTop (mkF m 146 #[.val (.int p0), .val (.int p1), .val (.int p2), .val (.int p3), .val (.int p4), .val (.int (2 : Int32)), .val (.int vv2), .val (.int (128 : Int32))] [(.int (128 : Int32)), (.int (0 : Int32)), (.int vv2)]))
            have pq7 : (0 : Int32) = (0 : Int32) := rfl
            have pq8 : 0 ≤ vv2.toInt ∧ vv2.toInt < 2097152 := (by clear kc; omega)
            have pq9 : 0 ≤ (128 : Int32).toInt ∧ (128 : Int32).toInt ≤ 65536 := (by decide)
            obtain ⟨_, _, ⟨T10, L10, k10, n10⟩, -, X10, ⟨Lc10, hQ10, l10, y10, z10⟩, st10⟩ := Jvm.LawKit.callS X6 hx (y := (⟨"com/example/omniform/omniform/Utf8MeasurePinLaw", "viable", "(III)Z"⟩ : MethodName)) hown (mvT hZ (hw _ (List.mem_of_getElem? (i := 9) rfl))) (mvT hZ (hw _ (List.mem_of_getElem? (i := 10) rfl))) (mvT hZ (hw _ (List.mem_of_getElem? (i := 7) rfl))) (mvT hZ (hw _ (List.mem_of_getElem? (i := 11) rfl))) (by decide) (backOf (W := 0) (rmv0 l Z aZ hw [] vv2 (0 : Int32) (128 : Int32) h0 n0 Z0 pq7 pq8 pq9) hZ (hw _ (List.mem_of_getElem? (i := 11) rfl)) (hw _ (List.mem_of_getElem? (i := 7) rfl)) (by decide) (by decide)) (g := (mkF m 146 #[.val (.int p0), .val (.int p1), .val (.int p2), .val (.int p3), .val (.int p4), .val (.int (2 : Int32)), .val (.int vv2), .val (.int (128 : Int32))] [(.int (128 : Int32)), (.int (0 : Int32)), (.int vv2)])) rfl (by rw [hml]; rfl) (argsL := [(.int vv2), (.int (0 : Int32)), (.int (128 : Int32))]) (rest := []) (lenOf pd_1 rfl) rfl (by show 2 * 0 + _ ≤ _; exact Nat.le_of_eq rfl) (hb hby d2_146) (fun _ _ => ⟨rfl, e6, (by decide : 0 + 0 ≤ _), (by decide : 0 + 0 ≤ _)⟩)
            dsimp only [Pt.U, Pt.locs, Pt.cells, Pt.slots] at X10 l10 y10 z10 st10 hQ10
            subst l10 y10 z10
            obtain ⟨w_10, rfl, Nq10, e10, u10_0⟩ := hQ10
            have N10 := Fr.app N6 Nq10
            refine Go.step st10 ?_
            have s2 : ¬ w_10 = 0 := by
              have g := u10_0
              unfold own_Vi at g
              simp only [own_i_128, own_i_2048, own_i_65536] at g
              simp only [← Int32.toInt_inj, own_i_0]
              clear kc
              omega
            show Go _ _ _ _ _ _ _ (T10.setTop (mkF m 149 #[.val (.int p0), .val (.int p1), .val (.int p2), .val (.int p3), .val (.int p4), .val (.int (2 : Int32)), .val (.int vv2), .val (.int (128 : Int32))] [(.int w_10)]))
            have hc149 : ¬ (w_10 = (0 : Int32)) := s2
            refine Go.step (fun _ k => XS.ifYes X10.here hx rfl (pc0 := 149) (pc' := 154) rfl (hb hby d2_149) rfl ((if0 _ _).trans (feq hc149).2) (by decide) (by decide) k) ?_
            show Go _ _ _ _ _ _ _ (T10.setTop (mkF m 154 #[.val (.int p0), .val (.int p1), .val (.int p2), .val (.int p3), .val (.int p4), .val (.int (2 : Int32)), .val (.int vv2), .val (.int (128 : Int32))] []))
            refine Go.step (fun _ k => XS.iload X10.here hx rfl (hb hby d2_154) rfl  k) ?_
            show Go _ _ _ _ _ _ _ (T10.setTop (mkF m 156 #[.val (.int p0), .val (.int p1), .val (.int p2), .val (.int p3), .val (.int p4), .val (.int (2 : Int32)), .val (.int vv2), .val (.int (128 : Int32))] [(.int (2 : Int32))]))
            refine Go.step (fun _ k => XS.iconst X10.here hx rfl (hb hby d2_156) k) ?_
            show Go _ _ _ _ _ _ _ (T10.setTop (mkF m 157 #[.val (.int p0), .val (.int p1), .val (.int p2), .val (.int p3), .val (.int p4), .val (.int (2 : Int32)), .val (.int vv2), .val (.int (128 : Int32))] [(.int (2 : Int32)), (.int (2 : Int32))]))
            have hc157 : (2 : Int32) = (2 : Int32) := by decide
            refine Go.step (fun _ k => XS.icmpNo X10.here hx rfl (hb hby d2_157) rfl (teq hc157).2 k) ?_
            show Go _ _ _ _ _ _ _ (T10.setTop (mkF m 160 #[.val (.int p0), .val (.int p1), .val (.int p2), .val (.int p3), .val (.int p4), .val (.int (2 : Int32)), .val (.int vv2), .val (.int (128 : Int32))] []))
            refine Go.step (fun _ k => XS.iconst X10.here hx rfl (hb hby d2_160) k) ?_
            show Go _ _ _ _ _ _ _ (T10.setTop (mkF m 161 #[.val (.int p0), .val (.int p1), .val (.int p2), .val (.int p3), .val (.int p4), .val (.int (2 : Int32)), .val (.int vv2), .val (.int (128 : Int32))] [(.int (2 : Int32))]))
            refine Go.retI X10 hx Bd.returns hlk (hb hby d2_161) ?_ (by decide) (by decide)
            rw [e10]
            exact ⟨(congrArg (fun z => some (Value.int z)) (own_E2z kl t1 (own_nav2 hc114) tc1)), N10, rfl⟩
    · skip
      refine Go.step (fun _ k => XS.icmpYes X0.here hx rfl (pc0 := 18) (pc' := 38) rfl (hb hby d2_18) rfl (feq hc18).2 (by decide) (by decide) k) ?_
      have k2 : ¬ (192 ≤ p0.toInt ∧ p0.toInt < 224) := by
        have z := hc18
        simp only [Int32.lt_iff_toInt_lt, ← Int32.toInt_inj, own_i_m3, own_i_m2, own_i_m1, own_i_0, own_i_1, own_i_2, own_i_3, own_i_4, own_i_5, own_i_7, own_i_15, own_i_31, own_i_63, own_i_128, own_i_143, own_i_144, own_i_159, own_i_160, own_i_191, own_i_192, own_i_194, own_i_223, own_i_224, own_i_225, own_i_237, own_i_239, own_i_240, own_i_241, own_i_243, own_i_244, own_i_248, own_i_255, own_i_2048, own_i_55296, own_i_57343, own_i_65536, own_i_1114111] at z
        exact fun y => z (kc.2.1.mpr y)
      show Go _ _ _ _ _ _ _ (s₁.setTop (mkF m 38 #[.val (.int p0), .val (.int p1), .val (.int p2), .val (.int p3), .val (.int p4), .unset, .unset, .unset] []))
      refine Go.step (fun _ k => XS.iloadN X0.here hx rfl (hb hby d2_38) rfl  k) ?_
      show Go _ _ _ _ _ _ _ (s₁.setTop (mkF m 39 #[.val (.int p0), .val (.int p1), .val (.int p2), .val (.int p3), .val (.int p4), .unset, .unset, .unset] [(.int p0)]))
      refine Go.step (fun _ k => XS.sipush X0.here hx rfl (hb hby d2_39) k) ?_
      show Go _ _ _ _ _ _ _ (s₁.setTop (mkF m 42 #[.val (.int p0), .val (.int p1), .val (.int p2), .val (.int p3), .val (.int p4), .unset, .unset, .unset] [(.int (240 : Int32)), (.int p0)]))
      refine Go.step (fun _ k => XS.iand X0.here hx rfl (hb hby d2_42) rfl k) ?_
      show Go _ _ _ _ _ _ _ (s₁.setTop (mkF m 43 #[.val (.int p0), .val (.int p1), .val (.int p2), .val (.int p3), .val (.int p4), .unset, .unset, .unset] [(.int (p0 &&& (240 : Int32)))]))
      refine Go.step (fun _ k => XS.sipush X0.here hx rfl (hb hby d2_43) k) ?_
      show Go _ _ _ _ _ _ _ (s₁.setTop (mkF m 46 #[.val (.int p0), .val (.int p1), .val (.int p2), .val (.int p3), .val (.int p4), .unset, .unset, .unset] [(.int (224 : Int32)), (.int (p0 &&& (240 : Int32)))]))
      by_cases hc46 : (p0 &&& (240 : Int32)) = (224 : Int32)
      · skip
        refine Go.step (fun _ k => XS.icmpNo X0.here hx rfl (hb hby d2_46) rfl (teq hc46).2 k) ?_
        show Go _ _ _ _ _ _ _ (s₁.setTop (mkF m 49 #[.val (.int p0), .val (.int p1), .val (.int p2), .val (.int p3), .val (.int p4), .unset, .unset, .unset] []))
        refine Go.step (fun _ k => XS.iconst X0.here hx rfl (hb hby d2_49) k) ?_
        show Go _ _ _ _ _ _ _ (s₁.setTop (mkF m 50 #[.val (.int p0), .val (.int p1), .val (.int p2), .val (.int p3), .val (.int p4), .unset, .unset, .unset] [(.int (3 : Int32))]))
        refine Go.step (fun _ k => XS.istore X0.here hx rfl (hb hby d2_50) rfl (l' := #[.val (.int p0), .val (.int p1), .val (.int p2), .val (.int p3), .val (.int p4), .val (.int (3 : Int32)), .unset, .unset]) rfl k) ?_
        show Go _ _ _ _ _ _ _ (s₁.setTop (mkF m 52 #[.val (.int p0), .val (.int p1), .val (.int p2), .val (.int p3), .val (.int p4), .val (.int (3 : Int32)), .unset, .unset] []))
        refine Go.step (fun _ k => XS.iloadN X0.here hx rfl (hb hby d2_52) rfl  k) ?_
        show Go _ _ _ _ _ _ _ (s₁.setTop (mkF m 53 #[.val (.int p0), .val (.int p1), .val (.int p2), .val (.int p3), .val (.int p4), .val (.int (3 : Int32)), .unset, .unset] [(.int p0)]))
        refine Go.step (fun _ k => XS.bipush X0.here hx rfl (hb hby d2_53) k) ?_
        show Go _ _ _ _ _ _ _ (s₁.setTop (mkF m 55 #[.val (.int p0), .val (.int p1), .val (.int p2), .val (.int p3), .val (.int p4), .val (.int (3 : Int32)), .unset, .unset] [(.int (15 : Int32)), (.int p0)]))
        refine Go.step (fun _ k => XS.iand X0.here hx rfl (hb hby d2_55) rfl k) ?_
        show Go _ _ _ _ _ _ _ (s₁.setTop (mkF m 56 #[.val (.int p0), .val (.int p1), .val (.int p2), .val (.int p3), .val (.int p4), .val (.int (3 : Int32)), .unset, .unset] [(.int (p0 &&& (15 : Int32)))]))
        obtain ⟨vv1, q_vv1⟩ : ∃ z : Int32, z = (p0 &&& (15 : Int32)) := ⟨_, rfl⟩
        rw [← q_vv1]
        have hvv1 : vv1.toInt = p0.toInt % 16 := by rw [q_vv1]; exact own_15 p0
        show Go _ _ _ _ _ _ _ (s₁.setTop (mkF m 56 #[.val (.int p0), .val (.int p1), .val (.int p2), .val (.int p3), .val (.int p4), .val (.int (3 : Int32)), .unset, .unset] [(.int vv1)]))
        refine Go.step (fun _ k => XS.istore X0.here hx rfl (hb hby d2_56) rfl (l' := #[.val (.int p0), .val (.int p1), .val (.int p2), .val (.int p3), .val (.int p4), .val (.int (3 : Int32)), .val (.int vv1), .unset]) rfl k) ?_
        show Go _ _ _ _ _ _ _ (s₁.setTop (mkF m 58 #[.val (.int p0), .val (.int p1), .val (.int p2), .val (.int p3), .val (.int p4), .val (.int (3 : Int32)), .val (.int vv1), .unset] []))
        refine Go.step (fun _ k => XS.sipush X0.here hx rfl (hb hby d2_58) k) ?_
        show Go _ _ _ _ _ _ _ (s₁.setTop (mkF m 61 #[.val (.int p0), .val (.int p1), .val (.int p2), .val (.int p3), .val (.int p4), .val (.int (3 : Int32)), .val (.int vv1), .unset] [(.int (2048 : Int32))]))
        refine Go.step (fun _ k => XS.istore X0.here hx rfl (hb hby d2_61) rfl (l' := #[.val (.int p0), .val (.int p1), .val (.int p2), .val (.int p3), .val (.int p4), .val (.int (3 : Int32)), .val (.int vv1), .val (.int (2048 : Int32))]) rfl k) ?_
        show Go _ _ _ _ _ _ _ (s₁.setTop (mkF m 63 #[.val (.int p0), .val (.int p1), .val (.int p2), .val (.int p3), .val (.int p4), .val (.int (3 : Int32)), .val (.int vv1), .val (.int (2048 : Int32))] []))
        refine Go.step (fun _ k => XS.goto X0.here hx rfl (pc0 := 63) (pc' := 95) rfl (hb hby d2_63) (by decide) (by decide) k) ?_
        have kl : 224 ≤ p0.toInt ∧ p0.toInt < 240 := by
          simp only [Int32.lt_iff_toInt_lt, ← Int32.toInt_inj, own_i_m3, own_i_m2, own_i_m1, own_i_0, own_i_1, own_i_2, own_i_3, own_i_4, own_i_5, own_i_7, own_i_15, own_i_31, own_i_63, own_i_128, own_i_143, own_i_144, own_i_159, own_i_160, own_i_191, own_i_192, own_i_194, own_i_223, own_i_224, own_i_225, own_i_237, own_i_239, own_i_240, own_i_241, own_i_243, own_i_244, own_i_248, own_i_255, own_i_2048, own_i_55296, own_i_57343, own_i_65536, own_i_1114111] at hc46
          exact kc.2.2.1.mp hc46
        show Go _ _ _ _ _ _ _ (s₁.setTop (mkF m 95 #[.val (.int p0), .val (.int p1), .val (.int p2), .val (.int p3), .val (.int p4), .val (.int (3 : Int32)), .val (.int vv1), .val (.int (2048 : Int32))] []))
        refine Go.step (fun _ k => XS.iload X0.here hx rfl (hb hby d2_95) rfl  k) ?_
        show Go _ _ _ _ _ _ _ (s₁.setTop (mkF m 97 #[.val (.int p0), .val (.int p1), .val (.int p2), .val (.int p3), .val (.int p4), .val (.int (3 : Int32)), .val (.int vv1), .val (.int (2048 : Int32))] [(.int vv1)]))
        refine Go.step (fun _ k => XS.iload X0.here hx rfl (hb hby d2_97) rfl  k) ?_
        show Go _ _ _ _ _ _ _ (s₁.setTop (mkF m 99 #[.val (.int p0), .val (.int p1), .val (.int p2), .val (.int p3), .val (.int p4), .val (.int (3 : Int32)), .val (.int vv1), .val (.int (2048 : Int32))] [(.int (3 : Int32)), (.int vv1)]))
        refine Go.step (fun _ k => XS.iconst X0.here hx rfl (hb hby d2_99) k) ?_
        show Go _ _ _ _ _ _ _ (s₁.setTop (mkF m 100 #[.val (.int p0), .val (.int p1), .val (.int p2), .val (.int p3), .val (.int p4), .val (.int (3 : Int32)), .val (.int vv1), .val (.int (2048 : Int32))] [(.int (1 : Int32)), (.int (3 : Int32)), (.int vv1)]))
        refine Go.step (fun _ k => XS.isub X0.here hx rfl (hb hby d2_100) rfl k) ?_
        show Go _ _ _ _ _ _ _ (s₁.setTop (mkF m 101 #[.val (.int p0), .val (.int p1), .val (.int p2), .val (.int p3), .val (.int p4), .val (.int (3 : Int32)), .val (.int vv1), .val (.int (2048 : Int32))] [(.int (2 : Int32)), (.int vv1)]))
        refine Go.step (fun _ k => XS.iload X0.here hx rfl (hb hby d2_101) rfl  k) ?_
        show Go _ _ _ _ _ _ _ (s₁.setTop (mkF m 103 #[.val (.int p0), .val (.int p1), .val (.int p2), .val (.int p3), .val (.int p4), .val (.int (3 : Int32)), .val (.int vv1), .val (.int (2048 : Int32))] [(.int (2048 : Int32)), (.int (2 : Int32)), (.int vv1)]))
        have pq11 : (2 : Int32) = (2 : Int32) := rfl
        have pq12 : 0 ≤ vv1.toInt ∧ vv1.toInt < 512 := (by clear kc; omega)
        have pq13 : 0 ≤ (2048 : Int32).toInt ∧ (2048 : Int32).toInt ≤ 65536 := (by decide)
        obtain ⟨_, _, ⟨T14, L14, k14, n14⟩, -, X14, ⟨Lc14, hQ14, l14, y14, z14⟩, st14⟩ := Jvm.LawKit.callS X0 hx (y := (⟨"com/example/omniform/omniform/Utf8MeasurePinLaw", "viable", "(III)Z"⟩ : MethodName)) hown (mvT hZ (hw _ (List.mem_of_getElem? (i := 9) rfl))) (mvT hZ (hw _ (List.mem_of_getElem? (i := 10) rfl))) (mvT hZ (hw _ (List.mem_of_getElem? (i := 7) rfl))) (mvT hZ (hw _ (List.mem_of_getElem? (i := 11) rfl))) (by decide) (backOf (W := 0) (rmv2 l Z aZ hw [] vv1 (2 : Int32) (2048 : Int32) h0 n0 Z0 pq11 pq12 pq13) hZ (hw _ (List.mem_of_getElem? (i := 11) rfl)) (hw _ (List.mem_of_getElem? (i := 7) rfl)) (by decide) (by decide)) (g := (mkF m 103 #[.val (.int p0), .val (.int p1), .val (.int p2), .val (.int p3), .val (.int p4), .val (.int (3 : Int32)), .val (.int vv1), .val (.int (2048 : Int32))] [(.int (2048 : Int32)), (.int (2 : Int32)), (.int vv1)])) rfl (by rw [hml]; rfl) (argsL := [(.int vv1), (.int (2 : Int32)), (.int (2048 : Int32))]) (rest := []) (lenOf pd_1 rfl) rfl (by show 2 * 0 + _ ≤ _; exact Nat.le_of_eq rfl) (hb hby d2_103) (fun _ _ => ⟨rfl, e0, (by decide : 0 + 0 ≤ _), (by decide : 0 + 0 ≤ _)⟩)
        dsimp only [Pt.U, Pt.locs, Pt.cells, Pt.slots] at X14 l14 y14 z14 st14 hQ14
        subst l14 y14 z14
        obtain ⟨w_14, rfl, Nq14, e14, u14_0⟩ := hQ14
        have N14 := Fr.app N0 Nq14
        refine Go.step st14 ?_
        have s1 : ¬ w_14 = 0 := by
          have g := u14_0
          unfold own_Vi at g
          simp only [own_i_128, own_i_2048, own_i_65536] at g
          simp only [← Int32.toInt_inj, own_i_0]
          clear kc
          omega
        show Go _ _ _ _ _ _ _ (T14.setTop (mkF m 106 #[.val (.int p0), .val (.int p1), .val (.int p2), .val (.int p3), .val (.int p4), .val (.int (3 : Int32)), .val (.int vv1), .val (.int (2048 : Int32))] [(.int w_14)]))
        have hc106 : ¬ (w_14 = (0 : Int32)) := s1
        refine Go.step (fun _ k => XS.ifYes X14.here hx rfl (pc0 := 106) (pc' := 111) rfl (hb hby d2_106) rfl ((if0 _ _).trans (feq hc106).2) (by decide) (by decide) k) ?_
        show Go _ _ _ _ _ _ _ (T14.setTop (mkF m 111 #[.val (.int p0), .val (.int p1), .val (.int p2), .val (.int p3), .val (.int p4), .val (.int (3 : Int32)), .val (.int vv1), .val (.int (2048 : Int32))] []))
        refine Go.step (fun _ k => XS.iload X14.here hx rfl (hb hby d2_111) rfl  k) ?_
        show Go _ _ _ _ _ _ _ (T14.setTop (mkF m 113 #[.val (.int p0), .val (.int p1), .val (.int p2), .val (.int p3), .val (.int p4), .val (.int (3 : Int32)), .val (.int vv1), .val (.int (2048 : Int32))] [(.int p4)]))
        refine Go.step (fun _ k => XS.iconst X14.here hx rfl (hb hby d2_113) k) ?_
        show Go _ _ _ _ _ _ _ (T14.setTop (mkF m 114 #[.val (.int p0), .val (.int p1), .val (.int p2), .val (.int p3), .val (.int p4), .val (.int (3 : Int32)), .val (.int vv1), .val (.int (2048 : Int32))] [(.int (2 : Int32)), (.int p4)]))
        by_cases hc114 : p4 < (2 : Int32)
        · skip
          refine Go.step (fun _ k => XS.icmpYes X14.here hx rfl (pc0 := 114) (pc' := 124) rfl (hb hby d2_114) rfl (tlt hc114).1 (by decide) (by decide) k) ?_
          show Go _ _ _ _ _ _ _ (T14.setTop (mkF m 124 #[.val (.int p0), .val (.int p1), .val (.int p2), .val (.int p3), .val (.int p4), .val (.int (3 : Int32)), .val (.int vv1), .val (.int (2048 : Int32))] []))
          refine Go.step (fun _ k => XS.iconst X14.here hx rfl (hb hby d2_124) k) ?_
          show Go _ _ _ _ _ _ _ (T14.setTop (mkF m 125 #[.val (.int p0), .val (.int p1), .val (.int p2), .val (.int p3), .val (.int p4), .val (.int (3 : Int32)), .val (.int vv1), .val (.int (2048 : Int32))] [(.int (-1 : Int32))]))
          refine Go.retI X14 hx Bd.returns hlk (hb hby d2_125) ?_ (by decide) (by decide)
          rw [e14]
          exact ⟨(congrArg (fun z => some (Value.int z)) (own_E3b kl (Or.inl (own_av2 hc114)))), N14, rfl⟩
        · skip
          refine Go.step (fun _ k => XS.icmpNo X14.here hx rfl (hb hby d2_114) rfl (flt hc114).1 k) ?_
          show Go _ _ _ _ _ _ _ (T14.setTop (mkF m 117 #[.val (.int p0), .val (.int p1), .val (.int p2), .val (.int p3), .val (.int p4), .val (.int (3 : Int32)), .val (.int vv1), .val (.int (2048 : Int32))] []))
          refine Go.step (fun _ k => XS.iloadN X14.here hx rfl (hb hby d2_117) rfl  k) ?_
          show Go _ _ _ _ _ _ _ (T14.setTop (mkF m 118 #[.val (.int p0), .val (.int p1), .val (.int p2), .val (.int p3), .val (.int p4), .val (.int (3 : Int32)), .val (.int vv1), .val (.int (2048 : Int32))] [(.int p1)]))
          have pq15 : 0 ≤ p1.toInt ∧ p1.toInt ≤ 255 := hp1
          obtain ⟨_, _, ⟨T16, L16, k16, n16⟩, -, X16, ⟨Lc16, hQ16, l16, y16, z16⟩, st16⟩ := Jvm.LawKit.callS X14 hx (y := (⟨"com/example/omniform/omniform/Utf8MeasurePinLaw", "cont", "(I)Z"⟩ : MethodName)) hown (mvT hZ (hw _ (List.mem_of_getElem? (i := 21) rfl))) (mvT hZ (hw _ (List.mem_of_getElem? (i := 22) rfl))) (mvT hZ (hw _ (List.mem_of_getElem? (i := 7) rfl))) (mvT hZ (hw _ (List.mem_of_getElem? (i := 23) rfl))) (by decide) (backOf (W := 0) (rm6 l Z aZ hw [] p1 h0 n0 Z0 pq15) hZ (hw _ (List.mem_of_getElem? (i := 23) rfl)) (hw _ (List.mem_of_getElem? (i := 7) rfl)) (by decide) (by decide)) (g := (mkF m 118 #[.val (.int p0), .val (.int p1), .val (.int p2), .val (.int p3), .val (.int p4), .val (.int (3 : Int32)), .val (.int vv1), .val (.int (2048 : Int32))] [(.int p1)])) rfl (by rw [hml]; rfl) (argsL := [(.int p1)]) (rest := []) (lenOf pd_2 rfl) rfl (by show 2 * 0 + _ ≤ _; exact Nat.le_of_eq rfl) (hb hby d2_118) (fun _ _ => ⟨rfl, e14, (by decide : 0 + 0 ≤ _), (by decide : 0 + 0 ≤ _)⟩)
          dsimp only [Pt.U, Pt.locs, Pt.cells, Pt.slots] at X16 l16 y16 z16 st16 hQ16
          subst l16 y16 z16
          obtain ⟨w_16, rfl, Nq16, e16, u16_0⟩ := hQ16
          have N16 := Fr.app N14 Nq16
          refine Go.step st16 ?_
          have sc1 : (w_16 = 0 ↔ ¬ (128 ≤ p1.toInt ∧ p1.toInt < 192)) := by
            have g := u16_0
            simp only [← Int32.toInt_inj, own_i_0]
            omega
          show Go _ _ _ _ _ _ _ (T16.setTop (mkF m 121 #[.val (.int p0), .val (.int p1), .val (.int p2), .val (.int p3), .val (.int p4), .val (.int (3 : Int32)), .val (.int vv1), .val (.int (2048 : Int32))] [(.int w_16)]))
          by_cases hc121 : w_16 = (0 : Int32)
          · skip
            refine Go.step (fun _ k => XS.ifNo X16.here hx rfl (hb hby d2_121) rfl ((if0 _ _).trans (teq hc121).2) k) ?_
            show Go _ _ _ _ _ _ _ (T16.setTop (mkF m 124 #[.val (.int p0), .val (.int p1), .val (.int p2), .val (.int p3), .val (.int p4), .val (.int (3 : Int32)), .val (.int vv1), .val (.int (2048 : Int32))] []))
            refine Go.step (fun _ k => XS.iconst X16.here hx rfl (hb hby d2_124) k) ?_
            show Go _ _ _ _ _ _ _ (T16.setTop (mkF m 125 #[.val (.int p0), .val (.int p1), .val (.int p2), .val (.int p3), .val (.int p4), .val (.int (3 : Int32)), .val (.int vv1), .val (.int (2048 : Int32))] [(.int (-1 : Int32))]))
            refine Go.retI X16 hx Bd.returns hlk (hb hby d2_125) ?_ (by decide) (by decide)
            rw [e16]
            exact ⟨(congrArg (fun z => some (Value.int z)) (own_E3b kl (Or.inr (sc1.mp hc121)))), N16, rfl⟩
          · skip
            refine Go.step (fun _ k => XS.ifYes X16.here hx rfl (pc0 := 121) (pc' := 126) rfl (hb hby d2_121) rfl ((if0 _ _).trans (feq hc121).2) (by decide) (by decide) k) ?_
            have tc1 := Decidable.not_not.mp (fun q => hc121 (sc1.mpr q))
            show Go _ _ _ _ _ _ _ (T16.setTop (mkF m 126 #[.val (.int p0), .val (.int p1), .val (.int p2), .val (.int p3), .val (.int p4), .val (.int (3 : Int32)), .val (.int vv1), .val (.int (2048 : Int32))] []))
            refine Go.step (fun _ k => XS.iload X16.here hx rfl (hb hby d2_126) rfl  k) ?_
            show Go _ _ _ _ _ _ _ (T16.setTop (mkF m 128 #[.val (.int p0), .val (.int p1), .val (.int p2), .val (.int p3), .val (.int p4), .val (.int (3 : Int32)), .val (.int vv1), .val (.int (2048 : Int32))] [(.int vv1)]))
            refine Go.step (fun _ k => XS.bipush X16.here hx rfl (hb hby d2_128) k) ?_
            show Go _ _ _ _ _ _ _ (T16.setTop (mkF m 130 #[.val (.int p0), .val (.int p1), .val (.int p2), .val (.int p3), .val (.int p4), .val (.int (3 : Int32)), .val (.int vv1), .val (.int (2048 : Int32))] [(.int (6 : Int32)), (.int vv1)]))
            refine Go.step (fun _ k => XS.ishl X16.here hx rfl (hb hby d2_130) rfl k) ?_
            show Go _ _ _ _ _ _ _ (T16.setTop (mkF m 131 #[.val (.int p0), .val (.int p1), .val (.int p2), .val (.int p3), .val (.int p4), .val (.int (3 : Int32)), .val (.int vv1), .val (.int (2048 : Int32))] [(.int (vv1 <<< ((6 : Int32) &&& 31)))]))
            refine Go.step (fun _ k => XS.iloadN X16.here hx rfl (hb hby d2_131) rfl  k) ?_
            show Go _ _ _ _ _ _ _ (T16.setTop (mkF m 132 #[.val (.int p0), .val (.int p1), .val (.int p2), .val (.int p3), .val (.int p4), .val (.int (3 : Int32)), .val (.int vv1), .val (.int (2048 : Int32))] [(.int p1), (.int (vv1 <<< ((6 : Int32) &&& 31)))]))
            refine Go.step (fun _ k => XS.bipush X16.here hx rfl (hb hby d2_132) k) ?_
            show Go _ _ _ _ _ _ _ (T16.setTop (mkF m 134 #[.val (.int p0), .val (.int p1), .val (.int p2), .val (.int p3), .val (.int p4), .val (.int (3 : Int32)), .val (.int vv1), .val (.int (2048 : Int32))] [(.int (63 : Int32)), (.int p1), (.int (vv1 <<< ((6 : Int32) &&& 31)))]))
            refine Go.step (fun _ k => XS.iand X16.here hx rfl (hb hby d2_134) rfl k) ?_
            show Go _ _ _ _ _ _ _ (T16.setTop (mkF m 135 #[.val (.int p0), .val (.int p1), .val (.int p2), .val (.int p3), .val (.int p4), .val (.int (3 : Int32)), .val (.int vv1), .val (.int (2048 : Int32))] [(.int (p1 &&& (63 : Int32))), (.int (vv1 <<< ((6 : Int32) &&& 31)))]))
            refine Go.step (fun _ k => XS.ior X16.here hx rfl (hb hby d2_135) rfl k) ?_
            show Go _ _ _ _ _ _ _ (T16.setTop (mkF m 136 #[.val (.int p0), .val (.int p1), .val (.int p2), .val (.int p3), .val (.int p4), .val (.int (3 : Int32)), .val (.int vv1), .val (.int (2048 : Int32))] [(.int ((vv1 <<< ((6 : Int32) &&& 31)) ||| (p1 &&& (63 : Int32))))]))
            obtain ⟨vv2, q_vv2⟩ : ∃ z : Int32, z = ((vv1 <<< ((6 : Int32) &&& 31)) ||| (p1 &&& (63 : Int32))) := ⟨_, rfl⟩
            rw [← q_vv2]
            have hvv2 : vv2.toInt = vv1.toInt * 64 + p1.toInt % 64 := by rw [q_vv2]; exact own_shl _ _ (by omega) (by omega)
            show Go _ _ _ _ _ _ _ (T16.setTop (mkF m 136 #[.val (.int p0), .val (.int p1), .val (.int p2), .val (.int p3), .val (.int p4), .val (.int (3 : Int32)), .val (.int vv1), .val (.int (2048 : Int32))] [(.int vv2)]))
            refine Go.step (fun _ k => XS.istore X16.here hx rfl (hb hby d2_136) rfl (l' := #[.val (.int p0), .val (.int p1), .val (.int p2), .val (.int p3), .val (.int p4), .val (.int (3 : Int32)), .val (.int vv2), .val (.int (2048 : Int32))]) rfl k) ?_
            show Go _ _ _ _ _ _ _ (T16.setTop (mkF m 138 #[.val (.int p0), .val (.int p1), .val (.int p2), .val (.int p3), .val (.int p4), .val (.int (3 : Int32)), .val (.int vv2), .val (.int (2048 : Int32))] []))
            refine Go.step (fun _ k => XS.iload X16.here hx rfl (hb hby d2_138) rfl  k) ?_
            show Go _ _ _ _ _ _ _ (T16.setTop (mkF m 140 #[.val (.int p0), .val (.int p1), .val (.int p2), .val (.int p3), .val (.int p4), .val (.int (3 : Int32)), .val (.int vv2), .val (.int (2048 : Int32))] [(.int vv2)]))
            refine Go.step (fun _ k => XS.iload X16.here hx rfl (hb hby d2_140) rfl  k) ?_
            show Go _ _ _ _ _ _ _ (T16.setTop (mkF m 142 #[.val (.int p0), .val (.int p1), .val (.int p2), .val (.int p3), .val (.int p4), .val (.int (3 : Int32)), .val (.int vv2), .val (.int (2048 : Int32))] [(.int (3 : Int32)), (.int vv2)]))
            refine Go.step (fun _ k => XS.iconst X16.here hx rfl (hb hby d2_142) k) ?_
            show Go _ _ _ _ _ _ _ (T16.setTop (mkF m 143 #[.val (.int p0), .val (.int p1), .val (.int p2), .val (.int p3), .val (.int p4), .val (.int (3 : Int32)), .val (.int vv2), .val (.int (2048 : Int32))] [(.int (2 : Int32)), (.int (3 : Int32)), (.int vv2)]))
            refine Go.step (fun _ k => XS.isub X16.here hx rfl (hb hby d2_143) rfl k) ?_
            show Go _ _ _ _ _ _ _ (T16.setTop (mkF m 144 #[.val (.int p0), .val (.int p1), .val (.int p2), .val (.int p3), .val (.int p4), .val (.int (3 : Int32)), .val (.int vv2), .val (.int (2048 : Int32))] [(.int (1 : Int32)), (.int vv2)]))
            refine Go.step (fun _ k => XS.iload X16.here hx rfl (hb hby d2_144) rfl  k) ?_
            show Go _ _ _ _ _ _ _ (T16.setTop (mkF m 146 #[.val (.int p0), .val (.int p1), .val (.int p2), .val (.int p3), .val (.int p4), .val (.int (3 : Int32)), .val (.int vv2), .val (.int (2048 : Int32))] [(.int (2048 : Int32)), (.int (1 : Int32)), (.int vv2)]))
            have pq17 : (1 : Int32) = (1 : Int32) := rfl
            have pq18 : 0 ≤ vv2.toInt ∧ vv2.toInt < 32768 := (by clear kc; omega)
            have pq19 : 0 ≤ (2048 : Int32).toInt ∧ (2048 : Int32).toInt ≤ 65536 := (by decide)
            obtain ⟨_, _, ⟨T20, L20, k20, n20⟩, -, X20, ⟨Lc20, hQ20, l20, y20, z20⟩, st20⟩ := Jvm.LawKit.callS X16 hx (y := (⟨"com/example/omniform/omniform/Utf8MeasurePinLaw", "viable", "(III)Z"⟩ : MethodName)) hown (mvT hZ (hw _ (List.mem_of_getElem? (i := 9) rfl))) (mvT hZ (hw _ (List.mem_of_getElem? (i := 10) rfl))) (mvT hZ (hw _ (List.mem_of_getElem? (i := 7) rfl))) (mvT hZ (hw _ (List.mem_of_getElem? (i := 11) rfl))) (by decide) (backOf (W := 0) (rmv1 l Z aZ hw [] vv2 (1 : Int32) (2048 : Int32) h0 n0 Z0 pq17 pq18 pq19) hZ (hw _ (List.mem_of_getElem? (i := 11) rfl)) (hw _ (List.mem_of_getElem? (i := 7) rfl)) (by decide) (by decide)) (g := (mkF m 146 #[.val (.int p0), .val (.int p1), .val (.int p2), .val (.int p3), .val (.int p4), .val (.int (3 : Int32)), .val (.int vv2), .val (.int (2048 : Int32))] [(.int (2048 : Int32)), (.int (1 : Int32)), (.int vv2)])) rfl (by rw [hml]; rfl) (argsL := [(.int vv2), (.int (1 : Int32)), (.int (2048 : Int32))]) (rest := []) (lenOf pd_1 rfl) rfl (by show 2 * 0 + _ ≤ _; exact Nat.le_of_eq rfl) (hb hby d2_146) (fun _ _ => ⟨rfl, e16, (by decide : 0 + 0 ≤ _), (by decide : 0 + 0 ≤ _)⟩)
            dsimp only [Pt.U, Pt.locs, Pt.cells, Pt.slots] at X20 l20 y20 z20 st20 hQ20
            subst l20 y20 z20
            obtain ⟨w_20, rfl, Nq20, e20, u20_0⟩ := hQ20
            have N20 := Fr.app N16 Nq20
            refine Go.step st20 ?_
            have s2 : (w_20 = 0 ↔ ((p0.toInt = 224 ∧ p1.toInt < 160) ∨ (p0.toInt = 237 ∧ 160 ≤ p1.toInt))) := by
              have g := u20_0
              unfold own_Vi at g
              simp only [own_i_128, own_i_2048, own_i_65536] at g
              simp only [← Int32.toInt_inj, own_i_0]
              clear kc
              omega
            show Go _ _ _ _ _ _ _ (T20.setTop (mkF m 149 #[.val (.int p0), .val (.int p1), .val (.int p2), .val (.int p3), .val (.int p4), .val (.int (3 : Int32)), .val (.int vv2), .val (.int (2048 : Int32))] [(.int w_20)]))
            by_cases hc149 : w_20 = (0 : Int32)
            · skip
              refine Go.step (fun _ k => XS.ifNo X20.here hx rfl (hb hby d2_149) rfl ((if0 _ _).trans (teq hc149).2) k) ?_
              show Go _ _ _ _ _ _ _ (T20.setTop (mkF m 152 #[.val (.int p0), .val (.int p1), .val (.int p2), .val (.int p3), .val (.int p4), .val (.int (3 : Int32)), .val (.int vv2), .val (.int (2048 : Int32))] []))
              refine Go.step (fun _ k => XS.iconst X20.here hx rfl (hb hby d2_152) k) ?_
              show Go _ _ _ _ _ _ _ (T20.setTop (mkF m 153 #[.val (.int p0), .val (.int p1), .val (.int p2), .val (.int p3), .val (.int p4), .val (.int (3 : Int32)), .val (.int vv2), .val (.int (2048 : Int32))] [(.int (-1 : Int32))]))
              refine Go.retI X20 hx Bd.returns hlk (hb hby d2_153) ?_ (by decide) (by decide)
              rw [e20]
              exact ⟨(congrArg (fun z => some (Value.int z)) (own_E3c kl (own_nav2 hc114) tc1 (s2.mp hc149))), N20, rfl⟩
            · skip
              refine Go.step (fun _ k => XS.ifYes X20.here hx rfl (pc0 := 149) (pc' := 154) rfl (hb hby d2_149) rfl ((if0 _ _).trans (feq hc149).2) (by decide) (by decide) k) ?_
              have t2 : ¬ ((p0.toInt = 224 ∧ p1.toInt < 160) ∨ (p0.toInt = 237 ∧ 160 ≤ p1.toInt)) := fun q => hc149 (s2.mpr q)
              show Go _ _ _ _ _ _ _ (T20.setTop (mkF m 154 #[.val (.int p0), .val (.int p1), .val (.int p2), .val (.int p3), .val (.int p4), .val (.int (3 : Int32)), .val (.int vv2), .val (.int (2048 : Int32))] []))
              refine Go.step (fun _ k => XS.iload X20.here hx rfl (hb hby d2_154) rfl  k) ?_
              show Go _ _ _ _ _ _ _ (T20.setTop (mkF m 156 #[.val (.int p0), .val (.int p1), .val (.int p2), .val (.int p3), .val (.int p4), .val (.int (3 : Int32)), .val (.int vv2), .val (.int (2048 : Int32))] [(.int (3 : Int32))]))
              refine Go.step (fun _ k => XS.iconst X20.here hx rfl (hb hby d2_156) k) ?_
              show Go _ _ _ _ _ _ _ (T20.setTop (mkF m 157 #[.val (.int p0), .val (.int p1), .val (.int p2), .val (.int p3), .val (.int p4), .val (.int (3 : Int32)), .val (.int vv2), .val (.int (2048 : Int32))] [(.int (2 : Int32)), (.int (3 : Int32))]))
              have hc157 : ¬ ((3 : Int32) = (2 : Int32)) := by decide
              refine Go.step (fun _ k => XS.icmpYes X20.here hx rfl (pc0 := 157) (pc' := 162) rfl (hb hby d2_157) rfl (feq hc157).2 (by decide) (by decide) k) ?_
              show Go _ _ _ _ _ _ _ (T20.setTop (mkF m 162 #[.val (.int p0), .val (.int p1), .val (.int p2), .val (.int p3), .val (.int p4), .val (.int (3 : Int32)), .val (.int vv2), .val (.int (2048 : Int32))] []))
              refine Go.step (fun _ k => XS.iload X20.here hx rfl (hb hby d2_162) rfl  k) ?_
              show Go _ _ _ _ _ _ _ (T20.setTop (mkF m 164 #[.val (.int p0), .val (.int p1), .val (.int p2), .val (.int p3), .val (.int p4), .val (.int (3 : Int32)), .val (.int vv2), .val (.int (2048 : Int32))] [(.int p4)]))
              refine Go.step (fun _ k => XS.iconst X20.here hx rfl (hb hby d2_164) k) ?_
              show Go _ _ _ _ _ _ _ (T20.setTop (mkF m 165 #[.val (.int p0), .val (.int p1), .val (.int p2), .val (.int p3), .val (.int p4), .val (.int (3 : Int32)), .val (.int vv2), .val (.int (2048 : Int32))] [(.int (3 : Int32)), (.int p4)]))
              by_cases hc165 : p4 < (3 : Int32)
              · skip
                refine Go.step (fun _ k => XS.icmpYes X20.here hx rfl (pc0 := 165) (pc' := 175) rfl (hb hby d2_165) rfl (tlt hc165).1 (by decide) (by decide) k) ?_
                show Go _ _ _ _ _ _ _ (T20.setTop (mkF m 175 #[.val (.int p0), .val (.int p1), .val (.int p2), .val (.int p3), .val (.int p4), .val (.int (3 : Int32)), .val (.int vv2), .val (.int (2048 : Int32))] []))
                refine Go.step (fun _ k => XS.bipush X20.here hx rfl (hb hby d2_175) k) ?_
                show Go _ _ _ _ _ _ _ (T20.setTop (mkF m 177 #[.val (.int p0), .val (.int p1), .val (.int p2), .val (.int p3), .val (.int p4), .val (.int (3 : Int32)), .val (.int vv2), .val (.int (2048 : Int32))] [(.int (-2 : Int32))]))
                refine Go.retI X20 hx Bd.returns hlk (hb hby d2_177) ?_ (by decide) (by decide)
                rw [e20]
                exact ⟨(congrArg (fun z => some (Value.int z)) (own_E3d kl (own_nav2 hc114) tc1 t2 (Or.inl (own_av3 hc165)))), N20, rfl⟩
              · skip
                refine Go.step (fun _ k => XS.icmpNo X20.here hx rfl (hb hby d2_165) rfl (flt hc165).1 k) ?_
                show Go _ _ _ _ _ _ _ (T20.setTop (mkF m 168 #[.val (.int p0), .val (.int p1), .val (.int p2), .val (.int p3), .val (.int p4), .val (.int (3 : Int32)), .val (.int vv2), .val (.int (2048 : Int32))] []))
                refine Go.step (fun _ k => XS.iloadN X20.here hx rfl (hb hby d2_168) rfl  k) ?_
                show Go _ _ _ _ _ _ _ (T20.setTop (mkF m 169 #[.val (.int p0), .val (.int p1), .val (.int p2), .val (.int p3), .val (.int p4), .val (.int (3 : Int32)), .val (.int vv2), .val (.int (2048 : Int32))] [(.int p2)]))
                have pq21 : 0 ≤ p2.toInt ∧ p2.toInt ≤ 255 := hp2
                obtain ⟨_, _, ⟨T22, L22, k22, n22⟩, -, X22, ⟨Lc22, hQ22, l22, y22, z22⟩, st22⟩ := Jvm.LawKit.callS X20 hx (y := (⟨"com/example/omniform/omniform/Utf8MeasurePinLaw", "cont", "(I)Z"⟩ : MethodName)) hown (mvT hZ (hw _ (List.mem_of_getElem? (i := 21) rfl))) (mvT hZ (hw _ (List.mem_of_getElem? (i := 22) rfl))) (mvT hZ (hw _ (List.mem_of_getElem? (i := 7) rfl))) (mvT hZ (hw _ (List.mem_of_getElem? (i := 23) rfl))) (by decide) (backOf (W := 0) (rm6 l Z aZ hw [] p2 h0 n0 Z0 pq21) hZ (hw _ (List.mem_of_getElem? (i := 23) rfl)) (hw _ (List.mem_of_getElem? (i := 7) rfl)) (by decide) (by decide)) (g := (mkF m 169 #[.val (.int p0), .val (.int p1), .val (.int p2), .val (.int p3), .val (.int p4), .val (.int (3 : Int32)), .val (.int vv2), .val (.int (2048 : Int32))] [(.int p2)])) rfl (by rw [hml]; rfl) (argsL := [(.int p2)]) (rest := []) (lenOf pd_2 rfl) rfl (by show 2 * 0 + _ ≤ _; exact Nat.le_of_eq rfl) (hb hby d2_169) (fun _ _ => ⟨rfl, e20, (by decide : 0 + 0 ≤ _), (by decide : 0 + 0 ≤ _)⟩)
                dsimp only [Pt.U, Pt.locs, Pt.cells, Pt.slots] at X22 l22 y22 z22 st22 hQ22
                subst l22 y22 z22
                obtain ⟨w_22, rfl, Nq22, e22, u22_0⟩ := hQ22
                have N22 := Fr.app N20 Nq22
                refine Go.step st22 ?_
                have sc2 : (w_22 = 0 ↔ ¬ (128 ≤ p2.toInt ∧ p2.toInt < 192)) := by
                  have g := u22_0
                  simp only [← Int32.toInt_inj, own_i_0]
                  omega
                show Go _ _ _ _ _ _ _ (T22.setTop (mkF m 172 #[.val (.int p0), .val (.int p1), .val (.int p2), .val (.int p3), .val (.int p4), .val (.int (3 : Int32)), .val (.int vv2), .val (.int (2048 : Int32))] [(.int w_22)]))
                by_cases hc172 : w_22 = (0 : Int32)
                · skip
                  refine Go.step (fun _ k => XS.ifNo X22.here hx rfl (hb hby d2_172) rfl ((if0 _ _).trans (teq hc172).2) k) ?_
                  show Go _ _ _ _ _ _ _ (T22.setTop (mkF m 175 #[.val (.int p0), .val (.int p1), .val (.int p2), .val (.int p3), .val (.int p4), .val (.int (3 : Int32)), .val (.int vv2), .val (.int (2048 : Int32))] []))
                  refine Go.step (fun _ k => XS.bipush X22.here hx rfl (hb hby d2_175) k) ?_
                  show Go _ _ _ _ _ _ _ (T22.setTop (mkF m 177 #[.val (.int p0), .val (.int p1), .val (.int p2), .val (.int p3), .val (.int p4), .val (.int (3 : Int32)), .val (.int vv2), .val (.int (2048 : Int32))] [(.int (-2 : Int32))]))
                  refine Go.retI X22 hx Bd.returns hlk (hb hby d2_177) ?_ (by decide) (by decide)
                  rw [e22]
                  exact ⟨(congrArg (fun z => some (Value.int z)) (own_E3d kl (own_nav2 hc114) tc1 t2 (Or.inr (sc2.mp hc172)))), N22, rfl⟩
                · skip
                  refine Go.step (fun _ k => XS.ifYes X22.here hx rfl (pc0 := 172) (pc' := 178) rfl (hb hby d2_172) rfl ((if0 _ _).trans (feq hc172).2) (by decide) (by decide) k) ?_
                  have tc2 := Decidable.not_not.mp (fun q => hc172 (sc2.mpr q))
                  show Go _ _ _ _ _ _ _ (T22.setTop (mkF m 178 #[.val (.int p0), .val (.int p1), .val (.int p2), .val (.int p3), .val (.int p4), .val (.int (3 : Int32)), .val (.int vv2), .val (.int (2048 : Int32))] []))
                  refine Go.step (fun _ k => XS.iload X22.here hx rfl (hb hby d2_178) rfl  k) ?_
                  show Go _ _ _ _ _ _ _ (T22.setTop (mkF m 180 #[.val (.int p0), .val (.int p1), .val (.int p2), .val (.int p3), .val (.int p4), .val (.int (3 : Int32)), .val (.int vv2), .val (.int (2048 : Int32))] [(.int vv2)]))
                  refine Go.step (fun _ k => XS.bipush X22.here hx rfl (hb hby d2_180) k) ?_
                  show Go _ _ _ _ _ _ _ (T22.setTop (mkF m 182 #[.val (.int p0), .val (.int p1), .val (.int p2), .val (.int p3), .val (.int p4), .val (.int (3 : Int32)), .val (.int vv2), .val (.int (2048 : Int32))] [(.int (6 : Int32)), (.int vv2)]))
                  refine Go.step (fun _ k => XS.ishl X22.here hx rfl (hb hby d2_182) rfl k) ?_
                  show Go _ _ _ _ _ _ _ (T22.setTop (mkF m 183 #[.val (.int p0), .val (.int p1), .val (.int p2), .val (.int p3), .val (.int p4), .val (.int (3 : Int32)), .val (.int vv2), .val (.int (2048 : Int32))] [(.int (vv2 <<< ((6 : Int32) &&& 31)))]))
                  refine Go.step (fun _ k => XS.iloadN X22.here hx rfl (hb hby d2_183) rfl  k) ?_
                  show Go _ _ _ _ _ _ _ (T22.setTop (mkF m 184 #[.val (.int p0), .val (.int p1), .val (.int p2), .val (.int p3), .val (.int p4), .val (.int (3 : Int32)), .val (.int vv2), .val (.int (2048 : Int32))] [(.int p2), (.int (vv2 <<< ((6 : Int32) &&& 31)))]))
                  refine Go.step (fun _ k => XS.bipush X22.here hx rfl (hb hby d2_184) k) ?_
                  show Go _ _ _ _ _ _ _ (T22.setTop (mkF m 186 #[.val (.int p0), .val (.int p1), .val (.int p2), .val (.int p3), .val (.int p4), .val (.int (3 : Int32)), .val (.int vv2), .val (.int (2048 : Int32))] [(.int (63 : Int32)), (.int p2), (.int (vv2 <<< ((6 : Int32) &&& 31)))]))
                  refine Go.step (fun _ k => XS.iand X22.here hx rfl (hb hby d2_186) rfl k) ?_
                  show Go _ _ _ _ _ _ _ (T22.setTop (mkF m 187 #[.val (.int p0), .val (.int p1), .val (.int p2), .val (.int p3), .val (.int p4), .val (.int (3 : Int32)), .val (.int vv2), .val (.int (2048 : Int32))] [(.int (p2 &&& (63 : Int32))), (.int (vv2 <<< ((6 : Int32) &&& 31)))]))
                  refine Go.step (fun _ k => XS.ior X22.here hx rfl (hb hby d2_187) rfl k) ?_
                  show Go _ _ _ _ _ _ _ (T22.setTop (mkF m 188 #[.val (.int p0), .val (.int p1), .val (.int p2), .val (.int p3), .val (.int p4), .val (.int (3 : Int32)), .val (.int vv2), .val (.int (2048 : Int32))] [(.int ((vv2 <<< ((6 : Int32) &&& 31)) ||| (p2 &&& (63 : Int32))))]))
                  obtain ⟨vv3, q_vv3⟩ : ∃ z : Int32, z = ((vv2 <<< ((6 : Int32) &&& 31)) ||| (p2 &&& (63 : Int32))) := ⟨_, rfl⟩
                  rw [← q_vv3]
                  have hvv3 : vv3.toInt = vv2.toInt * 64 + p2.toInt % 64 := by rw [q_vv3]; exact own_shl _ _ (by omega) (by omega)
                  show Go _ _ _ _ _ _ _ (T22.setTop (mkF m 188 #[.val (.int p0), .val (.int p1), .val (.int p2), .val (.int p3), .val (.int p4), .val (.int (3 : Int32)), .val (.int vv2), .val (.int (2048 : Int32))] [(.int vv3)]))
                  refine Go.step (fun _ k => XS.istore X22.here hx rfl (hb hby d2_188) rfl (l' := #[.val (.int p0), .val (.int p1), .val (.int p2), .val (.int p3), .val (.int p4), .val (.int (3 : Int32)), .val (.int vv3), .val (.int (2048 : Int32))]) rfl k) ?_
                  show Go _ _ _ _ _ _ _ (T22.setTop (mkF m 190 #[.val (.int p0), .val (.int p1), .val (.int p2), .val (.int p3), .val (.int p4), .val (.int (3 : Int32)), .val (.int vv3), .val (.int (2048 : Int32))] []))
                  refine Go.step (fun _ k => XS.iload X22.here hx rfl (hb hby d2_190) rfl  k) ?_
                  show Go _ _ _ _ _ _ _ (T22.setTop (mkF m 192 #[.val (.int p0), .val (.int p1), .val (.int p2), .val (.int p3), .val (.int p4), .val (.int (3 : Int32)), .val (.int vv3), .val (.int (2048 : Int32))] [(.int vv3)]))
                  refine Go.step (fun _ k => XS.iload X22.here hx rfl (hb hby d2_192) rfl  k) ?_
                  show Go _ _ _ _ _ _ _ (T22.setTop (mkF m 194 #[.val (.int p0), .val (.int p1), .val (.int p2), .val (.int p3), .val (.int p4), .val (.int (3 : Int32)), .val (.int vv3), .val (.int (2048 : Int32))] [(.int (3 : Int32)), (.int vv3)]))
                  refine Go.step (fun _ k => XS.iconst X22.here hx rfl (hb hby d2_194) k) ?_
                  show Go _ _ _ _ _ _ _ (T22.setTop (mkF m 195 #[.val (.int p0), .val (.int p1), .val (.int p2), .val (.int p3), .val (.int p4), .val (.int (3 : Int32)), .val (.int vv3), .val (.int (2048 : Int32))] [(.int (3 : Int32)), (.int (3 : Int32)), (.int vv3)]))
                  refine Go.step (fun _ k => XS.isub X22.here hx rfl (hb hby d2_195) rfl k) ?_
                  show Go _ _ _ _ _ _ _ (T22.setTop (mkF m 196 #[.val (.int p0), .val (.int p1), .val (.int p2), .val (.int p3), .val (.int p4), .val (.int (3 : Int32)), .val (.int vv3), .val (.int (2048 : Int32))] [(.int (0 : Int32)), (.int vv3)]))
                  refine Go.step (fun _ k => XS.iload X22.here hx rfl (hb hby d2_196) rfl  k) ?_
                  show Go _ _ _ _ _ _ _ (T22.setTop (mkF m 198 #[.val (.int p0), .val (.int p1), .val (.int p2), .val (.int p3), .val (.int p4), .val (.int (3 : Int32)), .val (.int vv3), .val (.int (2048 : Int32))] [(.int (2048 : Int32)), (.int (0 : Int32)), (.int vv3)]))
                  have pq23 : (0 : Int32) = (0 : Int32) := rfl
                  have pq24 : 0 ≤ vv3.toInt ∧ vv3.toInt < 2097152 := (by clear kc; omega)
                  have pq25 : 0 ≤ (2048 : Int32).toInt ∧ (2048 : Int32).toInt ≤ 65536 := (by decide)
                  obtain ⟨_, _, ⟨T26, L26, k26, n26⟩, -, X26, ⟨Lc26, hQ26, l26, y26, z26⟩, st26⟩ := Jvm.LawKit.callS X22 hx (y := (⟨"com/example/omniform/omniform/Utf8MeasurePinLaw", "viable", "(III)Z"⟩ : MethodName)) hown (mvT hZ (hw _ (List.mem_of_getElem? (i := 9) rfl))) (mvT hZ (hw _ (List.mem_of_getElem? (i := 10) rfl))) (mvT hZ (hw _ (List.mem_of_getElem? (i := 7) rfl))) (mvT hZ (hw _ (List.mem_of_getElem? (i := 11) rfl))) (by decide) (backOf (W := 0) (rmv0 l Z aZ hw [] vv3 (0 : Int32) (2048 : Int32) h0 n0 Z0 pq23 pq24 pq25) hZ (hw _ (List.mem_of_getElem? (i := 11) rfl)) (hw _ (List.mem_of_getElem? (i := 7) rfl)) (by decide) (by decide)) (g := (mkF m 198 #[.val (.int p0), .val (.int p1), .val (.int p2), .val (.int p3), .val (.int p4), .val (.int (3 : Int32)), .val (.int vv3), .val (.int (2048 : Int32))] [(.int (2048 : Int32)), (.int (0 : Int32)), (.int vv3)])) rfl (by rw [hml]; rfl) (argsL := [(.int vv3), (.int (0 : Int32)), (.int (2048 : Int32))]) (rest := []) (lenOf pd_1 rfl) rfl (by show 2 * 0 + _ ≤ _; exact Nat.le_of_eq rfl) (hb hby d2_198) (fun _ _ => ⟨rfl, e22, (by decide : 0 + 0 ≤ _), (by decide : 0 + 0 ≤ _)⟩)
                  dsimp only [Pt.U, Pt.locs, Pt.cells, Pt.slots] at X26 l26 y26 z26 st26 hQ26
                  subst l26 y26 z26
                  obtain ⟨w_26, rfl, Nq26, e26, u26_0⟩ := hQ26
                  have N26 := Fr.app N22 Nq26
                  refine Go.step st26 ?_
                  have s3 : ¬ w_26 = 0 := by
                    have g := u26_0
                    unfold own_Vi at g
                    simp only [own_i_128, own_i_2048, own_i_65536] at g
                    simp only [← Int32.toInt_inj, own_i_0]
                    clear kc
                    omega
                  show Go _ _ _ _ _ _ _ (T26.setTop (mkF m 201 #[.val (.int p0), .val (.int p1), .val (.int p2), .val (.int p3), .val (.int p4), .val (.int (3 : Int32)), .val (.int vv3), .val (.int (2048 : Int32))] [(.int w_26)]))
                  have hc201 : ¬ (w_26 = (0 : Int32)) := s3
                  refine Go.step (fun _ k => XS.ifYes X26.here hx rfl (pc0 := 201) (pc' := 207) rfl (hb hby d2_201) rfl ((if0 _ _).trans (feq hc201).2) (by decide) (by decide) k) ?_
                  show Go _ _ _ _ _ _ _ (T26.setTop (mkF m 207 #[.val (.int p0), .val (.int p1), .val (.int p2), .val (.int p3), .val (.int p4), .val (.int (3 : Int32)), .val (.int vv3), .val (.int (2048 : Int32))] []))
                  refine Go.step (fun _ k => XS.iload X26.here hx rfl (hb hby d2_207) rfl  k) ?_
                  show Go _ _ _ _ _ _ _ (T26.setTop (mkF m 209 #[.val (.int p0), .val (.int p1), .val (.int p2), .val (.int p3), .val (.int p4), .val (.int (3 : Int32)), .val (.int vv3), .val (.int (2048 : Int32))] [(.int (3 : Int32))]))
                  refine Go.step (fun _ k => XS.iconst X26.here hx rfl (hb hby d2_209) k) ?_
                  show Go _ _ _ _ _ _ _ (T26.setTop (mkF m 210 #[.val (.int p0), .val (.int p1), .val (.int p2), .val (.int p3), .val (.int p4), .val (.int (3 : Int32)), .val (.int vv3), .val (.int (2048 : Int32))] [(.int (3 : Int32)), (.int (3 : Int32))]))
                  have hc210 : (3 : Int32) = (3 : Int32) := by decide
                  refine Go.step (fun _ k => XS.icmpNo X26.here hx rfl (hb hby d2_210) rfl (teq hc210).2 k) ?_
                  show Go _ _ _ _ _ _ _ (T26.setTop (mkF m 213 #[.val (.int p0), .val (.int p1), .val (.int p2), .val (.int p3), .val (.int p4), .val (.int (3 : Int32)), .val (.int vv3), .val (.int (2048 : Int32))] []))
                  refine Go.step (fun _ k => XS.iconst X26.here hx rfl (hb hby d2_213) k) ?_
                  show Go _ _ _ _ _ _ _ (T26.setTop (mkF m 214 #[.val (.int p0), .val (.int p1), .val (.int p2), .val (.int p3), .val (.int p4), .val (.int (3 : Int32)), .val (.int vv3), .val (.int (2048 : Int32))] [(.int (3 : Int32))]))
                  refine Go.retI X26 hx Bd.returns hlk (hb hby d2_214) ?_ (by decide) (by decide)
                  rw [e26]
                  exact ⟨(congrArg (fun z => some (Value.int z)) (own_E3z kl (own_nav2 hc114) tc1 t2 (own_nav3 hc165) tc2)), N26, rfl⟩
      · skip
        refine Go.step (fun _ k => XS.icmpYes X0.here hx rfl (pc0 := 46) (pc' := 66) rfl (hb hby d2_46) rfl (feq hc46).2 (by decide) (by decide) k) ?_
        have k3 : ¬ (224 ≤ p0.toInt ∧ p0.toInt < 240) := by
          have z := hc46
          simp only [Int32.lt_iff_toInt_lt, ← Int32.toInt_inj, own_i_m3, own_i_m2, own_i_m1, own_i_0, own_i_1, own_i_2, own_i_3, own_i_4, own_i_5, own_i_7, own_i_15, own_i_31, own_i_63, own_i_128, own_i_143, own_i_144, own_i_159, own_i_160, own_i_191, own_i_192, own_i_194, own_i_223, own_i_224, own_i_225, own_i_237, own_i_239, own_i_240, own_i_241, own_i_243, own_i_244, own_i_248, own_i_255, own_i_2048, own_i_55296, own_i_57343, own_i_65536, own_i_1114111] at z
          exact fun y => z (kc.2.2.1.mpr y)
        show Go _ _ _ _ _ _ _ (s₁.setTop (mkF m 66 #[.val (.int p0), .val (.int p1), .val (.int p2), .val (.int p3), .val (.int p4), .unset, .unset, .unset] []))
        refine Go.step (fun _ k => XS.iloadN X0.here hx rfl (hb hby d2_66) rfl  k) ?_
        show Go _ _ _ _ _ _ _ (s₁.setTop (mkF m 67 #[.val (.int p0), .val (.int p1), .val (.int p2), .val (.int p3), .val (.int p4), .unset, .unset, .unset] [(.int p0)]))
        refine Go.step (fun _ k => XS.sipush X0.here hx rfl (hb hby d2_67) k) ?_
        show Go _ _ _ _ _ _ _ (s₁.setTop (mkF m 70 #[.val (.int p0), .val (.int p1), .val (.int p2), .val (.int p3), .val (.int p4), .unset, .unset, .unset] [(.int (248 : Int32)), (.int p0)]))
        refine Go.step (fun _ k => XS.iand X0.here hx rfl (hb hby d2_70) rfl k) ?_
        show Go _ _ _ _ _ _ _ (s₁.setTop (mkF m 71 #[.val (.int p0), .val (.int p1), .val (.int p2), .val (.int p3), .val (.int p4), .unset, .unset, .unset] [(.int (p0 &&& (248 : Int32)))]))
        refine Go.step (fun _ k => XS.sipush X0.here hx rfl (hb hby d2_71) k) ?_
        show Go _ _ _ _ _ _ _ (s₁.setTop (mkF m 74 #[.val (.int p0), .val (.int p1), .val (.int p2), .val (.int p3), .val (.int p4), .unset, .unset, .unset] [(.int (240 : Int32)), (.int (p0 &&& (248 : Int32)))]))
        by_cases hc74 : (p0 &&& (248 : Int32)) = (240 : Int32)
        · skip
          refine Go.step (fun _ k => XS.icmpNo X0.here hx rfl (hb hby d2_74) rfl (teq hc74).2 k) ?_
          show Go _ _ _ _ _ _ _ (s₁.setTop (mkF m 77 #[.val (.int p0), .val (.int p1), .val (.int p2), .val (.int p3), .val (.int p4), .unset, .unset, .unset] []))
          refine Go.step (fun _ k => XS.iconst X0.here hx rfl (hb hby d2_77) k) ?_
          show Go _ _ _ _ _ _ _ (s₁.setTop (mkF m 78 #[.val (.int p0), .val (.int p1), .val (.int p2), .val (.int p3), .val (.int p4), .unset, .unset, .unset] [(.int (4 : Int32))]))
          refine Go.step (fun _ k => XS.istore X0.here hx rfl (hb hby d2_78) rfl (l' := #[.val (.int p0), .val (.int p1), .val (.int p2), .val (.int p3), .val (.int p4), .val (.int (4 : Int32)), .unset, .unset]) rfl k) ?_
          show Go _ _ _ _ _ _ _ (s₁.setTop (mkF m 80 #[.val (.int p0), .val (.int p1), .val (.int p2), .val (.int p3), .val (.int p4), .val (.int (4 : Int32)), .unset, .unset] []))
          refine Go.step (fun _ k => XS.iloadN X0.here hx rfl (hb hby d2_80) rfl  k) ?_
          show Go _ _ _ _ _ _ _ (s₁.setTop (mkF m 81 #[.val (.int p0), .val (.int p1), .val (.int p2), .val (.int p3), .val (.int p4), .val (.int (4 : Int32)), .unset, .unset] [(.int p0)]))
          refine Go.step (fun _ k => XS.bipush X0.here hx rfl (hb hby d2_81) k) ?_
          show Go _ _ _ _ _ _ _ (s₁.setTop (mkF m 83 #[.val (.int p0), .val (.int p1), .val (.int p2), .val (.int p3), .val (.int p4), .val (.int (4 : Int32)), .unset, .unset] [(.int (7 : Int32)), (.int p0)]))
          refine Go.step (fun _ k => XS.iand X0.here hx rfl (hb hby d2_83) rfl k) ?_
          show Go _ _ _ _ _ _ _ (s₁.setTop (mkF m 84 #[.val (.int p0), .val (.int p1), .val (.int p2), .val (.int p3), .val (.int p4), .val (.int (4 : Int32)), .unset, .unset] [(.int (p0 &&& (7 : Int32)))]))
          obtain ⟨vv1, q_vv1⟩ : ∃ z : Int32, z = (p0 &&& (7 : Int32)) := ⟨_, rfl⟩
          rw [← q_vv1]
          have hvv1 : vv1.toInt = p0.toInt % 8 := by rw [q_vv1]; exact own_7 p0
          show Go _ _ _ _ _ _ _ (s₁.setTop (mkF m 84 #[.val (.int p0), .val (.int p1), .val (.int p2), .val (.int p3), .val (.int p4), .val (.int (4 : Int32)), .unset, .unset] [(.int vv1)]))
          refine Go.step (fun _ k => XS.istore X0.here hx rfl (hb hby d2_84) rfl (l' := #[.val (.int p0), .val (.int p1), .val (.int p2), .val (.int p3), .val (.int p4), .val (.int (4 : Int32)), .val (.int vv1), .unset]) rfl k) ?_
          show Go _ _ _ _ _ _ _ (s₁.setTop (mkF m 86 #[.val (.int p0), .val (.int p1), .val (.int p2), .val (.int p3), .val (.int p4), .val (.int (4 : Int32)), .val (.int vv1), .unset] []))
          refine Go.step (X0.ldcInt hx hown (mvT hZ (hw _ (List.mem_of_getElem? (i := 24) rfl))) (g := (mkF m 86 #[.val (.int p0), .val (.int p1), .val (.int p2), .val (.int p3), .val (.int p4), .val (.int (4 : Int32)), .val (.int vv1), .unset] [])) rfl (hb hby d2_86)) ?_
          show Go _ _ _ _ _ _ _ (s₁.setTop (mkF m 88 #[.val (.int p0), .val (.int p1), .val (.int p2), .val (.int p3), .val (.int p4), .val (.int (4 : Int32)), .val (.int vv1), .unset] [(.int (65536 : Int32))]))
          refine Go.step (fun _ k => XS.istore X0.here hx rfl (hb hby d2_88) rfl (l' := #[.val (.int p0), .val (.int p1), .val (.int p2), .val (.int p3), .val (.int p4), .val (.int (4 : Int32)), .val (.int vv1), .val (.int (65536 : Int32))]) rfl k) ?_
          show Go _ _ _ _ _ _ _ (s₁.setTop (mkF m 90 #[.val (.int p0), .val (.int p1), .val (.int p2), .val (.int p3), .val (.int p4), .val (.int (4 : Int32)), .val (.int vv1), .val (.int (65536 : Int32))] []))
          refine Go.step (fun _ k => XS.goto X0.here hx rfl (pc0 := 90) (pc' := 95) rfl (hb hby d2_90) (by decide) (by decide) k) ?_
          have kl : 240 ≤ p0.toInt ∧ p0.toInt < 248 := by
            simp only [Int32.lt_iff_toInt_lt, ← Int32.toInt_inj, own_i_m3, own_i_m2, own_i_m1, own_i_0, own_i_1, own_i_2, own_i_3, own_i_4, own_i_5, own_i_7, own_i_15, own_i_31, own_i_63, own_i_128, own_i_143, own_i_144, own_i_159, own_i_160, own_i_191, own_i_192, own_i_194, own_i_223, own_i_224, own_i_225, own_i_237, own_i_239, own_i_240, own_i_241, own_i_243, own_i_244, own_i_248, own_i_255, own_i_2048, own_i_55296, own_i_57343, own_i_65536, own_i_1114111] at hc74
            exact kc.2.2.2.1.mp hc74
          show Go _ _ _ _ _ _ _ (s₁.setTop (mkF m 95 #[.val (.int p0), .val (.int p1), .val (.int p2), .val (.int p3), .val (.int p4), .val (.int (4 : Int32)), .val (.int vv1), .val (.int (65536 : Int32))] []))
          refine Go.step (fun _ k => XS.iload X0.here hx rfl (hb hby d2_95) rfl  k) ?_
          show Go _ _ _ _ _ _ _ (s₁.setTop (mkF m 97 #[.val (.int p0), .val (.int p1), .val (.int p2), .val (.int p3), .val (.int p4), .val (.int (4 : Int32)), .val (.int vv1), .val (.int (65536 : Int32))] [(.int vv1)]))
          refine Go.step (fun _ k => XS.iload X0.here hx rfl (hb hby d2_97) rfl  k) ?_
          show Go _ _ _ _ _ _ _ (s₁.setTop (mkF m 99 #[.val (.int p0), .val (.int p1), .val (.int p2), .val (.int p3), .val (.int p4), .val (.int (4 : Int32)), .val (.int vv1), .val (.int (65536 : Int32))] [(.int (4 : Int32)), (.int vv1)]))
          refine Go.step (fun _ k => XS.iconst X0.here hx rfl (hb hby d2_99) k) ?_
          show Go _ _ _ _ _ _ _ (s₁.setTop (mkF m 100 #[.val (.int p0), .val (.int p1), .val (.int p2), .val (.int p3), .val (.int p4), .val (.int (4 : Int32)), .val (.int vv1), .val (.int (65536 : Int32))] [(.int (1 : Int32)), (.int (4 : Int32)), (.int vv1)]))
          refine Go.step (fun _ k => XS.isub X0.here hx rfl (hb hby d2_100) rfl k) ?_
          show Go _ _ _ _ _ _ _ (s₁.setTop (mkF m 101 #[.val (.int p0), .val (.int p1), .val (.int p2), .val (.int p3), .val (.int p4), .val (.int (4 : Int32)), .val (.int vv1), .val (.int (65536 : Int32))] [(.int (3 : Int32)), (.int vv1)]))
          refine Go.step (fun _ k => XS.iload X0.here hx rfl (hb hby d2_101) rfl  k) ?_
          show Go _ _ _ _ _ _ _ (s₁.setTop (mkF m 103 #[.val (.int p0), .val (.int p1), .val (.int p2), .val (.int p3), .val (.int p4), .val (.int (4 : Int32)), .val (.int vv1), .val (.int (65536 : Int32))] [(.int (65536 : Int32)), (.int (3 : Int32)), (.int vv1)]))
          have pq27 : (3 : Int32) = (3 : Int32) := rfl
          have pq28 : 0 ≤ vv1.toInt ∧ vv1.toInt < 8 := (by clear kc; omega)
          have pq29 : 0 ≤ (65536 : Int32).toInt ∧ (65536 : Int32).toInt ≤ 65536 := (by decide)
          obtain ⟨_, _, ⟨T30, L30, k30, n30⟩, -, X30, ⟨Lc30, hQ30, l30, y30, z30⟩, st30⟩ := Jvm.LawKit.callS X0 hx (y := (⟨"com/example/omniform/omniform/Utf8MeasurePinLaw", "viable", "(III)Z"⟩ : MethodName)) hown (mvT hZ (hw _ (List.mem_of_getElem? (i := 9) rfl))) (mvT hZ (hw _ (List.mem_of_getElem? (i := 10) rfl))) (mvT hZ (hw _ (List.mem_of_getElem? (i := 7) rfl))) (mvT hZ (hw _ (List.mem_of_getElem? (i := 11) rfl))) (by decide) (backOf (W := 0) (rmv3 l Z aZ hw [] vv1 (3 : Int32) (65536 : Int32) h0 n0 Z0 pq27 pq28 pq29) hZ (hw _ (List.mem_of_getElem? (i := 11) rfl)) (hw _ (List.mem_of_getElem? (i := 7) rfl)) (by decide) (by decide)) (g := (mkF m 103 #[.val (.int p0), .val (.int p1), .val (.int p2), .val (.int p3), .val (.int p4), .val (.int (4 : Int32)), .val (.int vv1), .val (.int (65536 : Int32))] [(.int (65536 : Int32)), (.int (3 : Int32)), (.int vv1)])) rfl (by rw [hml]; rfl) (argsL := [(.int vv1), (.int (3 : Int32)), (.int (65536 : Int32))]) (rest := []) (lenOf pd_1 rfl) rfl (by show 2 * 0 + _ ≤ _; exact Nat.le_of_eq rfl) (hb hby d2_103) (fun _ _ => ⟨rfl, e0, (by decide : 0 + 0 ≤ _), (by decide : 0 + 0 ≤ _)⟩)
          dsimp only [Pt.U, Pt.locs, Pt.cells, Pt.slots] at X30 l30 y30 z30 st30 hQ30
          subst l30 y30 z30
          obtain ⟨w_30, rfl, Nq30, e30, u30_0⟩ := hQ30
          have N30 := Fr.app N0 Nq30
          refine Go.step st30 ?_
          have s1 : (w_30 = 0 ↔ (244 < p0.toInt)) := by
            have g := u30_0
            unfold own_Vi at g
            simp only [own_i_128, own_i_2048, own_i_65536] at g
            simp only [← Int32.toInt_inj, own_i_0]
            clear kc
            omega
          show Go _ _ _ _ _ _ _ (T30.setTop (mkF m 106 #[.val (.int p0), .val (.int p1), .val (.int p2), .val (.int p3), .val (.int p4), .val (.int (4 : Int32)), .val (.int vv1), .val (.int (65536 : Int32))] [(.int w_30)]))
          by_cases hc106 : w_30 = (0 : Int32)
          · skip
            refine Go.step (fun _ k => XS.ifNo X30.here hx rfl (hb hby d2_106) rfl ((if0 _ _).trans (teq hc106).2) k) ?_
            show Go _ _ _ _ _ _ _ (T30.setTop (mkF m 109 #[.val (.int p0), .val (.int p1), .val (.int p2), .val (.int p3), .val (.int p4), .val (.int (4 : Int32)), .val (.int vv1), .val (.int (65536 : Int32))] []))
            refine Go.step (fun _ k => XS.iconst X30.here hx rfl (hb hby d2_109) k) ?_
            show Go _ _ _ _ _ _ _ (T30.setTop (mkF m 110 #[.val (.int p0), .val (.int p1), .val (.int p2), .val (.int p3), .val (.int p4), .val (.int (4 : Int32)), .val (.int vv1), .val (.int (65536 : Int32))] [(.int (-1 : Int32))]))
            refine Go.retI X30 hx Bd.returns hlk (hb hby d2_110) ?_ (by decide) (by decide)
            rw [e30]
            exact ⟨(congrArg (fun z => some (Value.int z)) (own_E4a kl (s1.mp hc106))), N30, rfl⟩
          · skip
            refine Go.step (fun _ k => XS.ifYes X30.here hx rfl (pc0 := 106) (pc' := 111) rfl (hb hby d2_106) rfl ((if0 _ _).trans (feq hc106).2) (by decide) (by decide) k) ?_
            have t1 : ¬ (244 < p0.toInt) := fun q => hc106 (s1.mpr q)
            show Go _ _ _ _ _ _ _ (T30.setTop (mkF m 111 #[.val (.int p0), .val (.int p1), .val (.int p2), .val (.int p3), .val (.int p4), .val (.int (4 : Int32)), .val (.int vv1), .val (.int (65536 : Int32))] []))
            refine Go.step (fun _ k => XS.iload X30.here hx rfl (hb hby d2_111) rfl  k) ?_
            show Go _ _ _ _ _ _ _ (T30.setTop (mkF m 113 #[.val (.int p0), .val (.int p1), .val (.int p2), .val (.int p3), .val (.int p4), .val (.int (4 : Int32)), .val (.int vv1), .val (.int (65536 : Int32))] [(.int p4)]))
            refine Go.step (fun _ k => XS.iconst X30.here hx rfl (hb hby d2_113) k) ?_
            show Go _ _ _ _ _ _ _ (T30.setTop (mkF m 114 #[.val (.int p0), .val (.int p1), .val (.int p2), .val (.int p3), .val (.int p4), .val (.int (4 : Int32)), .val (.int vv1), .val (.int (65536 : Int32))] [(.int (2 : Int32)), (.int p4)]))
            by_cases hc114 : p4 < (2 : Int32)
            · skip
              refine Go.step (fun _ k => XS.icmpYes X30.here hx rfl (pc0 := 114) (pc' := 124) rfl (hb hby d2_114) rfl (tlt hc114).1 (by decide) (by decide) k) ?_
              show Go _ _ _ _ _ _ _ (T30.setTop (mkF m 124 #[.val (.int p0), .val (.int p1), .val (.int p2), .val (.int p3), .val (.int p4), .val (.int (4 : Int32)), .val (.int vv1), .val (.int (65536 : Int32))] []))
              refine Go.step (fun _ k => XS.iconst X30.here hx rfl (hb hby d2_124) k) ?_
              show Go _ _ _ _ _ _ _ (T30.setTop (mkF m 125 #[.val (.int p0), .val (.int p1), .val (.int p2), .val (.int p3), .val (.int p4), .val (.int (4 : Int32)), .val (.int vv1), .val (.int (65536 : Int32))] [(.int (-1 : Int32))]))
              refine Go.retI X30 hx Bd.returns hlk (hb hby d2_125) ?_ (by decide) (by decide)
              rw [e30]
              exact ⟨(congrArg (fun z => some (Value.int z)) (own_E4b kl t1 (Or.inl (own_av2 hc114)))), N30, rfl⟩
            · skip
              refine Go.step (fun _ k => XS.icmpNo X30.here hx rfl (hb hby d2_114) rfl (flt hc114).1 k) ?_
              show Go _ _ _ _ _ _ _ (T30.setTop (mkF m 117 #[.val (.int p0), .val (.int p1), .val (.int p2), .val (.int p3), .val (.int p4), .val (.int (4 : Int32)), .val (.int vv1), .val (.int (65536 : Int32))] []))
              refine Go.step (fun _ k => XS.iloadN X30.here hx rfl (hb hby d2_117) rfl  k) ?_
              show Go _ _ _ _ _ _ _ (T30.setTop (mkF m 118 #[.val (.int p0), .val (.int p1), .val (.int p2), .val (.int p3), .val (.int p4), .val (.int (4 : Int32)), .val (.int vv1), .val (.int (65536 : Int32))] [(.int p1)]))
              have pq31 : 0 ≤ p1.toInt ∧ p1.toInt ≤ 255 := hp1
              obtain ⟨_, _, ⟨T32, L32, k32, n32⟩, -, X32, ⟨Lc32, hQ32, l32, y32, z32⟩, st32⟩ := Jvm.LawKit.callS X30 hx (y := (⟨"com/example/omniform/omniform/Utf8MeasurePinLaw", "cont", "(I)Z"⟩ : MethodName)) hown (mvT hZ (hw _ (List.mem_of_getElem? (i := 21) rfl))) (mvT hZ (hw _ (List.mem_of_getElem? (i := 22) rfl))) (mvT hZ (hw _ (List.mem_of_getElem? (i := 7) rfl))) (mvT hZ (hw _ (List.mem_of_getElem? (i := 23) rfl))) (by decide) (backOf (W := 0) (rm6 l Z aZ hw [] p1 h0 n0 Z0 pq31) hZ (hw _ (List.mem_of_getElem? (i := 23) rfl)) (hw _ (List.mem_of_getElem? (i := 7) rfl)) (by decide) (by decide)) (g := (mkF m 118 #[.val (.int p0), .val (.int p1), .val (.int p2), .val (.int p3), .val (.int p4), .val (.int (4 : Int32)), .val (.int vv1), .val (.int (65536 : Int32))] [(.int p1)])) rfl (by rw [hml]; rfl) (argsL := [(.int p1)]) (rest := []) (lenOf pd_2 rfl) rfl (by show 2 * 0 + _ ≤ _; exact Nat.le_of_eq rfl) (hb hby d2_118) (fun _ _ => ⟨rfl, e30, (by decide : 0 + 0 ≤ _), (by decide : 0 + 0 ≤ _)⟩)
              dsimp only [Pt.U, Pt.locs, Pt.cells, Pt.slots] at X32 l32 y32 z32 st32 hQ32
              subst l32 y32 z32
              obtain ⟨w_32, rfl, Nq32, e32, u32_0⟩ := hQ32
              have N32 := Fr.app N30 Nq32
              refine Go.step st32 ?_
              have sc1 : (w_32 = 0 ↔ ¬ (128 ≤ p1.toInt ∧ p1.toInt < 192)) := by
                have g := u32_0
                simp only [← Int32.toInt_inj, own_i_0]
                omega
              show Go _ _ _ _ _ _ _ (T32.setTop (mkF m 121 #[.val (.int p0), .val (.int p1), .val (.int p2), .val (.int p3), .val (.int p4), .val (.int (4 : Int32)), .val (.int vv1), .val (.int (65536 : Int32))] [(.int w_32)]))
              by_cases hc121 : w_32 = (0 : Int32)
              · skip
                refine Go.step (fun _ k => XS.ifNo X32.here hx rfl (hb hby d2_121) rfl ((if0 _ _).trans (teq hc121).2) k) ?_
                show Go _ _ _ _ _ _ _ (T32.setTop (mkF m 124 #[.val (.int p0), .val (.int p1), .val (.int p2), .val (.int p3), .val (.int p4), .val (.int (4 : Int32)), .val (.int vv1), .val (.int (65536 : Int32))] []))
                refine Go.step (fun _ k => XS.iconst X32.here hx rfl (hb hby d2_124) k) ?_
                show Go _ _ _ _ _ _ _ (T32.setTop (mkF m 125 #[.val (.int p0), .val (.int p1), .val (.int p2), .val (.int p3), .val (.int p4), .val (.int (4 : Int32)), .val (.int vv1), .val (.int (65536 : Int32))] [(.int (-1 : Int32))]))
                refine Go.retI X32 hx Bd.returns hlk (hb hby d2_125) ?_ (by decide) (by decide)
                rw [e32]
                exact ⟨(congrArg (fun z => some (Value.int z)) (own_E4b kl t1 (Or.inr (sc1.mp hc121)))), N32, rfl⟩
              · skip
                refine Go.step (fun _ k => XS.ifYes X32.here hx rfl (pc0 := 121) (pc' := 126) rfl (hb hby d2_121) rfl ((if0 _ _).trans (feq hc121).2) (by decide) (by decide) k) ?_
                have tc1 := Decidable.not_not.mp (fun q => hc121 (sc1.mpr q))
                show Go _ _ _ _ _ _ _ (T32.setTop (mkF m 126 #[.val (.int p0), .val (.int p1), .val (.int p2), .val (.int p3), .val (.int p4), .val (.int (4 : Int32)), .val (.int vv1), .val (.int (65536 : Int32))] []))
                refine Go.step (fun _ k => XS.iload X32.here hx rfl (hb hby d2_126) rfl  k) ?_
                show Go _ _ _ _ _ _ _ (T32.setTop (mkF m 128 #[.val (.int p0), .val (.int p1), .val (.int p2), .val (.int p3), .val (.int p4), .val (.int (4 : Int32)), .val (.int vv1), .val (.int (65536 : Int32))] [(.int vv1)]))
                refine Go.step (fun _ k => XS.bipush X32.here hx rfl (hb hby d2_128) k) ?_
                show Go _ _ _ _ _ _ _ (T32.setTop (mkF m 130 #[.val (.int p0), .val (.int p1), .val (.int p2), .val (.int p3), .val (.int p4), .val (.int (4 : Int32)), .val (.int vv1), .val (.int (65536 : Int32))] [(.int (6 : Int32)), (.int vv1)]))
                refine Go.step (fun _ k => XS.ishl X32.here hx rfl (hb hby d2_130) rfl k) ?_
                show Go _ _ _ _ _ _ _ (T32.setTop (mkF m 131 #[.val (.int p0), .val (.int p1), .val (.int p2), .val (.int p3), .val (.int p4), .val (.int (4 : Int32)), .val (.int vv1), .val (.int (65536 : Int32))] [(.int (vv1 <<< ((6 : Int32) &&& 31)))]))
                refine Go.step (fun _ k => XS.iloadN X32.here hx rfl (hb hby d2_131) rfl  k) ?_
                show Go _ _ _ _ _ _ _ (T32.setTop (mkF m 132 #[.val (.int p0), .val (.int p1), .val (.int p2), .val (.int p3), .val (.int p4), .val (.int (4 : Int32)), .val (.int vv1), .val (.int (65536 : Int32))] [(.int p1), (.int (vv1 <<< ((6 : Int32) &&& 31)))]))
                refine Go.step (fun _ k => XS.bipush X32.here hx rfl (hb hby d2_132) k) ?_
                show Go _ _ _ _ _ _ _ (T32.setTop (mkF m 134 #[.val (.int p0), .val (.int p1), .val (.int p2), .val (.int p3), .val (.int p4), .val (.int (4 : Int32)), .val (.int vv1), .val (.int (65536 : Int32))] [(.int (63 : Int32)), (.int p1), (.int (vv1 <<< ((6 : Int32) &&& 31)))]))
                refine Go.step (fun _ k => XS.iand X32.here hx rfl (hb hby d2_134) rfl k) ?_
                show Go _ _ _ _ _ _ _ (T32.setTop (mkF m 135 #[.val (.int p0), .val (.int p1), .val (.int p2), .val (.int p3), .val (.int p4), .val (.int (4 : Int32)), .val (.int vv1), .val (.int (65536 : Int32))] [(.int (p1 &&& (63 : Int32))), (.int (vv1 <<< ((6 : Int32) &&& 31)))]))
                refine Go.step (fun _ k => XS.ior X32.here hx rfl (hb hby d2_135) rfl k) ?_
                show Go _ _ _ _ _ _ _ (T32.setTop (mkF m 136 #[.val (.int p0), .val (.int p1), .val (.int p2), .val (.int p3), .val (.int p4), .val (.int (4 : Int32)), .val (.int vv1), .val (.int (65536 : Int32))] [(.int ((vv1 <<< ((6 : Int32) &&& 31)) ||| (p1 &&& (63 : Int32))))]))
                obtain ⟨vv2, q_vv2⟩ : ∃ z : Int32, z = ((vv1 <<< ((6 : Int32) &&& 31)) ||| (p1 &&& (63 : Int32))) := ⟨_, rfl⟩
                rw [← q_vv2]
                have hvv2 : vv2.toInt = vv1.toInt * 64 + p1.toInt % 64 := by rw [q_vv2]; exact own_shl _ _ (by omega) (by omega)
                show Go _ _ _ _ _ _ _ (T32.setTop (mkF m 136 #[.val (.int p0), .val (.int p1), .val (.int p2), .val (.int p3), .val (.int p4), .val (.int (4 : Int32)), .val (.int vv1), .val (.int (65536 : Int32))] [(.int vv2)]))
                refine Go.step (fun _ k => XS.istore X32.here hx rfl (hb hby d2_136) rfl (l' := #[.val (.int p0), .val (.int p1), .val (.int p2), .val (.int p3), .val (.int p4), .val (.int (4 : Int32)), .val (.int vv2), .val (.int (65536 : Int32))]) rfl k) ?_
                show Go _ _ _ _ _ _ _ (T32.setTop (mkF m 138 #[.val (.int p0), .val (.int p1), .val (.int p2), .val (.int p3), .val (.int p4), .val (.int (4 : Int32)), .val (.int vv2), .val (.int (65536 : Int32))] []))
                refine Go.step (fun _ k => XS.iload X32.here hx rfl (hb hby d2_138) rfl  k) ?_
                show Go _ _ _ _ _ _ _ (T32.setTop (mkF m 140 #[.val (.int p0), .val (.int p1), .val (.int p2), .val (.int p3), .val (.int p4), .val (.int (4 : Int32)), .val (.int vv2), .val (.int (65536 : Int32))] [(.int vv2)]))
                refine Go.step (fun _ k => XS.iload X32.here hx rfl (hb hby d2_140) rfl  k) ?_
                show Go _ _ _ _ _ _ _ (T32.setTop (mkF m 142 #[.val (.int p0), .val (.int p1), .val (.int p2), .val (.int p3), .val (.int p4), .val (.int (4 : Int32)), .val (.int vv2), .val (.int (65536 : Int32))] [(.int (4 : Int32)), (.int vv2)]))
                refine Go.step (fun _ k => XS.iconst X32.here hx rfl (hb hby d2_142) k) ?_
                show Go _ _ _ _ _ _ _ (T32.setTop (mkF m 143 #[.val (.int p0), .val (.int p1), .val (.int p2), .val (.int p3), .val (.int p4), .val (.int (4 : Int32)), .val (.int vv2), .val (.int (65536 : Int32))] [(.int (2 : Int32)), (.int (4 : Int32)), (.int vv2)]))
                refine Go.step (fun _ k => XS.isub X32.here hx rfl (hb hby d2_143) rfl k) ?_
                show Go _ _ _ _ _ _ _ (T32.setTop (mkF m 144 #[.val (.int p0), .val (.int p1), .val (.int p2), .val (.int p3), .val (.int p4), .val (.int (4 : Int32)), .val (.int vv2), .val (.int (65536 : Int32))] [(.int (2 : Int32)), (.int vv2)]))
                refine Go.step (fun _ k => XS.iload X32.here hx rfl (hb hby d2_144) rfl  k) ?_
                show Go _ _ _ _ _ _ _ (T32.setTop (mkF m 146 #[.val (.int p0), .val (.int p1), .val (.int p2), .val (.int p3), .val (.int p4), .val (.int (4 : Int32)), .val (.int vv2), .val (.int (65536 : Int32))] [(.int (65536 : Int32)), (.int (2 : Int32)), (.int vv2)]))
                have pq33 : (2 : Int32) = (2 : Int32) := rfl
                have pq34 : 0 ≤ vv2.toInt ∧ vv2.toInt < 512 := (by clear kc; omega)
                have pq35 : 0 ≤ (65536 : Int32).toInt ∧ (65536 : Int32).toInt ≤ 65536 := (by decide)
                obtain ⟨_, _, ⟨T36, L36, k36, n36⟩, -, X36, ⟨Lc36, hQ36, l36, y36, z36⟩, st36⟩ := Jvm.LawKit.callS X32 hx (y := (⟨"com/example/omniform/omniform/Utf8MeasurePinLaw", "viable", "(III)Z"⟩ : MethodName)) hown (mvT hZ (hw _ (List.mem_of_getElem? (i := 9) rfl))) (mvT hZ (hw _ (List.mem_of_getElem? (i := 10) rfl))) (mvT hZ (hw _ (List.mem_of_getElem? (i := 7) rfl))) (mvT hZ (hw _ (List.mem_of_getElem? (i := 11) rfl))) (by decide) (backOf (W := 0) (rmv2 l Z aZ hw [] vv2 (2 : Int32) (65536 : Int32) h0 n0 Z0 pq33 pq34 pq35) hZ (hw _ (List.mem_of_getElem? (i := 11) rfl)) (hw _ (List.mem_of_getElem? (i := 7) rfl)) (by decide) (by decide)) (g := (mkF m 146 #[.val (.int p0), .val (.int p1), .val (.int p2), .val (.int p3), .val (.int p4), .val (.int (4 : Int32)), .val (.int vv2), .val (.int (65536 : Int32))] [(.int (65536 : Int32)), (.int (2 : Int32)), (.int vv2)])) rfl (by rw [hml]; rfl) (argsL := [(.int vv2), (.int (2 : Int32)), (.int (65536 : Int32))]) (rest := []) (lenOf pd_1 rfl) rfl (by show 2 * 0 + _ ≤ _; exact Nat.le_of_eq rfl) (hb hby d2_146) (fun _ _ => ⟨rfl, e32, (by decide : 0 + 0 ≤ _), (by decide : 0 + 0 ≤ _)⟩)
                dsimp only [Pt.U, Pt.locs, Pt.cells, Pt.slots] at X36 l36 y36 z36 st36 hQ36
                subst l36 y36 z36
                obtain ⟨w_36, rfl, Nq36, e36, u36_0⟩ := hQ36
                have N36 := Fr.app N32 Nq36
                refine Go.step st36 ?_
                have s2 : (w_36 = 0 ↔ ((p0.toInt = 240 ∧ p1.toInt < 144) ∨ (p0.toInt = 244 ∧ 144 ≤ p1.toInt))) := by
                  have g := u36_0
                  unfold own_Vi at g
                  simp only [own_i_128, own_i_2048, own_i_65536] at g
                  simp only [← Int32.toInt_inj, own_i_0]
                  clear kc
                  omega
                show Go _ _ _ _ _ _ _ (T36.setTop (mkF m 149 #[.val (.int p0), .val (.int p1), .val (.int p2), .val (.int p3), .val (.int p4), .val (.int (4 : Int32)), .val (.int vv2), .val (.int (65536 : Int32))] [(.int w_36)]))
                by_cases hc149 : w_36 = (0 : Int32)
                · skip
                  refine Go.step (fun _ k => XS.ifNo X36.here hx rfl (hb hby d2_149) rfl ((if0 _ _).trans (teq hc149).2) k) ?_
                  show Go _ _ _ _ _ _ _ (T36.setTop (mkF m 152 #[.val (.int p0), .val (.int p1), .val (.int p2), .val (.int p3), .val (.int p4), .val (.int (4 : Int32)), .val (.int vv2), .val (.int (65536 : Int32))] []))
                  refine Go.step (fun _ k => XS.iconst X36.here hx rfl (hb hby d2_152) k) ?_
                  show Go _ _ _ _ _ _ _ (T36.setTop (mkF m 153 #[.val (.int p0), .val (.int p1), .val (.int p2), .val (.int p3), .val (.int p4), .val (.int (4 : Int32)), .val (.int vv2), .val (.int (65536 : Int32))] [(.int (-1 : Int32))]))
                  refine Go.retI X36 hx Bd.returns hlk (hb hby d2_153) ?_ (by decide) (by decide)
                  rw [e36]
                  exact ⟨(congrArg (fun z => some (Value.int z)) (own_E4c kl t1 (own_nav2 hc114) tc1 (s2.mp hc149))), N36, rfl⟩
                · skip
                  refine Go.step (fun _ k => XS.ifYes X36.here hx rfl (pc0 := 149) (pc' := 154) rfl (hb hby d2_149) rfl ((if0 _ _).trans (feq hc149).2) (by decide) (by decide) k) ?_
                  have t2 : ¬ ((p0.toInt = 240 ∧ p1.toInt < 144) ∨ (p0.toInt = 244 ∧ 144 ≤ p1.toInt)) := fun q => hc149 (s2.mpr q)
                  show Go _ _ _ _ _ _ _ (T36.setTop (mkF m 154 #[.val (.int p0), .val (.int p1), .val (.int p2), .val (.int p3), .val (.int p4), .val (.int (4 : Int32)), .val (.int vv2), .val (.int (65536 : Int32))] []))
                  refine Go.step (fun _ k => XS.iload X36.here hx rfl (hb hby d2_154) rfl  k) ?_
                  show Go _ _ _ _ _ _ _ (T36.setTop (mkF m 156 #[.val (.int p0), .val (.int p1), .val (.int p2), .val (.int p3), .val (.int p4), .val (.int (4 : Int32)), .val (.int vv2), .val (.int (65536 : Int32))] [(.int (4 : Int32))]))
                  refine Go.step (fun _ k => XS.iconst X36.here hx rfl (hb hby d2_156) k) ?_
                  show Go _ _ _ _ _ _ _ (T36.setTop (mkF m 157 #[.val (.int p0), .val (.int p1), .val (.int p2), .val (.int p3), .val (.int p4), .val (.int (4 : Int32)), .val (.int vv2), .val (.int (65536 : Int32))] [(.int (2 : Int32)), (.int (4 : Int32))]))
                  have hc157 : ¬ ((4 : Int32) = (2 : Int32)) := by decide
                  refine Go.step (fun _ k => XS.icmpYes X36.here hx rfl (pc0 := 157) (pc' := 162) rfl (hb hby d2_157) rfl (feq hc157).2 (by decide) (by decide) k) ?_
                  show Go _ _ _ _ _ _ _ (T36.setTop (mkF m 162 #[.val (.int p0), .val (.int p1), .val (.int p2), .val (.int p3), .val (.int p4), .val (.int (4 : Int32)), .val (.int vv2), .val (.int (65536 : Int32))] []))
                  refine Go.step (fun _ k => XS.iload X36.here hx rfl (hb hby d2_162) rfl  k) ?_
                  show Go _ _ _ _ _ _ _ (T36.setTop (mkF m 164 #[.val (.int p0), .val (.int p1), .val (.int p2), .val (.int p3), .val (.int p4), .val (.int (4 : Int32)), .val (.int vv2), .val (.int (65536 : Int32))] [(.int p4)]))
                  refine Go.step (fun _ k => XS.iconst X36.here hx rfl (hb hby d2_164) k) ?_
                  show Go _ _ _ _ _ _ _ (T36.setTop (mkF m 165 #[.val (.int p0), .val (.int p1), .val (.int p2), .val (.int p3), .val (.int p4), .val (.int (4 : Int32)), .val (.int vv2), .val (.int (65536 : Int32))] [(.int (3 : Int32)), (.int p4)]))
                  by_cases hc165 : p4 < (3 : Int32)
                  · skip
                    refine Go.step (fun _ k => XS.icmpYes X36.here hx rfl (pc0 := 165) (pc' := 175) rfl (hb hby d2_165) rfl (tlt hc165).1 (by decide) (by decide) k) ?_
                    show Go _ _ _ _ _ _ _ (T36.setTop (mkF m 175 #[.val (.int p0), .val (.int p1), .val (.int p2), .val (.int p3), .val (.int p4), .val (.int (4 : Int32)), .val (.int vv2), .val (.int (65536 : Int32))] []))
                    refine Go.step (fun _ k => XS.bipush X36.here hx rfl (hb hby d2_175) k) ?_
                    show Go _ _ _ _ _ _ _ (T36.setTop (mkF m 177 #[.val (.int p0), .val (.int p1), .val (.int p2), .val (.int p3), .val (.int p4), .val (.int (4 : Int32)), .val (.int vv2), .val (.int (65536 : Int32))] [(.int (-2 : Int32))]))
                    refine Go.retI X36 hx Bd.returns hlk (hb hby d2_177) ?_ (by decide) (by decide)
                    rw [e36]
                    exact ⟨(congrArg (fun z => some (Value.int z)) (own_E4d kl t1 (own_nav2 hc114) tc1 t2 (Or.inl (own_av3 hc165)))), N36, rfl⟩
                  · skip
                    refine Go.step (fun _ k => XS.icmpNo X36.here hx rfl (hb hby d2_165) rfl (flt hc165).1 k) ?_
                    show Go _ _ _ _ _ _ _ (T36.setTop (mkF m 168 #[.val (.int p0), .val (.int p1), .val (.int p2), .val (.int p3), .val (.int p4), .val (.int (4 : Int32)), .val (.int vv2), .val (.int (65536 : Int32))] []))
                    refine Go.step (fun _ k => XS.iloadN X36.here hx rfl (hb hby d2_168) rfl  k) ?_
                    show Go _ _ _ _ _ _ _ (T36.setTop (mkF m 169 #[.val (.int p0), .val (.int p1), .val (.int p2), .val (.int p3), .val (.int p4), .val (.int (4 : Int32)), .val (.int vv2), .val (.int (65536 : Int32))] [(.int p2)]))
                    have pq37 : 0 ≤ p2.toInt ∧ p2.toInt ≤ 255 := hp2
                    obtain ⟨_, _, ⟨T38, L38, k38, n38⟩, -, X38, ⟨Lc38, hQ38, l38, y38, z38⟩, st38⟩ := Jvm.LawKit.callS X36 hx (y := (⟨"com/example/omniform/omniform/Utf8MeasurePinLaw", "cont", "(I)Z"⟩ : MethodName)) hown (mvT hZ (hw _ (List.mem_of_getElem? (i := 21) rfl))) (mvT hZ (hw _ (List.mem_of_getElem? (i := 22) rfl))) (mvT hZ (hw _ (List.mem_of_getElem? (i := 7) rfl))) (mvT hZ (hw _ (List.mem_of_getElem? (i := 23) rfl))) (by decide) (backOf (W := 0) (rm6 l Z aZ hw [] p2 h0 n0 Z0 pq37) hZ (hw _ (List.mem_of_getElem? (i := 23) rfl)) (hw _ (List.mem_of_getElem? (i := 7) rfl)) (by decide) (by decide)) (g := (mkF m 169 #[.val (.int p0), .val (.int p1), .val (.int p2), .val (.int p3), .val (.int p4), .val (.int (4 : Int32)), .val (.int vv2), .val (.int (65536 : Int32))] [(.int p2)])) rfl (by rw [hml]; rfl) (argsL := [(.int p2)]) (rest := []) (lenOf pd_2 rfl) rfl (by show 2 * 0 + _ ≤ _; exact Nat.le_of_eq rfl) (hb hby d2_169) (fun _ _ => ⟨rfl, e36, (by decide : 0 + 0 ≤ _), (by decide : 0 + 0 ≤ _)⟩)
                    dsimp only [Pt.U, Pt.locs, Pt.cells, Pt.slots] at X38 l38 y38 z38 st38 hQ38
                    subst l38 y38 z38
                    obtain ⟨w_38, rfl, Nq38, e38, u38_0⟩ := hQ38
                    have N38 := Fr.app N36 Nq38
                    refine Go.step st38 ?_
                    have sc2 : (w_38 = 0 ↔ ¬ (128 ≤ p2.toInt ∧ p2.toInt < 192)) := by
                      have g := u38_0
                      simp only [← Int32.toInt_inj, own_i_0]
                      omega
                    show Go _ _ _ _ _ _ _ (T38.setTop (mkF m 172 #[.val (.int p0), .val (.int p1), .val (.int p2), .val (.int p3), .val (.int p4), .val (.int (4 : Int32)), .val (.int vv2), .val (.int (65536 : Int32))] [(.int w_38)]))
                    by_cases hc172 : w_38 = (0 : Int32)
                    · skip
                      refine Go.step (fun _ k => XS.ifNo X38.here hx rfl (hb hby d2_172) rfl ((if0 _ _).trans (teq hc172).2) k) ?_
                      show Go _ _ _ _ _ _ _ (T38.setTop (mkF m 175 #[.val (.int p0), .val (.int p1), .val (.int p2), .val (.int p3), .val (.int p4), .val (.int (4 : Int32)), .val (.int vv2), .val (.int (65536 : Int32))] []))
                      refine Go.step (fun _ k => XS.bipush X38.here hx rfl (hb hby d2_175) k) ?_
                      show Go _ _ _ _ _ _ _ (T38.setTop (mkF m 177 #[.val (.int p0), .val (.int p1), .val (.int p2), .val (.int p3), .val (.int p4), .val (.int (4 : Int32)), .val (.int vv2), .val (.int (65536 : Int32))] [(.int (-2 : Int32))]))
                      refine Go.retI X38 hx Bd.returns hlk (hb hby d2_177) ?_ (by decide) (by decide)
                      rw [e38]
                      exact ⟨(congrArg (fun z => some (Value.int z)) (own_E4d kl t1 (own_nav2 hc114) tc1 t2 (Or.inr (sc2.mp hc172)))), N38, rfl⟩
                    · skip
                      refine Go.step (fun _ k => XS.ifYes X38.here hx rfl (pc0 := 172) (pc' := 178) rfl (hb hby d2_172) rfl ((if0 _ _).trans (feq hc172).2) (by decide) (by decide) k) ?_
                      have tc2 := Decidable.not_not.mp (fun q => hc172 (sc2.mpr q))
                      show Go _ _ _ _ _ _ _ (T38.setTop (mkF m 178 #[.val (.int p0), .val (.int p1), .val (.int p2), .val (.int p3), .val (.int p4), .val (.int (4 : Int32)), .val (.int vv2), .val (.int (65536 : Int32))] []))
                      refine Go.step (fun _ k => XS.iload X38.here hx rfl (hb hby d2_178) rfl  k) ?_
                      show Go _ _ _ _ _ _ _ (T38.setTop (mkF m 180 #[.val (.int p0), .val (.int p1), .val (.int p2), .val (.int p3), .val (.int p4), .val (.int (4 : Int32)), .val (.int vv2), .val (.int (65536 : Int32))] [(.int vv2)]))
                      refine Go.step (fun _ k => XS.bipush X38.here hx rfl (hb hby d2_180) k) ?_
                      show Go _ _ _ _ _ _ _ (T38.setTop (mkF m 182 #[.val (.int p0), .val (.int p1), .val (.int p2), .val (.int p3), .val (.int p4), .val (.int (4 : Int32)), .val (.int vv2), .val (.int (65536 : Int32))] [(.int (6 : Int32)), (.int vv2)]))
                      refine Go.step (fun _ k => XS.ishl X38.here hx rfl (hb hby d2_182) rfl k) ?_
                      show Go _ _ _ _ _ _ _ (T38.setTop (mkF m 183 #[.val (.int p0), .val (.int p1), .val (.int p2), .val (.int p3), .val (.int p4), .val (.int (4 : Int32)), .val (.int vv2), .val (.int (65536 : Int32))] [(.int (vv2 <<< ((6 : Int32) &&& 31)))]))
                      refine Go.step (fun _ k => XS.iloadN X38.here hx rfl (hb hby d2_183) rfl  k) ?_
                      show Go _ _ _ _ _ _ _ (T38.setTop (mkF m 184 #[.val (.int p0), .val (.int p1), .val (.int p2), .val (.int p3), .val (.int p4), .val (.int (4 : Int32)), .val (.int vv2), .val (.int (65536 : Int32))] [(.int p2), (.int (vv2 <<< ((6 : Int32) &&& 31)))]))
                      refine Go.step (fun _ k => XS.bipush X38.here hx rfl (hb hby d2_184) k) ?_
                      show Go _ _ _ _ _ _ _ (T38.setTop (mkF m 186 #[.val (.int p0), .val (.int p1), .val (.int p2), .val (.int p3), .val (.int p4), .val (.int (4 : Int32)), .val (.int vv2), .val (.int (65536 : Int32))] [(.int (63 : Int32)), (.int p2), (.int (vv2 <<< ((6 : Int32) &&& 31)))]))
                      refine Go.step (fun _ k => XS.iand X38.here hx rfl (hb hby d2_186) rfl k) ?_
                      show Go _ _ _ _ _ _ _ (T38.setTop (mkF m 187 #[.val (.int p0), .val (.int p1), .val (.int p2), .val (.int p3), .val (.int p4), .val (.int (4 : Int32)), .val (.int vv2), .val (.int (65536 : Int32))] [(.int (p2 &&& (63 : Int32))), (.int (vv2 <<< ((6 : Int32) &&& 31)))]))
                      refine Go.step (fun _ k => XS.ior X38.here hx rfl (hb hby d2_187) rfl k) ?_
                      show Go _ _ _ _ _ _ _ (T38.setTop (mkF m 188 #[.val (.int p0), .val (.int p1), .val (.int p2), .val (.int p3), .val (.int p4), .val (.int (4 : Int32)), .val (.int vv2), .val (.int (65536 : Int32))] [(.int ((vv2 <<< ((6 : Int32) &&& 31)) ||| (p2 &&& (63 : Int32))))]))
                      obtain ⟨vv3, q_vv3⟩ : ∃ z : Int32, z = ((vv2 <<< ((6 : Int32) &&& 31)) ||| (p2 &&& (63 : Int32))) := ⟨_, rfl⟩
                      rw [← q_vv3]
                      have hvv3 : vv3.toInt = vv2.toInt * 64 + p2.toInt % 64 := by rw [q_vv3]; exact own_shl _ _ (by omega) (by omega)
                      show Go _ _ _ _ _ _ _ (T38.setTop (mkF m 188 #[.val (.int p0), .val (.int p1), .val (.int p2), .val (.int p3), .val (.int p4), .val (.int (4 : Int32)), .val (.int vv2), .val (.int (65536 : Int32))] [(.int vv3)]))
                      refine Go.step (fun _ k => XS.istore X38.here hx rfl (hb hby d2_188) rfl (l' := #[.val (.int p0), .val (.int p1), .val (.int p2), .val (.int p3), .val (.int p4), .val (.int (4 : Int32)), .val (.int vv3), .val (.int (65536 : Int32))]) rfl k) ?_
                      show Go _ _ _ _ _ _ _ (T38.setTop (mkF m 190 #[.val (.int p0), .val (.int p1), .val (.int p2), .val (.int p3), .val (.int p4), .val (.int (4 : Int32)), .val (.int vv3), .val (.int (65536 : Int32))] []))
                      refine Go.step (fun _ k => XS.iload X38.here hx rfl (hb hby d2_190) rfl  k) ?_
                      show Go _ _ _ _ _ _ _ (T38.setTop (mkF m 192 #[.val (.int p0), .val (.int p1), .val (.int p2), .val (.int p3), .val (.int p4), .val (.int (4 : Int32)), .val (.int vv3), .val (.int (65536 : Int32))] [(.int vv3)]))
                      refine Go.step (fun _ k => XS.iload X38.here hx rfl (hb hby d2_192) rfl  k) ?_
                      show Go _ _ _ _ _ _ _ (T38.setTop (mkF m 194 #[.val (.int p0), .val (.int p1), .val (.int p2), .val (.int p3), .val (.int p4), .val (.int (4 : Int32)), .val (.int vv3), .val (.int (65536 : Int32))] [(.int (4 : Int32)), (.int vv3)]))
                      refine Go.step (fun _ k => XS.iconst X38.here hx rfl (hb hby d2_194) k) ?_
                      show Go _ _ _ _ _ _ _ (T38.setTop (mkF m 195 #[.val (.int p0), .val (.int p1), .val (.int p2), .val (.int p3), .val (.int p4), .val (.int (4 : Int32)), .val (.int vv3), .val (.int (65536 : Int32))] [(.int (3 : Int32)), (.int (4 : Int32)), (.int vv3)]))
                      refine Go.step (fun _ k => XS.isub X38.here hx rfl (hb hby d2_195) rfl k) ?_
                      show Go _ _ _ _ _ _ _ (T38.setTop (mkF m 196 #[.val (.int p0), .val (.int p1), .val (.int p2), .val (.int p3), .val (.int p4), .val (.int (4 : Int32)), .val (.int vv3), .val (.int (65536 : Int32))] [(.int (1 : Int32)), (.int vv3)]))
                      refine Go.step (fun _ k => XS.iload X38.here hx rfl (hb hby d2_196) rfl  k) ?_
                      show Go _ _ _ _ _ _ _ (T38.setTop (mkF m 198 #[.val (.int p0), .val (.int p1), .val (.int p2), .val (.int p3), .val (.int p4), .val (.int (4 : Int32)), .val (.int vv3), .val (.int (65536 : Int32))] [(.int (65536 : Int32)), (.int (1 : Int32)), (.int vv3)]))
                      have pq39 : (1 : Int32) = (1 : Int32) := rfl
                      have pq40 : 0 ≤ vv3.toInt ∧ vv3.toInt < 32768 := (by clear kc; omega)
                      have pq41 : 0 ≤ (65536 : Int32).toInt ∧ (65536 : Int32).toInt ≤ 65536 := (by decide)
                      obtain ⟨_, _, ⟨T42, L42, k42, n42⟩, -, X42, ⟨Lc42, hQ42, l42, y42, z42⟩, st42⟩ := Jvm.LawKit.callS X38 hx (y := (⟨"com/example/omniform/omniform/Utf8MeasurePinLaw", "viable", "(III)Z"⟩ : MethodName)) hown (mvT hZ (hw _ (List.mem_of_getElem? (i := 9) rfl))) (mvT hZ (hw _ (List.mem_of_getElem? (i := 10) rfl))) (mvT hZ (hw _ (List.mem_of_getElem? (i := 7) rfl))) (mvT hZ (hw _ (List.mem_of_getElem? (i := 11) rfl))) (by decide) (backOf (W := 0) (rmv1 l Z aZ hw [] vv3 (1 : Int32) (65536 : Int32) h0 n0 Z0 pq39 pq40 pq41) hZ (hw _ (List.mem_of_getElem? (i := 11) rfl)) (hw _ (List.mem_of_getElem? (i := 7) rfl)) (by decide) (by decide)) (g := (mkF m 198 #[.val (.int p0), .val (.int p1), .val (.int p2), .val (.int p3), .val (.int p4), .val (.int (4 : Int32)), .val (.int vv3), .val (.int (65536 : Int32))] [(.int (65536 : Int32)), (.int (1 : Int32)), (.int vv3)])) rfl (by rw [hml]; rfl) (argsL := [(.int vv3), (.int (1 : Int32)), (.int (65536 : Int32))]) (rest := []) (lenOf pd_1 rfl) rfl (by show 2 * 0 + _ ≤ _; exact Nat.le_of_eq rfl) (hb hby d2_198) (fun _ _ => ⟨rfl, e38, (by decide : 0 + 0 ≤ _), (by decide : 0 + 0 ≤ _)⟩)
                      dsimp only [Pt.U, Pt.locs, Pt.cells, Pt.slots] at X42 l42 y42 z42 st42 hQ42
                      subst l42 y42 z42
                      obtain ⟨w_42, rfl, Nq42, e42, u42_0⟩ := hQ42
                      have N42 := Fr.app N38 Nq42
                      refine Go.step st42 ?_
                      have s3 : ¬ w_42 = 0 := by
                        have g := u42_0
                        unfold own_Vi at g
                        simp only [own_i_128, own_i_2048, own_i_65536] at g
                        simp only [← Int32.toInt_inj, own_i_0]
                        clear kc
                        omega
                      show Go _ _ _ _ _ _ _ (T42.setTop (mkF m 201 #[.val (.int p0), .val (.int p1), .val (.int p2), .val (.int p3), .val (.int p4), .val (.int (4 : Int32)), .val (.int vv3), .val (.int (65536 : Int32))] [(.int w_42)]))
                      have hc201 : ¬ (w_42 = (0 : Int32)) := s3
                      refine Go.step (fun _ k => XS.ifYes X42.here hx rfl (pc0 := 201) (pc' := 207) rfl (hb hby d2_201) rfl ((if0 _ _).trans (feq hc201).2) (by decide) (by decide) k) ?_
                      show Go _ _ _ _ _ _ _ (T42.setTop (mkF m 207 #[.val (.int p0), .val (.int p1), .val (.int p2), .val (.int p3), .val (.int p4), .val (.int (4 : Int32)), .val (.int vv3), .val (.int (65536 : Int32))] []))
                      refine Go.step (fun _ k => XS.iload X42.here hx rfl (hb hby d2_207) rfl  k) ?_
                      show Go _ _ _ _ _ _ _ (T42.setTop (mkF m 209 #[.val (.int p0), .val (.int p1), .val (.int p2), .val (.int p3), .val (.int p4), .val (.int (4 : Int32)), .val (.int vv3), .val (.int (65536 : Int32))] [(.int (4 : Int32))]))
                      refine Go.step (fun _ k => XS.iconst X42.here hx rfl (hb hby d2_209) k) ?_
                      show Go _ _ _ _ _ _ _ (T42.setTop (mkF m 210 #[.val (.int p0), .val (.int p1), .val (.int p2), .val (.int p3), .val (.int p4), .val (.int (4 : Int32)), .val (.int vv3), .val (.int (65536 : Int32))] [(.int (3 : Int32)), (.int (4 : Int32))]))
                      have hc210 : ¬ ((4 : Int32) = (3 : Int32)) := by decide
                      refine Go.step (fun _ k => XS.icmpYes X42.here hx rfl (pc0 := 210) (pc' := 215) rfl (hb hby d2_210) rfl (feq hc210).2 (by decide) (by decide) k) ?_
                      show Go _ _ _ _ _ _ _ (T42.setTop (mkF m 215 #[.val (.int p0), .val (.int p1), .val (.int p2), .val (.int p3), .val (.int p4), .val (.int (4 : Int32)), .val (.int vv3), .val (.int (65536 : Int32))] []))
                      refine Go.step (fun _ k => XS.iload X42.here hx rfl (hb hby d2_215) rfl  k) ?_
                      show Go _ _ _ _ _ _ _ (T42.setTop (mkF m 217 #[.val (.int p0), .val (.int p1), .val (.int p2), .val (.int p3), .val (.int p4), .val (.int (4 : Int32)), .val (.int vv3), .val (.int (65536 : Int32))] [(.int p4)]))
                      refine Go.step (fun _ k => XS.iconst X42.here hx rfl (hb hby d2_217) k) ?_
                      show Go _ _ _ _ _ _ _ (T42.setTop (mkF m 218 #[.val (.int p0), .val (.int p1), .val (.int p2), .val (.int p3), .val (.int p4), .val (.int (4 : Int32)), .val (.int vv3), .val (.int (65536 : Int32))] [(.int (4 : Int32)), (.int p4)]))
                      by_cases hc218 : p4 < (4 : Int32)
                      · skip
                        refine Go.step (fun _ k => XS.icmpYes X42.here hx rfl (pc0 := 218) (pc' := 228) rfl (hb hby d2_218) rfl (tlt hc218).1 (by decide) (by decide) k) ?_
                        show Go _ _ _ _ _ _ _ (T42.setTop (mkF m 228 #[.val (.int p0), .val (.int p1), .val (.int p2), .val (.int p3), .val (.int p4), .val (.int (4 : Int32)), .val (.int vv3), .val (.int (65536 : Int32))] []))
                        refine Go.step (fun _ k => XS.bipush X42.here hx rfl (hb hby d2_228) k) ?_
                        show Go _ _ _ _ _ _ _ (T42.setTop (mkF m 230 #[.val (.int p0), .val (.int p1), .val (.int p2), .val (.int p3), .val (.int p4), .val (.int (4 : Int32)), .val (.int vv3), .val (.int (65536 : Int32))] [(.int (-3 : Int32))]))
                        refine Go.retI X42 hx Bd.returns hlk (hb hby d2_230) ?_ (by decide) (by decide)
                        rw [e42]
                        exact ⟨(congrArg (fun z => some (Value.int z)) (own_E4e kl t1 (own_nav2 hc114) tc1 t2 (own_nav3 hc165) tc2 (Or.inl (own_av4 hc218)))), N42, rfl⟩
                      · skip
                        refine Go.step (fun _ k => XS.icmpNo X42.here hx rfl (hb hby d2_218) rfl (flt hc218).1 k) ?_
                        show Go _ _ _ _ _ _ _ (T42.setTop (mkF m 221 #[.val (.int p0), .val (.int p1), .val (.int p2), .val (.int p3), .val (.int p4), .val (.int (4 : Int32)), .val (.int vv3), .val (.int (65536 : Int32))] []))
                        refine Go.step (fun _ k => XS.iloadN X42.here hx rfl (hb hby d2_221) rfl  k) ?_
                        show Go _ _ _ _ _ _ _ (T42.setTop (mkF m 222 #[.val (.int p0), .val (.int p1), .val (.int p2), .val (.int p3), .val (.int p4), .val (.int (4 : Int32)), .val (.int vv3), .val (.int (65536 : Int32))] [(.int p3)]))
                        have pq43 : 0 ≤ p3.toInt ∧ p3.toInt ≤ 255 := hp3
                        obtain ⟨_, _, ⟨T44, L44, k44, n44⟩, -, X44, ⟨Lc44, hQ44, l44, y44, z44⟩, st44⟩ := Jvm.LawKit.callS X42 hx (y := (⟨"com/example/omniform/omniform/Utf8MeasurePinLaw", "cont", "(I)Z"⟩ : MethodName)) hown (mvT hZ (hw _ (List.mem_of_getElem? (i := 21) rfl))) (mvT hZ (hw _ (List.mem_of_getElem? (i := 22) rfl))) (mvT hZ (hw _ (List.mem_of_getElem? (i := 7) rfl))) (mvT hZ (hw _ (List.mem_of_getElem? (i := 23) rfl))) (by decide) (backOf (W := 0) (rm6 l Z aZ hw [] p3 h0 n0 Z0 pq43) hZ (hw _ (List.mem_of_getElem? (i := 23) rfl)) (hw _ (List.mem_of_getElem? (i := 7) rfl)) (by decide) (by decide)) (g := (mkF m 222 #[.val (.int p0), .val (.int p1), .val (.int p2), .val (.int p3), .val (.int p4), .val (.int (4 : Int32)), .val (.int vv3), .val (.int (65536 : Int32))] [(.int p3)])) rfl (by rw [hml]; rfl) (argsL := [(.int p3)]) (rest := []) (lenOf pd_2 rfl) rfl (by show 2 * 0 + _ ≤ _; exact Nat.le_of_eq rfl) (hb hby d2_222) (fun _ _ => ⟨rfl, e42, (by decide : 0 + 0 ≤ _), (by decide : 0 + 0 ≤ _)⟩)
                        dsimp only [Pt.U, Pt.locs, Pt.cells, Pt.slots] at X44 l44 y44 z44 st44 hQ44
                        subst l44 y44 z44
                        obtain ⟨w_44, rfl, Nq44, e44, u44_0⟩ := hQ44
                        have N44 := Fr.app N42 Nq44
                        refine Go.step st44 ?_
                        have sc3 : (w_44 = 0 ↔ ¬ (128 ≤ p3.toInt ∧ p3.toInt < 192)) := by
                          have g := u44_0
                          simp only [← Int32.toInt_inj, own_i_0]
                          omega
                        show Go _ _ _ _ _ _ _ (T44.setTop (mkF m 225 #[.val (.int p0), .val (.int p1), .val (.int p2), .val (.int p3), .val (.int p4), .val (.int (4 : Int32)), .val (.int vv3), .val (.int (65536 : Int32))] [(.int w_44)]))
                        by_cases hc225 : w_44 = (0 : Int32)
                        · skip
                          refine Go.step (fun _ k => XS.ifNo X44.here hx rfl (hb hby d2_225) rfl ((if0 _ _).trans (teq hc225).2) k) ?_
                          show Go _ _ _ _ _ _ _ (T44.setTop (mkF m 228 #[.val (.int p0), .val (.int p1), .val (.int p2), .val (.int p3), .val (.int p4), .val (.int (4 : Int32)), .val (.int vv3), .val (.int (65536 : Int32))] []))
                          refine Go.step (fun _ k => XS.bipush X44.here hx rfl (hb hby d2_228) k) ?_
                          show Go _ _ _ _ _ _ _ (T44.setTop (mkF m 230 #[.val (.int p0), .val (.int p1), .val (.int p2), .val (.int p3), .val (.int p4), .val (.int (4 : Int32)), .val (.int vv3), .val (.int (65536 : Int32))] [(.int (-3 : Int32))]))
                          refine Go.retI X44 hx Bd.returns hlk (hb hby d2_230) ?_ (by decide) (by decide)
                          rw [e44]
                          exact ⟨(congrArg (fun z => some (Value.int z)) (own_E4e kl t1 (own_nav2 hc114) tc1 t2 (own_nav3 hc165) tc2 (Or.inr (sc3.mp hc225)))), N44, rfl⟩
                        · skip
                          refine Go.step (fun _ k => XS.ifYes X44.here hx rfl (pc0 := 225) (pc' := 231) rfl (hb hby d2_225) rfl ((if0 _ _).trans (feq hc225).2) (by decide) (by decide) k) ?_
                          have tc3 := Decidable.not_not.mp (fun q => hc225 (sc3.mpr q))
                          show Go _ _ _ _ _ _ _ (T44.setTop (mkF m 231 #[.val (.int p0), .val (.int p1), .val (.int p2), .val (.int p3), .val (.int p4), .val (.int (4 : Int32)), .val (.int vv3), .val (.int (65536 : Int32))] []))
                          refine Go.step (fun _ k => XS.iload X44.here hx rfl (hb hby d2_231) rfl  k) ?_
                          show Go _ _ _ _ _ _ _ (T44.setTop (mkF m 233 #[.val (.int p0), .val (.int p1), .val (.int p2), .val (.int p3), .val (.int p4), .val (.int (4 : Int32)), .val (.int vv3), .val (.int (65536 : Int32))] [(.int vv3)]))
                          refine Go.step (fun _ k => XS.bipush X44.here hx rfl (hb hby d2_233) k) ?_
                          show Go _ _ _ _ _ _ _ (T44.setTop (mkF m 235 #[.val (.int p0), .val (.int p1), .val (.int p2), .val (.int p3), .val (.int p4), .val (.int (4 : Int32)), .val (.int vv3), .val (.int (65536 : Int32))] [(.int (6 : Int32)), (.int vv3)]))
                          refine Go.step (fun _ k => XS.ishl X44.here hx rfl (hb hby d2_235) rfl k) ?_
                          show Go _ _ _ _ _ _ _ (T44.setTop (mkF m 236 #[.val (.int p0), .val (.int p1), .val (.int p2), .val (.int p3), .val (.int p4), .val (.int (4 : Int32)), .val (.int vv3), .val (.int (65536 : Int32))] [(.int (vv3 <<< ((6 : Int32) &&& 31)))]))
                          refine Go.step (fun _ k => XS.iloadN X44.here hx rfl (hb hby d2_236) rfl  k) ?_
                          show Go _ _ _ _ _ _ _ (T44.setTop (mkF m 237 #[.val (.int p0), .val (.int p1), .val (.int p2), .val (.int p3), .val (.int p4), .val (.int (4 : Int32)), .val (.int vv3), .val (.int (65536 : Int32))] [(.int p3), (.int (vv3 <<< ((6 : Int32) &&& 31)))]))
                          refine Go.step (fun _ k => XS.bipush X44.here hx rfl (hb hby d2_237) k) ?_
                          show Go _ _ _ _ _ _ _ (T44.setTop (mkF m 239 #[.val (.int p0), .val (.int p1), .val (.int p2), .val (.int p3), .val (.int p4), .val (.int (4 : Int32)), .val (.int vv3), .val (.int (65536 : Int32))] [(.int (63 : Int32)), (.int p3), (.int (vv3 <<< ((6 : Int32) &&& 31)))]))
                          refine Go.step (fun _ k => XS.iand X44.here hx rfl (hb hby d2_239) rfl k) ?_
                          show Go _ _ _ _ _ _ _ (T44.setTop (mkF m 240 #[.val (.int p0), .val (.int p1), .val (.int p2), .val (.int p3), .val (.int p4), .val (.int (4 : Int32)), .val (.int vv3), .val (.int (65536 : Int32))] [(.int (p3 &&& (63 : Int32))), (.int (vv3 <<< ((6 : Int32) &&& 31)))]))
                          refine Go.step (fun _ k => XS.ior X44.here hx rfl (hb hby d2_240) rfl k) ?_
                          show Go _ _ _ _ _ _ _ (T44.setTop (mkF m 241 #[.val (.int p0), .val (.int p1), .val (.int p2), .val (.int p3), .val (.int p4), .val (.int (4 : Int32)), .val (.int vv3), .val (.int (65536 : Int32))] [(.int ((vv3 <<< ((6 : Int32) &&& 31)) ||| (p3 &&& (63 : Int32))))]))
                          obtain ⟨vv4, q_vv4⟩ : ∃ z : Int32, z = ((vv3 <<< ((6 : Int32) &&& 31)) ||| (p3 &&& (63 : Int32))) := ⟨_, rfl⟩
                          rw [← q_vv4]
                          have hvv4 : vv4.toInt = vv3.toInt * 64 + p3.toInt % 64 := by rw [q_vv4]; exact own_shl _ _ (by omega) (by omega)
                          show Go _ _ _ _ _ _ _ (T44.setTop (mkF m 241 #[.val (.int p0), .val (.int p1), .val (.int p2), .val (.int p3), .val (.int p4), .val (.int (4 : Int32)), .val (.int vv3), .val (.int (65536 : Int32))] [(.int vv4)]))
                          refine Go.step (fun _ k => XS.istore X44.here hx rfl (hb hby d2_241) rfl (l' := #[.val (.int p0), .val (.int p1), .val (.int p2), .val (.int p3), .val (.int p4), .val (.int (4 : Int32)), .val (.int vv4), .val (.int (65536 : Int32))]) rfl k) ?_
                          show Go _ _ _ _ _ _ _ (T44.setTop (mkF m 243 #[.val (.int p0), .val (.int p1), .val (.int p2), .val (.int p3), .val (.int p4), .val (.int (4 : Int32)), .val (.int vv4), .val (.int (65536 : Int32))] []))
                          refine Go.step (fun _ k => XS.iload X44.here hx rfl (hb hby d2_243) rfl  k) ?_
                          show Go _ _ _ _ _ _ _ (T44.setTop (mkF m 245 #[.val (.int p0), .val (.int p1), .val (.int p2), .val (.int p3), .val (.int p4), .val (.int (4 : Int32)), .val (.int vv4), .val (.int (65536 : Int32))] [(.int vv4)]))
                          refine Go.step (fun _ k => XS.iconst X44.here hx rfl (hb hby d2_245) k) ?_
                          show Go _ _ _ _ _ _ _ (T44.setTop (mkF m 246 #[.val (.int p0), .val (.int p1), .val (.int p2), .val (.int p3), .val (.int p4), .val (.int (4 : Int32)), .val (.int vv4), .val (.int (65536 : Int32))] [(.int (0 : Int32)), (.int vv4)]))
                          refine Go.step (fun _ k => XS.iload X44.here hx rfl (hb hby d2_246) rfl  k) ?_
                          show Go _ _ _ _ _ _ _ (T44.setTop (mkF m 248 #[.val (.int p0), .val (.int p1), .val (.int p2), .val (.int p3), .val (.int p4), .val (.int (4 : Int32)), .val (.int vv4), .val (.int (65536 : Int32))] [(.int (65536 : Int32)), (.int (0 : Int32)), (.int vv4)]))
                          have pq45 : (0 : Int32) = (0 : Int32) := rfl
                          have pq46 : 0 ≤ vv4.toInt ∧ vv4.toInt < 2097152 := (by clear kc; omega)
                          have pq47 : 0 ≤ (65536 : Int32).toInt ∧ (65536 : Int32).toInt ≤ 65536 := (by decide)
                          obtain ⟨_, _, ⟨T48, L48, k48, n48⟩, -, X48, ⟨Lc48, hQ48, l48, y48, z48⟩, st48⟩ := Jvm.LawKit.callS X44 hx (y := (⟨"com/example/omniform/omniform/Utf8MeasurePinLaw", "viable", "(III)Z"⟩ : MethodName)) hown (mvT hZ (hw _ (List.mem_of_getElem? (i := 9) rfl))) (mvT hZ (hw _ (List.mem_of_getElem? (i := 10) rfl))) (mvT hZ (hw _ (List.mem_of_getElem? (i := 7) rfl))) (mvT hZ (hw _ (List.mem_of_getElem? (i := 11) rfl))) (by decide) (backOf (W := 0) (rmv0 l Z aZ hw [] vv4 (0 : Int32) (65536 : Int32) h0 n0 Z0 pq45 pq46 pq47) hZ (hw _ (List.mem_of_getElem? (i := 11) rfl)) (hw _ (List.mem_of_getElem? (i := 7) rfl)) (by decide) (by decide)) (g := (mkF m 248 #[.val (.int p0), .val (.int p1), .val (.int p2), .val (.int p3), .val (.int p4), .val (.int (4 : Int32)), .val (.int vv4), .val (.int (65536 : Int32))] [(.int (65536 : Int32)), (.int (0 : Int32)), (.int vv4)])) rfl (by rw [hml]; rfl) (argsL := [(.int vv4), (.int (0 : Int32)), (.int (65536 : Int32))]) (rest := []) (lenOf pd_1 rfl) rfl (by show 2 * 0 + _ ≤ _; exact Nat.le_of_eq rfl) (hb hby d2_248) (fun _ _ => ⟨rfl, e44, (by decide : 0 + 0 ≤ _), (by decide : 0 + 0 ≤ _)⟩)
                          dsimp only [Pt.U, Pt.locs, Pt.cells, Pt.slots] at X48 l48 y48 z48 st48 hQ48
                          subst l48 y48 z48
                          obtain ⟨w_48, rfl, Nq48, e48, u48_0⟩ := hQ48
                          have N48 := Fr.app N44 Nq48
                          refine Go.step st48 ?_
                          have s4 : ¬ w_48 = 0 := by
                            have g := u48_0
                            unfold own_Vi at g
                            simp only [own_i_128, own_i_2048, own_i_65536] at g
                            simp only [← Int32.toInt_inj, own_i_0]
                            clear kc
                            omega
                          show Go _ _ _ _ _ _ _ (T48.setTop (mkF m 251 #[.val (.int p0), .val (.int p1), .val (.int p2), .val (.int p3), .val (.int p4), .val (.int (4 : Int32)), .val (.int vv4), .val (.int (65536 : Int32))] [(.int w_48)]))
                          have hc251 : ¬ (w_48 = (0 : Int32)) := s4
                          refine Go.step (fun _ k => XS.ifYes X48.here hx rfl (pc0 := 251) (pc' := 257) rfl (hb hby d2_251) rfl ((if0 _ _).trans (feq hc251).2) (by decide) (by decide) k) ?_
                          show Go _ _ _ _ _ _ _ (T48.setTop (mkF m 257 #[.val (.int p0), .val (.int p1), .val (.int p2), .val (.int p3), .val (.int p4), .val (.int (4 : Int32)), .val (.int vv4), .val (.int (65536 : Int32))] []))
                          refine Go.step (fun _ k => XS.iconst X48.here hx rfl (hb hby d2_257) k) ?_
                          show Go _ _ _ _ _ _ _ (T48.setTop (mkF m 258 #[.val (.int p0), .val (.int p1), .val (.int p2), .val (.int p3), .val (.int p4), .val (.int (4 : Int32)), .val (.int vv4), .val (.int (65536 : Int32))] [(.int (4 : Int32))]))
                          refine Go.retI X48 hx Bd.returns hlk (hb hby d2_258) ?_ (by decide) (by decide)
                          rw [e48]
                          exact ⟨(congrArg (fun z => some (Value.int z)) (own_E4z kl t1 (own_nav2 hc114) tc1 t2 (own_nav3 hc165) tc2 (own_nav4 hc218) tc3)), N48, rfl⟩
        · skip
          refine Go.step (fun _ k => XS.icmpYes X0.here hx rfl (pc0 := 74) (pc' := 93) rfl (hb hby d2_74) rfl (feq hc74).2 (by decide) (by decide) k) ?_
          have k4 : ¬ (240 ≤ p0.toInt ∧ p0.toInt < 248) := by
            have z := hc74
            simp only [Int32.lt_iff_toInt_lt, ← Int32.toInt_inj, own_i_m3, own_i_m2, own_i_m1, own_i_0, own_i_1, own_i_2, own_i_3, own_i_4, own_i_5, own_i_7, own_i_15, own_i_31, own_i_63, own_i_128, own_i_143, own_i_144, own_i_159, own_i_160, own_i_191, own_i_192, own_i_194, own_i_223, own_i_224, own_i_225, own_i_237, own_i_239, own_i_240, own_i_241, own_i_243, own_i_244, own_i_248, own_i_255, own_i_2048, own_i_55296, own_i_57343, own_i_65536, own_i_1114111] at z
            exact fun y => z (kc.2.2.2.1.mpr y)
          show Go _ _ _ _ _ _ _ (s₁.setTop (mkF m 93 #[.val (.int p0), .val (.int p1), .val (.int p2), .val (.int p3), .val (.int p4), .unset, .unset, .unset] []))
          refine Go.step (fun _ k => XS.iconst X0.here hx rfl (hb hby d2_93) k) ?_
          show Go _ _ _ _ _ _ _ (s₁.setTop (mkF m 94 #[.val (.int p0), .val (.int p1), .val (.int p2), .val (.int p3), .val (.int p4), .unset, .unset, .unset] [(.int (-1 : Int32))]))
          refine Go.retI X0 hx Bd.returns hlk (hb hby d2_94) ?_ (by decide) (by decide)
          rw [e0]
          exact ⟨(congrArg (fun z => some (Value.int z)) (own_E0 k0 k2 k3 k4)), N0, rfl⟩
theorem own_sta (x : Int32) : 0 ≤ (x &&& (1 : Int32)).toInt ∧ (x &&& (1 : Int32)).toInt ≤ 1 := by
  have h := c_mask x 1 1 (by decide) (by decide)
  omega
theorem own_av (x : Int32) : 1 ≤ ((1 : Int32) + (x &&& (3 : Int32))).toInt ∧ ((1 : Int32) + (x &&& (3 : Int32))).toInt ≤ 4 := by
  have h := c_mask x 3 2 (by decide) (by decide)
  have a := c_iadd 1 (x &&& 3)
  have b := rng32 (1 + (x &&& 3))
  rw [own_i_1] at a
  omega
theorem own_en {a b : Int32} (h : 0 ≤ a.toInt ∧ a.toInt ≤ 1) (h2 : 1 ≤ b.toInt ∧ b.toInt ≤ 4) : (a + b).toInt = a.toInt + b.toInt := by
  have c := c_iadd a b
  have d := rng32 (a + b)
  omega
theorem own_ds {a : Int32} (h : 0 ≤ a.toInt ∧ a.toInt ≤ 1) : ¬ a = a + 1 ∧ ¬ a = a + 2 ∧ ¬ a = a + 3 ∧ ¬ a + 1 = a + 2 ∧ ¬ a + 1 = a + 3 ∧ ¬ a + 2 = a + 3 := by
  have k := own_k h
  simp only [← Int32.toInt_inj]
  omega
theorem pd_3 : parseMethodDescriptor "([BII)I" = some ⟨[(.array .byte), .int, .int], some .int⟩ := by decide +kernel
theorem pd_4 : parseMethodDescriptor "(IIIII)I" = some ⟨[.int, .int, .int, .int, .int], some .int⟩ := by decide +kernel
theorem ef_0 (m : MethodId) (qb0 : Int32) (qb1 : Int32) (qb2 : Int32) (qb3 : Int32) (qn : Int32) (qs : Int32) : entryFrame m #[(.int qb0), (.int qb1), (.int qb2), (.int qb3), (.int qn), (.int qs)] maxLocals = mkF m 0 #[.val (.int qb0), .val (.int qb1), .val (.int qb2), .val (.int qb3), .val (.int qn), .val (.int qs), .unset, .unset, .unset, .unset, .unset, .unset] [] := by first | (simp [entryFrame, mkF, argsToLocals, Value.category, maxLocals]; done) | rfl
def Q0 (Z : State) (qb0 : Int32) (qb1 : Int32) (qb2 : Int32) (qb3 : Int32) (qn : Int32) (qs : Int32) (h0 : Heap) (n0 : Nat) (v : Option Value) (h : Heap) (L : List Loc) : Prop := (v = some (.int 1)) ∧ (Fr n0 L)
set_option maxRecDepth 65536 in
set_option maxHeartbeats 40000000 in
theorem rm0 (l : Launch) (Z : State) (aZ : Array Value) (hw : ∀ d ∈ tables_1, d.before aZ Z = true) (ws : List Jvm.Cond) (qb0 : Int32) (qb1 : Int32) (qb2 : Int32) (qb3 : Int32) (qn : Int32) (qs : Int32) (h0 : Heap) (n0 : Nat) (Z0 : n0 ≤ h0.size)  :
    MetFree l x (head1 (Jvm.Cond.code x code maxLocals ret :: ws) room_1) (fun a U => a = #[(.int qb0), (.int qb1), (.int qb2), (.int qb3), (.int qn), (.int qs)] ∧ Z.Warmed39 U.vm ∧ U.heap = h0) (fun _ _ _ _ _ => True) (fun _ U o U' => ∃ v L, o = .returned v ∧ Q0 Z qb0 qb1 qb2 qb3 qn qs h0 n0 v U'.heap L ∧ FrameEnd U o U' L 1 5) := by
  refine MetFree.of_bodySF (plainFor_of_name pn_38) hisR ?_
  intro p e s m args below meth c s₁ Bd hml0 hP hK
  obtain ⟨rfl, hZ, hh⟩ := hP
  have hx := Bd.exec
  have hby := Bd.bytes
  have hml : c.maxLocals = 12 := hml0
  have hown : s.vm.findClass "com/example/omniform/omniform/Utf8MeasurePinLaw" = some m.cls := findClass_of_methodNamed Bd.named
  have hnm := (name_of_methodNamed Bd.named Bd.method).1
  have hlk : meth.locks = false := BodyLoose.notSynchronized Bd
  have X0 : Stand p l e room_1 s m #[(.int qb0), (.int qb1), (.int qb2), (.int qb3), (.int qn), (.int qs)] below meth c s₁ [] 0 0 := Stand.of_body Bd
  have e0 : s₁.heap = h0 := by rw [← hh, Bd.state]; rfl
  have N0 := Fr.nil n0
  have sq0 : h0.size ≤ h0.size := Nat.le_refl _
  change Go p e below s 1 5 (Q0 Z qb0 qb1 qb2 qb3 qn qs h0 n0) (s₁.setTop (entryFrame m #[(.int qb0), (.int qb1), (.int qb2), (.int qb3), (.int qn), (.int qs)] maxLocals))
  rw [ef_0 m qb0 qb1 qb2 qb3 qn qs]
  show Go _ _ _ _ _ _ _ (s₁.setTop (mkF m 0 #[.val (.int qb0), .val (.int qb1), .val (.int qb2), .val (.int qb3), .val (.int qn), .val (.int qs), .unset, .unset, .unset, .unset, .unset, .unset] []))
  refine Go.step (fun _ k => XS.iload X0.here hx rfl (hb hby at_0) rfl  k) ?_
  show Go _ _ _ _ _ _ _ (s₁.setTop (mkF m 2 #[.val (.int qb0), .val (.int qb1), .val (.int qb2), .val (.int qb3), .val (.int qn), .val (.int qs), .unset, .unset, .unset, .unset, .unset, .unset] [(.int qs)]))
  refine Go.step (fun _ k => XS.iconst X0.here hx rfl (hb hby at_2) k) ?_
  show Go _ _ _ _ _ _ _ (s₁.setTop (mkF m 3 #[.val (.int qb0), .val (.int qb1), .val (.int qb2), .val (.int qb3), .val (.int qn), .val (.int qs), .unset, .unset, .unset, .unset, .unset, .unset] [(.int (1 : Int32)), (.int qs)]))
  refine Go.step (fun _ k => XS.iand X0.here hx rfl (hb hby at_3) rfl k) ?_
  show Go _ _ _ _ _ _ _ (s₁.setTop (mkF m 4 #[.val (.int qb0), .val (.int qb1), .val (.int qb2), .val (.int qb3), .val (.int qn), .val (.int qs), .unset, .unset, .unset, .unset, .unset, .unset] [(.int (qs &&& (1 : Int32)))]))
  obtain ⟨sta, q_sta⟩ : ∃ z : Int32, z = (qs &&& (1 : Int32)) := ⟨_, rfl⟩
  rw [← q_sta]
  have hsta := own_sta qs
  rw [← q_sta] at hsta
  show Go _ _ _ _ _ _ _ (s₁.setTop (mkF m 4 #[.val (.int qb0), .val (.int qb1), .val (.int qb2), .val (.int qb3), .val (.int qn), .val (.int qs), .unset, .unset, .unset, .unset, .unset, .unset] [(.int sta)]))
  refine Go.step (fun _ k => XS.istore X0.here hx rfl (hb hby at_4) rfl (l' := #[.val (.int qb0), .val (.int qb1), .val (.int qb2), .val (.int qb3), .val (.int qn), .val (.int qs), .val (.int sta), .unset, .unset, .unset, .unset, .unset]) rfl k) ?_
  show Go _ _ _ _ _ _ _ (s₁.setTop (mkF m 6 #[.val (.int qb0), .val (.int qb1), .val (.int qb2), .val (.int qb3), .val (.int qn), .val (.int qs), .val (.int sta), .unset, .unset, .unset, .unset, .unset] []))
  refine Go.step (fun _ k => XS.iconst X0.here hx rfl (hb hby at_6) k) ?_
  show Go _ _ _ _ _ _ _ (s₁.setTop (mkF m 7 #[.val (.int qb0), .val (.int qb1), .val (.int qb2), .val (.int qb3), .val (.int qn), .val (.int qs), .val (.int sta), .unset, .unset, .unset, .unset, .unset] [(.int (1 : Int32))]))
  refine Go.step (fun _ k => XS.iload X0.here hx rfl (hb hby at_7) rfl  k) ?_
  show Go _ _ _ _ _ _ _ (s₁.setTop (mkF m 9 #[.val (.int qb0), .val (.int qb1), .val (.int qb2), .val (.int qb3), .val (.int qn), .val (.int qs), .val (.int sta), .unset, .unset, .unset, .unset, .unset] [(.int qn), (.int (1 : Int32))]))
  refine Go.step (fun _ k => XS.iconst X0.here hx rfl (hb hby at_9) k) ?_
  show Go _ _ _ _ _ _ _ (s₁.setTop (mkF m 10 #[.val (.int qb0), .val (.int qb1), .val (.int qb2), .val (.int qb3), .val (.int qn), .val (.int qs), .val (.int sta), .unset, .unset, .unset, .unset, .unset] [(.int (3 : Int32)), (.int qn), (.int (1 : Int32))]))
  refine Go.step (fun _ k => XS.iand X0.here hx rfl (hb hby at_10) rfl k) ?_
  show Go _ _ _ _ _ _ _ (s₁.setTop (mkF m 11 #[.val (.int qb0), .val (.int qb1), .val (.int qb2), .val (.int qb3), .val (.int qn), .val (.int qs), .val (.int sta), .unset, .unset, .unset, .unset, .unset] [(.int (qn &&& (3 : Int32))), (.int (1 : Int32))]))
  refine Go.step (fun _ k => XS.iadd X0.here hx rfl (hb hby at_11) rfl k) ?_
  show Go _ _ _ _ _ _ _ (s₁.setTop (mkF m 12 #[.val (.int qb0), .val (.int qb1), .val (.int qb2), .val (.int qb3), .val (.int qn), .val (.int qs), .val (.int sta), .unset, .unset, .unset, .unset, .unset] [(.int ((1 : Int32) + (qn &&& (3 : Int32))))]))
  obtain ⟨av, q_av⟩ : ∃ z : Int32, z = ((1 : Int32) + (qn &&& (3 : Int32))) := ⟨_, rfl⟩
  rw [← q_av]
  have hav := own_av qn
  rw [← q_av] at hav
  show Go _ _ _ _ _ _ _ (s₁.setTop (mkF m 12 #[.val (.int qb0), .val (.int qb1), .val (.int qb2), .val (.int qb3), .val (.int qn), .val (.int qs), .val (.int sta), .unset, .unset, .unset, .unset, .unset] [(.int av)]))
  refine Go.step (fun _ k => XS.istore X0.here hx rfl (hb hby at_12) rfl (l' := #[.val (.int qb0), .val (.int qb1), .val (.int qb2), .val (.int qb3), .val (.int qn), .val (.int qs), .val (.int sta), .val (.int av), .unset, .unset, .unset, .unset]) rfl k) ?_
  show Go _ _ _ _ _ _ _ (s₁.setTop (mkF m 14 #[.val (.int qb0), .val (.int qb1), .val (.int qb2), .val (.int qb3), .val (.int qn), .val (.int qs), .val (.int sta), .val (.int av), .unset, .unset, .unset, .unset] []))
  refine Go.step (fun _ k => XS.iload X0.here hx rfl (hb hby at_14) rfl  k) ?_
  show Go _ _ _ _ _ _ _ (s₁.setTop (mkF m 16 #[.val (.int qb0), .val (.int qb1), .val (.int qb2), .val (.int qb3), .val (.int qn), .val (.int qs), .val (.int sta), .val (.int av), .unset, .unset, .unset, .unset] [(.int sta)]))
  refine Go.step (fun _ k => XS.iload X0.here hx rfl (hb hby at_16) rfl  k) ?_
  show Go _ _ _ _ _ _ _ (s₁.setTop (mkF m 18 #[.val (.int qb0), .val (.int qb1), .val (.int qb2), .val (.int qb3), .val (.int qn), .val (.int qs), .val (.int sta), .val (.int av), .unset, .unset, .unset, .unset] [(.int av), (.int sta)]))
  refine Go.step (fun _ k => XS.iadd X0.here hx rfl (hb hby at_18) rfl k) ?_
  show Go _ _ _ _ _ _ _ (s₁.setTop (mkF m 19 #[.val (.int qb0), .val (.int qb1), .val (.int qb2), .val (.int qb3), .val (.int qn), .val (.int qs), .val (.int sta), .val (.int av), .unset, .unset, .unset, .unset] [(.int (sta + av))]))
  obtain ⟨en, q_en⟩ : ∃ z : Int32, z = (sta + av) := ⟨_, rfl⟩
  rw [← q_en]
  have hen : en.toInt = sta.toInt + av.toInt := by rw [q_en]; exact own_en hsta hav
  show Go _ _ _ _ _ _ _ (s₁.setTop (mkF m 19 #[.val (.int qb0), .val (.int qb1), .val (.int qb2), .val (.int qb3), .val (.int qn), .val (.int qs), .val (.int sta), .val (.int av), .unset, .unset, .unset, .unset] [(.int en)]))
  refine Go.step (fun _ k => XS.istore X0.here hx rfl (hb hby at_19) rfl (l' := #[.val (.int qb0), .val (.int qb1), .val (.int qb2), .val (.int qb3), .val (.int qn), .val (.int qs), .val (.int sta), .val (.int av), .val (.int en), .unset, .unset, .unset]) rfl k) ?_
  show Go _ _ _ _ _ _ _ (s₁.setTop (mkF m 21 #[.val (.int qb0), .val (.int qb1), .val (.int qb2), .val (.int qb3), .val (.int qn), .val (.int qs), .val (.int sta), .val (.int av), .val (.int en), .unset, .unset, .unset] []))
  refine Go.step (fun _ k => XS.iload X0.here hx rfl (hb hby at_21) rfl  k) ?_
  show Go _ _ _ _ _ _ _ (s₁.setTop (mkF m 23 #[.val (.int qb0), .val (.int qb1), .val (.int qb2), .val (.int qb3), .val (.int qn), .val (.int qs), .val (.int sta), .val (.int av), .val (.int en), .unset, .unset, .unset] [(.int qs)]))
  refine Go.step (fun _ k => XS.bipush X0.here hx rfl (hb hby at_23) k) ?_
  show Go _ _ _ _ _ _ _ (s₁.setTop (mkF m 25 #[.val (.int qb0), .val (.int qb1), .val (.int qb2), .val (.int qb3), .val (.int qn), .val (.int qs), .val (.int sta), .val (.int av), .val (.int en), .unset, .unset, .unset] [(.int (8 : Int32)), (.int qs)]))
  refine Go.step (fun _ k => XS.ishr X0.here hx rfl (hb hby at_25) rfl k) ?_
  show Go _ _ _ _ _ _ _ (s₁.setTop (mkF m 26 #[.val (.int qb0), .val (.int qb1), .val (.int qb2), .val (.int qb3), .val (.int qn), .val (.int qs), .val (.int sta), .val (.int av), .val (.int en), .unset, .unset, .unset] [(.int (qs >>> ((8 : Int32) &&& 31)))]))
  refine Go.step (fun _ k => XS.i2b X0.here hx rfl (hb hby at_26) rfl k) ?_
  show Go _ _ _ _ _ _ _ (s₁.setTop (mkF m 27 #[.val (.int qb0), .val (.int qb1), .val (.int qb2), .val (.int qb3), .val (.int qn), .val (.int qs), .val (.int sta), .val (.int av), .val (.int en), .unset, .unset, .unset] [(.int (Int8.toInt32 (Int32.toInt8 (qs >>> ((8 : Int32) &&& 31)))))]))
  refine Go.step (fun _ k => XS.istore X0.here hx rfl (hb hby at_27) rfl (l' := #[.val (.int qb0), .val (.int qb1), .val (.int qb2), .val (.int qb3), .val (.int qn), .val (.int qs), .val (.int sta), .val (.int av), .val (.int en), .val (.int (Int8.toInt32 (Int32.toInt8 (qs >>> ((8 : Int32) &&& 31))))), .unset, .unset]) rfl k) ?_
  show Go _ _ _ _ _ _ _ (s₁.setTop (mkF m 29 #[.val (.int qb0), .val (.int qb1), .val (.int qb2), .val (.int qb3), .val (.int qn), .val (.int qs), .val (.int sta), .val (.int av), .val (.int en), .val (.int (Int8.toInt32 (Int32.toInt8 (qs >>> ((8 : Int32) &&& 31))))), .unset, .unset] []))
  refine Go.step (fun _ k => XS.iconst X0.here hx rfl (hb hby at_29) k) ?_
  show Go _ _ _ _ _ _ _ (s₁.setTop (mkF m 30 #[.val (.int qb0), .val (.int qb1), .val (.int qb2), .val (.int qb3), .val (.int qn), .val (.int qs), .val (.int sta), .val (.int av), .val (.int en), .val (.int (Int8.toInt32 (Int32.toInt8 (qs >>> ((8 : Int32) &&& 31))))), .unset, .unset] [(.int (5 : Int32))]))
  have ng1 : ¬ (5 : Int32) < 0 := (by decide)
  have lc1 : ((5 : Int32)).toNatClampNeg ≤ 5 := (by decide)
  obtain ⟨T1, h1, k1, X1, e1, E1, A1, st1⟩ := newP X0 hx hZ (hw _ (List.mem_of_getElem? (i := 0) rfl)) e0 (g := (mkF m 30 #[.val (.int qb0), .val (.int qb1), .val (.int qb2), .val (.int qb3), .val (.int qn), .val (.int qs), .val (.int sta), .val (.int av), .val (.int en), .val (.int (Int8.toInt32 (Int32.toInt8 (qs >>> ((8 : Int32) &&& 31))))), .unset, .unset] [(.int (5 : Int32))])) rfl (hb hby at_30) rfl ng1 (cap := 5) lc1 (by decide) (by decide) (by decide)
  obtain ⟨b1, g1⟩ : ∃ z, z = h0.size := ⟨_, rfl⟩
  rw [← g1] at A1 st1
  refine Go.step st1 ?_
  have gn1 : n0 ≤ b1 := Nat.le_trans Z0 (Nat.le_of_eq g1.symm)
  have sz1 : h0.size ≤ b1 := Nat.le_trans sq0 (Nat.le_of_eq g1.symm)
  have z2 : n0 ≤ h1.size := Nat.le_trans Z0 E1.1
  have sqz2 : h0.size ≤ h1.size := Nat.le_trans sq0 E1.1
  have f4 : Ai Z h1 b1 .byte (5 : Int32) (fun _ => 0) := Ai.new A1 ng1 rfl
  show Go _ _ _ _ _ _ _ (T1.setTop (mkF m 32 #[.val (.int qb0), .val (.int qb1), .val (.int qb2), .val (.int qb3), .val (.int qn), .val (.int qs), .val (.int sta), .val (.int av), .val (.int en), .val (.int (Int8.toInt32 (Int32.toInt8 (qs >>> ((8 : Int32) &&& 31))))), .unset, .unset] [(.ref b1)]))
  refine Go.step (fun _ k => XS.astore X1.here hx rfl (hb hby at_32) rfl rfl (l' := #[.val (.int qb0), .val (.int qb1), .val (.int qb2), .val (.int qb3), .val (.int qn), .val (.int qs), .val (.int sta), .val (.int av), .val (.int en), .val (.int (Int8.toInt32 (Int32.toInt8 (qs >>> ((8 : Int32) &&& 31))))), .val (.ref b1), .unset]) rfl k) ?_
  show Go _ _ _ _ _ _ _ (T1.setTop (mkF m 34 #[.val (.int qb0), .val (.int qb1), .val (.int qb2), .val (.int qb3), .val (.int qn), .val (.int qs), .val (.int sta), .val (.int av), .val (.int en), .val (.int (Int8.toInt32 (Int32.toInt8 (qs >>> ((8 : Int32) &&& 31))))), .val (.ref b1), .unset] []))
  refine Go.step (fun _ k => XS.aload X1.here hx rfl (hb hby at_34) rfl rfl  k) ?_
  show Go _ _ _ _ _ _ _ (T1.setTop (mkF m 36 #[.val (.int qb0), .val (.int qb1), .val (.int qb2), .val (.int qb3), .val (.int qn), .val (.int qs), .val (.int sta), .val (.int av), .val (.int en), .val (.int (Int8.toInt32 (Int32.toInt8 (qs >>> ((8 : Int32) &&& 31))))), .val (.ref b1), .unset] [(.ref b1)]))
  refine Go.step (fun _ k => XS.iconst X1.here hx rfl (hb hby at_36) k) ?_
  show Go _ _ _ _ _ _ _ (T1.setTop (mkF m 37 #[.val (.int qb0), .val (.int qb1), .val (.int qb2), .val (.int qb3), .val (.int qn), .val (.int qs), .val (.int sta), .val (.int av), .val (.int en), .val (.int (Int8.toInt32 (Int32.toInt8 (qs >>> ((8 : Int32) &&& 31))))), .val (.ref b1), .unset] [(.int (0 : Int32)), (.ref b1)]))
  refine Go.step (fun _ k => XS.iload X1.here hx rfl (hb hby at_37) rfl  k) ?_
  show Go _ _ _ _ _ _ _ (T1.setTop (mkF m 39 #[.val (.int qb0), .val (.int qb1), .val (.int qb2), .val (.int qb3), .val (.int qn), .val (.int qs), .val (.int sta), .val (.int av), .val (.int en), .val (.int (Int8.toInt32 (Int32.toInt8 (qs >>> ((8 : Int32) &&& 31))))), .val (.ref b1), .unset] [(.int (Int8.toInt32 (Int32.toInt8 (qs >>> ((8 : Int32) &&& 31))))), (.int (0 : Int32)), (.ref b1)]))
  have lo5 : ¬ (0 : Int32) < 0 := (by decide)
  have hi5 : (0 : Int32) < (5 : Int32) := (by decide)
  obtain ⟨T6, h6, X6, e6, W6, f6, st6⟩ := Ai.stB X1 hx hZ e1 f4 (j := (0 : Int32)) (x := (Int8.toInt32 (Int32.toInt8 (qs >>> ((8 : Int32) &&& 31))))) lo5 hi5 (g := (mkF m 39 #[.val (.int qb0), .val (.int qb1), .val (.int qb2), .val (.int qb3), .val (.int qn), .val (.int qs), .val (.int sta), .val (.int av), .val (.int en), .val (.int (Int8.toInt32 (Int32.toInt8 (qs >>> ((8 : Int32) &&& 31))))), .val (.ref b1), .unset] [(.int (Int8.toInt32 (Int32.toInt8 (qs >>> ((8 : Int32) &&& 31))))), (.int (0 : Int32)), (.ref b1)])) rfl rfl (hb hby at_39)
  refine Go.step st6 ?_
  have N6 := Fr.snoc X6 N0 gn1
  have z7 : n0 ≤ h6.size := Nat.le_trans z2 (Keep.of_wr W6).1
  have sqz7 : h0.size ≤ h6.size := Nat.le_trans sqz2 (Keep.of_wr W6).1
  obtain ⟨f9c, qf9c⟩ : ∃ fz, fz = (fun jj => if jj = (0 : Int32) then (nar .byte (Int8.toInt32 (Int32.toInt8 (qs >>> ((8 : Int32) &&& 31))))) else (fun _ => 0) jj) := ⟨_, rfl⟩
  rw [← qf9c] at f6
  show Go _ _ _ _ _ _ _ (T6.setTop (mkF m 40 #[.val (.int qb0), .val (.int qb1), .val (.int qb2), .val (.int qb3), .val (.int qn), .val (.int qs), .val (.int sta), .val (.int av), .val (.int en), .val (.int (Int8.toInt32 (Int32.toInt8 (qs >>> ((8 : Int32) &&& 31))))), .val (.ref b1), .unset] []))
  refine Go.step (fun _ k => XS.aload X6.here hx rfl (hb hby at_40) rfl rfl  k) ?_
  show Go _ _ _ _ _ _ _ (T6.setTop (mkF m 42 #[.val (.int qb0), .val (.int qb1), .val (.int qb2), .val (.int qb3), .val (.int qn), .val (.int qs), .val (.int sta), .val (.int av), .val (.int en), .val (.int (Int8.toInt32 (Int32.toInt8 (qs >>> ((8 : Int32) &&& 31))))), .val (.ref b1), .unset] [(.ref b1)]))
  refine Go.step (fun _ k => XS.iconst X6.here hx rfl (hb hby at_42) k) ?_
  show Go _ _ _ _ _ _ _ (T6.setTop (mkF m 43 #[.val (.int qb0), .val (.int qb1), .val (.int qb2), .val (.int qb3), .val (.int qn), .val (.int qs), .val (.int sta), .val (.int av), .val (.int en), .val (.int (Int8.toInt32 (Int32.toInt8 (qs >>> ((8 : Int32) &&& 31))))), .val (.ref b1), .unset] [(.int (4 : Int32)), (.ref b1)]))
  refine Go.step (fun _ k => XS.iload X6.here hx rfl (hb hby at_43) rfl  k) ?_
  show Go _ _ _ _ _ _ _ (T6.setTop (mkF m 45 #[.val (.int qb0), .val (.int qb1), .val (.int qb2), .val (.int qb3), .val (.int qn), .val (.int qs), .val (.int sta), .val (.int av), .val (.int en), .val (.int (Int8.toInt32 (Int32.toInt8 (qs >>> ((8 : Int32) &&& 31))))), .val (.ref b1), .unset] [(.int (Int8.toInt32 (Int32.toInt8 (qs >>> ((8 : Int32) &&& 31))))), (.int (4 : Int32)), (.ref b1)]))
  have lo10 : ¬ (4 : Int32) < 0 := (by decide)
  have hi10 : (4 : Int32) < (5 : Int32) := (by decide)
  obtain ⟨T11, h11, X11, e11, W11, f11, st11⟩ := Ai.stB X6 hx hZ e6 f6 (j := (4 : Int32)) (x := (Int8.toInt32 (Int32.toInt8 (qs >>> ((8 : Int32) &&& 31))))) lo10 hi10 (g := (mkF m 45 #[.val (.int qb0), .val (.int qb1), .val (.int qb2), .val (.int qb3), .val (.int qn), .val (.int qs), .val (.int sta), .val (.int av), .val (.int en), .val (.int (Int8.toInt32 (Int32.toInt8 (qs >>> ((8 : Int32) &&& 31))))), .val (.ref b1), .unset] [(.int (Int8.toInt32 (Int32.toInt8 (qs >>> ((8 : Int32) &&& 31))))), (.int (4 : Int32)), (.ref b1)])) rfl rfl (hb hby at_45)
  refine Go.step st11 ?_
  have N11 := Fr.snoc X11 N6 gn1
  have z12 : n0 ≤ h11.size := Nat.le_trans z7 (Keep.of_wr W11).1
  have sqz12 : h0.size ≤ h11.size := Nat.le_trans sqz7 (Keep.of_wr W11).1
  obtain ⟨f14c, qf14c⟩ : ∃ fz, fz = (fun jj => if jj = (4 : Int32) then (nar .byte (Int8.toInt32 (Int32.toInt8 (qs >>> ((8 : Int32) &&& 31))))) else f9c jj) := ⟨_, rfl⟩
  rw [← qf14c] at f11
  show Go _ _ _ _ _ _ _ (T11.setTop (mkF m 46 #[.val (.int qb0), .val (.int qb1), .val (.int qb2), .val (.int qb3), .val (.int qn), .val (.int qs), .val (.int sta), .val (.int av), .val (.int en), .val (.int (Int8.toInt32 (Int32.toInt8 (qs >>> ((8 : Int32) &&& 31))))), .val (.ref b1), .unset] []))
  refine Go.step (fun _ k => XS.aload X11.here hx rfl (hb hby at_46) rfl rfl  k) ?_
  show Go _ _ _ _ _ _ _ (T11.setTop (mkF m 48 #[.val (.int qb0), .val (.int qb1), .val (.int qb2), .val (.int qb3), .val (.int qn), .val (.int qs), .val (.int sta), .val (.int av), .val (.int en), .val (.int (Int8.toInt32 (Int32.toInt8 (qs >>> ((8 : Int32) &&& 31))))), .val (.ref b1), .unset] [(.ref b1)]))
  refine Go.step (fun _ k => XS.iload X11.here hx rfl (hb hby at_48) rfl  k) ?_
  show Go _ _ _ _ _ _ _ (T11.setTop (mkF m 50 #[.val (.int qb0), .val (.int qb1), .val (.int qb2), .val (.int qb3), .val (.int qn), .val (.int qs), .val (.int sta), .val (.int av), .val (.int en), .val (.int (Int8.toInt32 (Int32.toInt8 (qs >>> ((8 : Int32) &&& 31))))), .val (.ref b1), .unset] [(.int sta), (.ref b1)]))
  refine Go.step (fun _ k => XS.iloadN X11.here hx rfl (hb hby at_50) rfl  k) ?_
  show Go _ _ _ _ _ _ _ (T11.setTop (mkF m 51 #[.val (.int qb0), .val (.int qb1), .val (.int qb2), .val (.int qb3), .val (.int qn), .val (.int qs), .val (.int sta), .val (.int av), .val (.int en), .val (.int (Int8.toInt32 (Int32.toInt8 (qs >>> ((8 : Int32) &&& 31))))), .val (.ref b1), .unset] [(.int qb0), (.int sta), (.ref b1)]))
  refine Go.step (fun _ k => XS.i2b X11.here hx rfl (hb hby at_51) rfl k) ?_
  show Go _ _ _ _ _ _ _ (T11.setTop (mkF m 52 #[.val (.int qb0), .val (.int qb1), .val (.int qb2), .val (.int qb3), .val (.int qn), .val (.int qs), .val (.int sta), .val (.int av), .val (.int en), .val (.int (Int8.toInt32 (Int32.toInt8 (qs >>> ((8 : Int32) &&& 31))))), .val (.ref b1), .unset] [(.int (Int8.toInt32 (Int32.toInt8 qb0))), (.int sta), (.ref b1)]))
  have lo15 : ¬ sta < 0 := (by have := own_k hsta; simp only [Int32.lt_iff_toInt_lt, ← Int32.toInt_inj, own_i_m3, own_i_m2, own_i_m1, own_i_0, own_i_1, own_i_2, own_i_3, own_i_4, own_i_5, own_i_7, own_i_15, own_i_31, own_i_63, own_i_128, own_i_143, own_i_144, own_i_159, own_i_160, own_i_191, own_i_192, own_i_194, own_i_223, own_i_224, own_i_225, own_i_237, own_i_239, own_i_240, own_i_241, own_i_243, own_i_244, own_i_248, own_i_255, own_i_2048, own_i_55296, own_i_57343, own_i_65536, own_i_1114111]; omega)
  have hi15 : sta < (5 : Int32) := (by have := own_k hsta; simp only [Int32.lt_iff_toInt_lt, ← Int32.toInt_inj, own_i_m3, own_i_m2, own_i_m1, own_i_0, own_i_1, own_i_2, own_i_3, own_i_4, own_i_5, own_i_7, own_i_15, own_i_31, own_i_63, own_i_128, own_i_143, own_i_144, own_i_159, own_i_160, own_i_191, own_i_192, own_i_194, own_i_223, own_i_224, own_i_225, own_i_237, own_i_239, own_i_240, own_i_241, own_i_243, own_i_244, own_i_248, own_i_255, own_i_2048, own_i_55296, own_i_57343, own_i_65536, own_i_1114111]; omega)
  obtain ⟨T16, h16, X16, e16, W16, f16, st16⟩ := Ai.stB X11 hx hZ e11 f11 (j := sta) (x := (Int8.toInt32 (Int32.toInt8 qb0))) lo15 hi15 (g := (mkF m 52 #[.val (.int qb0), .val (.int qb1), .val (.int qb2), .val (.int qb3), .val (.int qn), .val (.int qs), .val (.int sta), .val (.int av), .val (.int en), .val (.int (Int8.toInt32 (Int32.toInt8 (qs >>> ((8 : Int32) &&& 31))))), .val (.ref b1), .unset] [(.int (Int8.toInt32 (Int32.toInt8 qb0))), (.int sta), (.ref b1)])) rfl rfl (hb hby at_52)
  refine Go.step st16 ?_
  have N16 := Fr.snoc X16 N11 gn1
  have z17 : n0 ≤ h16.size := Nat.le_trans z12 (Keep.of_wr W16).1
  have sqz17 : h0.size ≤ h16.size := Nat.le_trans sqz12 (Keep.of_wr W16).1
  obtain ⟨f19c, qf19c⟩ : ∃ fz, fz = (fun jj => if jj = sta then (nar .byte (Int8.toInt32 (Int32.toInt8 qb0))) else f14c jj) := ⟨_, rfl⟩
  rw [← qf19c] at f16
  show Go _ _ _ _ _ _ _ (T16.setTop (mkF m 53 #[.val (.int qb0), .val (.int qb1), .val (.int qb2), .val (.int qb3), .val (.int qn), .val (.int qs), .val (.int sta), .val (.int av), .val (.int en), .val (.int (Int8.toInt32 (Int32.toInt8 (qs >>> ((8 : Int32) &&& 31))))), .val (.ref b1), .unset] []))
  refine Go.step (fun _ k => XS.aload X16.here hx rfl (hb hby at_53) rfl rfl  k) ?_
  show Go _ _ _ _ _ _ _ (T16.setTop (mkF m 55 #[.val (.int qb0), .val (.int qb1), .val (.int qb2), .val (.int qb3), .val (.int qn), .val (.int qs), .val (.int sta), .val (.int av), .val (.int en), .val (.int (Int8.toInt32 (Int32.toInt8 (qs >>> ((8 : Int32) &&& 31))))), .val (.ref b1), .unset] [(.ref b1)]))
  refine Go.step (fun _ k => XS.iload X16.here hx rfl (hb hby at_55) rfl  k) ?_
  show Go _ _ _ _ _ _ _ (T16.setTop (mkF m 57 #[.val (.int qb0), .val (.int qb1), .val (.int qb2), .val (.int qb3), .val (.int qn), .val (.int qs), .val (.int sta), .val (.int av), .val (.int en), .val (.int (Int8.toInt32 (Int32.toInt8 (qs >>> ((8 : Int32) &&& 31))))), .val (.ref b1), .unset] [(.int sta), (.ref b1)]))
  refine Go.step (fun _ k => XS.iconst X16.here hx rfl (hb hby at_57) k) ?_
  show Go _ _ _ _ _ _ _ (T16.setTop (mkF m 58 #[.val (.int qb0), .val (.int qb1), .val (.int qb2), .val (.int qb3), .val (.int qn), .val (.int qs), .val (.int sta), .val (.int av), .val (.int en), .val (.int (Int8.toInt32 (Int32.toInt8 (qs >>> ((8 : Int32) &&& 31))))), .val (.ref b1), .unset] [(.int (1 : Int32)), (.int sta), (.ref b1)]))
  refine Go.step (fun _ k => XS.iadd X16.here hx rfl (hb hby at_58) rfl k) ?_
  show Go _ _ _ _ _ _ _ (T16.setTop (mkF m 59 #[.val (.int qb0), .val (.int qb1), .val (.int qb2), .val (.int qb3), .val (.int qn), .val (.int qs), .val (.int sta), .val (.int av), .val (.int en), .val (.int (Int8.toInt32 (Int32.toInt8 (qs >>> ((8 : Int32) &&& 31))))), .val (.ref b1), .unset] [(.int (sta + (1 : Int32))), (.ref b1)]))
  refine Go.step (fun _ k => XS.iloadN X16.here hx rfl (hb hby at_59) rfl  k) ?_
  show Go _ _ _ _ _ _ _ (T16.setTop (mkF m 60 #[.val (.int qb0), .val (.int qb1), .val (.int qb2), .val (.int qb3), .val (.int qn), .val (.int qs), .val (.int sta), .val (.int av), .val (.int en), .val (.int (Int8.toInt32 (Int32.toInt8 (qs >>> ((8 : Int32) &&& 31))))), .val (.ref b1), .unset] [(.int qb1), (.int (sta + (1 : Int32))), (.ref b1)]))
  refine Go.step (fun _ k => XS.i2b X16.here hx rfl (hb hby at_60) rfl k) ?_
  show Go _ _ _ _ _ _ _ (T16.setTop (mkF m 61 #[.val (.int qb0), .val (.int qb1), .val (.int qb2), .val (.int qb3), .val (.int qn), .val (.int qs), .val (.int sta), .val (.int av), .val (.int en), .val (.int (Int8.toInt32 (Int32.toInt8 (qs >>> ((8 : Int32) &&& 31))))), .val (.ref b1), .unset] [(.int (Int8.toInt32 (Int32.toInt8 qb1))), (.int (sta + (1 : Int32))), (.ref b1)]))
  have lo20 : ¬ (sta + (1 : Int32)) < 0 := (by have := own_k hsta; simp only [Int32.lt_iff_toInt_lt, ← Int32.toInt_inj, own_i_m3, own_i_m2, own_i_m1, own_i_0, own_i_1, own_i_2, own_i_3, own_i_4, own_i_5, own_i_7, own_i_15, own_i_31, own_i_63, own_i_128, own_i_143, own_i_144, own_i_159, own_i_160, own_i_191, own_i_192, own_i_194, own_i_223, own_i_224, own_i_225, own_i_237, own_i_239, own_i_240, own_i_241, own_i_243, own_i_244, own_i_248, own_i_255, own_i_2048, own_i_55296, own_i_57343, own_i_65536, own_i_1114111]; omega)
  have hi20 : (sta + (1 : Int32)) < (5 : Int32) := (by have := own_k hsta; simp only [Int32.lt_iff_toInt_lt, ← Int32.toInt_inj, own_i_m3, own_i_m2, own_i_m1, own_i_0, own_i_1, own_i_2, own_i_3, own_i_4, own_i_5, own_i_7, own_i_15, own_i_31, own_i_63, own_i_128, own_i_143, own_i_144, own_i_159, own_i_160, own_i_191, own_i_192, own_i_194, own_i_223, own_i_224, own_i_225, own_i_237, own_i_239, own_i_240, own_i_241, own_i_243, own_i_244, own_i_248, own_i_255, own_i_2048, own_i_55296, own_i_57343, own_i_65536, own_i_1114111]; omega)
  obtain ⟨T21, h21, X21, e21, W21, f21, st21⟩ := Ai.stB X16 hx hZ e16 f16 (j := (sta + (1 : Int32))) (x := (Int8.toInt32 (Int32.toInt8 qb1))) lo20 hi20 (g := (mkF m 61 #[.val (.int qb0), .val (.int qb1), .val (.int qb2), .val (.int qb3), .val (.int qn), .val (.int qs), .val (.int sta), .val (.int av), .val (.int en), .val (.int (Int8.toInt32 (Int32.toInt8 (qs >>> ((8 : Int32) &&& 31))))), .val (.ref b1), .unset] [(.int (Int8.toInt32 (Int32.toInt8 qb1))), (.int (sta + (1 : Int32))), (.ref b1)])) rfl rfl (hb hby at_61)
  refine Go.step st21 ?_
  have N21 := Fr.snoc X21 N16 gn1
  have z22 : n0 ≤ h21.size := Nat.le_trans z17 (Keep.of_wr W21).1
  have sqz22 : h0.size ≤ h21.size := Nat.le_trans sqz17 (Keep.of_wr W21).1
  obtain ⟨f24c, qf24c⟩ : ∃ fz, fz = (fun jj => if jj = (sta + (1 : Int32)) then (nar .byte (Int8.toInt32 (Int32.toInt8 qb1))) else f19c jj) := ⟨_, rfl⟩
  rw [← qf24c] at f21
  show Go _ _ _ _ _ _ _ (T21.setTop (mkF m 62 #[.val (.int qb0), .val (.int qb1), .val (.int qb2), .val (.int qb3), .val (.int qn), .val (.int qs), .val (.int sta), .val (.int av), .val (.int en), .val (.int (Int8.toInt32 (Int32.toInt8 (qs >>> ((8 : Int32) &&& 31))))), .val (.ref b1), .unset] []))
  refine Go.step (fun _ k => XS.aload X21.here hx rfl (hb hby at_62) rfl rfl  k) ?_
  show Go _ _ _ _ _ _ _ (T21.setTop (mkF m 64 #[.val (.int qb0), .val (.int qb1), .val (.int qb2), .val (.int qb3), .val (.int qn), .val (.int qs), .val (.int sta), .val (.int av), .val (.int en), .val (.int (Int8.toInt32 (Int32.toInt8 (qs >>> ((8 : Int32) &&& 31))))), .val (.ref b1), .unset] [(.ref b1)]))
  refine Go.step (fun _ k => XS.iload X21.here hx rfl (hb hby at_64) rfl  k) ?_
  show Go _ _ _ _ _ _ _ (T21.setTop (mkF m 66 #[.val (.int qb0), .val (.int qb1), .val (.int qb2), .val (.int qb3), .val (.int qn), .val (.int qs), .val (.int sta), .val (.int av), .val (.int en), .val (.int (Int8.toInt32 (Int32.toInt8 (qs >>> ((8 : Int32) &&& 31))))), .val (.ref b1), .unset] [(.int sta), (.ref b1)]))
  refine Go.step (fun _ k => XS.iconst X21.here hx rfl (hb hby at_66) k) ?_
  show Go _ _ _ _ _ _ _ (T21.setTop (mkF m 67 #[.val (.int qb0), .val (.int qb1), .val (.int qb2), .val (.int qb3), .val (.int qn), .val (.int qs), .val (.int sta), .val (.int av), .val (.int en), .val (.int (Int8.toInt32 (Int32.toInt8 (qs >>> ((8 : Int32) &&& 31))))), .val (.ref b1), .unset] [(.int (2 : Int32)), (.int sta), (.ref b1)]))
  refine Go.step (fun _ k => XS.iadd X21.here hx rfl (hb hby at_67) rfl k) ?_
  show Go _ _ _ _ _ _ _ (T21.setTop (mkF m 68 #[.val (.int qb0), .val (.int qb1), .val (.int qb2), .val (.int qb3), .val (.int qn), .val (.int qs), .val (.int sta), .val (.int av), .val (.int en), .val (.int (Int8.toInt32 (Int32.toInt8 (qs >>> ((8 : Int32) &&& 31))))), .val (.ref b1), .unset] [(.int (sta + (2 : Int32))), (.ref b1)]))
  refine Go.step (fun _ k => XS.iloadN X21.here hx rfl (hb hby at_68) rfl  k) ?_
  show Go _ _ _ _ _ _ _ (T21.setTop (mkF m 69 #[.val (.int qb0), .val (.int qb1), .val (.int qb2), .val (.int qb3), .val (.int qn), .val (.int qs), .val (.int sta), .val (.int av), .val (.int en), .val (.int (Int8.toInt32 (Int32.toInt8 (qs >>> ((8 : Int32) &&& 31))))), .val (.ref b1), .unset] [(.int qb2), (.int (sta + (2 : Int32))), (.ref b1)]))
  refine Go.step (fun _ k => XS.i2b X21.here hx rfl (hb hby at_69) rfl k) ?_
  show Go _ _ _ _ _ _ _ (T21.setTop (mkF m 70 #[.val (.int qb0), .val (.int qb1), .val (.int qb2), .val (.int qb3), .val (.int qn), .val (.int qs), .val (.int sta), .val (.int av), .val (.int en), .val (.int (Int8.toInt32 (Int32.toInt8 (qs >>> ((8 : Int32) &&& 31))))), .val (.ref b1), .unset] [(.int (Int8.toInt32 (Int32.toInt8 qb2))), (.int (sta + (2 : Int32))), (.ref b1)]))
  have lo25 : ¬ (sta + (2 : Int32)) < 0 := (by have := own_k hsta; simp only [Int32.lt_iff_toInt_lt, ← Int32.toInt_inj, own_i_m3, own_i_m2, own_i_m1, own_i_0, own_i_1, own_i_2, own_i_3, own_i_4, own_i_5, own_i_7, own_i_15, own_i_31, own_i_63, own_i_128, own_i_143, own_i_144, own_i_159, own_i_160, own_i_191, own_i_192, own_i_194, own_i_223, own_i_224, own_i_225, own_i_237, own_i_239, own_i_240, own_i_241, own_i_243, own_i_244, own_i_248, own_i_255, own_i_2048, own_i_55296, own_i_57343, own_i_65536, own_i_1114111]; omega)
  have hi25 : (sta + (2 : Int32)) < (5 : Int32) := (by have := own_k hsta; simp only [Int32.lt_iff_toInt_lt, ← Int32.toInt_inj, own_i_m3, own_i_m2, own_i_m1, own_i_0, own_i_1, own_i_2, own_i_3, own_i_4, own_i_5, own_i_7, own_i_15, own_i_31, own_i_63, own_i_128, own_i_143, own_i_144, own_i_159, own_i_160, own_i_191, own_i_192, own_i_194, own_i_223, own_i_224, own_i_225, own_i_237, own_i_239, own_i_240, own_i_241, own_i_243, own_i_244, own_i_248, own_i_255, own_i_2048, own_i_55296, own_i_57343, own_i_65536, own_i_1114111]; omega)
  obtain ⟨T26, h26, X26, e26, W26, f26, st26⟩ := Ai.stB X21 hx hZ e21 f21 (j := (sta + (2 : Int32))) (x := (Int8.toInt32 (Int32.toInt8 qb2))) lo25 hi25 (g := (mkF m 70 #[.val (.int qb0), .val (.int qb1), .val (.int qb2), .val (.int qb3), .val (.int qn), .val (.int qs), .val (.int sta), .val (.int av), .val (.int en), .val (.int (Int8.toInt32 (Int32.toInt8 (qs >>> ((8 : Int32) &&& 31))))), .val (.ref b1), .unset] [(.int (Int8.toInt32 (Int32.toInt8 qb2))), (.int (sta + (2 : Int32))), (.ref b1)])) rfl rfl (hb hby at_70)
  refine Go.step st26 ?_
  have N26 := Fr.snoc X26 N21 gn1
  have z27 : n0 ≤ h26.size := Nat.le_trans z22 (Keep.of_wr W26).1
  have sqz27 : h0.size ≤ h26.size := Nat.le_trans sqz22 (Keep.of_wr W26).1
  obtain ⟨f29c, qf29c⟩ : ∃ fz, fz = (fun jj => if jj = (sta + (2 : Int32)) then (nar .byte (Int8.toInt32 (Int32.toInt8 qb2))) else f24c jj) := ⟨_, rfl⟩
  rw [← qf29c] at f26
  show Go _ _ _ _ _ _ _ (T26.setTop (mkF m 71 #[.val (.int qb0), .val (.int qb1), .val (.int qb2), .val (.int qb3), .val (.int qn), .val (.int qs), .val (.int sta), .val (.int av), .val (.int en), .val (.int (Int8.toInt32 (Int32.toInt8 (qs >>> ((8 : Int32) &&& 31))))), .val (.ref b1), .unset] []))
  refine Go.step (fun _ k => XS.aload X26.here hx rfl (hb hby at_71) rfl rfl  k) ?_
  show Go _ _ _ _ _ _ _ (T26.setTop (mkF m 73 #[.val (.int qb0), .val (.int qb1), .val (.int qb2), .val (.int qb3), .val (.int qn), .val (.int qs), .val (.int sta), .val (.int av), .val (.int en), .val (.int (Int8.toInt32 (Int32.toInt8 (qs >>> ((8 : Int32) &&& 31))))), .val (.ref b1), .unset] [(.ref b1)]))
  refine Go.step (fun _ k => XS.iload X26.here hx rfl (hb hby at_73) rfl  k) ?_
  show Go _ _ _ _ _ _ _ (T26.setTop (mkF m 75 #[.val (.int qb0), .val (.int qb1), .val (.int qb2), .val (.int qb3), .val (.int qn), .val (.int qs), .val (.int sta), .val (.int av), .val (.int en), .val (.int (Int8.toInt32 (Int32.toInt8 (qs >>> ((8 : Int32) &&& 31))))), .val (.ref b1), .unset] [(.int sta), (.ref b1)]))
  refine Go.step (fun _ k => XS.iconst X26.here hx rfl (hb hby at_75) k) ?_
  show Go _ _ _ _ _ _ _ (T26.setTop (mkF m 76 #[.val (.int qb0), .val (.int qb1), .val (.int qb2), .val (.int qb3), .val (.int qn), .val (.int qs), .val (.int sta), .val (.int av), .val (.int en), .val (.int (Int8.toInt32 (Int32.toInt8 (qs >>> ((8 : Int32) &&& 31))))), .val (.ref b1), .unset] [(.int (3 : Int32)), (.int sta), (.ref b1)]))
  refine Go.step (fun _ k => XS.iadd X26.here hx rfl (hb hby at_76) rfl k) ?_
  show Go _ _ _ _ _ _ _ (T26.setTop (mkF m 77 #[.val (.int qb0), .val (.int qb1), .val (.int qb2), .val (.int qb3), .val (.int qn), .val (.int qs), .val (.int sta), .val (.int av), .val (.int en), .val (.int (Int8.toInt32 (Int32.toInt8 (qs >>> ((8 : Int32) &&& 31))))), .val (.ref b1), .unset] [(.int (sta + (3 : Int32))), (.ref b1)]))
  refine Go.step (fun _ k => XS.iloadN X26.here hx rfl (hb hby at_77) rfl  k) ?_
  show Go _ _ _ _ _ _ _ (T26.setTop (mkF m 78 #[.val (.int qb0), .val (.int qb1), .val (.int qb2), .val (.int qb3), .val (.int qn), .val (.int qs), .val (.int sta), .val (.int av), .val (.int en), .val (.int (Int8.toInt32 (Int32.toInt8 (qs >>> ((8 : Int32) &&& 31))))), .val (.ref b1), .unset] [(.int qb3), (.int (sta + (3 : Int32))), (.ref b1)]))
  refine Go.step (fun _ k => XS.i2b X26.here hx rfl (hb hby at_78) rfl k) ?_
  show Go _ _ _ _ _ _ _ (T26.setTop (mkF m 79 #[.val (.int qb0), .val (.int qb1), .val (.int qb2), .val (.int qb3), .val (.int qn), .val (.int qs), .val (.int sta), .val (.int av), .val (.int en), .val (.int (Int8.toInt32 (Int32.toInt8 (qs >>> ((8 : Int32) &&& 31))))), .val (.ref b1), .unset] [(.int (Int8.toInt32 (Int32.toInt8 qb3))), (.int (sta + (3 : Int32))), (.ref b1)]))
  have lo30 : ¬ (sta + (3 : Int32)) < 0 := (by have := own_k hsta; simp only [Int32.lt_iff_toInt_lt, ← Int32.toInt_inj, own_i_m3, own_i_m2, own_i_m1, own_i_0, own_i_1, own_i_2, own_i_3, own_i_4, own_i_5, own_i_7, own_i_15, own_i_31, own_i_63, own_i_128, own_i_143, own_i_144, own_i_159, own_i_160, own_i_191, own_i_192, own_i_194, own_i_223, own_i_224, own_i_225, own_i_237, own_i_239, own_i_240, own_i_241, own_i_243, own_i_244, own_i_248, own_i_255, own_i_2048, own_i_55296, own_i_57343, own_i_65536, own_i_1114111]; omega)
  have hi30 : (sta + (3 : Int32)) < (5 : Int32) := (by have := own_k hsta; simp only [Int32.lt_iff_toInt_lt, ← Int32.toInt_inj, own_i_m3, own_i_m2, own_i_m1, own_i_0, own_i_1, own_i_2, own_i_3, own_i_4, own_i_5, own_i_7, own_i_15, own_i_31, own_i_63, own_i_128, own_i_143, own_i_144, own_i_159, own_i_160, own_i_191, own_i_192, own_i_194, own_i_223, own_i_224, own_i_225, own_i_237, own_i_239, own_i_240, own_i_241, own_i_243, own_i_244, own_i_248, own_i_255, own_i_2048, own_i_55296, own_i_57343, own_i_65536, own_i_1114111]; omega)
  obtain ⟨T31, h31, X31, e31, W31, f31, st31⟩ := Ai.stB X26 hx hZ e26 f26 (j := (sta + (3 : Int32))) (x := (Int8.toInt32 (Int32.toInt8 qb3))) lo30 hi30 (g := (mkF m 79 #[.val (.int qb0), .val (.int qb1), .val (.int qb2), .val (.int qb3), .val (.int qn), .val (.int qs), .val (.int sta), .val (.int av), .val (.int en), .val (.int (Int8.toInt32 (Int32.toInt8 (qs >>> ((8 : Int32) &&& 31))))), .val (.ref b1), .unset] [(.int (Int8.toInt32 (Int32.toInt8 qb3))), (.int (sta + (3 : Int32))), (.ref b1)])) rfl rfl (hb hby at_79)
  refine Go.step st31 ?_
  have N31 := Fr.snoc X31 N26 gn1
  have z32 : n0 ≤ h31.size := Nat.le_trans z27 (Keep.of_wr W31).1
  have sqz32 : h0.size ≤ h31.size := Nat.le_trans sqz27 (Keep.of_wr W31).1
  obtain ⟨f34c, qf34c⟩ : ∃ fz, fz = (fun jj => if jj = (sta + (3 : Int32)) then (nar .byte (Int8.toInt32 (Int32.toInt8 qb3))) else f29c jj) := ⟨_, rfl⟩
  rw [← qf34c] at f31
  have hd := own_ds hsta
  have e0 : f34c sta = nar .byte (Int8.toInt32 (Int32.toInt8 qb0)) := by
    rw [qf34c]; simp only [qf29c, qf24c, qf19c, qf14c, qf9c, hd.1, hd.2.1, hd.2.2.1, hd.2.2.2.1, hd.2.2.2.2.1, hd.2.2.2.2.2, if_true, if_false]
  have e1 : f34c (sta + (1 : Int32)) = nar .byte (Int8.toInt32 (Int32.toInt8 qb1)) := by
    rw [qf34c]; simp only [qf29c, qf24c, qf19c, qf14c, qf9c, hd.1, hd.2.1, hd.2.2.1, hd.2.2.2.1, hd.2.2.2.2.1, hd.2.2.2.2.2, if_true, if_false]
  have e2 : f34c (sta + (2 : Int32)) = nar .byte (Int8.toInt32 (Int32.toInt8 qb2)) := by
    rw [qf34c]; simp only [qf29c, qf24c, qf19c, qf14c, qf9c, hd.1, hd.2.1, hd.2.2.1, hd.2.2.2.1, hd.2.2.2.2.1, hd.2.2.2.2.2, if_true, if_false]
  have e3 : f34c (sta + (3 : Int32)) = nar .byte (Int8.toInt32 (Int32.toInt8 qb3)) := by
    rw [qf34c]; simp only [qf29c, qf24c, qf19c, qf14c, qf9c, hd.1, hd.2.1, hd.2.2.1, hd.2.2.2.1, hd.2.2.2.2.1, hd.2.2.2.2.2, if_true, if_false]
  show Go _ _ _ _ _ _ _ (T31.setTop (mkF m 80 #[.val (.int qb0), .val (.int qb1), .val (.int qb2), .val (.int qb3), .val (.int qn), .val (.int qs), .val (.int sta), .val (.int av), .val (.int en), .val (.int (Int8.toInt32 (Int32.toInt8 (qs >>> ((8 : Int32) &&& 31))))), .val (.ref b1), .unset] []))
  refine Go.step (fun _ k => XS.aload X31.here hx rfl (hb hby at_80) rfl rfl  k) ?_
  show Go _ _ _ _ _ _ _ (T31.setTop (mkF m 82 #[.val (.int qb0), .val (.int qb1), .val (.int qb2), .val (.int qb3), .val (.int qn), .val (.int qs), .val (.int sta), .val (.int av), .val (.int en), .val (.int (Int8.toInt32 (Int32.toInt8 (qs >>> ((8 : Int32) &&& 31))))), .val (.ref b1), .unset] [(.ref b1)]))
  refine Go.step (fun _ k => XS.iload X31.here hx rfl (hb hby at_82) rfl  k) ?_
  show Go _ _ _ _ _ _ _ (T31.setTop (mkF m 84 #[.val (.int qb0), .val (.int qb1), .val (.int qb2), .val (.int qb3), .val (.int qn), .val (.int qs), .val (.int sta), .val (.int av), .val (.int en), .val (.int (Int8.toInt32 (Int32.toInt8 (qs >>> ((8 : Int32) &&& 31))))), .val (.ref b1), .unset] [(.int sta), (.ref b1)]))
  refine Go.step (fun _ k => XS.iload X31.here hx rfl (hb hby at_84) rfl  k) ?_
  show Go _ _ _ _ _ _ _ (T31.setTop (mkF m 86 #[.val (.int qb0), .val (.int qb1), .val (.int qb2), .val (.int qb3), .val (.int qn), .val (.int qs), .val (.int sta), .val (.int av), .val (.int en), .val (.int (Int8.toInt32 (Int32.toInt8 (qs >>> ((8 : Int32) &&& 31))))), .val (.ref b1), .unset] [(.int en), (.int sta), (.ref b1)]))
  have pq35 : 0 ≤ sta.toInt ∧ sta.toInt ≤ 1 := hsta
  have pq36 : sta.toInt + 1 ≤ en.toInt ∧ en.toInt ≤ sta.toInt + 4 := (by omega)
  obtain ⟨_, _, ⟨T37, L37, k37, n37⟩, -, X37, ⟨Lc37, hQ37, l37, y37, z37⟩, st37⟩ := Jvm.LawKit.callS X31 hx (y := (⟨"com/example/omniform/omniform/Utf8", "measure", "([BII)I"⟩ : MethodName)) hown (mvT hZ (hw _ (List.mem_of_getElem? (i := 1) rfl))) (mvT hZ (hw _ (List.mem_of_getElem? (i := 2) rfl))) (mvT hZ (hw _ (List.mem_of_getElem? (i := 3) rfl))) (mvT hZ (hw _ (List.mem_of_getElem? (i := 4) rfl))) (by decide) (backOf (W := 0) (rm1 l Z aZ hw [] b1 sta en f34c h31 n0 z32 f31 pq35 pq36) hZ (hw _ (List.mem_of_getElem? (i := 4) rfl)) (hw _ (List.mem_of_getElem? (i := 3) rfl)) (by decide) (by decide)) (g := (mkF m 86 #[.val (.int qb0), .val (.int qb1), .val (.int qb2), .val (.int qb3), .val (.int qn), .val (.int qs), .val (.int sta), .val (.int av), .val (.int en), .val (.int (Int8.toInt32 (Int32.toInt8 (qs >>> ((8 : Int32) &&& 31))))), .val (.ref b1), .unset] [(.int en), (.int sta), (.ref b1)])) rfl (by rw [hml]; rfl) (argsL := [(.ref b1), (.int sta), (.int en)]) (rest := []) (lenOf pd_3 rfl) rfl (by show 2 * 0 + _ ≤ _; exact Nat.le_of_eq rfl) (hb hby at_86) (fun _ _ => ⟨rfl, e31, (by decide : 1 + 0 ≤ _), (by decide : 5 + 0 ≤ _)⟩)
  dsimp only [Pt.U, Pt.locs, Pt.cells, Pt.slots] at X37 l37 y37 z37 st37 hQ37
  subst l37 y37 z37
  obtain ⟨rfl, Nq37, e37⟩ := hQ37
  have N37 := Fr.app N31 Nq37
  refine Go.step st37 ?_
  show Go _ _ _ _ _ _ _ (T37.setTop (mkF m 89 #[.val (.int qb0), .val (.int qb1), .val (.int qb2), .val (.int qb3), .val (.int qn), .val (.int qs), .val (.int sta), .val (.int av), .val (.int en), .val (.int (Int8.toInt32 (Int32.toInt8 (qs >>> ((8 : Int32) &&& 31))))), .val (.ref b1), .unset] [(.int (own_M ((f34c sta) &&& (255 : Int32)).toInt ((f34c (sta + (1 : Int32))) &&& (255 : Int32)).toInt ((f34c (sta + (2 : Int32))) &&& (255 : Int32)).toInt ((f34c (sta + (3 : Int32))) &&& (255 : Int32)).toInt (en.toInt - sta.toInt)))]))
  refine Go.step (fun _ k => XS.istore X37.here hx rfl (hb hby at_89) rfl (l' := #[.val (.int qb0), .val (.int qb1), .val (.int qb2), .val (.int qb3), .val (.int qn), .val (.int qs), .val (.int sta), .val (.int av), .val (.int en), .val (.int (Int8.toInt32 (Int32.toInt8 (qs >>> ((8 : Int32) &&& 31))))), .val (.ref b1), .val (.int (own_M ((f34c sta) &&& (255 : Int32)).toInt ((f34c (sta + (1 : Int32))) &&& (255 : Int32)).toInt ((f34c (sta + (2 : Int32))) &&& (255 : Int32)).toInt ((f34c (sta + (3 : Int32))) &&& (255 : Int32)).toInt (en.toInt - sta.toInt)))]) rfl k) ?_
  show Go _ _ _ _ _ _ _ (T37.setTop (mkF m 91 #[.val (.int qb0), .val (.int qb1), .val (.int qb2), .val (.int qb3), .val (.int qn), .val (.int qs), .val (.int sta), .val (.int av), .val (.int en), .val (.int (Int8.toInt32 (Int32.toInt8 (qs >>> ((8 : Int32) &&& 31))))), .val (.ref b1), .val (.int (own_M ((f34c sta) &&& (255 : Int32)).toInt ((f34c (sta + (1 : Int32))) &&& (255 : Int32)).toInt ((f34c (sta + (2 : Int32))) &&& (255 : Int32)).toInt ((f34c (sta + (3 : Int32))) &&& (255 : Int32)).toInt (en.toInt - sta.toInt)))] []))
  refine Go.step (fun _ k => XS.iload X37.here hx rfl (hb hby at_91) rfl  k) ?_
  show Go _ _ _ _ _ _ _ (T37.setTop (mkF m 93 #[.val (.int qb0), .val (.int qb1), .val (.int qb2), .val (.int qb3), .val (.int qn), .val (.int qs), .val (.int sta), .val (.int av), .val (.int en), .val (.int (Int8.toInt32 (Int32.toInt8 (qs >>> ((8 : Int32) &&& 31))))), .val (.ref b1), .val (.int (own_M ((f34c sta) &&& (255 : Int32)).toInt ((f34c (sta + (1 : Int32))) &&& (255 : Int32)).toInt ((f34c (sta + (2 : Int32))) &&& (255 : Int32)).toInt ((f34c (sta + (3 : Int32))) &&& (255 : Int32)).toInt (en.toInt - sta.toInt)))] [(.int (own_M ((f34c sta) &&& (255 : Int32)).toInt ((f34c (sta + (1 : Int32))) &&& (255 : Int32)).toInt ((f34c (sta + (2 : Int32))) &&& (255 : Int32)).toInt ((f34c (sta + (3 : Int32))) &&& (255 : Int32)).toInt (en.toInt - sta.toInt)))]))
  refine Go.step (fun _ k => XS.iloadN X37.here hx rfl (hb hby at_93) rfl  k) ?_
  show Go _ _ _ _ _ _ _ (T37.setTop (mkF m 94 #[.val (.int qb0), .val (.int qb1), .val (.int qb2), .val (.int qb3), .val (.int qn), .val (.int qs), .val (.int sta), .val (.int av), .val (.int en), .val (.int (Int8.toInt32 (Int32.toInt8 (qs >>> ((8 : Int32) &&& 31))))), .val (.ref b1), .val (.int (own_M ((f34c sta) &&& (255 : Int32)).toInt ((f34c (sta + (1 : Int32))) &&& (255 : Int32)).toInt ((f34c (sta + (2 : Int32))) &&& (255 : Int32)).toInt ((f34c (sta + (3 : Int32))) &&& (255 : Int32)).toInt (en.toInt - sta.toInt)))] [(.int qb0), (.int (own_M ((f34c sta) &&& (255 : Int32)).toInt ((f34c (sta + (1 : Int32))) &&& (255 : Int32)).toInt ((f34c (sta + (2 : Int32))) &&& (255 : Int32)).toInt ((f34c (sta + (3 : Int32))) &&& (255 : Int32)).toInt (en.toInt - sta.toInt)))]))
  refine Go.step (fun _ k => XS.sipush X37.here hx rfl (hb hby at_94) k) ?_
  show Go _ _ _ _ _ _ _ (T37.setTop (mkF m 97 #[.val (.int qb0), .val (.int qb1), .val (.int qb2), .val (.int qb3), .val (.int qn), .val (.int qs), .val (.int sta), .val (.int av), .val (.int en), .val (.int (Int8.toInt32 (Int32.toInt8 (qs >>> ((8 : Int32) &&& 31))))), .val (.ref b1), .val (.int (own_M ((f34c sta) &&& (255 : Int32)).toInt ((f34c (sta + (1 : Int32))) &&& (255 : Int32)).toInt ((f34c (sta + (2 : Int32))) &&& (255 : Int32)).toInt ((f34c (sta + (3 : Int32))) &&& (255 : Int32)).toInt (en.toInt - sta.toInt)))] [(.int (255 : Int32)), (.int qb0), (.int (own_M ((f34c sta) &&& (255 : Int32)).toInt ((f34c (sta + (1 : Int32))) &&& (255 : Int32)).toInt ((f34c (sta + (2 : Int32))) &&& (255 : Int32)).toInt ((f34c (sta + (3 : Int32))) &&& (255 : Int32)).toInt (en.toInt - sta.toInt)))]))
  refine Go.step (fun _ k => XS.iand X37.here hx rfl (hb hby at_97) rfl k) ?_
  show Go _ _ _ _ _ _ _ (T37.setTop (mkF m 98 #[.val (.int qb0), .val (.int qb1), .val (.int qb2), .val (.int qb3), .val (.int qn), .val (.int qs), .val (.int sta), .val (.int av), .val (.int en), .val (.int (Int8.toInt32 (Int32.toInt8 (qs >>> ((8 : Int32) &&& 31))))), .val (.ref b1), .val (.int (own_M ((f34c sta) &&& (255 : Int32)).toInt ((f34c (sta + (1 : Int32))) &&& (255 : Int32)).toInt ((f34c (sta + (2 : Int32))) &&& (255 : Int32)).toInt ((f34c (sta + (3 : Int32))) &&& (255 : Int32)).toInt (en.toInt - sta.toInt)))] [(.int (qb0 &&& (255 : Int32))), (.int (own_M ((f34c sta) &&& (255 : Int32)).toInt ((f34c (sta + (1 : Int32))) &&& (255 : Int32)).toInt ((f34c (sta + (2 : Int32))) &&& (255 : Int32)).toInt ((f34c (sta + (3 : Int32))) &&& (255 : Int32)).toInt (en.toInt - sta.toInt)))]))
  refine Go.step (fun _ k => XS.iloadN X37.here hx rfl (hb hby at_98) rfl  k) ?_
  show Go _ _ _ _ _ _ _ (T37.setTop (mkF m 99 #[.val (.int qb0), .val (.int qb1), .val (.int qb2), .val (.int qb3), .val (.int qn), .val (.int qs), .val (.int sta), .val (.int av), .val (.int en), .val (.int (Int8.toInt32 (Int32.toInt8 (qs >>> ((8 : Int32) &&& 31))))), .val (.ref b1), .val (.int (own_M ((f34c sta) &&& (255 : Int32)).toInt ((f34c (sta + (1 : Int32))) &&& (255 : Int32)).toInt ((f34c (sta + (2 : Int32))) &&& (255 : Int32)).toInt ((f34c (sta + (3 : Int32))) &&& (255 : Int32)).toInt (en.toInt - sta.toInt)))] [(.int qb1), (.int (qb0 &&& (255 : Int32))), (.int (own_M ((f34c sta) &&& (255 : Int32)).toInt ((f34c (sta + (1 : Int32))) &&& (255 : Int32)).toInt ((f34c (sta + (2 : Int32))) &&& (255 : Int32)).toInt ((f34c (sta + (3 : Int32))) &&& (255 : Int32)).toInt (en.toInt - sta.toInt)))]))
  refine Go.step (fun _ k => XS.sipush X37.here hx rfl (hb hby at_99) k) ?_
  show Go _ _ _ _ _ _ _ (T37.setTop (mkF m 102 #[.val (.int qb0), .val (.int qb1), .val (.int qb2), .val (.int qb3), .val (.int qn), .val (.int qs), .val (.int sta), .val (.int av), .val (.int en), .val (.int (Int8.toInt32 (Int32.toInt8 (qs >>> ((8 : Int32) &&& 31))))), .val (.ref b1), .val (.int (own_M ((f34c sta) &&& (255 : Int32)).toInt ((f34c (sta + (1 : Int32))) &&& (255 : Int32)).toInt ((f34c (sta + (2 : Int32))) &&& (255 : Int32)).toInt ((f34c (sta + (3 : Int32))) &&& (255 : Int32)).toInt (en.toInt - sta.toInt)))] [(.int (255 : Int32)), (.int qb1), (.int (qb0 &&& (255 : Int32))), (.int (own_M ((f34c sta) &&& (255 : Int32)).toInt ((f34c (sta + (1 : Int32))) &&& (255 : Int32)).toInt ((f34c (sta + (2 : Int32))) &&& (255 : Int32)).toInt ((f34c (sta + (3 : Int32))) &&& (255 : Int32)).toInt (en.toInt - sta.toInt)))]))
  refine Go.step (fun _ k => XS.iand X37.here hx rfl (hb hby at_102) rfl k) ?_
  show Go _ _ _ _ _ _ _ (T37.setTop (mkF m 103 #[.val (.int qb0), .val (.int qb1), .val (.int qb2), .val (.int qb3), .val (.int qn), .val (.int qs), .val (.int sta), .val (.int av), .val (.int en), .val (.int (Int8.toInt32 (Int32.toInt8 (qs >>> ((8 : Int32) &&& 31))))), .val (.ref b1), .val (.int (own_M ((f34c sta) &&& (255 : Int32)).toInt ((f34c (sta + (1 : Int32))) &&& (255 : Int32)).toInt ((f34c (sta + (2 : Int32))) &&& (255 : Int32)).toInt ((f34c (sta + (3 : Int32))) &&& (255 : Int32)).toInt (en.toInt - sta.toInt)))] [(.int (qb1 &&& (255 : Int32))), (.int (qb0 &&& (255 : Int32))), (.int (own_M ((f34c sta) &&& (255 : Int32)).toInt ((f34c (sta + (1 : Int32))) &&& (255 : Int32)).toInt ((f34c (sta + (2 : Int32))) &&& (255 : Int32)).toInt ((f34c (sta + (3 : Int32))) &&& (255 : Int32)).toInt (en.toInt - sta.toInt)))]))
  refine Go.step (fun _ k => XS.iloadN X37.here hx rfl (hb hby at_103) rfl  k) ?_
  show Go _ _ _ _ _ _ _ (T37.setTop (mkF m 104 #[.val (.int qb0), .val (.int qb1), .val (.int qb2), .val (.int qb3), .val (.int qn), .val (.int qs), .val (.int sta), .val (.int av), .val (.int en), .val (.int (Int8.toInt32 (Int32.toInt8 (qs >>> ((8 : Int32) &&& 31))))), .val (.ref b1), .val (.int (own_M ((f34c sta) &&& (255 : Int32)).toInt ((f34c (sta + (1 : Int32))) &&& (255 : Int32)).toInt ((f34c (sta + (2 : Int32))) &&& (255 : Int32)).toInt ((f34c (sta + (3 : Int32))) &&& (255 : Int32)).toInt (en.toInt - sta.toInt)))] [(.int qb2), (.int (qb1 &&& (255 : Int32))), (.int (qb0 &&& (255 : Int32))), (.int (own_M ((f34c sta) &&& (255 : Int32)).toInt ((f34c (sta + (1 : Int32))) &&& (255 : Int32)).toInt ((f34c (sta + (2 : Int32))) &&& (255 : Int32)).toInt ((f34c (sta + (3 : Int32))) &&& (255 : Int32)).toInt (en.toInt - sta.toInt)))]))
  refine Go.step (fun _ k => XS.sipush X37.here hx rfl (hb hby at_104) k) ?_
  show Go _ _ _ _ _ _ _ (T37.setTop (mkF m 107 #[.val (.int qb0), .val (.int qb1), .val (.int qb2), .val (.int qb3), .val (.int qn), .val (.int qs), .val (.int sta), .val (.int av), .val (.int en), .val (.int (Int8.toInt32 (Int32.toInt8 (qs >>> ((8 : Int32) &&& 31))))), .val (.ref b1), .val (.int (own_M ((f34c sta) &&& (255 : Int32)).toInt ((f34c (sta + (1 : Int32))) &&& (255 : Int32)).toInt ((f34c (sta + (2 : Int32))) &&& (255 : Int32)).toInt ((f34c (sta + (3 : Int32))) &&& (255 : Int32)).toInt (en.toInt - sta.toInt)))] [(.int (255 : Int32)), (.int qb2), (.int (qb1 &&& (255 : Int32))), (.int (qb0 &&& (255 : Int32))), (.int (own_M ((f34c sta) &&& (255 : Int32)).toInt ((f34c (sta + (1 : Int32))) &&& (255 : Int32)).toInt ((f34c (sta + (2 : Int32))) &&& (255 : Int32)).toInt ((f34c (sta + (3 : Int32))) &&& (255 : Int32)).toInt (en.toInt - sta.toInt)))]))
  refine Go.step (fun _ k => XS.iand X37.here hx rfl (hb hby at_107) rfl k) ?_
  show Go _ _ _ _ _ _ _ (T37.setTop (mkF m 108 #[.val (.int qb0), .val (.int qb1), .val (.int qb2), .val (.int qb3), .val (.int qn), .val (.int qs), .val (.int sta), .val (.int av), .val (.int en), .val (.int (Int8.toInt32 (Int32.toInt8 (qs >>> ((8 : Int32) &&& 31))))), .val (.ref b1), .val (.int (own_M ((f34c sta) &&& (255 : Int32)).toInt ((f34c (sta + (1 : Int32))) &&& (255 : Int32)).toInt ((f34c (sta + (2 : Int32))) &&& (255 : Int32)).toInt ((f34c (sta + (3 : Int32))) &&& (255 : Int32)).toInt (en.toInt - sta.toInt)))] [(.int (qb2 &&& (255 : Int32))), (.int (qb1 &&& (255 : Int32))), (.int (qb0 &&& (255 : Int32))), (.int (own_M ((f34c sta) &&& (255 : Int32)).toInt ((f34c (sta + (1 : Int32))) &&& (255 : Int32)).toInt ((f34c (sta + (2 : Int32))) &&& (255 : Int32)).toInt ((f34c (sta + (3 : Int32))) &&& (255 : Int32)).toInt (en.toInt - sta.toInt)))]))
  refine Go.step (fun _ k => XS.iloadN X37.here hx rfl (hb hby at_108) rfl  k) ?_
  show Go _ _ _ _ _ _ _ (T37.setTop (mkF m 109 #[.val (.int qb0), .val (.int qb1), .val (.int qb2), .val (.int qb3), .val (.int qn), .val (.int qs), .val (.int sta), .val (.int av), .val (.int en), .val (.int (Int8.toInt32 (Int32.toInt8 (qs >>> ((8 : Int32) &&& 31))))), .val (.ref b1), .val (.int (own_M ((f34c sta) &&& (255 : Int32)).toInt ((f34c (sta + (1 : Int32))) &&& (255 : Int32)).toInt ((f34c (sta + (2 : Int32))) &&& (255 : Int32)).toInt ((f34c (sta + (3 : Int32))) &&& (255 : Int32)).toInt (en.toInt - sta.toInt)))] [(.int qb3), (.int (qb2 &&& (255 : Int32))), (.int (qb1 &&& (255 : Int32))), (.int (qb0 &&& (255 : Int32))), (.int (own_M ((f34c sta) &&& (255 : Int32)).toInt ((f34c (sta + (1 : Int32))) &&& (255 : Int32)).toInt ((f34c (sta + (2 : Int32))) &&& (255 : Int32)).toInt ((f34c (sta + (3 : Int32))) &&& (255 : Int32)).toInt (en.toInt - sta.toInt)))]))
  refine Go.step (fun _ k => XS.sipush X37.here hx rfl (hb hby at_109) k) ?_
  show Go _ _ _ _ _ _ _ (T37.setTop (mkF m 112 #[.val (.int qb0), .val (.int qb1), .val (.int qb2), .val (.int qb3), .val (.int qn), .val (.int qs), .val (.int sta), .val (.int av), .val (.int en), .val (.int (Int8.toInt32 (Int32.toInt8 (qs >>> ((8 : Int32) &&& 31))))), .val (.ref b1), .val (.int (own_M ((f34c sta) &&& (255 : Int32)).toInt ((f34c (sta + (1 : Int32))) &&& (255 : Int32)).toInt ((f34c (sta + (2 : Int32))) &&& (255 : Int32)).toInt ((f34c (sta + (3 : Int32))) &&& (255 : Int32)).toInt (en.toInt - sta.toInt)))] [(.int (255 : Int32)), (.int qb3), (.int (qb2 &&& (255 : Int32))), (.int (qb1 &&& (255 : Int32))), (.int (qb0 &&& (255 : Int32))), (.int (own_M ((f34c sta) &&& (255 : Int32)).toInt ((f34c (sta + (1 : Int32))) &&& (255 : Int32)).toInt ((f34c (sta + (2 : Int32))) &&& (255 : Int32)).toInt ((f34c (sta + (3 : Int32))) &&& (255 : Int32)).toInt (en.toInt - sta.toInt)))]))
  refine Go.step (fun _ k => XS.iand X37.here hx rfl (hb hby at_112) rfl k) ?_
  show Go _ _ _ _ _ _ _ (T37.setTop (mkF m 113 #[.val (.int qb0), .val (.int qb1), .val (.int qb2), .val (.int qb3), .val (.int qn), .val (.int qs), .val (.int sta), .val (.int av), .val (.int en), .val (.int (Int8.toInt32 (Int32.toInt8 (qs >>> ((8 : Int32) &&& 31))))), .val (.ref b1), .val (.int (own_M ((f34c sta) &&& (255 : Int32)).toInt ((f34c (sta + (1 : Int32))) &&& (255 : Int32)).toInt ((f34c (sta + (2 : Int32))) &&& (255 : Int32)).toInt ((f34c (sta + (3 : Int32))) &&& (255 : Int32)).toInt (en.toInt - sta.toInt)))] [(.int (qb3 &&& (255 : Int32))), (.int (qb2 &&& (255 : Int32))), (.int (qb1 &&& (255 : Int32))), (.int (qb0 &&& (255 : Int32))), (.int (own_M ((f34c sta) &&& (255 : Int32)).toInt ((f34c (sta + (1 : Int32))) &&& (255 : Int32)).toInt ((f34c (sta + (2 : Int32))) &&& (255 : Int32)).toInt ((f34c (sta + (3 : Int32))) &&& (255 : Int32)).toInt (en.toInt - sta.toInt)))]))
  refine Go.step (fun _ k => XS.iload X37.here hx rfl (hb hby at_113) rfl  k) ?_
  show Go _ _ _ _ _ _ _ (T37.setTop (mkF m 115 #[.val (.int qb0), .val (.int qb1), .val (.int qb2), .val (.int qb3), .val (.int qn), .val (.int qs), .val (.int sta), .val (.int av), .val (.int en), .val (.int (Int8.toInt32 (Int32.toInt8 (qs >>> ((8 : Int32) &&& 31))))), .val (.ref b1), .val (.int (own_M ((f34c sta) &&& (255 : Int32)).toInt ((f34c (sta + (1 : Int32))) &&& (255 : Int32)).toInt ((f34c (sta + (2 : Int32))) &&& (255 : Int32)).toInt ((f34c (sta + (3 : Int32))) &&& (255 : Int32)).toInt (en.toInt - sta.toInt)))] [(.int av), (.int (qb3 &&& (255 : Int32))), (.int (qb2 &&& (255 : Int32))), (.int (qb1 &&& (255 : Int32))), (.int (qb0 &&& (255 : Int32))), (.int (own_M ((f34c sta) &&& (255 : Int32)).toInt ((f34c (sta + (1 : Int32))) &&& (255 : Int32)).toInt ((f34c (sta + (2 : Int32))) &&& (255 : Int32)).toInt ((f34c (sta + (3 : Int32))) &&& (255 : Int32)).toInt (en.toInt - sta.toInt)))]))
  have pq38 : 0 ≤ (qb0 &&& (255 : Int32)).toInt ∧ (qb0 &&& (255 : Int32)).toInt ≤ 255 := own_255 _
  have pq39 : 0 ≤ (qb1 &&& (255 : Int32)).toInt ∧ (qb1 &&& (255 : Int32)).toInt ≤ 255 := own_255 _
  have pq40 : 0 ≤ (qb2 &&& (255 : Int32)).toInt ∧ (qb2 &&& (255 : Int32)).toInt ≤ 255 := own_255 _
  have pq41 : 0 ≤ (qb3 &&& (255 : Int32)).toInt ∧ (qb3 &&& (255 : Int32)).toInt ≤ 255 := own_255 _
  have pq42 : 1 ≤ av.toInt ∧ av.toInt ≤ 4 := hav
  obtain ⟨_, _, ⟨T43, L43, k43, n43⟩, -, X43, ⟨Lc43, hQ43, l43, y43, z43⟩, st43⟩ := Jvm.LawKit.callS X37 hx (y := (⟨"com/example/omniform/omniform/Utf8MeasurePinLaw", "expected", "(IIIII)I"⟩ : MethodName)) hown (mvT hZ (hw _ (List.mem_of_getElem? (i := 5) rfl))) (mvT hZ (hw _ (List.mem_of_getElem? (i := 6) rfl))) (mvT hZ (hw _ (List.mem_of_getElem? (i := 7) rfl))) (mvT hZ (hw _ (List.mem_of_getElem? (i := 8) rfl))) (by decide) (backOf (W := 1) (rm2 l Z aZ hw [] (qb0 &&& (255 : Int32)) (qb1 &&& (255 : Int32)) (qb2 &&& (255 : Int32)) (qb3 &&& (255 : Int32)) av h31 n0 z32 pq38 pq39 pq40 pq41 pq42) hZ (hw _ (List.mem_of_getElem? (i := 8) rfl)) (hw _ (List.mem_of_getElem? (i := 7) rfl)) (by decide) (by decide)) (g := (mkF m 115 #[.val (.int qb0), .val (.int qb1), .val (.int qb2), .val (.int qb3), .val (.int qn), .val (.int qs), .val (.int sta), .val (.int av), .val (.int en), .val (.int (Int8.toInt32 (Int32.toInt8 (qs >>> ((8 : Int32) &&& 31))))), .val (.ref b1), .val (.int (own_M ((f34c sta) &&& (255 : Int32)).toInt ((f34c (sta + (1 : Int32))) &&& (255 : Int32)).toInt ((f34c (sta + (2 : Int32))) &&& (255 : Int32)).toInt ((f34c (sta + (3 : Int32))) &&& (255 : Int32)).toInt (en.toInt - sta.toInt)))] [(.int av), (.int (qb3 &&& (255 : Int32))), (.int (qb2 &&& (255 : Int32))), (.int (qb1 &&& (255 : Int32))), (.int (qb0 &&& (255 : Int32))), (.int (own_M ((f34c sta) &&& (255 : Int32)).toInt ((f34c (sta + (1 : Int32))) &&& (255 : Int32)).toInt ((f34c (sta + (2 : Int32))) &&& (255 : Int32)).toInt ((f34c (sta + (3 : Int32))) &&& (255 : Int32)).toInt (en.toInt - sta.toInt)))])) rfl (by rw [hml]; rfl) (argsL := [(.int (qb0 &&& (255 : Int32))), (.int (qb1 &&& (255 : Int32))), (.int (qb2 &&& (255 : Int32))), (.int (qb3 &&& (255 : Int32))), (.int av)]) (rest := [(.int (own_M ((f34c sta) &&& (255 : Int32)).toInt ((f34c (sta + (1 : Int32))) &&& (255 : Int32)).toInt ((f34c (sta + (2 : Int32))) &&& (255 : Int32)).toInt ((f34c (sta + (3 : Int32))) &&& (255 : Int32)).toInt (en.toInt - sta.toInt)))]) (lenOf pd_4 rfl) rfl (by show 2 * 0 + _ ≤ _; exact Nat.le_of_eq rfl) (hb hby at_115) (fun _ _ => ⟨rfl, e37, (by decide : 1 + 0 ≤ _), (by decide : 5 + 0 ≤ _)⟩)
  dsimp only [Pt.U, Pt.locs, Pt.cells, Pt.slots] at X43 l43 y43 z43 st43 hQ43
  subst l43 y43 z43
  obtain ⟨rfl, Nq43, e43⟩ := hQ43
  have N43 := Fr.app N37 Nq43
  refine Go.step st43 ?_
  show Go _ _ _ _ _ _ _ (T43.setTop (mkF m 118 #[.val (.int qb0), .val (.int qb1), .val (.int qb2), .val (.int qb3), .val (.int qn), .val (.int qs), .val (.int sta), .val (.int av), .val (.int en), .val (.int (Int8.toInt32 (Int32.toInt8 (qs >>> ((8 : Int32) &&& 31))))), .val (.ref b1), .val (.int (own_M ((f34c sta) &&& (255 : Int32)).toInt ((f34c (sta + (1 : Int32))) &&& (255 : Int32)).toInt ((f34c (sta + (2 : Int32))) &&& (255 : Int32)).toInt ((f34c (sta + (3 : Int32))) &&& (255 : Int32)).toInt (en.toInt - sta.toInt)))] [(.int (own_M (qb0 &&& (255 : Int32)).toInt (qb1 &&& (255 : Int32)).toInt (qb2 &&& (255 : Int32)).toInt (qb3 &&& (255 : Int32)).toInt av.toInt)), (.int (own_M ((f34c sta) &&& (255 : Int32)).toInt ((f34c (sta + (1 : Int32))) &&& (255 : Int32)).toInt ((f34c (sta + (2 : Int32))) &&& (255 : Int32)).toInt ((f34c (sta + (3 : Int32))) &&& (255 : Int32)).toInt (en.toInt - sta.toInt)))]))
  have hc118 : (own_M ((f34c sta) &&& (255 : Int32)).toInt ((f34c (sta + (1 : Int32))) &&& (255 : Int32)).toInt ((f34c (sta + (2 : Int32))) &&& (255 : Int32)).toInt ((f34c (sta + (3 : Int32))) &&& (255 : Int32)).toInt (en.toInt - sta.toInt)) = (own_M (qb0 &&& (255 : Int32)).toInt (qb1 &&& (255 : Int32)).toInt (qb2 &&& (255 : Int32)).toInt (qb3 &&& (255 : Int32)).toInt av.toInt) := by rw [e0, e1, e2, e3, own_lo8, own_lo8, own_lo8, own_lo8, show en.toInt - sta.toInt = av.toInt from by omega]
  refine Go.step (fun _ k => XS.icmpNo X43.here hx rfl (hb hby at_118) rfl (teq hc118).2 k) ?_
  show Go _ _ _ _ _ _ _ (T43.setTop (mkF m 121 #[.val (.int qb0), .val (.int qb1), .val (.int qb2), .val (.int qb3), .val (.int qn), .val (.int qs), .val (.int sta), .val (.int av), .val (.int en), .val (.int (Int8.toInt32 (Int32.toInt8 (qs >>> ((8 : Int32) &&& 31))))), .val (.ref b1), .val (.int (own_M ((f34c sta) &&& (255 : Int32)).toInt ((f34c (sta + (1 : Int32))) &&& (255 : Int32)).toInt ((f34c (sta + (2 : Int32))) &&& (255 : Int32)).toInt ((f34c (sta + (3 : Int32))) &&& (255 : Int32)).toInt (en.toInt - sta.toInt)))] []))
  refine Go.step (fun _ k => XS.iconst X43.here hx rfl (hb hby at_121) k) ?_
  show Go _ _ _ _ _ _ _ (T43.setTop (mkF m 122 #[.val (.int qb0), .val (.int qb1), .val (.int qb2), .val (.int qb3), .val (.int qn), .val (.int qs), .val (.int sta), .val (.int av), .val (.int en), .val (.int (Int8.toInt32 (Int32.toInt8 (qs >>> ((8 : Int32) &&& 31))))), .val (.ref b1), .val (.int (own_M ((f34c sta) &&& (255 : Int32)).toInt ((f34c (sta + (1 : Int32))) &&& (255 : Int32)).toInt ((f34c (sta + (2 : Int32))) &&& (255 : Int32)).toInt ((f34c (sta + (3 : Int32))) &&& (255 : Int32)).toInt (en.toInt - sta.toInt)))] [(.int (1 : Int32))]))
  refine Go.step (fun _ k => XS.goto X43.here hx rfl (pc0 := 122) (pc' := 126) rfl (hb hby at_122) (by decide) (by decide) k) ?_
  show Go _ _ _ _ _ _ _ (T43.setTop (mkF m 126 #[.val (.int qb0), .val (.int qb1), .val (.int qb2), .val (.int qb3), .val (.int qn), .val (.int qs), .val (.int sta), .val (.int av), .val (.int en), .val (.int (Int8.toInt32 (Int32.toInt8 (qs >>> ((8 : Int32) &&& 31))))), .val (.ref b1), .val (.int (own_M ((f34c sta) &&& (255 : Int32)).toInt ((f34c (sta + (1 : Int32))) &&& (255 : Int32)).toInt ((f34c (sta + (2 : Int32))) &&& (255 : Int32)).toInt ((f34c (sta + (3 : Int32))) &&& (255 : Int32)).toInt (en.toInt - sta.toInt)))] [(.int (1 : Int32))]))
  refine Go.retN X43 hx (t := .boolean) Bd.returns (by simp) hlk (hb hby at_126) ?_ (by decide) (by decide)
  rw [e43]
  exact ⟨(by first | rfl | (simp_all [own_nb1, own_nb0]; done)), N43⟩
set_option maxRecDepth 65536 in
set_option maxHeartbeats 40000000 in
theorem comes_1 {Post : Tables → Env → Array Value → State → Outcome → State → Prop} (hpost : ∀ tb e args s v u, (limb_1_1.after args s (.returned v) u = true ∧ limb_1_2.after args s (.returned v) u = true ∧ True) → FrameEnd s (.returned v) u (Jvm.fieldLocs frame_1_writes args s ++ Jvm.arrayLocs frame_1_arrays args s ++ Jvm.staticLocs frame_1_statics s) 16 128 → Post tb e args s (.returned v) u) :
    ArmFor flags0 classFile x code maxLocals ret World_1 tables_1 room_1 Calls_1 rest_1 Pre_1 Post := by
  intro l hfl _ _ p e ha hc hk s m args below hf hA hF happ hP
  obtain ⟨hcalls, hrest, hpre⟩ := hP
  obtain ⟨-, -, -, hnamed, -, -, -, hat⟩ := (Spec.applies_iff hf).mp happ
  obtain ⟨hg, hn⟩ := and_e (Cond.before_iff.mp (show (Jvm.Cond.and given_1 narrow_1).before args s = true from hpre))
  obtain ⟨g0, r0⟩ := and_e hg
  obtain ⟨a0, r1⟩ := and_e r0
  obtain ⟨a1, r2⟩ := and_e r1
  obtain ⟨a2, r3⟩ := and_e r2
  obtain ⟨a3, r4⟩ := and_e r3
  obtain ⟨a4, r5⟩ := and_e r4
  have a5 := r5
  obtain ⟨w0, w1, w2, w3, w4, w5, rfl⟩ : ∃ w0 w1 w2 w3 w4 w5 : Value, args = #[w0, w1, w2, w3, w4, w5] := by
    have hs : args.size = 6 := by simpa [Cond.value, given_1] using g0
    obtain ⟨L⟩ := args
    match L, hs with
    | [w0, w1, w2, w3, w4, w5], _ => exact ⟨w0, w1, w2, w3, w4, w5, rfl⟩
  have hw := fun d (hd : d ∈ tables_1) => atoms_spec (ws := Jvm.Cond.code x code maxLocals ret :: tables_1) hat d (List.mem_cons_of_mem _ hd)
  have hfit : Fit s := fun {y c} hc i hi => by
    obtain ⟨ha, rfl⟩ := Array.getElem?_eq_some_iff.mp hc
    have q := List.all_eq_true.mp ((Array.all_eq_true_iff_forall_mem.mp hF) _ (Array.getElem_mem ha)) i (List.mem_range.mpr hi)
    simpa [Array.getElem?_eq_getElem hi] using q
  obtain ⟨i0, ei0⟩ := is_v a0
  obtain rfl : w0 = (.int i0) := Option.some.inj ei0
  obtain ⟨i1, ei1⟩ := is_v a1
  obtain rfl : w1 = (.int i1) := Option.some.inj ei1
  obtain ⟨i2, ei2⟩ := is_v a2
  obtain rfl : w2 = (.int i2) := Option.some.inj ei2
  obtain ⟨i3, ei3⟩ := is_v a3
  obtain rfl : w3 = (.int i3) := Option.some.inj ei3
  obtain ⟨i4, ei4⟩ := is_v a4
  obtain rfl : w4 = (.int i4) := Option.some.inj ei4
  obtain ⟨i5, ei5⟩ := is_v a5
  obtain rfl : w5 = (.int i5) := Option.some.inj ei5
  obtain ⟨n, o, h1, h2, h3, _, L, rfl, ⟨rfl, N⟩, hq⟩ := rm0 l s _ hw tables_1 i0 i1 i2 i3 i4 i5  s.heap s.heap.size (Nat.le_refl _)  p e ha hc hk s m _ below hf ((Spec.applies_iff_loose hf).mp happ).1 ⟨rfl, State.Warmed39.refl s, rfl⟩ trivial
  refine ⟨n, _, h1, h2, h3, hpost _ _ _ _ _ _ ⟨Cond.after_iff.mpr rfl, Cond.after_iff.mpr (eq_i res_at (Term.int_eval (1)) rfl), trivial⟩ ⟨hq.1, hq.2.1, (hq.2.2.sift fun y hy => Or.inr (N y hy)).mono (by decide) (by decide)⟩⟩
theorem main_1_1 : Claimed_1_1 := comes_1 fun _ _ _ _ _ _ h hF => ⟨h.1, hF⟩
theorem main_1_2 : Claimed_1_2 := comes_1 fun _ _ _ _ _ _ h hF => ⟨h.2.1, hF⟩
end Jvm.Pilot.@@N@@
namespace Jvm.Pilot.@@N@@
open Jvm Jvm.ClassFile Sem Op Lib Jvm.Free Jvm.Stand Jvm.Pilot.@@N@@.Jvm.D
/-! MADE BY PROGRAM (witnessworld.py) out of the Statement's table words and the real class files: 10 classes; the members and pool entries that the words name. The judged class is class 1, her method 1. -/
namespace start1
open Jvm.ClassFile
def u (s : String) : CpInfo := .utf8 (stringToUtf16 s)
/-- a pool by its gaps: so many unusable entries, then the entry; so many at the end -/
def gap : Nat → List CpInfo → List CpInfo
  | 0, r => r
  | n + 1, r => .unusable :: gap n r
def poolList (es : List (Nat × CpInfo)) (last : Nat) : List CpInfo := es.foldr (fun e r => gap e.1 (e.2 :: r)) (gap last [])
def pool (es : List (Nat × CpInfo)) (last : Nat) : Array CpInfo := ⟨poolList es last⟩
def fileOf (pool : Array CpInfo) (this : Nat) (attrs : Array Attribute := #[]) (ms : Array MethodInfo := #[]) (fl : Nat := 33) (sup : Nat := 0) (ifs : Array Nat := #[]) (fds : Array FieldInfo := #[]) : ClassFile where
  minorVersion := 0
  majorVersion := 65
  constantPool := pool
  accessFlags := fl
  thisClass := this
  superClass := sup
  interfaces := ifs
  fields := fds
  methods := ms
  attributes := attrs
def plain (name : String) (sup : Option ClassId) : Class where
  name := name
  kind := .ordinary
  loader := none
  accessFlags := 33
  super := sup
  interfaces := #[]
  cf := none
  fields := #[]
  methods := #[]
  instanceTypes := #[]
  staticTypes := #[]
  resolved := #[]
  callSites := []
  init := .initialized
  statics := none
  mirror := none

def pool0 : Array CpInfo := pool [(5, u "<init>"), (0, u "()V"), (1, .class_ 10), (1, u "java/lang/Object")] 113

def k0m0 : Method := { name := "<init>", desc := "()V", sig := { parameters := [], returnType := none }, accessFlags := 1, code := none }
/-- java/lang/Object -/
def k0 : Class := { plain "java/lang/Object" none with
  accessFlags := 33
  interfaces := #[]
  cf := some (fileOf pool0 8 #[] #[{ accessFlags := 1, nameIndex := 5, descriptorIndex := 6, attributes := #[] }] 33 0 #[] #[])
  fields := #[]
  methods := #[k0m0]
  instanceTypes := #[]
  staticTypes := #[]
  resolved := Array.replicate 124 none
  statics := none }

def pool1 : Array CpInfo := pool [(2, .class_ 4), (1, u "java/lang/Object"), (0, u "<init>"), (0, u "()V"), (0, .methodref 8 9), (0, .class_ 10), (0, .nameAndType 11 12), (0, u "com/example/omniform/omniform/Utf8"), (0, u "measure"), (0, u "([BII)I"), (0, .methodref 14 15), (0, .class_ 16), (0, .nameAndType 17 18), (0, u "com/example/omniform/omniform/Utf8MeasurePinLaw"), (0, u "expected"), (0, u "(IIIII)I"), (0, .methodref 20 21), (0, .class_ 22), (0, .nameAndType 23 24), (0, u "java/lang/Math"), (0, u "max"), (0, u "(II)I"), (0, .integer 1114111), (0, .methodref 20 27), (0, .nameAndType 28 24), (0, u "min"), (0, .integer 55296), (0, .integer 57343), (0, .integer 65536), (0, .methodref 14 33), (0, .nameAndType 34 35), (0, u "viable"), (0, u "(III)Z"), (0, .methodref 14 37), (0, .nameAndType 38 39), (0, u "cont"), (0, u "(I)Z"), (2, u "law"), (0, u "(IIIIII)Z")] 5

def k1m0 : Method := { name := "<init>", desc := "()V", sig := { parameters := [], returnType := none }, accessFlags := 2, code := none }
def k1c1 : Code := { maxStack := 6, maxLocals := 12, code := code, exceptionTable := #[], attributes := #[] }
def k1m1 : Method := { name := "law", desc := "(IIIIII)Z", sig := { parameters := [.int, .int, .int, .int, .int, .int], returnType := some .boolean }, accessFlags := 9, code := some k1c1 }
def k1c2 : Code := { maxStack := 2, maxLocals := 1, code := method_3_code, exceptionTable := #[], attributes := #[] }
def k1m2 : Method := { name := "cont", desc := "(I)Z", sig := { parameters := [.int], returnType := some .boolean }, accessFlags := 10, code := some k1c2 }
def k1c3 : Code := { maxStack := 4, maxLocals := 7, code := method_4_code, exceptionTable := #[], attributes := #[] }
def k1m3 : Method := { name := "viable", desc := "(III)Z", sig := { parameters := [.int, .int, .int], returnType := some .boolean }, accessFlags := 10, code := some k1c3 }
def k1c4 : Code := { maxStack := 3, maxLocals := 8, code := method_5_code, exceptionTable := #[], attributes := #[] }
def k1m4 : Method := { name := "expected", desc := "(IIIII)I", sig := { parameters := [.int, .int, .int, .int, .int], returnType := some .int }, accessFlags := 10, code := some k1c4 }
/-- com/example/omniform/omniform/Utf8MeasurePinLaw -/
def k1 : Class := { plain "com/example/omniform/omniform/Utf8MeasurePinLaw" (some 0) with
  accessFlags := 49
  interfaces := #[]
  cf := some (fileOf pool1 14 #[] #[{ accessFlags := 2, nameIndex := 5, descriptorIndex := 6, attributes := #[] }, { accessFlags := 9, nameIndex := 42, descriptorIndex := 43, attributes := #[] }, { accessFlags := 10, nameIndex := 38, descriptorIndex := 39, attributes := #[] }, { accessFlags := 10, nameIndex := 34, descriptorIndex := 35, attributes := #[] }, { accessFlags := 10, nameIndex := 17, descriptorIndex := 18, attributes := #[] }] 49 2 #[] #[])
  fields := #[]
  methods := #[k1m0, k1m1, k1m2, k1m3, k1m4]
  instanceTypes := #[]
  staticTypes := #[]
  resolved := Array.replicate 49 none
  statics := none }

def pool2 : Array CpInfo := pool [(2, .class_ 4), (1, u "java/lang/Object"), (0, u "<init>"), (0, u "()V"), (1, .class_ 9), (0, u "com/example/omniform/omniform/Utf8"), (2, u "measure"), (0, u "([BII)I")] 8

def k2m0 : Method := { name := "<init>", desc := "()V", sig := { parameters := [], returnType := none }, accessFlags := 2, code := none }
def k2c1 : Code := { maxStack := 3, maxLocals := 9, code := prog_34_method_2_code, exceptionTable := #[], attributes := #[] }
def k2m1 : Method := { name := "measure", desc := "([BII)I", sig := { parameters := [(.array .byte), .int, .int], returnType := some .int }, accessFlags := 8, code := some k2c1 }
/-- com/example/omniform/omniform/Utf8 -/
def k2 : Class := { plain "com/example/omniform/omniform/Utf8" (some 0) with
  accessFlags := 48
  interfaces := #[]
  cf := some (fileOf pool2 8 #[] #[{ accessFlags := 2, nameIndex := 5, descriptorIndex := 6, attributes := #[] }, { accessFlags := 8, nameIndex := 12, descriptorIndex := 13, attributes := #[] }] 48 2 #[] #[])
  fields := #[]
  methods := #[k2m0, k2m1]
  instanceTypes := #[]
  staticTypes := #[]
  resolved := Array.replicate 22 none
  statics := none }

def pool3 : Array CpInfo := pool [(1, .class_ 2), (0, u "java/lang/Math"), (1, .class_ 6), (1, u "java/lang/Object"), (0, u "<init>"), (0, u "()V"), (89, .class_ 100), (1, u "java/lang/Math$RandomNumberGeneratorHolder"), (71, u "negativeZeroFloatBits"), (0, u "J"), (2, u "negativeZeroDoubleBits"), (21, u "max"), (2, u "min"), (43, u "$assertionsDisabled"), (0, u "Z"), (88, u "(II)I"), (2, u "twoToTheDoubleScaleDown"), (0, u "D"), (4, u "twoToTheDoubleScaleUp"), (9, u "E"), (3, u "PI"), (2, u "TAU"), (2, u "DEGREES_TO_RADIANS"), (0, u "RADIANS_TO_DEGREES")] 94

def k3m0 : Method := { name := "<init>", desc := "()V", sig := { parameters := [], returnType := none }, accessFlags := 2, code := none }
def k3c1 : Code := { maxStack := 2, maxLocals := 2, code := jdk_29_method_65_code, exceptionTable := #[], attributes := #[] }
def k3m1 : Method := { name := "max", desc := "(II)I", sig := { parameters := [.int, .int], returnType := some .int }, accessFlags := 9, code := some k3c1 }
def k3c2 : Code := { maxStack := 2, maxLocals := 2, code := jdk_29_method_69_code, exceptionTable := #[], attributes := #[] }
def k3m2 : Method := { name := "min", desc := "(II)I", sig := { parameters := [.int, .int], returnType := some .int }, accessFlags := 9, code := some k3c2 }
/-- java/lang/Math -/
def k3 : Class := { plain "java/lang/Math" (some 0) with
  accessFlags := 49
  interfaces := #[]
  cf := some (fileOf pool3 1 #[.nestMembers #[98]] #[{ accessFlags := 2, nameIndex := 7, descriptorIndex := 8, attributes := #[] }, { accessFlags := 9, nameIndex := 198, descriptorIndex := 335, attributes := #[] }, { accessFlags := 9, nameIndex := 201, descriptorIndex := 335, attributes := #[] }] 49 4 #[] #[{ accessFlags := 25, nameIndex := 354, descriptorIndex := 339, attributes := #[] }, { accessFlags := 25, nameIndex := 358, descriptorIndex := 339, attributes := #[] }, { accessFlags := 25, nameIndex := 361, descriptorIndex := 339, attributes := #[] }, { accessFlags := 26, nameIndex := 364, descriptorIndex := 339, attributes := #[] }, { accessFlags := 26, nameIndex := 365, descriptorIndex := 339, attributes := #[] }, { accessFlags := 26, nameIndex := 172, descriptorIndex := 173, attributes := #[] }, { accessFlags := 26, nameIndex := 176, descriptorIndex := 173, attributes := #[] }, { accessFlags := 8, nameIndex := 344, descriptorIndex := 339, attributes := #[] }, { accessFlags := 8, nameIndex := 338, descriptorIndex := 339, attributes := #[] }, { accessFlags := 4120, nameIndex := 245, descriptorIndex := 246, attributes := #[] }])
  fields := #[{ name := "E", type := .double, accessFlags := 25, slot := 0, constantValue := 0 }, { name := "PI", type := .double, accessFlags := 25, slot := 1, constantValue := 0 }, { name := "TAU", type := .double, accessFlags := 25, slot := 2, constantValue := 0 }, { name := "DEGREES_TO_RADIANS", type := .double, accessFlags := 26, slot := 3, constantValue := 0 }, { name := "RADIANS_TO_DEGREES", type := .double, accessFlags := 26, slot := 4, constantValue := 0 }, { name := "negativeZeroFloatBits", type := .long, accessFlags := 26, slot := 5, constantValue := 0 }, { name := "negativeZeroDoubleBits", type := .long, accessFlags := 26, slot := 6, constantValue := 0 }, { name := "twoToTheDoubleScaleUp", type := .double, accessFlags := 8, slot := 7, constantValue := 0 }, { name := "twoToTheDoubleScaleDown", type := .double, accessFlags := 8, slot := 8, constantValue := 0 }, { name := "$assertionsDisabled", type := .boolean, accessFlags := 4120, slot := 9, constantValue := 0 }]
  methods := #[k3m0, k3m1, k3m2]
  instanceTypes := #[]
  staticTypes := #[.double, .double, .double, .double, .double, .long, .long, .double, .double, .boolean]
  resolved := Array.replicate 460 none
  statics := none }

def pool4 : Array CpInfo := pool [(1, u "java/lang/Cloneable"), (0, .class_ 1), (0, u "java/lang/Object"), (0, .class_ 3)] 3

/-- java/lang/Cloneable -/
def k4 : Class := { plain "java/lang/Cloneable" (some 0) with
  accessFlags := 1537
  interfaces := #[]
  cf := some (fileOf pool4 2 #[] #[] 1537 4 #[] #[])
  fields := #[]
  methods := #[]
  instanceTypes := #[]
  staticTypes := #[]
  resolved := Array.replicate 8 none
  statics := none }

def pool5 : Array CpInfo := pool [(1, u "java/io/Serializable"), (0, .class_ 1), (0, u "java/lang/Object"), (0, .class_ 3)] 3

/-- java/io/Serializable -/
def k5 : Class := { plain "java/io/Serializable" (some 0) with
  accessFlags := 1537
  interfaces := #[]
  cf := some (fileOf pool5 2 #[] #[] 1537 4 #[] #[])
  fields := #[]
  methods := #[]
  instanceTypes := #[]
  staticTypes := #[]
  resolved := Array.replicate 8 none
  statics := none }

/-- the primitive byte -/
def k6 : Class := { plain "byte" none with kind := .primitive 'B', accessFlags := 0x411 }
/-- [B -/
def k7 : Class := { plain "[B" (some 0) with kind := .array 6 .byte, interfaces := #[4, 5], accessFlags := 1041 }

/-- the primitive int -/
def k8 : Class := { plain "int" none with kind := .primitive 'I', accessFlags := 0x411 }
/-- [I -/
def k9 : Class := { plain "[I" (some 0) with kind := .array 8 .int, interfaces := #[4, 5], accessFlags := 1041 }

def heap : Heap := #[]
def classes : Array Class := #[k0, k1, k2, k3, k4, k5, k6, k7, k8, k9]
def interned : List (Array UInt16 × Addr) := []
def slotsUsed : Nat := 0
def theMethod : MethodId := ⟨1, 1⟩
def args0 : Array Value := #[.int 5, .int 3, .int 1, .int 1, .int 1, .int 3]
def aboutOver (below : List Frame) : State where
  vm := { classes := classes, interned := interned.toArray }
  heap := heap
  slotsUsed := slotsUsed
  threads := #[{ frames := .invoking theMethod args0 :: below }]
def below0 : List Frame := [.native { method := ⟨0, 0⟩, args := #[] }]
def about1 : State := aboutOver below0
def p0 : Program := .bare "" "" ""
def e0 : Env := launch0.env 0 0 0
theorem w_frames : about1.frames = Frame.invoking theMethod args0 :: below0 := rfl
set_option maxRecDepth 65536 in
theorem w_args : argsFit about1.vm theMethod args0 = true := by decide +kernel
set_option maxRecDepth 65536 in
theorem w_heap : heapFits about1 = true := by decide +kernel
set_option maxRecDepth 65536 in
theorem w_runnable : about1.curStatus? = some .runnable := by decide +kernel
set_option maxRecDepth 65536 in
theorem w_alone : about1.alone = true := by decide +kernel
set_option maxRecDepth 65536 in
theorem w_named : about1.methodNamed? x = some theMethod := by decide +kernel
set_option maxRecDepth 65536 in
theorem w_hears : about1.hears theMethod below0 = true := by decide +kernel
set_option maxRecDepth 65536 in
theorem w_ripe : about1.ripe theMethod args0 below0 = true := by decide +kernel
theorem w_running : about1.status = .running := rfl
set_option maxRecDepth 65536 in
theorem w_room : about1.hasRoom e0.platform room_1 = true :=
  launch0.hasRoom_least _ room_1 (by decide +kernel) (by decide +kernel) (by decide +kernel) (by decide +kernel) (by decide +kernel) (by decide +kernel)
theorem allAtoms_all (ts : List Jvm.Cond) (a : Array Jvm.Value) (st : Jvm.State) : (allAtoms ts).before a st = ts.all (fun c => c.before a st) := by
  induction ts with
  | nil => rfl
  | cons c t ih =>
    show (Jvm.Cond.and c (allAtoms t)).before a st = _
    rw [Jvm.Cond.before_and, ih, List.all_cons]
def words1 : List Jvm.Cond := Jvm.Cond.code x code maxLocals ret :: tables_1
/-- a 'code' word, met by the world's own term for the bytes: nothing is compared byte by byte -/
theorem code_word {y : MethodName} {bytes : ByteArray} {mx : Nat} {rt : Option FieldType} {a : Array Value} {s : State} {m : MethodId} {meth : Method} {c : Code} (h1 : s.methodNamed? y = some m) (h2 : s.vm.method? m = some meth) (h3 : meth.code = some c) (h4 : c.code = bytes)
    (h5 : (c.maxLocals == mx && c.exceptionTable.isEmpty && decide (c.maxStack ≤ mostOperands) && decide (meth.sig.returnType = rt) && !meth.locks && decide (parseMethodDescriptor y.desc = some meth.sig)) = true) : (Jvm.Cond.code y bytes mx rt).before a s = true := by
  simp only [Bool.and_eq_true, beq_iff_eq, Bool.not_eq_true', decide_eq_true_eq] at h5
  obtain ⟨⟨⟨⟨⟨g1, g2⟩, g3⟩, g4⟩, g5⟩, g6⟩ := h5
  simp [Cond.before, Cond.holds, Cond.value, h1, h2, h3, h4, g1, g2, g3, g4, g5, g6]
def isCode : Jvm.Cond → Bool
  | .code _ _ _ _ => true
  | _ => false
theorem all_split {L : List Jvm.Cond} {P : Jvm.Cond → Bool} (h1 : L.all (fun c => isCode c || P c) = true) (h2 : ∀ c ∈ L.filter isCode, P c = true) : L.all P = true := by
  refine List.all_eq_true.mpr fun c hc => ?_
  have h := List.all_eq_true.mp h1 c hc
  rcases Bool.eq_false_or_eq_true (isCode c) with hi | hi
  · exact h2 c (List.mem_filter.mpr ⟨hc, hi⟩)
  · simpa [hi] using h
set_option maxRecDepth 65536 in
theorem w_c0 : (Jvm.Cond.code x code maxLocals ret).before args0 about1 = true := code_word (m := ⟨1, 1⟩) (meth := k1m1) (c := k1c1) (by decide +kernel) rfl rfl rfl (by decide +kernel)
set_option maxRecDepth 65536 in
theorem w_c1 : (Jvm.Cond.code ({ cls := "com/example/omniform/omniform/Utf8", name := "measure", desc := "([BII)I" } : Jvm.MethodName) prog_34_method_2_code (9 : Nat) (Option.some Jvm.ClassFile.FieldType.int)).before args0 about1 = true := code_word (m := ⟨2, 1⟩) (meth := k2m1) (c := k2c1) (by decide +kernel) rfl rfl rfl (by decide +kernel)
set_option maxRecDepth 65536 in
theorem w_c2 : (Jvm.Cond.code ({ cls := "com/example/omniform/omniform/Utf8MeasurePinLaw", name := "expected", desc := "(IIIII)I" } : Jvm.MethodName) method_5_code (8 : Nat) (Option.some Jvm.ClassFile.FieldType.int)).before args0 about1 = true := code_word (m := ⟨1, 4⟩) (meth := k1m4) (c := k1c4) (by decide +kernel) rfl rfl rfl (by decide +kernel)
set_option maxRecDepth 65536 in
theorem w_c3 : (Jvm.Cond.code ({ cls := "com/example/omniform/omniform/Utf8MeasurePinLaw", name := "viable", desc := "(III)Z" } : Jvm.MethodName) method_4_code (7 : Nat) (Option.some Jvm.ClassFile.FieldType.boolean)).before args0 about1 = true := code_word (m := ⟨1, 3⟩) (meth := k1m3) (c := k1c3) (by decide +kernel) rfl rfl rfl (by decide +kernel)
set_option maxRecDepth 65536 in
theorem w_c4 : (Jvm.Cond.code ({ cls := "java/lang/Math", name := "max", desc := "(II)I" } : Jvm.MethodName) jdk_29_method_65_code (2 : Nat) (Option.some Jvm.ClassFile.FieldType.int)).before args0 about1 = true := code_word (m := ⟨3, 1⟩) (meth := k3m1) (c := k3c1) (by decide +kernel) rfl rfl rfl (by decide +kernel)
set_option maxRecDepth 65536 in
theorem w_c5 : (Jvm.Cond.code ({ cls := "java/lang/Math", name := "min", desc := "(II)I" } : Jvm.MethodName) jdk_29_method_69_code (2 : Nat) (Option.some Jvm.ClassFile.FieldType.int)).before args0 about1 = true := code_word (m := ⟨3, 2⟩) (meth := k3m2) (c := k3c2) (by decide +kernel) rfl rfl rfl (by decide +kernel)
set_option maxRecDepth 65536 in
theorem w_c6 : (Jvm.Cond.code ({ cls := "com/example/omniform/omniform/Utf8MeasurePinLaw", name := "cont", desc := "(I)Z" } : Jvm.MethodName) method_3_code (1 : Nat) (Option.some Jvm.ClassFile.FieldType.boolean)).before args0 about1 = true := code_word (m := ⟨1, 2⟩) (meth := k1m2) (c := k1c2) (by decide +kernel) rfl rfl rfl (by decide +kernel)
def codes1 : List Jvm.Cond := [Jvm.Cond.code x code maxLocals ret, Jvm.Cond.code ({ cls := "com/example/omniform/omniform/Utf8", name := "measure", desc := "([BII)I" } : Jvm.MethodName) prog_34_method_2_code (9 : Nat) (Option.some Jvm.ClassFile.FieldType.int), Jvm.Cond.code ({ cls := "com/example/omniform/omniform/Utf8MeasurePinLaw", name := "expected", desc := "(IIIII)I" } : Jvm.MethodName) method_5_code (8 : Nat) (Option.some Jvm.ClassFile.FieldType.int), Jvm.Cond.code ({ cls := "com/example/omniform/omniform/Utf8MeasurePinLaw", name := "viable", desc := "(III)Z" } : Jvm.MethodName) method_4_code (7 : Nat) (Option.some Jvm.ClassFile.FieldType.boolean), Jvm.Cond.code ({ cls := "java/lang/Math", name := "max", desc := "(II)I" } : Jvm.MethodName) jdk_29_method_65_code (2 : Nat) (Option.some Jvm.ClassFile.FieldType.int), Jvm.Cond.code ({ cls := "java/lang/Math", name := "min", desc := "(II)I" } : Jvm.MethodName) jdk_29_method_69_code (2 : Nat) (Option.some Jvm.ClassFile.FieldType.int), Jvm.Cond.code ({ cls := "com/example/omniform/omniform/Utf8MeasurePinLaw", name := "cont", desc := "(I)Z" } : Jvm.MethodName) method_3_code (1 : Nat) (Option.some Jvm.ClassFile.FieldType.boolean)]
set_option maxRecDepth 65536 in
theorem codes_eq : words1.filter isCode = codes1 := rfl
theorem w_codes : ∀ c ∈ words1.filter isCode, c.before args0 about1 = true := by
  rw [codes_eq]
  intro c hc
  simp only [codes1, List.mem_cons, List.not_mem_nil, or_false] at hc
  rcases hc with rfl | rfl | rfl | rfl | rfl | rfl | rfl
  · exact w_c0
  · exact w_c1
  · exact w_c2
  · exact w_c3
  · exact w_c4
  · exact w_c5
  · exact w_c6
set_option maxRecDepth 65536 in
theorem w_t1 : (words1.take 24).all (fun c => isCode c || c.before args0 about1) = true := by decide +kernel
set_option maxRecDepth 65536 in
theorem w_t2 : (words1.drop 24).all (fun c => isCode c || c.before args0 about1) = true := by decide +kernel
theorem w_tables : (allAtoms (Jvm.Cond.code x code maxLocals ret :: tables_1)).before args0 about1 = true := by
  rw [allAtoms_all]
  show words1.all (fun c => c.before args0 about1) = true
  refine all_split ?_ w_codes
  rw [← List.take_append_drop 24 words1, List.all_append, w_t1, w_t2]
  rfl
set_option maxRecDepth 65536 in
theorem w_case : (Jvm.Cond.and given_1 narrow_1).before args0 about1 = true := by decide +kernel
theorem w_applies : (headSpec (Jvm.Cond.code x code maxLocals ret :: tables_1) room_1).applies x e0.platform about1 = true :=
  (Spec.applies_iff w_frames).mpr ⟨w_running, w_runnable, w_alone, w_named, w_hears, w_ripe, w_room, w_tables⟩
theorem atStart : AtStart classFile x code maxLocals ret World_1 tables_1 room_1 Calls_1 rest_1 Pre_1 launch0 p0 e0 about1 theMethod args0 below0 :=
  ⟨lists_1, trivial, launch0.admits_env _ _ _, launch0.least_env, fairChoices_fair.cas, fairChoices_fair.clock, w_frames, w_args, w_heap, w_applies, trivial, trivial, w_case⟩
end start1
theorem witness_1 : WitnessClaimed_1 := ⟨start1.p0, start1.e0, start1.about1, start1.theMethod, start1.args0, start1.below0, start1.atStart⟩
end Jvm.Pilot.@@N@@
