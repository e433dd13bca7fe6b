import JvmDerived
import JvmDerived.Pilot.@@N@@Statement
import JvmDerived.Pilot.@@N@@Code
set_option linter.unusedVariables false
set_option linter.unusedSimpArgs false
namespace Jvm.Pilot.@@N@@
open Jvm Jvm.ClassFile Sem Op Lib Jvm.Free Jvm.Stand Jvm.LawKit Jvm.RoadKit Bundle Jvm.Pilot.@@N@@.Jvm.D
section Own
variable {p : Program} {l : Launch} {e : Env} {R : Room} {s : State} {m : MethodId} {args : Array Value} {below : List Frame} {meth : Method} {c : Code} {T : State} {locs : List Loc} {cells slots : Nat} {C N : Nat} {Q : Option Value → Heap → List Loc → Prop} {S S' : State} {Z : State} {h h' : Heap}
/-- from the state S the invocation ends in a return, and Q holds there -/
def Go (p : Program) (e : Env) (below : List Frame) (s : State) (C N : Nat) (Q : Option Value → Heap → List Loc → Prop) (S : State) : Prop :=
  ∃ s₂ o, Steps p.tables e below S s₂ ∧ s₂.status = .running ∧ Ended s₂ below o ∧ ∃ v L, o = .returned v ∧ Q v s₂.heap L ∧ FrameEnd s o s₂ L C N
theorem Go.step (st : ∀ t, Steps p.tables e below S' t → Steps p.tables e below S t) (G : Go p e below s C N Q S') : Go p e below s C N Q S := by
  obtain ⟨s₂, o, h, r⟩ := G
  exact ⟨s₂, o, st _ h, r⟩
theorem Go.tr (st : Steps p.tables e below S S') (G : Go p e below s C N Q S') : Go p e below s C N Q S := by
  obtain ⟨s₂, o, h, r⟩ := G
  exact ⟨s₂, o, st.trans h, r⟩
theorem Go.out (X : Stand p l e R s m args below meth c T locs cells slots) {v : Option Value} {g : JFrame} (hv : meth.sig.returnType = none → v = none) (hlk : meth.locks = false)
    (hst : ∀ fs, (∀ (f : JFrame) (acts : List Action), f.method = m → f.locked = none → f.entered = [] → (doReturn e (T.setTop f) acts v).1 = T.setFrames fs) → Steps p.tables e below (T.setTop g) (T.setFrames fs))
    (hQ : Q v T.heap locs) (hc : cells ≤ C) (hn : slots ≤ N) : Go p e below s C N Q (T.setTop g) := by
  obtain ⟨fs, hr, hrun, hended, hW, hsame⟩ := X.leave (v := v) hv hlk
  exact ⟨_, _, hst fs hr, hrun, hended, _, _, rfl, hQ, ⟨_, rfl⟩, hW, hsame.mono hc hn⟩
theorem Go.retV (X : Stand p l e R s m args below meth c T locs cells slots) (hx : p.tables.exec = Jvm.exec) {pc : Nat} {Ls : Array Slot} (hret : meth.sig.returnType = none) (hlk : meth.locks = false) (hd : decode c.code pc = .ok (.return_, 1))
    (hQ : Q none T.heap locs) (hc : cells ≤ C) (hn : slots ≤ N) : Go p e below s C N Q (T.setTop (mkF m pc Ls [])) :=
  Go.out X (fun _ => rfl) hlk (fun fs hr => X.returnOut hx hret hd hr) hQ hc hn
theorem Go.retI (X : Stand p l e R s m args below meth c T locs cells slots) (hx : p.tables.exec = Jvm.exec) {pc : Nat} {Ls : Array Slot} {z : Int32} {rest : List Value} (hret : meth.sig.returnType = some .int) (hlk : meth.locks = false) (hd : decode c.code pc = .ok (.ireturn, 1))
    (hQ : Q (some (.int z)) T.heap locs) (hc : cells ≤ C) (hn : slots ≤ N) : Go p e below s C N Q (T.setTop (mkF m pc Ls (.int z :: rest))) :=
  Go.out X (fun h => by rw [hret] at h; cases h) hlk (fun fs hr => retOut X hx hret rfl (Or.inl ⟨rfl, Or.inl rfl, z, rfl⟩) hd hr) hQ hc hn
theorem Go.retN (X : Stand p l e R s m args below meth c T locs cells slots) (hx : p.tables.exec = Jvm.exec) {pc : Nat} {Ls : Array Slot} {z : Int32} {t : FieldType} {rest : List Value} (hret : meth.sig.returnType = some t) (ht : t = .boolean ∨ t = .byte ∨ t = .char ∨ t = .short) (hlk : meth.locks = false) (hd : decode c.code pc = .ok (.ireturn, 1))
    (hQ : Q (some (.int (nar t z))) T.heap locs) (hc : cells ≤ C) (hn : slots ≤ N) : Go p e below s C N Q (T.setTop (mkF m pc Ls (.int z :: rest))) :=
  Go.out X (fun h => by rw [hret] at h; cases h) hlk (fun fs hr => Jvm.RoadKit.retN X hx hret ht hd hr) hQ hc hn
theorem Go.retJ (X : Stand p l e R s m args below meth c T locs cells slots) (hx : p.tables.exec = Jvm.exec) {pc : Nat} {Ls : Array Slot} {z : Int64} {rest : List Value} (hret : meth.sig.returnType = some .long) (hlk : meth.locks = false) (hd : decode c.code pc = .ok (.lreturn, 1))
    (hQ : Q (some (.long z)) T.heap locs) (hc : cells ≤ C) (hn : slots ≤ N) : Go p e below s C N Q (T.setTop (mkF m pc Ls (.long z :: rest))) :=
  Go.out X (fun h => by rw [hret] at h; cases h) hlk (fun fs hr => retOut X hx hret rfl (Or.inr (Or.inl ⟨rfl, rfl, z, rfl⟩)) hd hr) hQ hc hn
theorem Go.retA (X : Stand p l e R s m args below meth c T locs cells slots) (hx : p.tables.exec = Jvm.exec) {pc : Nat} {Ls : Array Slot} {w : Value} {t : FieldType} {rest : List Value} (hret : meth.sig.returnType = some t) (ht : t.isReference = true) (hw : w.isRef = true) (hlk : meth.locks = false) (hd : decode c.code pc = .ok (.areturn, 1))
    (hQ : Q (some w) T.heap locs) (hc : cells ≤ C) (hn : slots ≤ N) : Go p e below s C N Q (T.setTop (mkF m pc Ls (w :: rest))) :=
  Go.out X (fun h => by rw [hret] at h; cases h) hlk (fun fs hr => retOut X hx hret (by rcases ref_cases hw with rfl | ⟨a, rfl⟩ <;> cases t <;> first | rfl | cases ht) (Or.inr (Or.inr (Or.inr (Or.inr ⟨rfl, ht, hw⟩)))) hd hr) hQ hc hn
/-- an array of ints, bytes ..: z places, the j-th holds f j -/
def Ai (Z : State) (h : Heap) (a : Addr) (ty : FieldType) (z : Int32) (f : Int32 → Int32) : Prop :=
  ∃ c : Cell, Arr Z h a c ty ∧ c.slots.size = z.toNatClampNeg ∧ ¬ z < 0 ∧ ∀ j : Int32, ¬ j < 0 → j < z → c.slots[j.toNatClampNeg]? = some (.int (f j))
theorem own_inb {cl : Cell} {z j : Int32} (S : cl.slots.size = z.toNatClampNeg) (h0 : ¬ j < 0) (h1 : j < z) : ¬ (j < 0 ∨ cl.slots.size ≤ j.toNatClampNeg) := inb_of S ⟨h0, h1⟩
theorem Ai.lt {a : Addr} {ty : FieldType} {z : Int32} {f : Int32 → Int32} (F : Ai Z h a ty z f) : a < h.size := by obtain ⟨c, A, -⟩ := F; exact A.lt
theorem Ai.nn {a : Addr} {ty : FieldType} {z : Int32} {f : Int32 → Int32} (F : Ai Z h a ty z f) : ¬ z < 0 := by obtain ⟨c, -, -, q, -⟩ := F; exact q
theorem Ai.ext {a : Addr} {ty : FieldType} {z : Int32} {f : Int32 → Int32} (F : Ai Z h a ty z f) (E : Ext h h') : Ai Z h' a ty z f := by obtain ⟨c, A, r⟩ := F; exact ⟨c, A.ext E, r⟩
theorem Ai.other {a b : Addr} {sl : Nat} {v : Value} {ty : FieldType} {z : Int32} {f : Int32 → Int32} (F : Ai Z h b ty z f) (W : Wr h h' a sl v) (q : b ≠ a) : Ai Z h' b ty z f := by obtain ⟨c, A, r⟩ := F; exact ⟨c, A.other W q, r⟩
theorem Ai.keep {a : Addr} {ws : List Addr} {ty : FieldType} {z : Int32} {f : Int32 → Int32} (F : Ai Z h a ty z f) (K : Keep h h' ws) (q : a ∉ ws) : Ai Z h' a ty z f := by obtain ⟨c, A, r⟩ := F; exact ⟨c, ⟨K.2.1 a c A.1 q, A.2⟩, r⟩
theorem Ai.new {a : Addr} {k : ClassId} {ty : FieldType} {z : Int32} (A : Arr Z h a (newA k ty z) ty) (q : ¬ z < 0) (hd : defaultValue ty = .int 0) : Ai Z h a ty z (fun _ => 0) :=
  ⟨_, A, sz_new _ _ _, q, fun j h0 h1 => by rw [get_new (sz_new k ty z ▸ own_inb (sz_new k ty z) h0 h1), hd]⟩
theorem Ai.eqf {a : Addr} {ty : FieldType} {z : Int32} {f g : Int32 → Int32} (F : Ai Z h a ty z f) (q : ∀ j : Int32, ¬ j < 0 → j < z → f j = g j) : Ai Z h a ty z g := by
  obtain ⟨c, A, S, n, H⟩ := F; exact ⟨c, A, S, n, fun j h0 h1 => by rw [← q j h0 h1]; exact H j h0 h1⟩
theorem Ai.set {a : Addr} {ty : FieldType} {z j x : Int32} {f : Int32 → Int32} (F : Ai Z h a ty z f) (h0 : ¬ j < 0) (h1 : j < z) (W : Wr h h' a j.toNatClampNeg (.int x)) : Ai Z h' a ty z (fun i => if i = j then x else f i) := by
  obtain ⟨c, A, S, n, H⟩ := F
  refine ⟨_, A.same W, by rw [sz_set]; exact S, n, fun i g0 g1 => ?_⟩
  by_cases e : i = j
  · rw [get_hit (own_inb S h0 h1) e]; simp [e]
  · rw [get_miss h0 g0 e, H i g0 g1]; simp [e]
theorem Ai.len (X : Stand p l e R s m args below meth c T locs cells slots) (hx : p.tables.exec = Jvm.exec) (hZ : Z.Warmed39 s.vm) (eT : T.heap = h) {a : Addr} {ty : FieldType} {z : Int32} {f : Int32 → Int32} (F : Ai Z h a ty z f)
    {g : JFrame} (hg : g.method = m) {rest : List Value} (hs : g.stack = .ref a :: rest) (hd : decode c.code g.pc = .ok (.arraylength, 1)) : ∀ target, Steps p.tables e below (T.setTop { g with pc := g.pc + 1, stack := .int z :: rest }) target → Steps p.tables e below (T.setTop g) target := by
  obtain ⟨cl, A, S, n, H⟩ := F
  intro t k
  refine X.arraylength hx (by rw [eT]; exact A.1) (State.isArrayOf_alike hZ.alike A.2.1) hg hs hd _ ?_
  rw [len_of S n]; exact k
theorem Ai.iaload (X : Stand p l e R s m args below meth c T locs cells slots) (hx : p.tables.exec = Jvm.exec) (hZ : Z.Warmed39 s.vm) (eT : T.heap = h) {a : Addr} {z j : Int32} {f : Int32 → Int32} (F : Ai Z h a .int z f) (h0 : ¬ j < 0) (h1 : j < z)
    {g : JFrame} (hg : g.method = m) {rest : List Value} (hs : g.stack = .int j :: .ref a :: rest) (hd : decode c.code g.pc = .ok (.iaload, 1)) : ∀ target, Steps p.tables e below (T.setTop { g with pc := g.pc + 1, stack := .int (f j) :: rest }) target → Steps p.tables e below (T.setTop g) target := by
  obtain ⟨cl, A, S, n, H⟩ := F
  exact X.iaload hx (by rw [eT]; exact A.1) (State.isArrayOf_alike hZ.alike A.2.1) A.2.2 (own_inb S h0 h1) (H j h0 h1) hg hs hd
theorem Ai.baload (X : Stand p l e R s m args below meth c T locs cells slots) (hx : p.tables.exec = Jvm.exec) (hZ : Z.Warmed39 s.vm) (eT : T.heap = h) {a : Addr} {z j : Int32} {f : Int32 → Int32} (F : Ai Z h a .byte z f) (h0 : ¬ j < 0) (h1 : j < z)
    {g : JFrame} (hg : g.method = m) {rest : List Value} (hs : g.stack = .int j :: .ref a :: rest) (hd : decode c.code g.pc = .ok (.baload, 1)) : ∀ target, Steps p.tables e below (T.setTop { g with pc := g.pc + 1, stack := .int (f j) :: rest }) target → Steps p.tables e below (T.setTop g) target := by
  obtain ⟨cl, A, S, n, H⟩ := F
  exact X.baloadBytes hx (by rw [eT]; exact A.1) (State.isArrayOf_alike hZ.alike A.2.1) A.2.2 (own_inb S h0 h1) (H j h0 h1) hg hs hd
theorem Ai.stI (X : Stand p l e R s m args below meth c T locs cells slots) (hx : p.tables.exec = Jvm.exec) (hZ : Z.Warmed39 s.vm) (eT : T.heap = h) {a : Addr} {z j x : Int32} {f : Int32 → Int32} (F : Ai Z h a .int z f) (h0 : ¬ j < 0) (h1 : j < z)
    {g : JFrame} (hg : g.method = m) {rest : List Value} (hs : g.stack = .int x :: .int j :: .ref a :: rest) (hd : decode c.code g.pc = .ok (.iastore, 1)) :
    ∃ T' h', Stand p l e R s m args below meth c T' (locs ++ [⟨a, j.toNatClampNeg⟩]) cells slots ∧ T'.heap = h' ∧ Wr h h' a j.toNatClampNeg (.int x) ∧ Ai Z h' a .int z (fun i => if i = j then x else f i) ∧ ∀ target, Steps p.tables e below (T'.setTop { g with pc := g.pc + 1, stack := rest }) target → Steps p.tables e below (T.setTop g) target := by
  obtain ⟨cl, A, S, n, H⟩ := F
  obtain ⟨T', h', X', e', W, st⟩ := Jvm.RoadKit.stI X hx hZ eT A (own_inb S h0 h1) hg hs hd
  exact ⟨T', h', X', e', W, Ai.set ⟨cl, A, S, n, H⟩ h0 h1 W, st⟩
theorem Ai.stB (X : Stand p l e R s m args below meth c T locs cells slots) (hx : p.tables.exec = Jvm.exec) (hZ : Z.Warmed39 s.vm) (eT : T.heap = h) {a : Addr} {z j x : Int32} {f : Int32 → Int32} (F : Ai Z h a .byte z f) (h0 : ¬ j < 0) (h1 : j < z)
    {g : JFrame} (hg : g.method = m) {rest : List Value} (hs : g.stack = .int x :: .int j :: .ref a :: rest) (hd : decode c.code g.pc = .ok (.bastore, 1)) :
    ∃ T' h', Stand p l e R s m args below meth c T' (locs ++ [⟨a, j.toNatClampNeg⟩]) cells slots ∧ T'.heap = h' ∧ Wr h h' a j.toNatClampNeg (.int (nar .byte x)) ∧ Ai Z h' a .byte z (fun i => if i = j then nar .byte x else f i) ∧ ∀ target, Steps p.tables e below (T'.setTop { g with pc := g.pc + 1, stack := rest }) target → Steps p.tables e below (T.setTop g) target := by
  obtain ⟨cl, A, S, n, H⟩ := F
  obtain ⟨T', h', X', e', W, st⟩ := Jvm.RoadKit.stB X hx hZ eT A (own_inb S h0 h1) hg hs hd
  exact ⟨T', h', X', e', W, Ai.set ⟨cl, A, S, n, H⟩ h0 h1 W, st⟩
end Own
theorem narrow_ref {t : FieldType} {v : Value} (hv : v.isRef = true) (ht : t.isReference = true) : narrow t v = v := by rcases ref_cases hv with rfl | ⟨a, rfl⟩ <;> cases t <;> first | rfl | cases ht
theorem fits_refV {t : FieldType} {v : Value} (hv : v.isRef = true) (ht : t.isReference = true) : fits t v = true := by rcases ref_cases hv with rfl | ⟨a, rfl⟩ <;> cases t <;> first | rfl | cases ht
theorem own_iincW {tb : Tables} [Ours tb] {e : Env} {below : List Frame} {T target : State} {m : MethodId} {c : Code} {g : JFrame} (h : At T m c below) (hx : tb.exec = Jvm.exec) (hg : g.method = m) {k : Nat} {cst : Int} {x : Int32} {l' : Array Slot} (hd : decode c.code g.pc = .ok (.iinc k cst, 6)) (hl : g.locals[k]? = some (.val (.int x))) (hl' : storeLocals g.locals k (.int (x + Int32.ofInt cst)) = some l')
    (hr : Steps tb e below (T.setTop { g with pc := g.pc + 6, locals := l' }) target) : Steps tb e below (T.setTop g) target := by
  subst hg
  jvm_step h [h.top, hx, hd, hl, hl']
  exact hr

theorem own_nb1 : nar .boolean 1 = 1 := by decide
theorem own_nb0 : nar .boolean 0 = 0 := by decide
theorem own_lirr {a : Int32} : ¬ a < a := by rw [Int32.lt_iff_toInt_lt]; omega
theorem own_lasym {a b : Int32} (h : a < b) : ¬ b < a := by rw [Int32.lt_iff_toInt_lt] at *; omega
theorem own_lneg {a b : Int32} (h0 : ¬ a < 0) (h : a < b) : ¬ b < 0 := by rw [Int32.lt_iff_toInt_lt] at *; omega
theorem own_clamp {z : Int32} {n : Nat} (h : z.toInt ≤ n) : z.toNatClampNeg ≤ n := by
  show z.toInt.toNat ≤ n
  omega
theorem own_i_0 : (0 : Int32).toInt = 0 := by decide
theorem own_i_128 : (128 : Int32).toInt = 128 := by decide
theorem own_i_192 : (192 : Int32).toInt = 192 := by decide
theorem own_i_224 : (224 : Int32).toInt = 224 := by decide
theorem own_i_240 : (240 : Int32).toInt = 240 := by decide
theorem own_i_255 : (255 : Int32).toInt = 255 := by decide
theorem own_i_63 : (63 : Int32).toInt = 63 := by decide
theorem own_i_2048 : (2048 : Int32).toInt = 2048 := by decide
theorem own_i_65536 : (65536 : Int32).toInt = 65536 := by decide
theorem own_i_55296 : (55296 : Int32).toInt = 55296 := by decide
theorem own_i_16320 : (16320 : Int32).toInt = 16320 := by decide
theorem own_i_8160 : (8160 : Int32).toInt = 8160 := by decide
theorem own_i_4080 : (4080 : Int32).toInt = 4080 := by decide
theorem own_lo8 (x : Int32) : (nar .byte (Int8.toInt32 (Int32.toInt8 x)) &&& (255 : Int32)).toInt = x.toInt % 256 := by
  have h1 := (c_i2b x).1
  have h2 := (c_i2b (Int8.toInt32 (Int32.toInt8 x))).1
  have h3 := c_mask (nar .byte (Int8.toInt32 (Int32.toInt8 x))) 255 8 (by decide) (by decide)
  rw [h3]
  have h4 : nar .byte (Int8.toInt32 (Int32.toInt8 x)) = (Int32.toInt8 (Int8.toInt32 (Int32.toInt8 x))).toInt32 := rfl
  rw [h4]
  have e : ((2 ^ 8 : Nat) : Int) = 256 := by decide
  rw [e]; omega
theorem own_e8 {x y : Int32} (h : x.toInt % 256 = y.toInt) : (nar .byte (Int8.toInt32 (Int32.toInt8 x)) &&& (255 : Int32)) = y := Int32.toInt_inj.mp (by rw [own_lo8]; exact h)
theorem own_m8 (x : Int32) : (nar .byte (Int8.toInt32 (Int32.toInt8 x)) &&& (255 : Int32)) = x &&& 255 := own_e8 (by
  have h3 := c_mask x 255 8 (by decide) (by decide)
  rw [h3]; rfl)
theorem own_cp (x : Int32) : 128 ≤ ((x &&& (2147483647 : Int32)) % (1111936 : Int32) + (128 : Int32)).toInt ∧ ((x &&& (2147483647 : Int32)) % (1111936 : Int32) + (128 : Int32)).toInt ≤ 1112063 := by
  have h1 := c_mask x 2147483647 31 (by decide) (by decide)
  have e1 : (1111936 : Int32).toInt = 1111936 := by decide
  have h2 := (c_iremV (x &&& 2147483647) 1111936).1 (by omega) (by decide)
  have h3 := c_iadd ((x &&& 2147483647) % 1111936) 128
  have h4 := rng32 ((x &&& 2147483647) % 1111936 + 128)
  rw [e1] at h2; rw [own_i_128] at h3
  omega
theorem own_cp2 {x : Int32} (h : 128 ≤ x.toInt ∧ x.toInt ≤ 1112063) : 128 ≤ (x + (2048 : Int32)).toInt ∧ (x + (2048 : Int32)).toInt ≤ 1114111 := by
  have h3 := c_iadd x 2048
  have h4 := rng32 (x + 2048)
  rw [own_i_2048] at h3
  omega
theorem own_tail (c : Int32) : (128 ||| (c &&& (63 : Int32))).toInt = 128 + c.toInt % 64 := by
  have h1 := c_mask c 63 6 (by decide) (by decide)
  have e : ((2 ^ 6 : Nat) : Int) = 64 := by decide
  rw [e] at h1
  have h2 := c_or 128 (c &&& 63) 6 (by decide) 64 (by decide) (by decide) (by omega) (by omega)
  have h3 := rng32 (128 ||| (c &&& 63))
  rw [own_i_128] at h2
  omega
theorem own_us {c : Int32} (h : 0 ≤ c.toInt) (q : Int32) (k : Nat) (hk : q.toBitVec.toNat % 32 = k) (h0 : 0 < k) : ((Int32.toUInt32 c >>> (q &&& 31).toUInt32).toInt32).toInt = c.toInt / (2 ^ k : Nat) := by
  rw [c_iushr c q k hk h0]
  have := rng32 c
  have e : c.toInt % 4294967296 = c.toInt := by omega
  rw [e]
theorem own_hd (L y : Int32) (k : Nat) (hk : k ≤ 31) (P : Int) (hP : P = (2 ^ k : Nat)) (h1 : L.toInt % P = 0) (hL : 0 ≤ L.toInt ∧ L.toInt ≤ 65536) (h2 : 0 ≤ y.toInt) (h3 : y.toInt < P) (h4 : P ≤ 65536) : (L ||| y).toInt = L.toInt + y.toInt := by
  have h5 := c_or L y k hk P hP h1 h2 h3
  have h6 := rng32 (L ||| y)
  omega
theorem own_t1 {c : Int32} (h : 0 ≤ c.toInt) : (nar .byte (Int8.toInt32 (Int32.toInt8 ((128 : Int32) ||| (((Int32.toUInt32 c >>> ((6 : Int32) &&& 31).toUInt32).toInt32) &&& (63 : Int32))))) &&& (255 : Int32)) = ((128 : Int32) ||| ((c >>> ((6 : Int32) &&& 31)) &&& (63 : Int32))) := own_e8 (by
  rw [own_tail, own_tail, c_ishr c 6 6 (by decide)]
  have a1 := own_us h 6 6 (by decide) (by decide)
  have e : ((2 ^ 6 : Nat) : Int) = 64 := by decide
  rw [e] at a1
  
  have e3 : ((2 ^ 6 : Nat) : Int) = 64 := by decide
  rw [e3]
  omega)
theorem own_t2 {c : Int32} (h : 0 ≤ c.toInt) : (nar .byte (Int8.toInt32 (Int32.toInt8 ((128 : Int32) ||| (((Int32.toUInt32 ((Int32.toUInt32 c >>> ((6 : Int32) &&& 31).toUInt32).toInt32) >>> ((6 : Int32) &&& 31).toUInt32).toInt32) &&& (63 : Int32))))) &&& (255 : Int32)) = ((128 : Int32) ||| ((c >>> ((12 : Int32) &&& 31)) &&& (63 : Int32))) := own_e8 (by
  rw [own_tail, own_tail, c_ishr c 12 12 (by decide)]
  have a1 := own_us h 6 6 (by decide) (by decide)
  have e : ((2 ^ 6 : Nat) : Int) = 64 := by decide
  rw [e] at a1
  have a2 := own_us (c := ((Int32.toUInt32 c >>> ((6 : Int32) &&& 31).toUInt32).toInt32)) (by omega) 6 6 (by decide) (by decide)
  rw [e] at a2
  have e3 : ((2 ^ 12 : Nat) : Int) = 4096 := by decide
  rw [e3]
  omega)
theorem own_t0 (c : Int32) : (nar .byte (Int8.toInt32 (Int32.toInt8 ((128 : Int32) ||| (c &&& (63 : Int32))))) &&& (255 : Int32)) = ((128 : Int32) ||| (c &&& (63 : Int32))) := own_e8 (by rw [own_tail]; omega)
theorem own_h2 {c : Int32} (h : 0 ≤ c.toInt) (h1 : c.toInt < 2048) : (nar .byte (Int8.toInt32 (Int32.toInt8 (((255 : Int32) <<< ((6 : Int32) &&& 31)) ||| ((Int32.toUInt32 c >>> ((6 : Int32) &&& 31).toUInt32).toInt32)))) &&& (255 : Int32)) = ((192 : Int32) ||| (c >>> ((6 : Int32) &&& 31))) := own_e8 (by
  have e : ((2 ^ 6 : Nat) : Int) = 64 := by decide
  have a1 := own_us h 6 6 (by decide) (by decide)
  rw [e] at a1
  
  have b := c_ishr c 6 6 (by decide)
  have e3 : ((2 ^ 6 : Nat) : Int) = 64 := by decide
  rw [e3] at b
  have eL : ((255 : Int32) <<< ((6 : Int32) &&& 31)) = 16320 := by decide
  rw [eL]
  rw [own_hd 16320 _ 5 (by decide) 32 (by decide) (by decide) (by decide) (by omega) (by omega) (by decide), own_hd 192 _ 5 (by decide) 32 (by decide) (by decide) (by decide) (by omega) (by omega) (by decide)]
  rw [own_i_16320, own_i_192]
  omega)
theorem own_h3 {c : Int32} (h : 0 ≤ c.toInt) (h1 : c.toInt < 65536) : (nar .byte (Int8.toInt32 (Int32.toInt8 (((255 : Int32) <<< ((5 : Int32) &&& 31)) ||| ((Int32.toUInt32 ((Int32.toUInt32 c >>> ((6 : Int32) &&& 31).toUInt32).toInt32) >>> ((6 : Int32) &&& 31).toUInt32).toInt32)))) &&& (255 : Int32)) = ((224 : Int32) ||| (c >>> ((12 : Int32) &&& 31))) := own_e8 (by
  have e : ((2 ^ 6 : Nat) : Int) = 64 := by decide
  have a1 := own_us h 6 6 (by decide) (by decide)
  rw [e] at a1
  have a2 := own_us (c := ((Int32.toUInt32 c >>> ((6 : Int32) &&& 31).toUInt32).toInt32)) (by omega) 6 6 (by decide) (by decide)
  rw [e] at a2
  have b := c_ishr c 12 12 (by decide)
  have e3 : ((2 ^ 12 : Nat) : Int) = 4096 := by decide
  rw [e3] at b
  have eL : ((255 : Int32) <<< ((5 : Int32) &&& 31)) = 8160 := by decide
  rw [eL]
  rw [own_hd 8160 _ 4 (by decide) 16 (by decide) (by decide) (by decide) (by omega) (by omega) (by decide), own_hd 224 _ 4 (by decide) 16 (by decide) (by decide) (by decide) (by omega) (by omega) (by decide)]
  rw [own_i_8160, own_i_224]
  omega)
theorem own_h4 {c : Int32} (h : 0 ≤ c.toInt) (h1 : c.toInt < 1114112) : (nar .byte (Int8.toInt32 (Int32.toInt8 (((255 : Int32) <<< ((4 : Int32) &&& 31)) ||| ((Int32.toUInt32 ((Int32.toUInt32 ((Int32.toUInt32 c >>> ((6 : Int32) &&& 31).toUInt32).toInt32) >>> ((6 : Int32) &&& 31).toUInt32).toInt32) >>> ((6 : Int32) &&& 31).toUInt32).toInt32)))) &&& (255 : Int32)) = ((240 : Int32) ||| (c >>> ((18 : Int32) &&& 31))) := own_e8 (by
  have e : ((2 ^ 6 : Nat) : Int) = 64 := by decide
  have a1 := own_us h 6 6 (by decide) (by decide)
  rw [e] at a1
  have a2 := own_us (c := ((Int32.toUInt32 c >>> ((6 : Int32) &&& 31).toUInt32).toInt32)) (by omega) 6 6 (by decide) (by decide)
  rw [e] at a2
  have a3 := own_us (c := ((Int32.toUInt32 ((Int32.toUInt32 c >>> ((6 : Int32) &&& 31).toUInt32).toInt32) >>> ((6 : Int32) &&& 31).toUInt32).toInt32)) (by omega) 6 6 (by decide) (by decide)
  rw [e] at a3
  have b := c_ishr c 18 18 (by decide)
  have e3 : ((2 ^ 18 : Nat) : Int) = 262144 := by decide
  rw [e3] at b
  have eL : ((255 : Int32) <<< ((4 : Int32) &&& 31)) = 4080 := by decide
  rw [eL]
  rw [own_hd 4080 _ 3 (by decide) 8 (by decide) (by decide) (by decide) (by omega) (by omega) (by decide), own_hd 240 _ 3 (by decide) 8 (by decide) (by decide) (by decide) (by omega) (by omega) (by decide)]
  rw [own_i_4080, own_i_240]
  omega)
theorem pn_13 : plainName "com/example/omniform/omniform/Utf8" = true := by first | (simp [plainName, overriddenIn]; done) | decide +kernel
theorem d1_0 : decode prog_34_method_4_code 0 = .ok (.iload_n 0, 1) := by decide +kernel
theorem d1_1 : decode prog_34_method_4_code 1 = .ok (.sipush 2048, 3) := by decide +kernel
theorem d1_4 : decode prog_34_method_4_code 4 = .ok (.if_icmp .ge 7, 3) := by decide +kernel
theorem d1_7 : decode prog_34_method_4_code 7 = .ok (.iconst 2, 1) := by decide +kernel
theorem d1_8 : decode prog_34_method_4_code 8 = .ok (.goto 14, 3) := by decide +kernel
theorem d1_22 : decode prog_34_method_4_code 22 = .ok (.istore_n 2, 1) := by decide +kernel
theorem d1_23 : decode prog_34_method_4_code 23 = .ok (.iload_n 0, 1) := by decide +kernel
theorem d1_24 : decode prog_34_method_4_code 24 = .ok (.istore_n 3, 1) := by decide +kernel
theorem d1_25 : decode prog_34_method_4_code 25 = .ok (.iload_n 2, 1) := by decide +kernel
theorem d1_26 : decode prog_34_method_4_code 26 = .ok (.iconst 1, 1) := by decide +kernel
theorem d1_27 : decode prog_34_method_4_code 27 = .ok (.isub, 1) := by decide +kernel
theorem d1_28 : decode prog_34_method_4_code 28 = .ok (.istore 4, 2) := by decide +kernel
theorem d1_30 : decode prog_34_method_4_code 30 = .ok (.iload 4, 2) := by decide +kernel
theorem d1_32 : decode prog_34_method_4_code 32 = .ok (.ifCond .le 27, 3) := by decide +kernel
theorem d1_35 : decode prog_34_method_4_code 35 = .ok (.aload_n 1, 1) := by decide +kernel
theorem d1_36 : decode prog_34_method_4_code 36 = .ok (.iload 4, 2) := by decide +kernel
theorem d1_38 : decode prog_34_method_4_code 38 = .ok (.sipush 128, 3) := by decide +kernel
theorem d1_41 : decode prog_34_method_4_code 41 = .ok (.iload_n 3, 1) := by decide +kernel
theorem d1_42 : decode prog_34_method_4_code 42 = .ok (.bipush 63, 2) := by decide +kernel
theorem d1_44 : decode prog_34_method_4_code 44 = .ok (.iand, 1) := by decide +kernel
theorem d1_45 : decode prog_34_method_4_code 45 = .ok (.ior, 1) := by decide +kernel
theorem d1_46 : decode prog_34_method_4_code 46 = .ok (.i2b, 1) := by decide +kernel
theorem d1_47 : decode prog_34_method_4_code 47 = .ok (.bastore, 1) := by decide +kernel
theorem d1_48 : decode prog_34_method_4_code 48 = .ok (.iload_n 3, 1) := by decide +kernel
theorem d1_49 : decode prog_34_method_4_code 49 = .ok (.bipush 6, 2) := by decide +kernel
theorem d1_51 : decode prog_34_method_4_code 51 = .ok (.iushr, 1) := by decide +kernel
theorem d1_52 : decode prog_34_method_4_code 52 = .ok (.istore_n 3, 1) := by decide +kernel
theorem d1_53 : decode prog_34_method_4_code 53 = .ok (.iinc 4 (-1), 3) := by decide +kernel
theorem d1_56 : decode prog_34_method_4_code 56 = .ok (.goto (-26), 3) := by decide +kernel
theorem d1_59 : decode prog_34_method_4_code 59 = .ok (.aload_n 1, 1) := by decide +kernel
theorem d1_60 : decode prog_34_method_4_code 60 = .ok (.iconst 0, 1) := by decide +kernel
theorem d1_61 : decode prog_34_method_4_code 61 = .ok (.sipush 255, 3) := by decide +kernel
theorem d1_64 : decode prog_34_method_4_code 64 = .ok (.bipush 8, 2) := by decide +kernel
theorem d1_66 : decode prog_34_method_4_code 66 = .ok (.iload_n 2, 1) := by decide +kernel
theorem d1_67 : decode prog_34_method_4_code 67 = .ok (.isub, 1) := by decide +kernel
theorem d1_68 : decode prog_34_method_4_code 68 = .ok (.ishl, 1) := by decide +kernel
theorem d1_69 : decode prog_34_method_4_code 69 = .ok (.iload_n 3, 1) := by decide +kernel
theorem d1_70 : decode prog_34_method_4_code 70 = .ok (.ior, 1) := by decide +kernel
theorem d1_71 : decode prog_34_method_4_code 71 = .ok (.i2b, 1) := by decide +kernel
theorem d1_72 : decode prog_34_method_4_code 72 = .ok (.bastore, 1) := by decide +kernel
theorem d1_73 : decode prog_34_method_4_code 73 = .ok (.iload_n 2, 1) := by decide +kernel
theorem d1_74 : decode prog_34_method_4_code 74 = .ok (.ireturn, 1) := by decide +kernel
theorem ef_1_2 (m : MethodId) (p0 : Int32) (a1 : Addr) : entryFrame m #[(.int p0), (.ref a1)] 5 = mkF m 0 #[.val (.int p0), .val (.ref a1), .unset, .unset, .unset] [] := by first | (simp [entryFrame, mkF, argsToLocals, Value.category]; done) | rfl
def Q1_2 (Z : State) (p0 : Int32) (a1 : Addr) (f1 : Int32 → Int32) (h0 : Heap) (n0 : Nat) (v : Option Value) (h : Heap) (L : List Loc) : Prop := ∃ (F2 : Int32 → Int32), (v = some (.int (2 : Int32))) ∧ (Fr n0 L) ∧ (Keep h0 h [a1]) ∧ (Ai Z h a1 .byte (4 : Int32) F2) ∧ (F2 (0 : Int32) = nar .byte (Int8.toInt32 (Int32.toInt8 (((255 : Int32) <<< ((6 : Int32) &&& 31)) ||| ((Int32.toUInt32 p0 >>> ((6 : Int32) &&& 31).toUInt32).toInt32))))) ∧ (F2 (1 : Int32) = nar .byte (Int8.toInt32 (Int32.toInt8 ((128 : Int32) ||| (p0 &&& (63 : Int32)))))) ∧ (F2 (2 : Int32) = f1 (2 : Int32)) ∧ (F2 (3 : Int32) = f1 (3 : Int32))
set_option maxRecDepth 65536 in
set_option maxHeartbeats 40000000 in
theorem rm1_2 (l : Launch) (Z : State) (aZ : Array Value) (hw : ∀ d ∈ tables_1, d.before aZ Z = true) (ws : List Jvm.Cond) (p0 : Int32) (a1 : Addr) (f1 : Int32 → Int32) (h0 : Heap) (n0 : Nat) (Z0 : n0 ≤ h0.size) (A_0 : Ai Z h0 a1 .byte (4 : Int32) f1) (g_1 : n0 ≤ a1) (hA : p0 < (2048 : Int32)) :
    MetFree l (⟨"com/example/omniform/omniform/Utf8", "encode", "(I[B)I"⟩ : MethodName) (head1 (Jvm.Cond.code (⟨"com/example/omniform/omniform/Utf8", "encode", "(I[B)I"⟩ : MethodName) prog_34_method_4_code 5 (some .int) :: ws) ({ frames := 0, cells := 0, slots := 0, locals := 0 } : Room)) (fun a U => a = #[(.int p0), (.ref a1)] ∧ Z.Warmed39 U.vm ∧ U.heap = h0) (fun _ _ _ _ _ => True) (fun _ U o U' => ∃ v L, o = .returned v ∧ Q1_2 Z p0 a1 f1 h0 n0 v U'.heap L ∧ FrameEnd U o U' L ({ frames := 0, cells := 0, slots := 0, locals := 0 } : Room).cells ({ frames := 0, cells := 0, slots := 0, locals := 0 } : Room).slots) := by
  refine MetFree.of_bodySF (plainFor_of_name pn_13) hisR ?_
  intro p e s m args below meth c s₁ Bd hml0 hP hK
  obtain ⟨rfl, hZ, hh⟩ := hP
  have hx := Bd.exec
  have hby := Bd.bytes
  have hml : c.maxLocals = 5 := hml0
  have hown : s.vm.findClass "com/example/omniform/omniform/Utf8" = some m.cls := findClass_of_methodNamed Bd.named
  have hnm := (name_of_methodNamed Bd.named Bd.method).1
  have hlk : meth.locks = false := BodyLoose.notSynchronized Bd
  have X0 : Stand p l e ({ frames := 0, cells := 0, slots := 0, locals := 0 } : Room) s m #[(.int p0), (.ref a1)] below meth c s₁ [] 0 0 := Stand.of_body Bd
  have e0 : s₁.heap = h0 := by rw [← hh, Bd.state]; rfl
  have N0 := Fr.nil n0
  have sq0 : h0.size ≤ h0.size := Nat.le_refl _
  have k0 : Keep h0 h0 [a1] := Keep.refl _ _
  change Go p e below s ({ frames := 0, cells := 0, slots := 0, locals := 0 } : Room).cells ({ frames := 0, cells := 0, slots := 0, locals := 0 } : Room).slots (Q1_2 Z p0 a1 f1 h0 n0) (s₁.setTop (entryFrame m #[(.int p0), (.ref a1)] 5))
  rw [ef_1_2 m p0 a1]
  show Go _ _ _ _ _ _ _ (s₁.setTop (mkF m 0 #[.val (.int p0), .val (.ref a1), .unset, .unset, .unset] []))
  refine Go.step (fun _ k => XS.iloadN X0.here hx rfl (hb hby d1_0) rfl  k) ?_
  show Go _ _ _ _ _ _ _ (s₁.setTop (mkF m 1 #[.val (.int p0), .val (.ref a1), .unset, .unset, .unset] [(.int p0)]))
  refine Go.step (fun _ k => XS.sipush X0.here hx rfl (hb hby d1_1) k) ?_
  show Go _ _ _ _ _ _ _ (s₁.setTop (mkF m 4 #[.val (.int p0), .val (.ref a1), .unset, .unset, .unset] [(.int (2048 : Int32)), (.int p0)]))
  have hc4 : p0 < (2048 : Int32) := hA
  refine Go.step (fun _ k => XS.icmpNo X0.here hx rfl (hb hby d1_4) rfl (tlt hc4).2.1 k) ?_
  show Go _ _ _ _ _ _ _ (s₁.setTop (mkF m 7 #[.val (.int p0), .val (.ref a1), .unset, .unset, .unset] []))
  refine Go.step (fun _ k => XS.iconst X0.here hx rfl (hb hby d1_7) k) ?_
  show Go _ _ _ _ _ _ _ (s₁.setTop (mkF m 8 #[.val (.int p0), .val (.ref a1), .unset, .unset, .unset] [(.int (2 : Int32))]))
  refine Go.step (fun _ k => XS.goto X0.here hx rfl (pc0 := 8) (pc' := 22) rfl (hb hby d1_8) (by decide) (by decide) k) ?_
  show Go _ _ _ _ _ _ _ (s₁.setTop (mkF m 22 #[.val (.int p0), .val (.ref a1), .unset, .unset, .unset] [(.int (2 : Int32))]))
  refine Go.step (fun _ k => XS.istoreN X0.here hx rfl (hb hby d1_22) rfl (l' := #[.val (.int p0), .val (.ref a1), .val (.int (2 : Int32)), .unset, .unset]) rfl k) ?_
  show Go _ _ _ _ _ _ _ (s₁.setTop (mkF m 23 #[.val (.int p0), .val (.ref a1), .val (.int (2 : Int32)), .unset, .unset] []))
  refine Go.step (fun _ k => XS.iloadN X0.here hx rfl (hb hby d1_23) rfl  k) ?_
  show Go _ _ _ _ _ _ _ (s₁.setTop (mkF m 24 #[.val (.int p0), .val (.ref a1), .val (.int (2 : Int32)), .unset, .unset] [(.int p0)]))
  refine Go.step (fun _ k => XS.istoreN X0.here hx rfl (hb hby d1_24) rfl (l' := #[.val (.int p0), .val (.ref a1), .val (.int (2 : Int32)), .val (.int p0), .unset]) rfl k) ?_
  show Go _ _ _ _ _ _ _ (s₁.setTop (mkF m 25 #[.val (.int p0), .val (.ref a1), .val (.int (2 : Int32)), .val (.int p0), .unset] []))
  refine Go.step (fun _ k => XS.iloadN X0.here hx rfl (hb hby d1_25) rfl  k) ?_
  show Go _ _ _ _ _ _ _ (s₁.setTop (mkF m 26 #[.val (.int p0), .val (.ref a1), .val (.int (2 : Int32)), .val (.int p0), .unset] [(.int (2 : Int32))]))
  refine Go.step (fun _ k => XS.iconst X0.here hx rfl (hb hby d1_26) k) ?_
  show Go _ _ _ _ _ _ _ (s₁.setTop (mkF m 27 #[.val (.int p0), .val (.ref a1), .val (.int (2 : Int32)), .val (.int p0), .unset] [(.int (1 : Int32)), (.int (2 : Int32))]))
  refine Go.step (fun _ k => XS.isub X0.here hx rfl (hb hby d1_27) rfl k) ?_
  show Go _ _ _ _ _ _ _ (s₁.setTop (mkF m 28 #[.val (.int p0), .val (.ref a1), .val (.int (2 : Int32)), .val (.int p0), .unset] [(.int (1 : Int32))]))
  refine Go.step (fun _ k => XS.istore X0.here hx rfl (hb hby d1_28) rfl (l' := #[.val (.int p0), .val (.ref a1), .val (.int (2 : Int32)), .val (.int p0), .val (.int (1 : Int32))]) rfl k) ?_
  show Go _ _ _ _ _ _ _ (s₁.setTop (mkF m 30 #[.val (.int p0), .val (.ref a1), .val (.int (2 : Int32)), .val (.int p0), .val (.int (1 : Int32))] []))
  refine Go.step (fun _ k => XS.iload X0.here hx rfl (hb hby d1_30) rfl  k) ?_
  show Go _ _ _ _ _ _ _ (s₁.setTop (mkF m 32 #[.val (.int p0), .val (.ref a1), .val (.int (2 : Int32)), .val (.int p0), .val (.int (1 : Int32))] [(.int (1 : Int32))]))
  have hc32 : (0 : Int32) < (1 : Int32) := by decide
  refine Go.step (fun _ k => XS.ifNo X0.here hx rfl (hb hby d1_32) rfl ((if0 _ _).trans (tlt hc32).2.2.2) k) ?_
  show Go _ _ _ _ _ _ _ (s₁.setTop (mkF m 35 #[.val (.int p0), .val (.ref a1), .val (.int (2 : Int32)), .val (.int p0), .val (.int (1 : Int32))] []))
  refine Go.step (fun _ k => XS.aloadN X0.here hx rfl (hb hby d1_35) rfl rfl  k) ?_
  show Go _ _ _ _ _ _ _ (s₁.setTop (mkF m 36 #[.val (.int p0), .val (.ref a1), .val (.int (2 : Int32)), .val (.int p0), .val (.int (1 : Int32))] [(.ref a1)]))
  refine Go.step (fun _ k => XS.iload X0.here hx rfl (hb hby d1_36) rfl  k) ?_
  show Go _ _ _ _ _ _ _ (s₁.setTop (mkF m 38 #[.val (.int p0), .val (.ref a1), .val (.int (2 : Int32)), .val (.int p0), .val (.int (1 : Int32))] [(.int (1 : Int32)), (.ref a1)]))
  refine Go.step (fun _ k => XS.sipush X0.here hx rfl (hb hby d1_38) k) ?_
  show Go _ _ _ _ _ _ _ (s₁.setTop (mkF m 41 #[.val (.int p0), .val (.ref a1), .val (.int (2 : Int32)), .val (.int p0), .val (.int (1 : Int32))] [(.int (128 : Int32)), (.int (1 : Int32)), (.ref a1)]))
  refine Go.step (fun _ k => XS.iloadN X0.here hx rfl (hb hby d1_41) rfl  k) ?_
  show Go _ _ _ _ _ _ _ (s₁.setTop (mkF m 42 #[.val (.int p0), .val (.ref a1), .val (.int (2 : Int32)), .val (.int p0), .val (.int (1 : Int32))] [(.int p0), (.int (128 : Int32)), (.int (1 : Int32)), (.ref a1)]))
  refine Go.step (fun _ k => XS.bipush X0.here hx rfl (hb hby d1_42) k) ?_
  show Go _ _ _ _ _ _ _ (s₁.setTop (mkF m 44 #[.val (.int p0), .val (.ref a1), .val (.int (2 : Int32)), .val (.int p0), .val (.int (1 : Int32))] [(.int (63 : Int32)), (.int p0), (.int (128 : Int32)), (.int (1 : Int32)), (.ref a1)]))
  refine Go.step (fun _ k => XS.iand X0.here hx rfl (hb hby d1_44) rfl k) ?_
  show Go _ _ _ _ _ _ _ (s₁.setTop (mkF m 45 #[.val (.int p0), .val (.ref a1), .val (.int (2 : Int32)), .val (.int p0), .val (.int (1 : Int32))] [(.int (p0 &&& (63 : Int32))), (.int (128 : Int32)), (.int (1 : Int32)), (.ref a1)]))
  refine Go.step (fun _ k => XS.ior X0.here hx rfl (hb hby d1_45) rfl k) ?_
  show Go _ _ _ _ _ _ _ (s₁.setTop (mkF m 46 #[.val (.int p0), .val (.ref a1), .val (.int (2 : Int32)), .val (.int p0), .val (.int (1 : Int32))] [(.int ((128 : Int32) ||| (p0 &&& (63 : Int32)))), (.int (1 : Int32)), (.ref a1)]))
  refine Go.step (fun _ k => XS.i2b X0.here hx rfl (hb hby d1_46) rfl k) ?_
  show Go _ _ _ _ _ _ _ (s₁.setTop (mkF m 47 #[.val (.int p0), .val (.ref a1), .val (.int (2 : Int32)), .val (.int p0), .val (.int (1 : Int32))] [(.int (Int8.toInt32 (Int32.toInt8 ((128 : Int32) ||| (p0 &&& (63 : Int32)))))), (.int (1 : Int32)), (.ref a1)]))
  have lo1 : ¬ (1 : Int32) < 0 := (by decide)
  have hi1 : (1 : Int32) < (4 : Int32) := (by decide)
  obtain ⟨T2, h2, X2, e2, W2, f2, st2⟩ := Ai.stB X0 hx hZ e0 A_0 (j := (1 : Int32)) (x := (Int8.toInt32 (Int32.toInt8 ((128 : Int32) ||| (p0 &&& (63 : Int32)))))) lo1 hi1 (g := (mkF m 47 #[.val (.int p0), .val (.ref a1), .val (.int (2 : Int32)), .val (.int p0), .val (.int (1 : Int32))] [(.int (Int8.toInt32 (Int32.toInt8 ((128 : Int32) ||| (p0 &&& (63 : Int32)))))), (.int (1 : Int32)), (.ref a1)])) rfl rfl (hb hby d1_47)
  refine Go.step st2 ?_
  have N2 := Fr.snoc X2 N0 g_1
  have z3 : n0 ≤ h2.size := Nat.le_trans Z0 (Keep.of_wr W2).1
  have sqz3 : h0.size ≤ h2.size := Nat.le_trans sq0 (Keep.of_wr W2).1
  have k4 : Keep h0 h2 [a1] := k0.wr W2 (Or.inl (List.mem_of_getElem? (i := 0) rfl))
  obtain ⟨f5c, qf5c⟩ : ∃ F, F = (fun i => if i = (1 : Int32) then (nar .byte (Int8.toInt32 (Int32.toInt8 ((128 : Int32) ||| (p0 &&& (63 : Int32)))))) else f1 i) := ⟨_, rfl⟩
  rw [← qf5c] at f2
  show Go _ _ _ _ _ _ _ (T2.setTop (mkF m 48 #[.val (.int p0), .val (.ref a1), .val (.int (2 : Int32)), .val (.int p0), .val (.int (1 : Int32))] []))
  refine Go.step (fun _ k => XS.iloadN X2.here hx rfl (hb hby d1_48) rfl  k) ?_
  show Go _ _ _ _ _ _ _ (T2.setTop (mkF m 49 #[.val (.int p0), .val (.ref a1), .val (.int (2 : Int32)), .val (.int p0), .val (.int (1 : Int32))] [(.int p0)]))
  refine Go.step (fun _ k => XS.bipush X2.here hx rfl (hb hby d1_49) k) ?_
  show Go _ _ _ _ _ _ _ (T2.setTop (mkF m 51 #[.val (.int p0), .val (.ref a1), .val (.int (2 : Int32)), .val (.int p0), .val (.int (1 : Int32))] [(.int (6 : Int32)), (.int p0)]))
  refine Go.step (fun _ k => XS.iushr X2.here hx rfl (hb hby d1_51) rfl k) ?_
  show Go _ _ _ _ _ _ _ (T2.setTop (mkF m 52 #[.val (.int p0), .val (.ref a1), .val (.int (2 : Int32)), .val (.int p0), .val (.int (1 : Int32))] [(.int ((Int32.toUInt32 p0 >>> ((6 : Int32) &&& 31).toUInt32).toInt32))]))
  refine Go.step (fun _ k => XS.istoreN X2.here hx rfl (hb hby d1_52) rfl (l' := #[.val (.int p0), .val (.ref a1), .val (.int (2 : Int32)), .val (.int ((Int32.toUInt32 p0 >>> ((6 : Int32) &&& 31).toUInt32).toInt32)), .val (.int (1 : Int32))]) rfl k) ?_
  show Go _ _ _ _ _ _ _ (T2.setTop (mkF m 53 #[.val (.int p0), .val (.ref a1), .val (.int (2 : Int32)), .val (.int ((Int32.toUInt32 p0 >>> ((6 : Int32) &&& 31).toUInt32).toInt32)), .val (.int (1 : Int32))] []))
  refine Go.step (fun _ k => XS.iinc X2.here hx rfl (hb hby d1_53) rfl (l' := #[.val (.int p0), .val (.ref a1), .val (.int (2 : Int32)), .val (.int ((Int32.toUInt32 p0 >>> ((6 : Int32) &&& 31).toUInt32).toInt32)), .val (.int (0 : Int32))]) rfl k) ?_
  show Go _ _ _ _ _ _ _ (T2.setTop (mkF m 56 #[.val (.int p0), .val (.ref a1), .val (.int (2 : Int32)), .val (.int ((Int32.toUInt32 p0 >>> ((6 : Int32) &&& 31).toUInt32).toInt32)), .val (.int (0 : Int32))] []))
  refine Go.step (fun _ k => XS.goto X2.here hx rfl (pc0 := 56) (pc' := 30) rfl (hb hby d1_56) (by decide) (by decide) k) ?_
  show Go _ _ _ _ _ _ _ (T2.setTop (mkF m 30 #[.val (.int p0), .val (.ref a1), .val (.int (2 : Int32)), .val (.int ((Int32.toUInt32 p0 >>> ((6 : Int32) &&& 31).toUInt32).toInt32)), .val (.int (0 : Int32))] []))
  refine Go.step (fun _ k => XS.iload X2.here hx rfl (hb hby d1_30) rfl  k) ?_
  show Go _ _ _ _ _ _ _ (T2.setTop (mkF m 32 #[.val (.int p0), .val (.ref a1), .val (.int (2 : Int32)), .val (.int ((Int32.toUInt32 p0 >>> ((6 : Int32) &&& 31).toUInt32).toInt32)), .val (.int (0 : Int32))] [(.int (0 : Int32))]))
  have hc32 : ¬ ((0 : Int32) < (0 : Int32)) := by decide
  refine Go.step (fun _ k => XS.ifYes X2.here hx rfl (pc0 := 32) (pc' := 59) rfl (hb hby d1_32) rfl ((if0 _ _).trans (flt hc32).2.2.2) (by decide) (by decide) k) ?_
  show Go _ _ _ _ _ _ _ (T2.setTop (mkF m 59 #[.val (.int p0), .val (.ref a1), .val (.int (2 : Int32)), .val (.int ((Int32.toUInt32 p0 >>> ((6 : Int32) &&& 31).toUInt32).toInt32)), .val (.int (0 : Int32))] []))
  refine Go.step (fun _ k => XS.aloadN X2.here hx rfl (hb hby d1_59) rfl rfl  k) ?_
  show Go _ _ _ _ _ _ _ (T2.setTop (mkF m 60 #[.val (.int p0), .val (.ref a1), .val (.int (2 : Int32)), .val (.int ((Int32.toUInt32 p0 >>> ((6 : Int32) &&& 31).toUInt32).toInt32)), .val (.int (0 : Int32))] [(.ref a1)]))
  refine Go.step (fun _ k => XS.iconst X2.here hx rfl (hb hby d1_60) k) ?_
  show Go _ _ _ _ _ _ _ (T2.setTop (mkF m 61 #[.val (.int p0), .val (.ref a1), .val (.int (2 : Int32)), .val (.int ((Int32.toUInt32 p0 >>> ((6 : Int32) &&& 31).toUInt32).toInt32)), .val (.int (0 : Int32))] [(.int (0 : Int32)), (.ref a1)]))
  refine Go.step (fun _ k => XS.sipush X2.here hx rfl (hb hby d1_61) k) ?_
  show Go _ _ _ _ _ _ _ (T2.setTop (mkF m 64 #[.val (.int p0), .val (.ref a1), .val (.int (2 : Int32)), .val (.int ((Int32.toUInt32 p0 >>> ((6 : Int32) &&& 31).toUInt32).toInt32)), .val (.int (0 : Int32))] [(.int (255 : Int32)), (.int (0 : Int32)), (.ref a1)]))
  refine Go.step (fun _ k => XS.bipush X2.here hx rfl (hb hby d1_64) k) ?_
  show Go _ _ _ _ _ _ _ (T2.setTop (mkF m 66 #[.val (.int p0), .val (.ref a1), .val (.int (2 : Int32)), .val (.int ((Int32.toUInt32 p0 >>> ((6 : Int32) &&& 31).toUInt32).toInt32)), .val (.int (0 : Int32))] [(.int (8 : Int32)), (.int (255 : Int32)), (.int (0 : Int32)), (.ref a1)]))
  refine Go.step (fun _ k => XS.iloadN X2.here hx rfl (hb hby d1_66) rfl  k) ?_
  show Go _ _ _ _ _ _ _ (T2.setTop (mkF m 67 #[.val (.int p0), .val (.ref a1), .val (.int (2 : Int32)), .val (.int ((Int32.toUInt32 p0 >>> ((6 : Int32) &&& 31).toUInt32).toInt32)), .val (.int (0 : Int32))] [(.int (2 : Int32)), (.int (8 : Int32)), (.int (255 : Int32)), (.int (0 : Int32)), (.ref a1)]))
  refine Go.step (fun _ k => XS.isub X2.here hx rfl (hb hby d1_67) rfl k) ?_
  show Go _ _ _ _ _ _ _ (T2.setTop (mkF m 68 #[.val (.int p0), .val (.ref a1), .val (.int (2 : Int32)), .val (.int ((Int32.toUInt32 p0 >>> ((6 : Int32) &&& 31).toUInt32).toInt32)), .val (.int (0 : Int32))] [(.int (6 : Int32)), (.int (255 : Int32)), (.int (0 : Int32)), (.ref a1)]))
  refine Go.step (fun _ k => XS.ishl X2.here hx rfl (hb hby d1_68) rfl k) ?_
  show Go _ _ _ _ _ _ _ (T2.setTop (mkF m 69 #[.val (.int p0), .val (.ref a1), .val (.int (2 : Int32)), .val (.int ((Int32.toUInt32 p0 >>> ((6 : Int32) &&& 31).toUInt32).toInt32)), .val (.int (0 : Int32))] [(.int ((255 : Int32) <<< ((6 : Int32) &&& 31))), (.int (0 : Int32)), (.ref a1)]))
  refine Go.step (fun _ k => XS.iloadN X2.here hx rfl (hb hby d1_69) rfl  k) ?_
  show Go _ _ _ _ _ _ _ (T2.setTop (mkF m 70 #[.val (.int p0), .val (.ref a1), .val (.int (2 : Int32)), .val (.int ((Int32.toUInt32 p0 >>> ((6 : Int32) &&& 31).toUInt32).toInt32)), .val (.int (0 : Int32))] [(.int ((Int32.toUInt32 p0 >>> ((6 : Int32) &&& 31).toUInt32).toInt32)), (.int ((255 : Int32) <<< ((6 : Int32) &&& 31))), (.int (0 : Int32)), (.ref a1)]))
  refine Go.step (fun _ k => XS.ior X2.here hx rfl (hb hby d1_70) rfl k) ?_
  show Go _ _ _ _ _ _ _ (T2.setTop (mkF m 71 #[.val (.int p0), .val (.ref a1), .val (.int (2 : Int32)), .val (.int ((Int32.toUInt32 p0 >>> ((6 : Int32) &&& 31).toUInt32).toInt32)), .val (.int (0 : Int32))] [(.int (((255 : Int32) <<< ((6 : Int32) &&& 31)) ||| ((Int32.toUInt32 p0 >>> ((6 : Int32) &&& 31).toUInt32).toInt32))), (.int (0 : Int32)), (.ref a1)]))
  refine Go.step (fun _ k => XS.i2b X2.here hx rfl (hb hby d1_71) rfl k) ?_
  show Go _ _ _ _ _ _ _ (T2.setTop (mkF m 72 #[.val (.int p0), .val (.ref a1), .val (.int (2 : Int32)), .val (.int ((Int32.toUInt32 p0 >>> ((6 : Int32) &&& 31).toUInt32).toInt32)), .val (.int (0 : Int32))] [(.int (Int8.toInt32 (Int32.toInt8 (((255 : Int32) <<< ((6 : Int32) &&& 31)) ||| ((Int32.toUInt32 p0 >>> ((6 : Int32) &&& 31).toUInt32).toInt32))))), (.int (0 : Int32)), (.ref a1)]))
  have lo6 : ¬ (0 : Int32) < 0 := (by decide)
  have hi6 : (0 : Int32) < (4 : Int32) := (by decide)
  obtain ⟨T7, h7, X7, e7, W7, f7, st7⟩ := Ai.stB X2 hx hZ e2 f2 (j := (0 : Int32)) (x := (Int8.toInt32 (Int32.toInt8 (((255 : Int32) <<< ((6 : Int32) &&& 31)) ||| ((Int32.toUInt32 p0 >>> ((6 : Int32) &&& 31).toUInt32).toInt32))))) lo6 hi6 (g := (mkF m 72 #[.val (.int p0), .val (.ref a1), .val (.int (2 : Int32)), .val (.int ((Int32.toUInt32 p0 >>> ((6 : Int32) &&& 31).toUInt32).toInt32)), .val (.int (0 : Int32))] [(.int (Int8.toInt32 (Int32.toInt8 (((255 : Int32) <<< ((6 : Int32) &&& 31)) ||| ((Int32.toUInt32 p0 >>> ((6 : Int32) &&& 31).toUInt32).toInt32))))), (.int (0 : Int32)), (.ref a1)])) rfl rfl (hb hby d1_72)
  refine Go.step st7 ?_
  have N7 := Fr.snoc X7 N2 g_1
  have z8 : n0 ≤ h7.size := Nat.le_trans z3 (Keep.of_wr W7).1
  have sqz8 : h0.size ≤ h7.size := Nat.le_trans sqz3 (Keep.of_wr W7).1
  have k9 : Keep h0 h7 [a1] := k4.wr W7 (Or.inl (List.mem_of_getElem? (i := 0) rfl))
  obtain ⟨f10c, qf10c⟩ : ∃ F, F = (fun i => if i = (0 : Int32) then (nar .byte (Int8.toInt32 (Int32.toInt8 (((255 : Int32) <<< ((6 : Int32) &&& 31)) ||| ((Int32.toUInt32 p0 >>> ((6 : Int32) &&& 31).toUInt32).toInt32))))) else f5c i) := ⟨_, rfl⟩
  rw [← qf10c] at f7
  show Go _ _ _ _ _ _ _ (T7.setTop (mkF m 73 #[.val (.int p0), .val (.ref a1), .val (.int (2 : Int32)), .val (.int ((Int32.toUInt32 p0 >>> ((6 : Int32) &&& 31).toUInt32).toInt32)), .val (.int (0 : Int32))] []))
  refine Go.step (fun _ k => XS.iloadN X7.here hx rfl (hb hby d1_73) rfl  k) ?_
  show Go _ _ _ _ _ _ _ (T7.setTop (mkF m 74 #[.val (.int p0), .val (.ref a1), .val (.int (2 : Int32)), .val (.int ((Int32.toUInt32 p0 >>> ((6 : Int32) &&& 31).toUInt32).toInt32)), .val (.int (0 : Int32))] [(.int (2 : Int32))]))
  refine Go.retI X7 hx Bd.returns hlk (hb hby d1_74) ?_ (by decide) (by decide)
  rw [e7]
  exact ⟨f10c, (rfl), N7, k9, f7, (by simp +decide [qf10c]), (by simp +decide [qf10c, qf5c]), (by simp +decide [qf10c, qf5c]), (by simp +decide [qf10c, qf5c])⟩
theorem d1_11 : decode prog_34_method_4_code 11 = .ok (.iload_n 0, 1) := by decide +kernel
theorem d1_12 : decode prog_34_method_4_code 12 = .ok (.ldc 7, 2) := by decide +kernel
theorem d1_14 : decode prog_34_method_4_code 14 = .ok (.if_icmp .ge 7, 3) := by decide +kernel
theorem d1_17 : decode prog_34_method_4_code 17 = .ok (.iconst 3, 1) := by decide +kernel
theorem d1_18 : decode prog_34_method_4_code 18 = .ok (.goto 4, 3) := by decide +kernel
theorem ef_1_3 (m : MethodId) (p0 : Int32) (a1 : Addr) : entryFrame m #[(.int p0), (.ref a1)] 5 = mkF m 0 #[.val (.int p0), .val (.ref a1), .unset, .unset, .unset] [] := by first | (simp [entryFrame, mkF, argsToLocals, Value.category]; done) | rfl
def Q1_3 (Z : State) (p0 : Int32) (a1 : Addr) (f1 : Int32 → Int32) (h0 : Heap) (n0 : Nat) (v : Option Value) (h : Heap) (L : List Loc) : Prop := ∃ (F2 : Int32 → Int32), (v = some (.int (3 : Int32))) ∧ (Fr n0 L) ∧ (Keep h0 h [a1]) ∧ (Ai Z h a1 .byte (4 : Int32) F2) ∧ (F2 (0 : Int32) = nar .byte (Int8.toInt32 (Int32.toInt8 (((255 : Int32) <<< ((5 : Int32) &&& 31)) ||| ((Int32.toUInt32 ((Int32.toUInt32 p0 >>> ((6 : Int32) &&& 31).toUInt32).toInt32) >>> ((6 : Int32) &&& 31).toUInt32).toInt32))))) ∧ (F2 (1 : Int32) = nar .byte (Int8.toInt32 (Int32.toInt8 ((128 : Int32) ||| (((Int32.toUInt32 p0 >>> ((6 : Int32) &&& 31).toUInt32).toInt32) &&& (63 : Int32)))))) ∧ (F2 (2 : Int32) = nar .byte (Int8.toInt32 (Int32.toInt8 ((128 : Int32) ||| (p0 &&& (63 : Int32)))))) ∧ (F2 (3 : Int32) = f1 (3 : Int32))
set_option maxRecDepth 65536 in
set_option maxHeartbeats 40000000 in
theorem rm1_3 (l : Launch) (Z : State) (aZ : Array Value) (hw : ∀ d ∈ tables_1, d.before aZ Z = true) (ws : List Jvm.Cond) (p0 : Int32) (a1 : Addr) (f1 : Int32 → Int32) (h0 : Heap) (n0 : Nat) (Z0 : n0 ≤ h0.size) (A_0 : Ai Z h0 a1 .byte (4 : Int32) f1) (g_1 : n0 ≤ a1) (hA : ¬ p0 < (2048 : Int32)) (hB : p0 < (65536 : Int32)) :
    MetFree l (⟨"com/example/omniform/omniform/Utf8", "encode", "(I[B)I"⟩ : MethodName) (head1 (Jvm.Cond.code (⟨"com/example/omniform/omniform/Utf8", "encode", "(I[B)I"⟩ : MethodName) prog_34_method_4_code 5 (some .int) :: ws) ({ frames := 0, cells := 0, slots := 0, locals := 0 } : Room)) (fun a U => a = #[(.int p0), (.ref a1)] ∧ Z.Warmed39 U.vm ∧ U.heap = h0) (fun _ _ _ _ _ => True) (fun _ U o U' => ∃ v L, o = .returned v ∧ Q1_3 Z p0 a1 f1 h0 n0 v U'.heap L ∧ FrameEnd U o U' L ({ frames := 0, cells := 0, slots := 0, locals := 0 } : Room).cells ({ frames := 0, cells := 0, slots := 0, locals := 0 } : Room).slots) := by
  refine MetFree.of_bodySF (plainFor_of_name pn_13) hisR ?_
  intro p e s m args below meth c s₁ Bd hml0 hP hK
  obtain ⟨rfl, hZ, hh⟩ := hP
  have hx := Bd.exec
  have hby := Bd.bytes
  have hml : c.maxLocals = 5 := hml0
  have hown : s.vm.findClass "com/example/omniform/omniform/Utf8" = some m.cls := findClass_of_methodNamed Bd.named
  have hnm := (name_of_methodNamed Bd.named Bd.method).1
  have hlk : meth.locks = false := BodyLoose.notSynchronized Bd
  have X0 : Stand p l e ({ frames := 0, cells := 0, slots := 0, locals := 0 } : Room) s m #[(.int p0), (.ref a1)] below meth c s₁ [] 0 0 := Stand.of_body Bd
  have e0 : s₁.heap = h0 := by rw [← hh, Bd.state]; rfl
  have N0 := Fr.nil n0
  have sq0 : h0.size ≤ h0.size := Nat.le_refl _
  have k0 : Keep h0 h0 [a1] := Keep.refl _ _
  change Go p e below s ({ frames := 0, cells := 0, slots := 0, locals := 0 } : Room).cells ({ frames := 0, cells := 0, slots := 0, locals := 0 } : Room).slots (Q1_3 Z p0 a1 f1 h0 n0) (s₁.setTop (entryFrame m #[(.int p0), (.ref a1)] 5))
  rw [ef_1_3 m p0 a1]
  show Go _ _ _ _ _ _ _ (s₁.setTop (mkF m 0 #[.val (.int p0), .val (.ref a1), .unset, .unset, .unset] []))
  refine Go.step (fun _ k => XS.iloadN X0.here hx rfl (hb hby d1_0) rfl  k) ?_
  show Go _ _ _ _ _ _ _ (s₁.setTop (mkF m 1 #[.val (.int p0), .val (.ref a1), .unset, .unset, .unset] [(.int p0)]))
  refine Go.step (fun _ k => XS.sipush X0.here hx rfl (hb hby d1_1) k) ?_
  show Go _ _ _ _ _ _ _ (s₁.setTop (mkF m 4 #[.val (.int p0), .val (.ref a1), .unset, .unset, .unset] [(.int (2048 : Int32)), (.int p0)]))
  have hc4 : ¬ (p0 < (2048 : Int32)) := hA
  refine Go.step (fun _ k => XS.icmpYes X0.here hx rfl (pc0 := 4) (pc' := 11) rfl (hb hby d1_4) rfl (flt hc4).2.1 (by decide) (by decide) k) ?_
  show Go _ _ _ _ _ _ _ (s₁.setTop (mkF m 11 #[.val (.int p0), .val (.ref a1), .unset, .unset, .unset] []))
  refine Go.step (fun _ k => XS.iloadN X0.here hx rfl (hb hby d1_11) rfl  k) ?_
  show Go _ _ _ _ _ _ _ (s₁.setTop (mkF m 12 #[.val (.int p0), .val (.ref a1), .unset, .unset, .unset] [(.int p0)]))
  refine Go.step (X0.ldcInt hx hown (mvT hZ (hw _ (List.mem_of_getElem? (i := 8) rfl))) (g := (mkF m 12 #[.val (.int p0), .val (.ref a1), .unset, .unset, .unset] [(.int p0)])) rfl (hb hby d1_12)) ?_
  show Go _ _ _ _ _ _ _ (s₁.setTop (mkF m 14 #[.val (.int p0), .val (.ref a1), .unset, .unset, .unset] [(.int (65536 : Int32)), (.int p0)]))
  have hc14 : p0 < (65536 : Int32) := hB
  refine Go.step (fun _ k => XS.icmpNo X0.here hx rfl (hb hby d1_14) rfl (tlt hc14).2.1 k) ?_
  show Go _ _ _ _ _ _ _ (s₁.setTop (mkF m 17 #[.val (.int p0), .val (.ref a1), .unset, .unset, .unset] []))
  refine Go.step (fun _ k => XS.iconst X0.here hx rfl (hb hby d1_17) k) ?_
  show Go _ _ _ _ _ _ _ (s₁.setTop (mkF m 18 #[.val (.int p0), .val (.ref a1), .unset, .unset, .unset] [(.int (3 : Int32))]))
  refine Go.step (fun _ k => XS.goto X0.here hx rfl (pc0 := 18) (pc' := 22) rfl (hb hby d1_18) (by decide) (by decide) k) ?_
  show Go _ _ _ _ _ _ _ (s₁.setTop (mkF m 22 #[.val (.int p0), .val (.ref a1), .unset, .unset, .unset] [(.int (3 : Int32))]))
  refine Go.step (fun _ k => XS.istoreN X0.here hx rfl (hb hby d1_22) rfl (l' := #[.val (.int p0), .val (.ref a1), .val (.int (3 : Int32)), .unset, .unset]) rfl k) ?_
  show Go _ _ _ _ _ _ _ (s₁.setTop (mkF m 23 #[.val (.int p0), .val (.ref a1), .val (.int (3 : Int32)), .unset, .unset] []))
  refine Go.step (fun _ k => XS.iloadN X0.here hx rfl (hb hby d1_23) rfl  k) ?_
  show Go _ _ _ _ _ _ _ (s₁.setTop (mkF m 24 #[.val (.int p0), .val (.ref a1), .val (.int (3 : Int32)), .unset, .unset] [(.int p0)]))
  refine Go.step (fun _ k => XS.istoreN X0.here hx rfl (hb hby d1_24) rfl (l' := #[.val (.int p0), .val (.ref a1), .val (.int (3 : Int32)), .val (.int p0), .unset]) rfl k) ?_
  show Go _ _ _ _ _ _ _ (s₁.setTop (mkF m 25 #[.val (.int p0), .val (.ref a1), .val (.int (3 : Int32)), .val (.int p0), .unset] []))
  refine Go.step (fun _ k => XS.iloadN X0.here hx rfl (hb hby d1_25) rfl  k) ?_
  show Go _ _ _ _ _ _ _ (s₁.setTop (mkF m 26 #[.val (.int p0), .val (.ref a1), .val (.int (3 : Int32)), .val (.int p0), .unset] [(.int (3 : Int32))]))
  refine Go.step (fun _ k => XS.iconst X0.here hx rfl (hb hby d1_26) k) ?_
  show Go _ _ _ _ _ _ _ (s₁.setTop (mkF m 27 #[.val (.int p0), .val (.ref a1), .val (.int (3 : Int32)), .val (.int p0), .unset] [(.int (1 : Int32)), (.int (3 : Int32))]))
  refine Go.step (fun _ k => XS.isub X0.here hx rfl (hb hby d1_27) rfl k) ?_
  show Go _ _ _ _ _ _ _ (s₁.setTop (mkF m 28 #[.val (.int p0), .val (.ref a1), .val (.int (3 : Int32)), .val (.int p0), .unset] [(.int (2 : Int32))]))
  refine Go.step (fun _ k => XS.istore X0.here hx rfl (hb hby d1_28) rfl (l' := #[.val (.int p0), .val (.ref a1), .val (.int (3 : Int32)), .val (.int p0), .val (.int (2 : Int32))]) rfl k) ?_
  show Go _ _ _ _ _ _ _ (s₁.setTop (mkF m 30 #[.val (.int p0), .val (.ref a1), .val (.int (3 : Int32)), .val (.int p0), .val (.int (2 : Int32))] []))
  refine Go.step (fun _ k => XS.iload X0.here hx rfl (hb hby d1_30) rfl  k) ?_
  show Go _ _ _ _ _ _ _ (s₁.setTop (mkF m 32 #[.val (.int p0), .val (.ref a1), .val (.int (3 : Int32)), .val (.int p0), .val (.int (2 : Int32))] [(.int (2 : Int32))]))
  have hc32 : (0 : Int32) < (2 : Int32) := by decide
  refine Go.step (fun _ k => XS.ifNo X0.here hx rfl (hb hby d1_32) rfl ((if0 _ _).trans (tlt hc32).2.2.2) k) ?_
  show Go _ _ _ _ _ _ _ (s₁.setTop (mkF m 35 #[.val (.int p0), .val (.ref a1), .val (.int (3 : Int32)), .val (.int p0), .val (.int (2 : Int32))] []))
  refine Go.step (fun _ k => XS.aloadN X0.here hx rfl (hb hby d1_35) rfl rfl  k) ?_
  show Go _ _ _ _ _ _ _ (s₁.setTop (mkF m 36 #[.val (.int p0), .val (.ref a1), .val (.int (3 : Int32)), .val (.int p0), .val (.int (2 : Int32))] [(.ref a1)]))
  refine Go.step (fun _ k => XS.iload X0.here hx rfl (hb hby d1_36) rfl  k) ?_
  show Go _ _ _ _ _ _ _ (s₁.setTop (mkF m 38 #[.val (.int p0), .val (.ref a1), .val (.int (3 : Int32)), .val (.int p0), .val (.int (2 : Int32))] [(.int (2 : Int32)), (.ref a1)]))
  refine Go.step (fun _ k => XS.sipush X0.here hx rfl (hb hby d1_38) k) ?_
  show Go _ _ _ _ _ _ _ (s₁.setTop (mkF m 41 #[.val (.int p0), .val (.ref a1), .val (.int (3 : Int32)), .val (.int p0), .val (.int (2 : Int32))] [(.int (128 : Int32)), (.int (2 : Int32)), (.ref a1)]))
  refine Go.step (fun _ k => XS.iloadN X0.here hx rfl (hb hby d1_41) rfl  k) ?_
  show Go _ _ _ _ _ _ _ (s₁.setTop (mkF m 42 #[.val (.int p0), .val (.ref a1), .val (.int (3 : Int32)), .val (.int p0), .val (.int (2 : Int32))] [(.int p0), (.int (128 : Int32)), (.int (2 : Int32)), (.ref a1)]))
  refine Go.step (fun _ k => XS.bipush X0.here hx rfl (hb hby d1_42) k) ?_
  show Go _ _ _ _ _ _ _ (s₁.setTop (mkF m 44 #[.val (.int p0), .val (.ref a1), .val (.int (3 : Int32)), .val (.int p0), .val (.int (2 : Int32))] [(.int (63 : Int32)), (.int p0), (.int (128 : Int32)), (.int (2 : Int32)), (.ref a1)]))
  refine Go.step (fun _ k => XS.iand X0.here hx rfl (hb hby d1_44) rfl k) ?_
  show Go _ _ _ _ _ _ _ (s₁.setTop (mkF m 45 #[.val (.int p0), .val (.ref a1), .val (.int (3 : Int32)), .val (.int p0), .val (.int (2 : Int32))] [(.int (p0 &&& (63 : Int32))), (.int (128 : Int32)), (.int (2 : Int32)), (.ref a1)]))
  refine Go.step (fun _ k => XS.ior X0.here hx rfl (hb hby d1_45) rfl k) ?_
  show Go _ _ _ _ _ _ _ (s₁.setTop (mkF m 46 #[.val (.int p0), .val (.ref a1), .val (.int (3 : Int32)), .val (.int p0), .val (.int (2 : Int32))] [(.int ((128 : Int32) ||| (p0 &&& (63 : Int32)))), (.int (2 : Int32)), (.ref a1)]))
  refine Go.step (fun _ k => XS.i2b X0.here hx rfl (hb hby d1_46) rfl k) ?_
  show Go _ _ _ _ _ _ _ (s₁.setTop (mkF m 47 #[.val (.int p0), .val (.ref a1), .val (.int (3 : Int32)), .val (.int p0), .val (.int (2 : Int32))] [(.int (Int8.toInt32 (Int32.toInt8 ((128 : Int32) ||| (p0 &&& (63 : Int32)))))), (.int (2 : Int32)), (.ref a1)]))
  have lo1 : ¬ (2 : Int32) < 0 := (by decide)
  have hi1 : (2 : Int32) < (4 : Int32) := (by decide)
  obtain ⟨T2, h2, X2, e2, W2, f2, st2⟩ := Ai.stB X0 hx hZ e0 A_0 (j := (2 : Int32)) (x := (Int8.toInt32 (Int32.toInt8 ((128 : Int32) ||| (p0 &&& (63 : Int32)))))) lo1 hi1 (g := (mkF m 47 #[.val (.int p0), .val (.ref a1), .val (.int (3 : Int32)), .val (.int p0), .val (.int (2 : Int32))] [(.int (Int8.toInt32 (Int32.toInt8 ((128 : Int32) ||| (p0 &&& (63 : Int32)))))), (.int (2 : Int32)), (.ref a1)])) rfl rfl (hb hby d1_47)
  refine Go.step st2 ?_
  have N2 := Fr.snoc X2 N0 g_1
  have z3 : n0 ≤ h2.size := Nat.le_trans Z0 (Keep.of_wr W2).1
  have sqz3 : h0.size ≤ h2.size := Nat.le_trans sq0 (Keep.of_wr W2).1
  have k4 : Keep h0 h2 [a1] := k0.wr W2 (Or.inl (List.mem_of_getElem? (i := 0) rfl))
  obtain ⟨f5c, qf5c⟩ : ∃ F, F = (fun i => if i = (2 : Int32) then (nar .byte (Int8.toInt32 (Int32.toInt8 ((128 : Int32) ||| (p0 &&& (63 : Int32)))))) else f1 i) := ⟨_, rfl⟩
  rw [← qf5c] at f2
  show Go _ _ _ _ _ _ _ (T2.setTop (mkF m 48 #[.val (.int p0), .val (.ref a1), .val (.int (3 : Int32)), .val (.int p0), .val (.int (2 : Int32))] []))
  refine Go.step (fun _ k => XS.iloadN X2.here hx rfl (hb hby d1_48) rfl  k) ?_
  show Go _ _ _ _ _ _ _ (T2.setTop (mkF m 49 #[.val (.int p0), .val (.ref a1), .val (.int (3 : Int32)), .val (.int p0), .val (.int (2 : Int32))] [(.int p0)]))
  refine Go.step (fun _ k => XS.bipush X2.here hx rfl (hb hby d1_49) k) ?_
  show Go _ _ _ _ _ _ _ (T2.setTop (mkF m 51 #[.val (.int p0), .val (.ref a1), .val (.int (3 : Int32)), .val (.int p0), .val (.int (2 : Int32))] [(.int (6 : Int32)), (.int p0)]))
  refine Go.step (fun _ k => XS.iushr X2.here hx rfl (hb hby d1_51) rfl k) ?_
  show Go _ _ _ _ _ _ _ (T2.setTop (mkF m 52 #[.val (.int p0), .val (.ref a1), .val (.int (3 : Int32)), .val (.int p0), .val (.int (2 : Int32))] [(.int ((Int32.toUInt32 p0 >>> ((6 : Int32) &&& 31).toUInt32).toInt32))]))
  refine Go.step (fun _ k => XS.istoreN X2.here hx rfl (hb hby d1_52) rfl (l' := #[.val (.int p0), .val (.ref a1), .val (.int (3 : Int32)), .val (.int ((Int32.toUInt32 p0 >>> ((6 : Int32) &&& 31).toUInt32).toInt32)), .val (.int (2 : Int32))]) rfl k) ?_
  show Go _ _ _ _ _ _ _ (T2.setTop (mkF m 53 #[.val (.int p0), .val (.ref a1), .val (.int (3 : Int32)), .val (.int ((Int32.toUInt32 p0 >>> ((6 : Int32) &&& 31).toUInt32).toInt32)), .val (.int (2 : Int32))] []))
  refine Go.step (fun _ k => XS.iinc X2.here hx rfl (hb hby d1_53) rfl (l' := #[.val (.int p0), .val (.ref a1), .val (.int (3 : Int32)), .val (.int ((Int32.toUInt32 p0 >>> ((6 : Int32) &&& 31).toUInt32).toInt32)), .val (.int (1 : Int32))]) rfl k) ?_
  show Go _ _ _ _ _ _ _ (T2.setTop (mkF m 56 #[.val (.int p0), .val (.ref a1), .val (.int (3 : Int32)), .val (.int ((Int32.toUInt32 p0 >>> ((6 : Int32) &&& 31).toUInt32).toInt32)), .val (.int (1 : Int32))] []))
  refine Go.step (fun _ k => XS.goto X2.here hx rfl (pc0 := 56) (pc' := 30) rfl (hb hby d1_56) (by decide) (by decide) k) ?_
  show Go _ _ _ _ _ _ _ (T2.setTop (mkF m 30 #[.val (.int p0), .val (.ref a1), .val (.int (3 : Int32)), .val (.int ((Int32.toUInt32 p0 >>> ((6 : Int32) &&& 31).toUInt32).toInt32)), .val (.int (1 : Int32))] []))
  refine Go.step (fun _ k => XS.iload X2.here hx rfl (hb hby d1_30) rfl  k) ?_
  show Go _ _ _ _ _ _ _ (T2.setTop (mkF m 32 #[.val (.int p0), .val (.ref a1), .val (.int (3 : Int32)), .val (.int ((Int32.toUInt32 p0 >>> ((6 : Int32) &&& 31).toUInt32).toInt32)), .val (.int (1 : Int32))] [(.int (1 : Int32))]))
  have hc32 : (0 : Int32) < (1 : Int32) := by decide
  refine Go.step (fun _ k => XS.ifNo X2.here hx rfl (hb hby d1_32) rfl ((if0 _ _).trans (tlt hc32).2.2.2) k) ?_
  show Go _ _ _ _ _ _ _ (T2.setTop (mkF m 35 #[.val (.int p0), .val (.ref a1), .val (.int (3 : Int32)), .val (.int ((Int32.toUInt32 p0 >>> ((6 : Int32) &&& 31).toUInt32).toInt32)), .val (.int (1 : Int32))] []))
  refine Go.step (fun _ k => XS.aloadN X2.here hx rfl (hb hby d1_35) rfl rfl  k) ?_
  show Go _ _ _ _ _ _ _ (T2.setTop (mkF m 36 #[.val (.int p0), .val (.ref a1), .val (.int (3 : Int32)), .val (.int ((Int32.toUInt32 p0 >>> ((6 : Int32) &&& 31).toUInt32).toInt32)), .val (.int (1 : Int32))] [(.ref a1)]))
  refine Go.step (fun _ k => XS.iload X2.here hx rfl (hb hby d1_36) rfl  k) ?_
  show Go _ _ _ _ _ _ _ (T2.setTop (mkF m 38 #[.val (.int p0), .val (.ref a1), .val (.int (3 : Int32)), .val (.int ((Int32.toUInt32 p0 >>> ((6 : Int32) &&& 31).toUInt32).toInt32)), .val (.int (1 : Int32))] [(.int (1 : Int32)), (.ref a1)]))
  refine Go.step (fun _ k => XS.sipush X2.here hx rfl (hb hby d1_38) k) ?_
  show Go _ _ _ _ _ _ _ (T2.setTop (mkF m 41 #[.val (.int p0), .val (.ref a1), .val (.int (3 : Int32)), .val (.int ((Int32.toUInt32 p0 >>> ((6 : Int32) &&& 31).toUInt32).toInt32)), .val (.int (1 : Int32))] [(.int (128 : Int32)), (.int (1 : Int32)), (.ref a1)]))
  refine Go.step (fun _ k => XS.iloadN X2.here hx rfl (hb hby d1_41) rfl  k) ?_
  show Go _ _ _ _ _ _ _ (T2.setTop (mkF m 42 #[.val (.int p0), .val (.ref a1), .val (.int (3 : Int32)), .val (.int ((Int32.toUInt32 p0 >>> ((6 : Int32) &&& 31).toUInt32).toInt32)), .val (.int (1 : Int32))] [(.int ((Int32.toUInt32 p0 >>> ((6 : Int32) &&& 31).toUInt32).toInt32)), (.int (128 : Int32)), (.int (1 : Int32)), (.ref a1)]))
  refine Go.step (fun _ k => XS.bipush X2.here hx rfl (hb hby d1_42) k) ?_
  show Go _ _ _ _ _ _ _ (T2.setTop (mkF m 44 #[.val (.int p0), .val (.ref a1), .val (.int (3 : Int32)), .val (.int ((Int32.toUInt32 p0 >>> ((6 : Int32) &&& 31).toUInt32).toInt32)), .val (.int (1 : Int32))] [(.int (63 : Int32)), (.int ((Int32.toUInt32 p0 >>> ((6 : Int32) &&& 31).toUInt32).toInt32)), (.int (128 : Int32)), (.int (1 : Int32)), (.ref a1)]))
  refine Go.step (fun _ k => XS.iand X2.here hx rfl (hb hby d1_44) rfl k) ?_
  show Go _ _ _ _ _ _ _ (T2.setTop (mkF m 45 #[.val (.int p0), .val (.ref a1), .val (.int (3 : Int32)), .val (.int ((Int32.toUInt32 p0 >>> ((6 : Int32) &&& 31).toUInt32).toInt32)), .val (.int (1 : Int32))] [(.int (((Int32.toUInt32 p0 >>> ((6 : Int32) &&& 31).toUInt32).toInt32) &&& (63 : Int32))), (.int (128 : Int32)), (.int (1 : Int32)), (.ref a1)]))
  refine Go.step (fun _ k => XS.ior X2.here hx rfl (hb hby d1_45) rfl k) ?_
  show Go _ _ _ _ _ _ _ (T2.setTop (mkF m 46 #[.val (.int p0), .val (.ref a1), .val (.int (3 : Int32)), .val (.int ((Int32.toUInt32 p0 >>> ((6 : Int32) &&& 31).toUInt32).toInt32)), .val (.int (1 : Int32))] [(.int ((128 : Int32) ||| (((Int32.toUInt32 p0 >>> ((6 : Int32) &&& 31).toUInt32).toInt32) &&& (63 : Int32)))), (.int (1 : Int32)), (.ref a1)]))
  refine Go.step (fun _ k => XS.i2b X2.here hx rfl (hb hby d1_46) rfl k) ?_
  show Go _ _ _ _ _ _ _ (T2.setTop (mkF m 47 #[.val (.int p0), .val (.ref a1), .val (.int (3 : Int32)), .val (.int ((Int32.toUInt32 p0 >>> ((6 : Int32) &&& 31).toUInt32).toInt32)), .val (.int (1 : Int32))] [(.int (Int8.toInt32 (Int32.toInt8 ((128 : Int32) ||| (((Int32.toUInt32 p0 >>> ((6 : Int32) &&& 31).toUInt32).toInt32) &&& (63 : Int32)))))), (.int (1 : Int32)), (.ref a1)]))
  have lo6 : ¬ (1 : Int32) < 0 := (by decide)
  have hi6 : (1 : Int32) < (4 : Int32) := (by decide)
  obtain ⟨T7, h7, X7, e7, W7, f7, st7⟩ := Ai.stB X2 hx hZ e2 f2 (j := (1 : Int32)) (x := (Int8.toInt32 (Int32.toInt8 ((128 : Int32) ||| (((Int32.toUInt32 p0 >>> ((6 : Int32) &&& 31).toUInt32).toInt32) &&& (63 : Int32)))))) lo6 hi6 (g := (mkF m 47 #[.val (.int p0), .val (.ref a1), .val (.int (3 : Int32)), .val (.int ((Int32.toUInt32 p0 >>> ((6 : Int32) &&& 31).toUInt32).toInt32)), .val (.int (1 : Int32))] [(.int (Int8.toInt32 (Int32.toInt8 ((128 : Int32) ||| (((Int32.toUInt32 p0 >>> ((6 : Int32) &&& 31).toUInt32).toInt32) &&& (63 : Int32)))))), (.int (1 : Int32)), (.ref a1)])) rfl rfl (hb hby d1_47)
  refine Go.step st7 ?_
  have N7 := Fr.snoc X7 N2 g_1
  have z8 : n0 ≤ h7.size := Nat.le_trans z3 (Keep.of_wr W7).1
  have sqz8 : h0.size ≤ h7.size := Nat.le_trans sqz3 (Keep.of_wr W7).1
  have k9 : Keep h0 h7 [a1] := k4.wr W7 (Or.inl (List.mem_of_getElem? (i := 0) rfl))
  obtain ⟨f10c, qf10c⟩ : ∃ F, F = (fun i => if i = (1 : Int32) then (nar .byte (Int8.toInt32 (Int32.toInt8 ((128 : Int32) ||| (((Int32.toUInt32 p0 >>> ((6 : Int32) &&& 31).toUInt32).toInt32) &&& (63 : Int32)))))) else f5c i) := ⟨_, rfl⟩
  rw [← qf10c] at f7
  show Go _ _ _ _ _ _ _ (T7.setTop (mkF m 48 #[.val (.int p0), .val (.ref a1), .val (.int (3 : Int32)), .val (.int ((Int32.toUInt32 p0 >>> ((6 : Int32) &&& 31).toUInt32).toInt32)), .val (.int (1 : Int32))] []))
  refine Go.step (fun _ k => XS.iloadN X7.here hx rfl (hb hby d1_48) rfl  k) ?_
  show Go _ _ _ _ _ _ _ (T7.setTop (mkF m 49 #[.val (.int p0), .val (.ref a1), .val (.int (3 : Int32)), .val (.int ((Int32.toUInt32 p0 >>> ((6 : Int32) &&& 31).toUInt32).toInt32)), .val (.int (1 : Int32))] [(.int ((Int32.toUInt32 p0 >>> ((6 : Int32) &&& 31).toUInt32).toInt32))]))
  refine Go.step (fun _ k => XS.bipush X7.here hx rfl (hb hby d1_49) k) ?_
  show Go _ _ _ _ _ _ _ (T7.setTop (mkF m 51 #[.val (.int p0), .val (.ref a1), .val (.int (3 : Int32)), .val (.int ((Int32.toUInt32 p0 >>> ((6 : Int32) &&& 31).toUInt32).toInt32)), .val (.int (1 : Int32))] [(.int (6 : Int32)), (.int ((Int32.toUInt32 p0 >>> ((6 : Int32) &&& 31).toUInt32).toInt32))]))
  refine Go.step (fun _ k => XS.iushr X7.here hx rfl (hb hby d1_51) rfl k) ?_
  show Go _ _ _ _ _ _ _ (T7.setTop (mkF m 52 #[.val (.int p0), .val (.ref a1), .val (.int (3 : Int32)), .val (.int ((Int32.toUInt32 p0 >>> ((6 : Int32) &&& 31).toUInt32).toInt32)), .val (.int (1 : Int32))] [(.int ((Int32.toUInt32 ((Int32.toUInt32 p0 >>> ((6 : Int32) &&& 31).toUInt32).toInt32) >>> ((6 : Int32) &&& 31).toUInt32).toInt32))]))
  refine Go.step (fun _ k => XS.istoreN X7.here hx rfl (hb hby d1_52) rfl (l' := #[.val (.int p0), .val (.ref a1), .val (.int (3 : Int32)), .val (.int ((Int32.toUInt32 ((Int32.toUInt32 p0 >>> ((6 : Int32) &&& 31).toUInt32).toInt32) >>> ((6 : Int32) &&& 31).toUInt32).toInt32)), .val (.int (1 : Int32))]) rfl k) ?_
  show Go _ _ _ _ _ _ _ (T7.setTop (mkF m 53 #[.val (.int p0), .val (.ref a1), .val (.int (3 : Int32)), .val (.int ((Int32.toUInt32 ((Int32.toUInt32 p0 >>> ((6 : Int32) &&& 31).toUInt32).toInt32) >>> ((6 : Int32) &&& 31).toUInt32).toInt32)), .val (.int (1 : Int32))] []))
  refine Go.step (fun _ k => XS.iinc X7.here hx rfl (hb hby d1_53) rfl (l' := #[.val (.int p0), .val (.ref a1), .val (.int (3 : Int32)), .val (.int ((Int32.toUInt32 ((Int32.toUInt32 p0 >>> ((6 : Int32) &&& 31).toUInt32).toInt32) >>> ((6 : Int32) &&& 31).toUInt32).toInt32)), .val (.int (0 : Int32))]) rfl k) ?_
  show Go _ _ _ _ _ _ _ (T7.setTop (mkF m 56 #[.val (.int p0), .val (.ref a1), .val (.int (3 : Int32)), .val (.int ((Int32.toUInt32 ((Int32.toUInt32 p0 >>> ((6 : Int32) &&& 31).toUInt32).toInt32) >>> ((6 : Int32) &&& 31).toUInt32).toInt32)), .val (.int (0 : Int32))] []))
  refine Go.step (fun _ k => XS.goto X7.here hx rfl (pc0 := 56) (pc' := 30) rfl (hb hby d1_56) (by decide) (by decide) k) ?_
  show Go _ _ _ _ _ _ _ (T7.setTop (mkF m 30 #[.val (.int p0), .val (.ref a1), .val (.int (3 : Int32)), .val (.int ((Int32.toUInt32 ((Int32.toUInt32 p0 >>> ((6 : Int32) &&& 31).toUInt32).toInt32) >>> ((6 : Int32) &&& 31).toUInt32).toInt32)), .val (.int (0 : Int32))] []))
  refine Go.step (fun _ k => XS.iload X7.here hx rfl (hb hby d1_30) rfl  k) ?_
  show Go _ _ _ _ _ _ _ (T7.setTop (mkF m 32 #[.val (.int p0), .val (.ref a1), .val (.int (3 : Int32)), .val (.int ((Int32.toUInt32 ((Int32.toUInt32 p0 >>> ((6 : Int32) &&& 31).toUInt32).toInt32) >>> ((6 : Int32) &&& 31).toUInt32).toInt32)), .val (.int (0 : Int32))] [(.int (0 : Int32))]))
  have hc32 : ¬ ((0 : Int32) < (0 : Int32)) := by decide
  refine Go.step (fun _ k => XS.ifYes X7.here hx rfl (pc0 := 32) (pc' := 59) rfl (hb hby d1_32) rfl ((if0 _ _).trans (flt hc32).2.2.2) (by decide) (by decide) k) ?_
  show Go _ _ _ _ _ _ _ (T7.setTop (mkF m 59 #[.val (.int p0), .val (.ref a1), .val (.int (3 : Int32)), .val (.int ((Int32.toUInt32 ((Int32.toUInt32 p0 >>> ((6 : Int32) &&& 31).toUInt32).toInt32) >>> ((6 : Int32) &&& 31).toUInt32).toInt32)), .val (.int (0 : Int32))] []))
  refine Go.step (fun _ k => XS.aloadN X7.here hx rfl (hb hby d1_59) rfl rfl  k) ?_
  show Go _ _ _ _ _ _ _ (T7.setTop (mkF m 60 #[.val (.int p0), .val (.ref a1), .val (.int (3 : Int32)), .val (.int ((Int32.toUInt32 ((Int32.toUInt32 p0 >>> ((6 : Int32) &&& 31).toUInt32).toInt32) >>> ((6 : Int32) &&& 31).toUInt32).toInt32)), .val (.int (0 : Int32))] [(.ref a1)]))
  refine Go.step (fun _ k => XS.iconst X7.here hx rfl (hb hby d1_60) k) ?_
  show Go _ _ _ _ _ _ _ (T7.setTop (mkF m 61 #[.val (.int p0), .val (.ref a1), .val (.int (3 : Int32)), .val (.int ((Int32.toUInt32 ((Int32.toUInt32 p0 >>> ((6 : Int32) &&& 31).toUInt32).toInt32) >>> ((6 : Int32) &&& 31).toUInt32).toInt32)), .val (.int (0 : Int32))] [(.int (0 : Int32)), (.ref a1)]))
  refine Go.step (fun _ k => XS.sipush X7.here hx rfl (hb hby d1_61) k) ?_
  show Go _ _ _ _ _ _ _ (T7.setTop (mkF m 64 #[.val (.int p0), .val (.ref a1), .val (.int (3 : Int32)), .val (.int ((Int32.toUInt32 ((Int32.toUInt32 p0 >>> ((6 : Int32) &&& 31).toUInt32).toInt32) >>> ((6 : Int32) &&& 31).toUInt32).toInt32)), .val (.int (0 : Int32))] [(.int (255 : Int32)), (.int (0 : Int32)), (.ref a1)]))
  refine Go.step (fun _ k => XS.bipush X7.here hx rfl (hb hby d1_64) k) ?_
  show Go _ _ _ _ _ _ _ (T7.setTop (mkF m 66 #[.val (.int p0), .val (.ref a1), .val (.int (3 : Int32)), .val (.int ((Int32.toUInt32 ((Int32.toUInt32 p0 >>> ((6 : Int32) &&& 31).toUInt32).toInt32) >>> ((6 : Int32) &&& 31).toUInt32).toInt32)), .val (.int (0 : Int32))] [(.int (8 : Int32)), (.int (255 : Int32)), (.int (0 : Int32)), (.ref a1)]))
  refine Go.step (fun _ k => XS.iloadN X7.here hx rfl (hb hby d1_66) rfl  k) ?_
  show Go _ _ _ _ _ _ _ (T7.setTop (mkF m 67 #[.val (.int p0), .val (.ref a1), .val (.int (3 : Int32)), .val (.int ((Int32.toUInt32 ((Int32.toUInt32 p0 >>> ((6 : Int32) &&& 31).toUInt32).toInt32) >>> ((6 : Int32) &&& 31).toUInt32).toInt32)), .val (.int (0 : Int32))] [(.int (3 : Int32)), (.int (8 : Int32)), (.int (255 : Int32)), (.int (0 : Int32)), (.ref a1)]))
  refine Go.step (fun _ k => XS.isub X7.here hx rfl (hb hby d1_67) rfl k) ?_
  show Go _ _ _ _ _ _ _ (T7.setTop (mkF m 68 #[.val (.int p0), .val (.ref a1), .val (.int (3 : Int32)), .val (.int ((Int32.toUInt32 ((Int32.toUInt32 p0 >>> ((6 : Int32) &&& 31).toUInt32).toInt32) >>> ((6 : Int32) &&& 31).toUInt32).toInt32)), .val (.int (0 : Int32))] [(.int (5 : Int32)), (.int (255 : Int32)), (.int (0 : Int32)), (.ref a1)]))
  refine Go.step (fun _ k => XS.ishl X7.here hx rfl (hb hby d1_68) rfl k) ?_
  show Go _ _ _ _ _ _ _ (T7.setTop (mkF m 69 #[.val (.int p0), .val (.ref a1), .val (.int (3 : Int32)), .val (.int ((Int32.toUInt32 ((Int32.toUInt32 p0 >>> ((6 : Int32) &&& 31).toUInt32).toInt32) >>> ((6 : Int32) &&& 31).toUInt32).toInt32)), .val (.int (0 : Int32))] [(.int ((255 : Int32) <<< ((5 : Int32) &&& 31))), (.int (0 : Int32)), (.ref a1)]))
  refine Go.step (fun _ k => XS.iloadN X7.here hx rfl (hb hby d1_69) rfl  k) ?_
  show Go _ _ _ _ _ _ _ (T7.setTop (mkF m 70 #[.val (.int p0), .val (.ref a1), .val (.int (3 : Int32)), .val (.int ((Int32.toUInt32 ((Int32.toUInt32 p0 >>> ((6 : Int32) &&& 31).toUInt32).toInt32) >>> ((6 : Int32) &&& 31).toUInt32).toInt32)), .val (.int (0 : Int32))] [(.int ((Int32.toUInt32 ((Int32.toUInt32 p0 >>> ((6 : Int32) &&& 31).toUInt32).toInt32) >>> ((6 : Int32) &&& 31).toUInt32).toInt32)), (.int ((255 : Int32) <<< ((5 : Int32) &&& 31))), (.int (0 : Int32)), (.ref a1)]))
  refine Go.step (fun _ k => XS.ior X7.here hx rfl (hb hby d1_70) rfl k) ?_
  show Go _ _ _ _ _ _ _ (T7.setTop (mkF m 71 #[.val (.int p0), .val (.ref a1), .val (.int (3 : Int32)), .val (.int ((Int32.toUInt32 ((Int32.toUInt32 p0 >>> ((6 : Int32) &&& 31).toUInt32).toInt32) >>> ((6 : Int32) &&& 31).toUInt32).toInt32)), .val (.int (0 : Int32))] [(.int (((255 : Int32) <<< ((5 : Int32) &&& 31)) ||| ((Int32.toUInt32 ((Int32.toUInt32 p0 >>> ((6 : Int32) &&& 31).toUInt32).toInt32) >>> ((6 : Int32) &&& 31).toUInt32).toInt32))), (.int (0 : Int32)), (.ref a1)]))
  refine Go.step (fun _ k => XS.i2b X7.here hx rfl (hb hby d1_71) rfl k) ?_
  show Go _ _ _ _ _ _ _ (T7.setTop (mkF m 72 #[.val (.int p0), .val (.ref a1), .val (.int (3 : Int32)), .val (.int ((Int32.toUInt32 ((Int32.toUInt32 p0 >>> ((6 : Int32) &&& 31).toUInt32).toInt32) >>> ((6 : Int32) &&& 31).toUInt32).toInt32)), .val (.int (0 : Int32))] [(.int (Int8.toInt32 (Int32.toInt8 (((255 : Int32) <<< ((5 : Int32) &&& 31)) ||| ((Int32.toUInt32 ((Int32.toUInt32 p0 >>> ((6 : Int32) &&& 31).toUInt32).toInt32) >>> ((6 : Int32) &&& 31).toUInt32).toInt32))))), (.int (0 : Int32)), (.ref a1)]))
  have lo11 : ¬ (0 : Int32) < 0 := (by decide)
  have hi11 : (0 : Int32) < (4 : Int32) := (by decide)
  obtain ⟨T12, h12, X12, e12, W12, f12, st12⟩ := Ai.stB X7 hx hZ e7 f7 (j := (0 : Int32)) (x := (Int8.toInt32 (Int32.toInt8 (((255 : Int32) <<< ((5 : Int32) &&& 31)) ||| ((Int32.toUInt32 ((Int32.toUInt32 p0 >>> ((6 : Int32) &&& 31).toUInt32).toInt32) >>> ((6 : Int32) &&& 31).toUInt32).toInt32))))) lo11 hi11 (g := (mkF m 72 #[.val (.int p0), .val (.ref a1), .val (.int (3 : Int32)), .val (.int ((Int32.toUInt32 ((Int32.toUInt32 p0 >>> ((6 : Int32) &&& 31).toUInt32).toInt32) >>> ((6 : Int32) &&& 31).toUInt32).toInt32)), .val (.int (0 : Int32))] [(.int (Int8.toInt32 (Int32.toInt8 (((255 : Int32) <<< ((5 : Int32) &&& 31)) ||| ((Int32.toUInt32 ((Int32.toUInt32 p0 >>> ((6 : Int32) &&& 31).toUInt32).toInt32) >>> ((6 : Int32) &&& 31).toUInt32).toInt32))))), (.int (0 : Int32)), (.ref a1)])) rfl rfl (hb hby d1_72)
  refine Go.step st12 ?_
  have N12 := Fr.snoc X12 N7 g_1
  have z13 : n0 ≤ h12.size := Nat.le_trans z8 (Keep.of_wr W12).1
  have sqz13 : h0.size ≤ h12.size := Nat.le_trans sqz8 (Keep.of_wr W12).1
  have k14 : Keep h0 h12 [a1] := k9.wr W12 (Or.inl (List.mem_of_getElem? (i := 0) rfl))
  obtain ⟨f15c, qf15c⟩ : ∃ F, F = (fun i => if i = (0 : Int32) then (nar .byte (Int8.toInt32 (Int32.toInt8 (((255 : Int32) <<< ((5 : Int32) &&& 31)) ||| ((Int32.toUInt32 ((Int32.toUInt32 p0 >>> ((6 : Int32) &&& 31).toUInt32).toInt32) >>> ((6 : Int32) &&& 31).toUInt32).toInt32))))) else f10c i) := ⟨_, rfl⟩
  rw [← qf15c] at f12
  show Go _ _ _ _ _ _ _ (T12.setTop (mkF m 73 #[.val (.int p0), .val (.ref a1), .val (.int (3 : Int32)), .val (.int ((Int32.toUInt32 ((Int32.toUInt32 p0 >>> ((6 : Int32) &&& 31).toUInt32).toInt32) >>> ((6 : Int32) &&& 31).toUInt32).toInt32)), .val (.int (0 : Int32))] []))
  refine Go.step (fun _ k => XS.iloadN X12.here hx rfl (hb hby d1_73) rfl  k) ?_
  show Go _ _ _ _ _ _ _ (T12.setTop (mkF m 74 #[.val (.int p0), .val (.ref a1), .val (.int (3 : Int32)), .val (.int ((Int32.toUInt32 ((Int32.toUInt32 p0 >>> ((6 : Int32) &&& 31).toUInt32).toInt32) >>> ((6 : Int32) &&& 31).toUInt32).toInt32)), .val (.int (0 : Int32))] [(.int (3 : Int32))]))
  refine Go.retI X12 hx Bd.returns hlk (hb hby d1_74) ?_ (by decide) (by decide)
  rw [e12]
  exact ⟨f15c, (rfl), N12, k14, f12, (by simp +decide [qf15c]), (by simp +decide [qf15c, qf10c]), (by simp +decide [qf15c, qf10c, qf5c]), (by simp +decide [qf15c, qf10c, qf5c])⟩
theorem d1_21 : decode prog_34_method_4_code 21 = .ok (.iconst 4, 1) := by decide +kernel
theorem ef_1_4 (m : MethodId) (p0 : Int32) (a1 : Addr) : entryFrame m #[(.int p0), (.ref a1)] 5 = mkF m 0 #[.val (.int p0), .val (.ref a1), .unset, .unset, .unset] [] := by first | (simp [entryFrame, mkF, argsToLocals, Value.category]; done) | rfl
def Q1_4 (Z : State) (p0 : Int32) (a1 : Addr) (f1 : Int32 → Int32) (h0 : Heap) (n0 : Nat) (v : Option Value) (h : Heap) (L : List Loc) : Prop := ∃ (F2 : Int32 → Int32), (v = some (.int (4 : Int32))) ∧ (Fr n0 L) ∧ (Keep h0 h [a1]) ∧ (Ai Z h a1 .byte (4 : Int32) F2) ∧ (F2 (0 : Int32) = nar .byte (Int8.toInt32 (Int32.toInt8 (((255 : Int32) <<< ((4 : Int32) &&& 31)) ||| ((Int32.toUInt32 ((Int32.toUInt32 ((Int32.toUInt32 p0 >>> ((6 : Int32) &&& 31).toUInt32).toInt32) >>> ((6 : Int32) &&& 31).toUInt32).toInt32) >>> ((6 : Int32) &&& 31).toUInt32).toInt32))))) ∧ (F2 (1 : Int32) = nar .byte (Int8.toInt32 (Int32.toInt8 ((128 : Int32) ||| (((Int32.toUInt32 ((Int32.toUInt32 p0 >>> ((6 : Int32) &&& 31).toUInt32).toInt32) >>> ((6 : Int32) &&& 31).toUInt32).toInt32) &&& (63 : Int32)))))) ∧ (F2 (2 : Int32) = nar .byte (Int8.toInt32 (Int32.toInt8 ((128 : Int32) ||| (((Int32.toUInt32 p0 >>> ((6 : Int32) &&& 31).toUInt32).toInt32) &&& (63 : Int32)))))) ∧ (F2 (3 : Int32) = nar .byte (Int8.toInt32 (Int32.toInt8 ((128 : Int32) ||| (p0 &&& (63 : Int32))))))
set_option maxRecDepth 65536 in
set_option maxHeartbeats 40000000 in
theorem rm1_4 (l : Launch) (Z : State) (aZ : Array Value) (hw : ∀ d ∈ tables_1, d.before aZ Z = true) (ws : List Jvm.Cond) (p0 : Int32) (a1 : Addr) (f1 : Int32 → Int32) (h0 : Heap) (n0 : Nat) (Z0 : n0 ≤ h0.size) (A_0 : Ai Z h0 a1 .byte (4 : Int32) f1) (g_1 : n0 ≤ a1) (hA : ¬ p0 < (2048 : Int32)) (hB : ¬ p0 < (65536 : Int32)) :
    MetFree l (⟨"com/example/omniform/omniform/Utf8", "encode", "(I[B)I"⟩ : MethodName) (head1 (Jvm.Cond.code (⟨"com/example/omniform/omniform/Utf8", "encode", "(I[B)I"⟩ : MethodName) prog_34_method_4_code 5 (some .int) :: ws) ({ frames := 0, cells := 0, slots := 0, locals := 0 } : Room)) (fun a U => a = #[(.int p0), (.ref a1)] ∧ Z.Warmed39 U.vm ∧ U.heap = h0) (fun _ _ _ _ _ => True) (fun _ U o U' => ∃ v L, o = .returned v ∧ Q1_4 Z p0 a1 f1 h0 n0 v U'.heap L ∧ FrameEnd U o U' L ({ frames := 0, cells := 0, slots := 0, locals := 0 } : Room).cells ({ frames := 0, cells := 0, slots := 0, locals := 0 } : Room).slots) := by
  refine MetFree.of_bodySF (plainFor_of_name pn_13) hisR ?_
  intro p e s m args below meth c s₁ Bd hml0 hP hK
  obtain ⟨rfl, hZ, hh⟩ := hP
  have hx := Bd.exec
  have hby := Bd.bytes
  have hml : c.maxLocals = 5 := hml0
  have hown : s.vm.findClass "com/example/omniform/omniform/Utf8" = some m.cls := findClass_of_methodNamed Bd.named
  have hnm := (name_of_methodNamed Bd.named Bd.method).1
  have hlk : meth.locks = false := BodyLoose.notSynchronized Bd
  have X0 : Stand p l e ({ frames := 0, cells := 0, slots := 0, locals := 0 } : Room) s m #[(.int p0), (.ref a1)] below meth c s₁ [] 0 0 := Stand.of_body Bd
  have e0 : s₁.heap = h0 := by rw [← hh, Bd.state]; rfl
  have N0 := Fr.nil n0
  have sq0 : h0.size ≤ h0.size := Nat.le_refl _
  have k0 : Keep h0 h0 [a1] := Keep.refl _ _
  change Go p e below s ({ frames := 0, cells := 0, slots := 0, locals := 0 } : Room).cells ({ frames := 0, cells := 0, slots := 0, locals := 0 } : Room).slots (Q1_4 Z p0 a1 f1 h0 n0) (s₁.setTop (entryFrame m #[(.int p0), (.ref a1)] 5))
  rw [ef_1_4 m p0 a1]
  show Go _ _ _ _ _ _ _ (s₁.setTop (mkF m 0 #[.val (.int p0), .val (.ref a1), .unset, .unset, .unset] []))
  refine Go.step (fun _ k => XS.iloadN X0.here hx rfl (hb hby d1_0) rfl  k) ?_
  show Go _ _ _ _ _ _ _ (s₁.setTop (mkF m 1 #[.val (.int p0), .val (.ref a1), .unset, .unset, .unset] [(.int p0)]))
  refine Go.step (fun _ k => XS.sipush X0.here hx rfl (hb hby d1_1) k) ?_
  show Go _ _ _ _ _ _ _ (s₁.setTop (mkF m 4 #[.val (.int p0), .val (.ref a1), .unset, .unset, .unset] [(.int (2048 : Int32)), (.int p0)]))
  have hc4 : ¬ (p0 < (2048 : Int32)) := hA
  refine Go.step (fun _ k => XS.icmpYes X0.here hx rfl (pc0 := 4) (pc' := 11) rfl (hb hby d1_4) rfl (flt hc4).2.1 (by decide) (by decide) k) ?_
  show Go _ _ _ _ _ _ _ (s₁.setTop (mkF m 11 #[.val (.int p0), .val (.ref a1), .unset, .unset, .unset] []))
  refine Go.step (fun _ k => XS.iloadN X0.here hx rfl (hb hby d1_11) rfl  k) ?_
  show Go _ _ _ _ _ _ _ (s₁.setTop (mkF m 12 #[.val (.int p0), .val (.ref a1), .unset, .unset, .unset] [(.int p0)]))
  refine Go.step (X0.ldcInt hx hown (mvT hZ (hw _ (List.mem_of_getElem? (i := 8) rfl))) (g := (mkF m 12 #[.val (.int p0), .val (.ref a1), .unset, .unset, .unset] [(.int p0)])) rfl (hb hby d1_12)) ?_
  show Go _ _ _ _ _ _ _ (s₁.setTop (mkF m 14 #[.val (.int p0), .val (.ref a1), .unset, .unset, .unset] [(.int (65536 : Int32)), (.int p0)]))
  have hc14 : ¬ (p0 < (65536 : Int32)) := hB
  refine Go.step (fun _ k => XS.icmpYes X0.here hx rfl (pc0 := 14) (pc' := 21) rfl (hb hby d1_14) rfl (flt hc14).2.1 (by decide) (by decide) k) ?_
  show Go _ _ _ _ _ _ _ (s₁.setTop (mkF m 21 #[.val (.int p0), .val (.ref a1), .unset, .unset, .unset] []))
  refine Go.step (fun _ k => XS.iconst X0.here hx rfl (hb hby d1_21) k) ?_
  show Go _ _ _ _ _ _ _ (s₁.setTop (mkF m 22 #[.val (.int p0), .val (.ref a1), .unset, .unset, .unset] [(.int (4 : Int32))]))
  refine Go.step (fun _ k => XS.istoreN X0.here hx rfl (hb hby d1_22) rfl (l' := #[.val (.int p0), .val (.ref a1), .val (.int (4 : Int32)), .unset, .unset]) rfl k) ?_
  show Go _ _ _ _ _ _ _ (s₁.setTop (mkF m 23 #[.val (.int p0), .val (.ref a1), .val (.int (4 : Int32)), .unset, .unset] []))
  refine Go.step (fun _ k => XS.iloadN X0.here hx rfl (hb hby d1_23) rfl  k) ?_
  show Go _ _ _ _ _ _ _ (s₁.setTop (mkF m 24 #[.val (.int p0), .val (.ref a1), .val (.int (4 : Int32)), .unset, .unset] [(.int p0)]))
  refine Go.step (fun _ k => XS.istoreN X0.here hx rfl (hb hby d1_24) rfl (l' := #[.val (.int p0), .val (.ref a1), .val (.int (4 : Int32)), .val (.int p0), .unset]) rfl k) ?_
  show Go _ _ _ _ _ _ _ (s₁.setTop (mkF m 25 #[.val (.int p0), .val (.ref a1), .val (.int (4 : Int32)), .val (.int p0), .unset] []))
  refine Go.step (fun _ k => XS.iloadN X0.here hx rfl (hb hby d1_25) rfl  k) ?_
  show Go _ _ _ _ _ _ _ (s₁.setTop (mkF m 26 #[.val (.int p0), .val (.ref a1), .val (.int (4 : Int32)), .val (.int p0), .unset] [(.int (4 : Int32))]))
  refine Go.step (fun _ k => XS.iconst X0.here hx rfl (hb hby d1_26) k) ?_
  show Go _ _ _ _ _ _ _ (s₁.setTop (mkF m 27 #[.val (.int p0), .val (.ref a1), .val (.int (4 : Int32)), .val (.int p0), .unset] [(.int (1 : Int32)), (.int (4 : Int32))]))
  refine Go.step (fun _ k => XS.isub X0.here hx rfl (hb hby d1_27) rfl k) ?_
  show Go _ _ _ _ _ _ _ (s₁.setTop (mkF m 28 #[.val (.int p0), .val (.ref a1), .val (.int (4 : Int32)), .val (.int p0), .unset] [(.int (3 : Int32))]))
  refine Go.step (fun _ k => XS.istore X0.here hx rfl (hb hby d1_28) rfl (l' := #[.val (.int p0), .val (.ref a1), .val (.int (4 : Int32)), .val (.int p0), .val (.int (3 : Int32))]) rfl k) ?_
  show Go _ _ _ _ _ _ _ (s₁.setTop (mkF m 30 #[.val (.int p0), .val (.ref a1), .val (.int (4 : Int32)), .val (.int p0), .val (.int (3 : Int32))] []))
  refine Go.step (fun _ k => XS.iload X0.here hx rfl (hb hby d1_30) rfl  k) ?_
  show Go _ _ _ _ _ _ _ (s₁.setTop (mkF m 32 #[.val (.int p0), .val (.ref a1), .val (.int (4 : Int32)), .val (.int p0), .val (.int (3 : Int32))] [(.int (3 : Int32))]))
  have hc32 : (0 : Int32) < (3 : Int32) := by decide
  refine Go.step (fun _ k => XS.ifNo X0.here hx rfl (hb hby d1_32) rfl ((if0 _ _).trans (tlt hc32).2.2.2) k) ?_
  show Go _ _ _ _ _ _ _ (s₁.setTop (mkF m 35 #[.val (.int p0), .val (.ref a1), .val (.int (4 : Int32)), .val (.int p0), .val (.int (3 : Int32))] []))
  refine Go.step (fun _ k => XS.aloadN X0.here hx rfl (hb hby d1_35) rfl rfl  k) ?_
  show Go _ _ _ _ _ _ _ (s₁.setTop (mkF m 36 #[.val (.int p0), .val (.ref a1), .val (.int (4 : Int32)), .val (.int p0), .val (.int (3 : Int32))] [(.ref a1)]))
  refine Go.step (fun _ k => XS.iload X0.here hx rfl (hb hby d1_36) rfl  k) ?_
  show Go _ _ _ _ _ _ _ (s₁.setTop (mkF m 38 #[.val (.int p0), .val (.ref a1), .val (.int (4 : Int32)), .val (.int p0), .val (.int (3 : Int32))] [(.int (3 : Int32)), (.ref a1)]))
  refine Go.step (fun _ k => XS.sipush X0.here hx rfl (hb hby d1_38) k) ?_
  show Go _ _ _ _ _ _ _ (s₁.setTop (mkF m 41 #[.val (.int p0), .val (.ref a1), .val (.int (4 : Int32)), .val (.int p0), .val (.int (3 : Int32))] [(.int (128 : Int32)), (.int (3 : Int32)), (.ref a1)]))
  refine Go.step (fun _ k => XS.iloadN X0.here hx rfl (hb hby d1_41) rfl  k) ?_
  show Go _ _ _ _ _ _ _ (s₁.setTop (mkF m 42 #[.val (.int p0), .val (.ref a1), .val (.int (4 : Int32)), .val (.int p0), .val (.int (3 : Int32))] [(.int p0), (.int (128 : Int32)), (.int (3 : Int32)), (.ref a1)]))
  refine Go.step (fun _ k => XS.bipush X0.here hx rfl (hb hby d1_42) k) ?_
  show Go _ _ _ _ _ _ _ (s₁.setTop (mkF m 44 #[.val (.int p0), .val (.ref a1), .val (.int (4 : Int32)), .val (.int p0), .val (.int (3 : Int32))] [(.int (63 : Int32)), (.int p0), (.int (128 : Int32)), (.int (3 : Int32)), (.ref a1)]))
  refine Go.step (fun _ k => XS.iand X0.here hx rfl (hb hby d1_44) rfl k) ?_
  show Go _ _ _ _ _ _ _ (s₁.setTop (mkF m 45 #[.val (.int p0), .val (.ref a1), .val (.int (4 : Int32)), .val (.int p0), .val (.int (3 : Int32))] [(.int (p0 &&& (63 : Int32))), (.int (128 : Int32)), (.int (3 : Int32)), (.ref a1)]))
  refine Go.step (fun _ k => XS.ior X0.here hx rfl (hb hby d1_45) rfl k) ?_
  show Go _ _ _ _ _ _ _ (s₁.setTop (mkF m 46 #[.val (.int p0), .val (.ref a1), .val (.int (4 : Int32)), .val (.int p0), .val (.int (3 : Int32))] [(.int ((128 : Int32) ||| (p0 &&& (63 : Int32)))), (.int (3 : Int32)), (.ref a1)]))
  refine Go.step (fun _ k => XS.i2b X0.here hx rfl (hb hby d1_46) rfl k) ?_
  show Go _ _ _ _ _ _ _ (s₁.setTop (mkF m 47 #[.val (.int p0), .val (.ref a1), .val (.int (4 : Int32)), .val (.int p0), .val (.int (3 : Int32))] [(.int (Int8.toInt32 (Int32.toInt8 ((128 : Int32) ||| (p0 &&& (63 : Int32)))))), (.int (3 : Int32)), (.ref a1)]))
  have lo1 : ¬ (3 : Int32) < 0 := (by decide)
  have hi1 : (3 : Int32) < (4 : Int32) := (by decide)
  obtain ⟨T2, h2, X2, e2, W2, f2, st2⟩ := Ai.stB X0 hx hZ e0 A_0 (j := (3 : Int32)) (x := (Int8.toInt32 (Int32.toInt8 ((128 : Int32) ||| (p0 &&& (63 : Int32)))))) lo1 hi1 (g := (mkF m 47 #[.val (.int p0), .val (.ref a1), .val (.int (4 : Int32)), .val (.int p0), .val (.int (3 : Int32))] [(.int (Int8.toInt32 (Int32.toInt8 ((128 : Int32) ||| (p0 &&& (63 : Int32)))))), (.int (3 : Int32)), (.ref a1)])) rfl rfl (hb hby d1_47)
  refine Go.step st2 ?_
  have N2 := Fr.snoc X2 N0 g_1
  have z3 : n0 ≤ h2.size := Nat.le_trans Z0 (Keep.of_wr W2).1
  have sqz3 : h0.size ≤ h2.size := Nat.le_trans sq0 (Keep.of_wr W2).1
  have k4 : Keep h0 h2 [a1] := k0.wr W2 (Or.inl (List.mem_of_getElem? (i := 0) rfl))
  obtain ⟨f5c, qf5c⟩ : ∃ F, F = (fun i => if i = (3 : Int32) then (nar .byte (Int8.toInt32 (Int32.toInt8 ((128 : Int32) ||| (p0 &&& (63 : Int32)))))) else f1 i) := ⟨_, rfl⟩
  rw [← qf5c] at f2
  show Go _ _ _ _ _ _ _ (T2.setTop (mkF m 48 #[.val (.int p0), .val (.ref a1), .val (.int (4 : Int32)), .val (.int p0), .val (.int (3 : Int32))] []))
  refine Go.step (fun _ k => XS.iloadN X2.here hx rfl (hb hby d1_48) rfl  k) ?_
  show Go _ _ _ _ _ _ _ (T2.setTop (mkF m 49 #[.val (.int p0), .val (.ref a1), .val (.int (4 : Int32)), .val (.int p0), .val (.int (3 : Int32))] [(.int p0)]))
  refine Go.step (fun _ k => XS.bipush X2.here hx rfl (hb hby d1_49) k) ?_
  show Go _ _ _ _ _ _ _ (T2.setTop (mkF m 51 #[.val (.int p0), .val (.ref a1), .val (.int (4 : Int32)), .val (.int p0), .val (.int (3 : Int32))] [(.int (6 : Int32)), (.int p0)]))
  refine Go.step (fun _ k => XS.iushr X2.here hx rfl (hb hby d1_51) rfl k) ?_
  show Go _ _ _ _ _ _ _ (T2.setTop (mkF m 52 #[.val (.int p0), .val (.ref a1), .val (.int (4 : Int32)), .val (.int p0), .val (.int (3 : Int32))] [(.int ((Int32.toUInt32 p0 >>> ((6 : Int32) &&& 31).toUInt32).toInt32))]))
  refine Go.step (fun _ k => XS.istoreN X2.here hx rfl (hb hby d1_52) rfl (l' := #[.val (.int p0), .val (.ref a1), .val (.int (4 : Int32)), .val (.int ((Int32.toUInt32 p0 >>> ((6 : Int32) &&& 31).toUInt32).toInt32)), .val (.int (3 : Int32))]) rfl k) ?_
  show Go _ _ _ _ _ _ _ (T2.setTop (mkF m 53 #[.val (.int p0), .val (.ref a1), .val (.int (4 : Int32)), .val (.int ((Int32.toUInt32 p0 >>> ((6 : Int32) &&& 31).toUInt32).toInt32)), .val (.int (3 : Int32))] []))
  refine Go.step (fun _ k => XS.iinc X2.here hx rfl (hb hby d1_53) rfl (l' := #[.val (.int p0), .val (.ref a1), .val (.int (4 : Int32)), .val (.int ((Int32.toUInt32 p0 >>> ((6 : Int32) &&& 31).toUInt32).toInt32)), .val (.int (2 : Int32))]) rfl k) ?_
  show Go _ _ _ _ _ _ _ (T2.setTop (mkF m 56 #[.val (.int p0), .val (.ref a1), .val (.int (4 : Int32)), .val (.int ((Int32.toUInt32 p0 >>> ((6 : Int32) &&& 31).toUInt32).toInt32)), .val (.int (2 : Int32))] []))
  refine Go.step (fun _ k => XS.goto X2.here hx rfl (pc0 := 56) (pc' := 30) rfl (hb hby d1_56) (by decide) (by decide) k) ?_
  show Go _ _ _ _ _ _ _ (T2.setTop (mkF m 30 #[.val (.int p0), .val (.ref a1), .val (.int (4 : Int32)), .val (.int ((Int32.toUInt32 p0 >>> ((6 : Int32) &&& 31).toUInt32).toInt32)), .val (.int (2 : Int32))] []))
  refine Go.step (fun _ k => XS.iload X2.here hx rfl (hb hby d1_30) rfl  k) ?_
  show Go _ _ _ _ _ _ _ (T2.setTop (mkF m 32 #[.val (.int p0), .val (.ref a1), .val (.int (4 : Int32)), .val (.int ((Int32.toUInt32 p0 >>> ((6 : Int32) &&& 31).toUInt32).toInt32)), .val (.int (2 : Int32))] [(.int (2 : Int32))]))
  have hc32 : (0 : Int32) < (2 : Int32) := by decide
  refine Go.step (fun _ k => XS.ifNo X2.here hx rfl (hb hby d1_32) rfl ((if0 _ _).trans (tlt hc32).2.2.2) k) ?_
  show Go _ _ _ _ _ _ _ (T2.setTop (mkF m 35 #[.val (.int p0), .val (.ref a1), .val (.int (4 : Int32)), .val (.int ((Int32.toUInt32 p0 >>> ((6 : Int32) &&& 31).toUInt32).toInt32)), .val (.int (2 : Int32))] []))
  refine Go.step (fun _ k => XS.aloadN X2.here hx rfl (hb hby d1_35) rfl rfl  k) ?_
  show Go _ _ _ _ _ _ _ (T2.setTop (mkF m 36 #[.val (.int p0), .val (.ref a1), .val (.int (4 : Int32)), .val (.int ((Int32.toUInt32 p0 >>> ((6 : Int32) &&& 31).toUInt32).toInt32)), .val (.int (2 : Int32))] [(.ref a1)]))
  refine Go.step (fun _ k => XS.iload X2.here hx rfl (hb hby d1_36) rfl  k) ?_
  show Go _ _ _ _ _ _ _ (T2.setTop (mkF m 38 #[.val (.int p0), .val (.ref a1), .val (.int (4 : Int32)), .val (.int ((Int32.toUInt32 p0 >>> ((6 : Int32) &&& 31).toUInt32).toInt32)), .val (.int (2 : Int32))] [(.int (2 : Int32)), (.ref a1)]))
  refine Go.step (fun _ k => XS.sipush X2.here hx rfl (hb hby d1_38) k) ?_
  show Go _ _ _ _ _ _ _ (T2.setTop (mkF m 41 #[.val (.int p0), .val (.ref a1), .val (.int (4 : Int32)), .val (.int ((Int32.toUInt32 p0 >>> ((6 : Int32) &&& 31).toUInt32).toInt32)), .val (.int (2 : Int32))] [(.int (128 : Int32)), (.int (2 : Int32)), (.ref a1)]))
  refine Go.step (fun _ k => XS.iloadN X2.here hx rfl (hb hby d1_41) rfl  k) ?_
  show Go _ _ _ _ _ _ _ (T2.setTop (mkF m 42 #[.val (.int p0), .val (.ref a1), .val (.int (4 : Int32)), .val (.int ((Int32.toUInt32 p0 >>> ((6 : Int32) &&& 31).toUInt32).toInt32)), .val (.int (2 : Int32))] [(.int ((Int32.toUInt32 p0 >>> ((6 : Int32) &&& 31).toUInt32).toInt32)), (.int (128 : Int32)), (.int (2 : Int32)), (.ref a1)]))
  refine Go.step (fun _ k => XS.bipush X2.here hx rfl (hb hby d1_42) k) ?_
  show Go _ _ _ _ _ _ _ (T2.setTop (mkF m 44 #[.val (.int p0), .val (.ref a1), .val (.int (4 : Int32)), .val (.int ((Int32.toUInt32 p0 >>> ((6 : Int32) &&& 31).toUInt32).toInt32)), .val (.int (2 : Int32))] [(.int (63 : Int32)), (.int ((Int32.toUInt32 p0 >>> ((6 : Int32) &&& 31).toUInt32).toInt32)), (.int (128 : Int32)), (.int (2 : Int32)), (.ref a1)]))
  refine Go.step (fun _ k => XS.iand X2.here hx rfl (hb hby d1_44) rfl k) ?_
  show Go _ _ _ _ _ _ _ (T2.setTop (mkF m 45 #[.val (.int p0), .val (.ref a1), .val (.int (4 : Int32)), .val (.int ((Int32.toUInt32 p0 >>> ((6 : Int32) &&& 31).toUInt32).toInt32)), .val (.int (2 : Int32))] [(.int (((Int32.toUInt32 p0 >>> ((6 : Int32) &&& 31).toUInt32).toInt32) &&& (63 : Int32))), (.int (128 : Int32)), (.int (2 : Int32)), (.ref a1)]))
  refine Go.step (fun _ k => XS.ior X2.here hx rfl (hb hby d1_45) rfl k) ?_
  show Go _ _ _ _ _ _ _ (T2.setTop (mkF m 46 #[.val (.int p0), .val (.ref a1), .val (.int (4 : Int32)), .val (.int ((Int32.toUInt32 p0 >>> ((6 : Int32) &&& 31).toUInt32).toInt32)), .val (.int (2 : Int32))] [(.int ((128 : Int32) ||| (((Int32.toUInt32 p0 >>> ((6 : Int32) &&& 31).toUInt32).toInt32) &&& (63 : Int32)))), (.int (2 : Int32)), (.ref a1)]))
  refine Go.step (fun _ k => XS.i2b X2.here hx rfl (hb hby d1_46) rfl k) ?_
  show Go _ _ _ _ _ _ _ (T2.setTop (mkF m 47 #[.val (.int p0), .val (.ref a1), .val (.int (4 : Int32)), .val (.int ((Int32.toUInt32 p0 >>> ((6 : Int32) &&& 31).toUInt32).toInt32)), .val (.int (2 : Int32))] [(.int (Int8.toInt32 (Int32.toInt8 ((128 : Int32) ||| (((Int32.toUInt32 p0 >>> ((6 : Int32) &&& 31).toUInt32).toInt32) &&& (63 : Int32)))))), (.int (2 : Int32)), (.ref a1)]))
  have lo6 : ¬ (2 : Int32) < 0 := (by decide)
  have hi6 : (2 : Int32) < (4 : Int32) := (by decide)
  obtain ⟨T7, h7, X7, e7, W7, f7, st7⟩ := Ai.stB X2 hx hZ e2 f2 (j := (2 : Int32)) (x := (Int8.toInt32 (Int32.toInt8 ((128 : Int32) ||| (((Int32.toUInt32 p0 >>> ((6 : Int32) &&& 31).toUInt32).toInt32) &&& (63 : Int32)))))) lo6 hi6 (g := (mkF m 47 #[.val (.int p0), .val (.ref a1), .val (.int (4 : Int32)), .val (.int ((Int32.toUInt32 p0 >>> ((6 : Int32) &&& 31).toUInt32).toInt32)), .val (.int (2 : Int32))] [(.int (Int8.toInt32 (Int32.toInt8 ((128 : Int32) ||| (((Int32.toUInt32 p0 >>> ((6 : Int32) &&& 31).toUInt32).toInt32) &&& (63 : Int32)))))), (.int (2 : Int32)), (.ref a1)])) rfl rfl (hb hby d1_47)
  refine Go.step st7 ?_
  have N7 := Fr.snoc X7 N2 g_1
  have z8 : n0 ≤ h7.size := Nat.le_trans z3 (Keep.of_wr W7).1
  have sqz8 : h0.size ≤ h7.size := Nat.le_trans sqz3 (Keep.of_wr W7).1
  have k9 : Keep h0 h7 [a1] := k4.wr W7 (Or.inl (List.mem_of_getElem? (i := 0) rfl))
  obtain ⟨f10c, qf10c⟩ : ∃ F, F = (fun i => if i = (2 : Int32) then (nar .byte (Int8.toInt32 (Int32.toInt8 ((128 : Int32) ||| (((Int32.toUInt32 p0 >>> ((6 : Int32) &&& 31).toUInt32).toInt32) &&& (63 : Int32)))))) else f5c i) := ⟨_, rfl⟩
  rw [← qf10c] at f7
  show Go _ _ _ _ _ _ _ (T7.setTop (mkF m 48 #[.val (.int p0), .val (.ref a1), .val (.int (4 : Int32)), .val (.int ((Int32.toUInt32 p0 >>> ((6 : Int32) &&& 31).toUInt32).toInt32)), .val (.int (2 : Int32))] []))
  refine Go.step (fun _ k => XS.iloadN X7.here hx rfl (hb hby d1_48) rfl  k) ?_
  show Go _ _ _ _ _ _ _ (T7.setTop (mkF m 49 #[.val (.int p0), .val (.ref a1), .val (.int (4 : Int32)), .val (.int ((Int32.toUInt32 p0 >>> ((6 : Int32) &&& 31).toUInt32).toInt32)), .val (.int (2 : Int32))] [(.int ((Int32.toUInt32 p0 >>> ((6 : Int32) &&& 31).toUInt32).toInt32))]))
  refine Go.step (fun _ k => XS.bipush X7.here hx rfl (hb hby d1_49) k) ?_
  show Go _ _ _ _ _ _ _ (T7.setTop (mkF m 51 #[.val (.int p0), .val (.ref a1), .val (.int (4 : Int32)), .val (.int ((Int32.toUInt32 p0 >>> ((6 : Int32) &&& 31).toUInt32).toInt32)), .val (.int (2 : Int32))] [(.int (6 : Int32)), (.int ((Int32.toUInt32 p0 >>> ((6 : Int32) &&& 31).toUInt32).toInt32))]))
  refine Go.step (fun _ k => XS.iushr X7.here hx rfl (hb hby d1_51) rfl k) ?_
  show Go _ _ _ _ _ _ _ (T7.setTop (mkF m 52 #[.val (.int p0), .val (.ref a1), .val (.int (4 : Int32)), .val (.int ((Int32.toUInt32 p0 >>> ((6 : Int32) &&& 31).toUInt32).toInt32)), .val (.int (2 : Int32))] [(.int ((Int32.toUInt32 ((Int32.toUInt32 p0 >>> ((6 : Int32) &&& 31).toUInt32).toInt32) >>> ((6 : Int32) &&& 31).toUInt32).toInt32))]))
  refine Go.step (fun _ k => XS.istoreN X7.here hx rfl (hb hby d1_52) rfl (l' := #[.val (.int p0), .val (.ref a1), .val (.int (4 : Int32)), .val (.int ((Int32.toUInt32 ((Int32.toUInt32 p0 >>> ((6 : Int32) &&& 31).toUInt32).toInt32) >>> ((6 : Int32) &&& 31).toUInt32).toInt32)), .val (.int (2 : Int32))]) rfl k) ?_
  show Go _ _ _ _ _ _ _ (T7.setTop (mkF m 53 #[.val (.int p0), .val (.ref a1), .val (.int (4 : Int32)), .val (.int ((Int32.toUInt32 ((Int32.toUInt32 p0 >>> ((6 : Int32) &&& 31).toUInt32).toInt32) >>> ((6 : Int32) &&& 31).toUInt32).toInt32)), .val (.int (2 : Int32))] []))
  refine Go.step (fun _ k => XS.iinc X7.here hx rfl (hb hby d1_53) rfl (l' := #[.val (.int p0), .val (.ref a1), .val (.int (4 : Int32)), .val (.int ((Int32.toUInt32 ((Int32.toUInt32 p0 >>> ((6 : Int32) &&& 31).toUInt32).toInt32) >>> ((6 : Int32) &&& 31).toUInt32).toInt32)), .val (.int (1 : Int32))]) rfl k) ?_
  show Go _ _ _ _ _ _ _ (T7.setTop (mkF m 56 #[.val (.int p0), .val (.ref a1), .val (.int (4 : Int32)), .val (.int ((Int32.toUInt32 ((Int32.toUInt32 p0 >>> ((6 : Int32) &&& 31).toUInt32).toInt32) >>> ((6 : Int32) &&& 31).toUInt32).toInt32)), .val (.int (1 : Int32))] []))
  refine Go.step (fun _ k => XS.goto X7.here hx rfl (pc0 := 56) (pc' := 30) rfl (hb hby d1_56) (by decide) (by decide) k) ?_
  show Go _ _ _ _ _ _ _ (T7.setTop (mkF m 30 #[.val (.int p0), .val (.ref a1), .val (.int (4 : Int32)), .val (.int ((Int32.toUInt32 ((Int32.toUInt32 p0 >>> ((6 : Int32) &&& 31).toUInt32).toInt32) >>> ((6 : Int32) &&& 31).toUInt32).toInt32)), .val (.int (1 : Int32))] []))
  refine Go.step (fun _ k => XS.iload X7.here hx rfl (hb hby d1_30) rfl  k) ?_
  show Go _ _ _ _ _ _ _ (T7.setTop (mkF m 32 #[.val (.int p0), .val (.ref a1), .val (.int (4 : Int32)), .val (.int ((Int32.toUInt32 ((Int32.toUInt32 p0 >>> ((6 : Int32) &&& 31).toUInt32).toInt32) >>> ((6 : Int32) &&& 31).toUInt32).toInt32)), .val (.int (1 : Int32))] [(.int (1 : Int32))]))
  have hc32 : (0 : Int32) < (1 : Int32) := by decide
  refine Go.step (fun _ k => XS.ifNo X7.here hx rfl (hb hby d1_32) rfl ((if0 _ _).trans (tlt hc32).2.2.2) k) ?_
  show Go _ _ _ _ _ _ _ (T7.setTop (mkF m 35 #[.val (.int p0), .val (.ref a1), .val (.int (4 : Int32)), .val (.int ((Int32.toUInt32 ((Int32.toUInt32 p0 >>> ((6 : Int32) &&& 31).toUInt32).toInt32) >>> ((6 : Int32) &&& 31).toUInt32).toInt32)), .val (.int (1 : Int32))] []))
  refine Go.step (fun _ k => XS.aloadN X7.here hx rfl (hb hby d1_35) rfl rfl  k) ?_
  show Go _ _ _ _ _ _ _ (T7.setTop (mkF m 36 #[.val (.int p0), .val (.ref a1), .val (.int (4 : Int32)), .val (.int ((Int32.toUInt32 ((Int32.toUInt32 p0 >>> ((6 : Int32) &&& 31).toUInt32).toInt32) >>> ((6 : Int32) &&& 31).toUInt32).toInt32)), .val (.int (1 : Int32))] [(.ref a1)]))
  refine Go.step (fun _ k => XS.iload X7.here hx rfl (hb hby d1_36) rfl  k) ?_
  show Go _ _ _ _ _ _ _ (T7.setTop (mkF m 38 #[.val (.int p0), .val (.ref a1), .val (.int (4 : Int32)), .val (.int ((Int32.toUInt32 ((Int32.toUInt32 p0 >>> ((6 : Int32) &&& 31).toUInt32).toInt32) >>> ((6 : Int32) &&& 31).toUInt32).toInt32)), .val (.int (1 : Int32))] [(.int (1 : Int32)), (.ref a1)]))
  refine Go.step (fun _ k => XS.sipush X7.here hx rfl (hb hby d1_38) k) ?_
  show Go _ _ _ _ _ _ _ (T7.setTop (mkF m 41 #[.val (.int p0), .val (.ref a1), .val (.int (4 : Int32)), .val (.int ((Int32.toUInt32 ((Int32.toUInt32 p0 >>> ((6 : Int32) &&& 31).toUInt32).toInt32) >>> ((6 : Int32) &&& 31).toUInt32).toInt32)), .val (.int (1 : Int32))] [(.int (128 : Int32)), (.int (1 : Int32)), (.ref a1)]))
  refine Go.step (fun _ k => XS.iloadN X7.here hx rfl (hb hby d1_41) rfl  k) ?_
  show Go _ _ _ _ _ _ _ (T7.setTop (mkF m 42 #[.val (.int p0), .val (.ref a1), .val (.int (4 : Int32)), .val (.int ((Int32.toUInt32 ((Int32.toUInt32 p0 >>> ((6 : Int32) &&& 31).toUInt32).toInt32) >>> ((6 : Int32) &&& 31).toUInt32).toInt32)), .val (.int (1 : Int32))] [(.int ((Int32.toUInt32 ((Int32.toUInt32 p0 >>> ((6 : Int32) &&& 31).toUInt32).toInt32) >>> ((6 : Int32) &&& 31).toUInt32).toInt32)), (.int (128 : Int32)), (.int (1 : Int32)), (.ref a1)]))
  refine Go.step (fun _ k => XS.bipush X7.here hx rfl (hb hby d1_42) k) ?_
  show Go _ _ _ _ _ _ _ (T7.setTop (mkF m 44 #[.val (.int p0), .val (.ref a1), .val (.int (4 : Int32)), .val (.int ((Int32.toUInt32 ((Int32.toUInt32 p0 >>> ((6 : Int32) &&& 31).toUInt32).toInt32) >>> ((6 : Int32) &&& 31).toUInt32).toInt32)), .val (.int (1 : Int32))] [(.int (63 : Int32)), (.int ((Int32.toUInt32 ((Int32.toUInt32 p0 >>> ((6 : Int32) &&& 31).toUInt32).toInt32) >>> ((6 : Int32) &&& 31).toUInt32).toInt32)), (.int (128 : Int32)), (.int (1 : Int32)), (.ref a1)]))
  refine Go.step (fun _ k => XS.iand X7.here hx rfl (hb hby d1_44) rfl k) ?_
  show Go _ _ _ _ _ _ _ (T7.setTop (mkF m 45 #[.val (.int p0), .val (.ref a1), .val (.int (4 : Int32)), .val (.int ((Int32.toUInt32 ((Int32.toUInt32 p0 >>> ((6 : Int32) &&& 31).toUInt32).toInt32) >>> ((6 : Int32) &&& 31).toUInt32).toInt32)), .val (.int (1 : Int32))] [(.int (((Int32.toUInt32 ((Int32.toUInt32 p0 >>> ((6 : Int32) &&& 31).toUInt32).toInt32) >>> ((6 : Int32) &&& 31).toUInt32).toInt32) &&& (63 : Int32))), (.int (128 : Int32)), (.int (1 : Int32)), (.ref a1)]))
  refine Go.step (fun _ k => XS.ior X7.here hx rfl (hb hby d1_45) rfl k) ?_
  show Go _ _ _ _ _ _ _ (T7.setTop (mkF m 46 #[.val (.int p0), .val (.ref a1), .val (.int (4 : Int32)), .val (.int ((Int32.toUInt32 ((Int32.toUInt32 p0 >>> ((6 : Int32) &&& 31).toUInt32).toInt32) >>> ((6 : Int32) &&& 31).toUInt32).toInt32)), .val (.int (1 : Int32))] [(.int ((128 : Int32) ||| (((Int32.toUInt32 ((Int32.toUInt32 p0 >>> ((6 : Int32) &&& 31).toUInt32).toInt32) >>> ((6 : Int32) &&& 31).toUInt32).toInt32) &&& (63 : Int32)))), (.int (1 : Int32)), (.ref a1)]))
  refine Go.step (fun _ k => XS.i2b X7.here hx rfl (hb hby d1_46) rfl k) ?_
  show Go _ _ _ _ _ _ _ (T7.setTop (mkF m 47 #[.val (.int p0), .val (.ref a1), .val (.int (4 : Int32)), .val (.int ((Int32.toUInt32 ((Int32.toUInt32 p0 >>> ((6 : Int32) &&& 31).toUInt32).toInt32) >>> ((6 : Int32) &&& 31).toUInt32).toInt32)), .val (.int (1 : Int32))] [(.int (Int8.toInt32 (Int32.toInt8 ((128 : Int32) ||| (((Int32.toUInt32 ((Int32.toUInt32 p0 >>> ((6 : Int32) &&& 31).toUInt32).toInt32) >>> ((6 : Int32) &&& 31).toUInt32).toInt32) &&& (63 : Int32)))))), (.int (1 : Int32)), (.ref a1)]))
  have lo11 : ¬ (1 : Int32) < 0 := (by decide)
  have hi11 : (1 : Int32) < (4 : Int32) := (by decide)
  obtain ⟨T12, h12, X12, e12, W12, f12, st12⟩ := Ai.stB X7 hx hZ e7 f7 (j := (1 : Int32)) (x := (Int8.toInt32 (Int32.toInt8 ((128 : Int32) ||| (((Int32.toUInt32 ((Int32.toUInt32 p0 >>> ((6 : Int32) &&& 31).toUInt32).toInt32) >>> ((6 : Int32) &&& 31).toUInt32).toInt32) &&& (63 : Int32)))))) lo11 hi11 (g := (mkF m 47 #[.val (.int p0), .val (.ref a1), .val (.int (4 : Int32)), .val (.int ((Int32.toUInt32 ((Int32.toUInt32 p0 >>> ((6 : Int32) &&& 31).toUInt32).toInt32) >>> ((6 : Int32) &&& 31).toUInt32).toInt32)), .val (.int (1 : Int32))] [(.int (Int8.toInt32 (Int32.toInt8 ((128 : Int32) ||| (((Int32.toUInt32 ((Int32.toUInt32 p0 >>> ((6 : Int32) &&& 31).toUInt32).toInt32) >>> ((6 : Int32) &&& 31).toUInt32).toInt32) &&& (63 : Int32)))))), (.int (1 : Int32)), (.ref a1)])) rfl rfl (hb hby d1_47)
  refine Go.step st12 ?_
  have N12 := Fr.snoc X12 N7 g_1
  have z13 : n0 ≤ h12.size := Nat.le_trans z8 (Keep.of_wr W12).1
  have sqz13 : h0.size ≤ h12.size := Nat.le_trans sqz8 (Keep.of_wr W12).1
  have k14 : Keep h0 h12 [a1] := k9.wr W12 (Or.inl (List.mem_of_getElem? (i := 0) rfl))
  obtain ⟨f15c, qf15c⟩ : ∃ F, F = (fun i => if i = (1 : Int32) then (nar .byte (Int8.toInt32 (Int32.toInt8 ((128 : Int32) ||| (((Int32.toUInt32 ((Int32.toUInt32 p0 >>> ((6 : Int32) &&& 31).toUInt32).toInt32) >>> ((6 : Int32) &&& 31).toUInt32).toInt32) &&& (63 : Int32)))))) else f10c i) := ⟨_, rfl⟩
  rw [← qf15c] at f12
  show Go _ _ _ _ _ _ _ (T12.setTop (mkF m 48 #[.val (.int p0), .val (.ref a1), .val (.int (4 : Int32)), .val (.int ((Int32.toUInt32 ((Int32.toUInt32 p0 >>> ((6 : Int32) &&& 31).toUInt32).toInt32) >>> ((6 : Int32) &&& 31).toUInt32).toInt32)), .val (.int (1 : Int32))] []))
  refine Go.step (fun _ k => XS.iloadN X12.here hx rfl (hb hby d1_48) rfl  k) ?_
  show Go _ _ _ _ _ _ _ (T12.setTop (mkF m 49 #[.val (.int p0), .val (.ref a1), .val (.int (4 : Int32)), .val (.int ((Int32.toUInt32 ((Int32.toUInt32 p0 >>> ((6 : Int32) &&& 31).toUInt32).toInt32) >>> ((6 : Int32) &&& 31).toUInt32).toInt32)), .val (.int (1 : Int32))] [(.int ((Int32.toUInt32 ((Int32.toUInt32 p0 >>> ((6 : Int32) &&& 31).toUInt32).toInt32) >>> ((6 : Int32) &&& 31).toUInt32).toInt32))]))
  refine Go.step (fun _ k => XS.bipush X12.here hx rfl (hb hby d1_49) k) ?_
  show Go _ _ _ _ _ _ _ (T12.setTop (mkF m 51 #[.val (.int p0), .val (.ref a1), .val (.int (4 : Int32)), .val (.int ((Int32.toUInt32 ((Int32.toUInt32 p0 >>> ((6 : Int32) &&& 31).toUInt32).toInt32) >>> ((6 : Int32) &&& 31).toUInt32).toInt32)), .val (.int (1 : Int32))] [(.int (6 : Int32)), (.int ((Int32.toUInt32 ((Int32.toUInt32 p0 >>> ((6 : Int32) &&& 31).toUInt32).toInt32) >>> ((6 : Int32) &&& 31).toUInt32).toInt32))]))
  refine Go.step (fun _ k => XS.iushr X12.here hx rfl (hb hby d1_51) rfl k) ?_
  show Go _ _ _ _ _ _ _ (T12.setTop (mkF m 52 #[.val (.int p0), .val (.ref a1), .val (.int (4 : Int32)), .val (.int ((Int32.toUInt32 ((Int32.toUInt32 p0 >>> ((6 : Int32) &&& 31).toUInt32).toInt32) >>> ((6 : Int32) &&& 31).toUInt32).toInt32)), .val (.int (1 : Int32))] [(.int ((Int32.toUInt32 ((Int32.toUInt32 ((Int32.toUInt32 p0 >>> ((6 : Int32) &&& 31).toUInt32).toInt32) >>> ((6 : Int32) &&& 31).toUInt32).toInt32) >>> ((6 : Int32) &&& 31).toUInt32).toInt32))]))
  refine Go.step (fun _ k => XS.istoreN X12.here hx rfl (hb hby d1_52) rfl (l' := #[.val (.int p0), .val (.ref a1), .val (.int (4 : Int32)), .val (.int ((Int32.toUInt32 ((Int32.toUInt32 ((Int32.toUInt32 p0 >>> ((6 : Int32) &&& 31).toUInt32).toInt32) >>> ((6 : Int32) &&& 31).toUInt32).toInt32) >>> ((6 : Int32) &&& 31).toUInt32).toInt32)), .val (.int (1 : Int32))]) rfl k) ?_
  show Go _ _ _ _ _ _ _ (T12.setTop (mkF m 53 #[.val (.int p0), .val (.ref a1), .val (.int (4 : Int32)), .val (.int ((Int32.toUInt32 ((Int32.toUInt32 ((Int32.toUInt32 p0 >>> ((6 : Int32) &&& 31).toUInt32).toInt32) >>> ((6 : Int32) &&& 31).toUInt32).toInt32) >>> ((6 : Int32) &&& 31).toUInt32).toInt32)), .val (.int (1 : Int32))] []))
  refine Go.step (fun _ k => XS.iinc X12.here hx rfl (hb hby d1_53) rfl (l' := #[.val (.int p0), .val (.ref a1), .val (.int (4 : Int32)), .val (.int ((Int32.toUInt32 ((Int32.toUInt32 ((Int32.toUInt32 p0 >>> ((6 : Int32) &&& 31).toUInt32).toInt32) >>> ((6 : Int32) &&& 31).toUInt32).toInt32) >>> ((6 : Int32) &&& 31).toUInt32).toInt32)), .val (.int (0 : Int32))]) rfl k) ?_
  show Go _ _ _ _ _ _ _ (T12.setTop (mkF m 56 #[.val (.int p0), .val (.ref a1), .val (.int (4 : Int32)), .val (.int ((Int32.toUInt32 ((Int32.toUInt32 ((Int32.toUInt32 p0 >>> ((6 : Int32) &&& 31).toUInt32).toInt32) >>> ((6 : Int32) &&& 31).toUInt32).toInt32) >>> ((6 : Int32) &&& 31).toUInt32).toInt32)), .val (.int (0 : Int32))] []))
  refine Go.step (fun _ k => XS.goto X12.here hx rfl (pc0 := 56) (pc' := 30) rfl (hb hby d1_56) (by decide) (by decide) k) ?_
  show Go _ _ _ _ _ _ _ (T12.setTop (mkF m 30 #[.val (.int p0), .val (.ref a1), .val (.int (4 : Int32)), .val (.int ((Int32.toUInt32 ((Int32.toUInt32 ((Int32.toUInt32 p0 >>> ((6 : Int32) &&& 31).toUInt32).toInt32) >>> ((6 : Int32) &&& 31).toUInt32).toInt32) >>> ((6 : Int32) &&& 31).toUInt32).toInt32)), .val (.int (0 : Int32))] []))
  refine Go.step (fun _ k => XS.iload X12.here hx rfl (hb hby d1_30) rfl  k) ?_
  show Go _ _ _ _ _ _ _ (T12.setTop (mkF m 32 #[.val (.int p0), .val (.ref a1), .val (.int (4 : Int32)), .val (.int ((Int32.toUInt32 ((Int32.toUInt32 ((Int32.toUInt32 p0 >>> ((6 : Int32) &&& 31).toUInt32).toInt32) >>> ((6 : Int32) &&& 31).toUInt32).toInt32) >>> ((6 : Int32) &&& 31).toUInt32).toInt32)), .val (.int (0 : Int32))] [(.int (0 : Int32))]))
  have hc32 : ¬ ((0 : Int32) < (0 : Int32)) := by decide
  refine Go.step (fun _ k => XS.ifYes X12.here hx rfl (pc0 := 32) (pc' := 59) rfl (hb hby d1_32) rfl ((if0 _ _).trans (flt hc32).2.2.2) (by decide) (by decide) k) ?_
  show Go _ _ _ _ _ _ _ (T12.setTop (mkF m 59 #[.val (.int p0), .val (.ref a1), .val (.int (4 : Int32)), .val (.int ((Int32.toUInt32 ((Int32.toUInt32 ((Int32.toUInt32 p0 >>> ((6 : Int32) &&& 31).toUInt32).toInt32) >>> ((6 : Int32) &&& 31).toUInt32).toInt32) >>> ((6 : Int32) &&& 31).toUInt32).toInt32)), .val (.int (0 : Int32))] []))
  refine Go.step (fun _ k => XS.aloadN X12.here hx rfl (hb hby d1_59) rfl rfl  k) ?_
  show Go _ _ _ _ _ _ _ (T12.setTop (mkF m 60 #[.val (.int p0), .val (.ref a1), .val (.int (4 : Int32)), .val (.int ((Int32.toUInt32 ((Int32.toUInt32 ((Int32.toUInt32 p0 >>> ((6 : Int32) &&& 31).toUInt32).toInt32) >>> ((6 : Int32) &&& 31).toUInt32).toInt32) >>> ((6 : Int32) &&& 31).toUInt32).toInt32)), .val (.int (0 : Int32))] [(.ref a1)]))
  refine Go.step (fun _ k => XS.iconst X12.here hx rfl (hb hby d1_60) k) ?_
  show Go _ _ _ _ _ _ _ (T12.setTop (mkF m 61 #[.val (.int p0), .val (.ref a1), .val (.int (4 : Int32)), .val (.int ((Int32.toUInt32 ((Int32.toUInt32 ((Int32.toUInt32 p0 >>> ((6 : Int32) &&& 31).toUInt32).toInt32) >>> ((6 : Int32) &&& 31).toUInt32).toInt32) >>> ((6 : Int32) &&& 31).toUInt32).toInt32)), .val (.int (0 : Int32))] [(.int (0 : Int32)), (.ref a1)]))
  refine Go.step (fun _ k => XS.sipush X12.here hx rfl (hb hby d1_61) k) ?_
  show Go _ _ _ _ _ _ _ (T12.setTop (mkF m 64 #[.val (.int p0), .val (.ref a1), .val (.int (4 : Int32)), .val (.int ((Int32.toUInt32 ((Int32.toUInt32 ((Int32.toUInt32 p0 >>> ((6 : Int32) &&& 31).toUInt32).toInt32) >>> ((6 : Int32) &&& 31).toUInt32).toInt32) >>> ((6 : Int32) &&& 31).toUInt32).toInt32)), .val (.int (0 : Int32))] [(.int (255 : Int32)), (.int (0 : Int32)), (.ref a1)]))
  refine Go.step (fun _ k => XS.bipush X12.here hx rfl (hb hby d1_64) k) ?_
  show Go _ _ _ _ _ _ _ (T12.setTop (mkF m 66 #[.val (.int p0), .val (.ref a1), .val (.int (4 : Int32)), .val (.int ((Int32.toUInt32 ((Int32.toUInt32 ((Int32.toUInt32 p0 >>> ((6 : Int32) &&& 31).toUInt32).toInt32) >>> ((6 : Int32) &&& 31).toUInt32).toInt32) >>> ((6 : Int32) &&& 31).toUInt32).toInt32)), .val (.int (0 : Int32))] [(.int (8 : Int32)), (.int (255 : Int32)), (.int (0 : Int32)), (.ref a1)]))
  refine Go.step (fun _ k => XS.iloadN X12.here hx rfl (hb hby d1_66) rfl  k) ?_
  show Go _ _ _ _ _ _ _ (T12.setTop (mkF m 67 #[.val (.int p0), .val (.ref a1), .val (.int (4 : Int32)), .val (.int ((Int32.toUInt32 ((Int32.toUInt32 ((Int32.toUInt32 p0 >>> ((6 : Int32) &&& 31).toUInt32).toInt32) >>> ((6 : Int32) &&& 31).toUInt32).toInt32) >>> ((6 : Int32) &&& 31).toUInt32).toInt32)), .val (.int (0 : Int32))] [(.int (4 : Int32)), (.int (8 : Int32)), (.int (255 : Int32)), (.int (0 : Int32)), (.ref a1)]))
  refine Go.step (fun _ k => XS.isub X12.here hx rfl (hb hby d1_67) rfl k) ?_
  show Go _ _ _ _ _ _ _ (T12.setTop (mkF m 68 #[.val (.int p0), .val (.ref a1), .val (.int (4 : Int32)), .val (.int ((Int32.toUInt32 ((Int32.toUInt32 ((Int32.toUInt32 p0 >>> ((6 : Int32) &&& 31).toUInt32).toInt32) >>> ((6 : Int32) &&& 31).toUInt32).toInt32) >>> ((6 : Int32) &&& 31).toUInt32).toInt32)), .val (.int (0 : Int32))] [(.int (4 : Int32)), (.int (255 : Int32)), (.int (0 : Int32)), (.ref a1)]))
  refine Go.step (fun _ k => XS.ishl X12.here hx rfl (hb hby d1_68) rfl k) ?_
  show Go _ _ _ _ _ _ _ (T12.setTop (mkF m 69 #[.val (.int p0), .val (.ref a1), .val (.int (4 : Int32)), .val (.int ((Int32.toUInt32 ((Int32.toUInt32 ((Int32.toUInt32 p0 >>> ((6 : Int32) &&& 31).toUInt32).toInt32) >>> ((6 : Int32) &&& 31).toUInt32).toInt32) >>> ((6 : Int32) &&& 31).toUInt32).toInt32)), .val (.int (0 : Int32))] [(.int ((255 : Int32) <<< ((4 : Int32) &&& 31))), (.int (0 : Int32)), (.ref a1)]))
  refine Go.step (fun _ k => XS.iloadN X12.here hx rfl (hb hby d1_69) rfl  k) ?_
  show Go _ _ _ _ _ _ _ (T12.setTop (mkF m 70 #[.val (.int p0), .val (.ref a1), .val (.int (4 : Int32)), .val (.int ((Int32.toUInt32 ((Int32.toUInt32 ((Int32.toUInt32 p0 >>> ((6 : Int32) &&& 31).toUInt32).toInt32) >>> ((6 : Int32) &&& 31).toUInt32).toInt32) >>> ((6 : Int32) &&& 31).toUInt32).toInt32)), .val (.int (0 : Int32))] [(.int ((Int32.toUInt32 ((Int32.toUInt32 ((Int32.toUInt32 p0 >>> ((6 : Int32) &&& 31).toUInt32).toInt32) >>> ((6 : Int32) &&& 31).toUInt32).toInt32) >>> ((6 : Int32) &&& 31).toUInt32).toInt32)), (.int ((255 : Int32) <<< ((4 : Int32) &&& 31))), (.int (0 : Int32)), (.ref a1)]))
  refine Go.step (fun _ k => XS.ior X12.here hx rfl (hb hby d1_70) rfl k) ?_
  show Go _ _ _ _ _ _ _ (T12.setTop (mkF m 71 #[.val (.int p0), .val (.ref a1), .val (.int (4 : Int32)), .val (.int ((Int32.toUInt32 ((Int32.toUInt32 ((Int32.toUInt32 p0 >>> ((6 : Int32) &&& 31).toUInt32).toInt32) >>> ((6 : Int32) &&& 31).toUInt32).toInt32) >>> ((6 : Int32) &&& 31).toUInt32).toInt32)), .val (.int (0 : Int32))] [(.int (((255 : Int32) <<< ((4 : Int32) &&& 31)) ||| ((Int32.toUInt32 ((Int32.toUInt32 ((Int32.toUInt32 p0 >>> ((6 : Int32) &&& 31).toUInt32).toInt32) >>> ((6 : Int32) &&& 31).toUInt32).toInt32) >>> ((6 : Int32) &&& 31).toUInt32).toInt32))), (.int (0 : Int32)), (.ref a1)]))
  refine Go.step (fun _ k => XS.i2b X12.here hx rfl (hb hby d1_71) rfl k) ?_
  show Go _ _ _ _ _ _ _ (T12.setTop (mkF m 72 #[.val (.int p0), .val (.ref a1), .val (.int (4 : Int32)), .val (.int ((Int32.toUInt32 ((Int32.toUInt32 ((Int32.toUInt32 p0 >>> ((6 : Int32) &&& 31).toUInt32).toInt32) >>> ((6 : Int32) &&& 31).toUInt32).toInt32) >>> ((6 : Int32) &&& 31).toUInt32).toInt32)), .val (.int (0 : Int32))] [(.int (Int8.toInt32 (Int32.toInt8 (((255 : Int32) <<< ((4 : Int32) &&& 31)) ||| ((Int32.toUInt32 ((Int32.toUInt32 ((Int32.toUInt32 p0 >>> ((6 : Int32) &&& 31).toUInt32).toInt32) >>> ((6 : Int32) &&& 31).toUInt32).toInt32) >>> ((6 : Int32) &&& 31).toUInt32).toInt32))))), (.int (0 : Int32)), (.ref a1)]))
  have lo16 : ¬ (0 : Int32) < 0 := (by decide)
  have hi16 : (0 : Int32) < (4 : Int32) := (by decide)
  obtain ⟨T17, h17, X17, e17, W17, f17, st17⟩ := Ai.stB X12 hx hZ e12 f12 (j := (0 : Int32)) (x := (Int8.toInt32 (Int32.toInt8 (((255 : Int32) <<< ((4 : Int32) &&& 31)) ||| ((Int32.toUInt32 ((Int32.toUInt32 ((Int32.toUInt32 p0 >>> ((6 : Int32) &&& 31).toUInt32).toInt32) >>> ((6 : Int32) &&& 31).toUInt32).toInt32) >>> ((6 : Int32) &&& 31).toUInt32).toInt32))))) lo16 hi16 (g := (mkF m 72 #[.val (.int p0), .val (.ref a1), .val (.int (4 : Int32)), .val (.int ((Int32.toUInt32 ((Int32.toUInt32 ((Int32.toUInt32 p0 >>> ((6 : Int32) &&& 31).toUInt32).toInt32) >>> ((6 : Int32) &&& 31).toUInt32).toInt32) >>> ((6 : Int32) &&& 31).toUInt32).toInt32)), .val (.int (0 : Int32))] [(.int (Int8.toInt32 (Int32.toInt8 (((255 : Int32) <<< ((4 : Int32) &&& 31)) ||| ((Int32.toUInt32 ((Int32.toUInt32 ((Int32.toUInt32 p0 >>> ((6 : Int32) &&& 31).toUInt32).toInt32) >>> ((6 : Int32) &&& 31).toUInt32).toInt32) >>> ((6 : Int32) &&& 31).toUInt32).toInt32))))), (.int (0 : Int32)), (.ref a1)])) rfl rfl (hb hby d1_72)
  refine Go.step st17 ?_
  have N17 := Fr.snoc X17 N12 g_1
  have z18 : n0 ≤ h17.size := Nat.le_trans z13 (Keep.of_wr W17).1
  have sqz18 : h0.size ≤ h17.size := Nat.le_trans sqz13 (Keep.of_wr W17).1
  have k19 : Keep h0 h17 [a1] := k14.wr W17 (Or.inl (List.mem_of_getElem? (i := 0) rfl))
  obtain ⟨f20c, qf20c⟩ : ∃ F, F = (fun i => if i = (0 : Int32) then (nar .byte (Int8.toInt32 (Int32.toInt8 (((255 : Int32) <<< ((4 : Int32) &&& 31)) ||| ((Int32.toUInt32 ((Int32.toUInt32 ((Int32.toUInt32 p0 >>> ((6 : Int32) &&& 31).toUInt32).toInt32) >>> ((6 : Int32) &&& 31).toUInt32).toInt32) >>> ((6 : Int32) &&& 31).toUInt32).toInt32))))) else f15c i) := ⟨_, rfl⟩
  rw [← qf20c] at f17
  show Go _ _ _ _ _ _ _ (T17.setTop (mkF m 73 #[.val (.int p0), .val (.ref a1), .val (.int (4 : Int32)), .val (.int ((Int32.toUInt32 ((Int32.toUInt32 ((Int32.toUInt32 p0 >>> ((6 : Int32) &&& 31).toUInt32).toInt32) >>> ((6 : Int32) &&& 31).toUInt32).toInt32) >>> ((6 : Int32) &&& 31).toUInt32).toInt32)), .val (.int (0 : Int32))] []))
  refine Go.step (fun _ k => XS.iloadN X17.here hx rfl (hb hby d1_73) rfl  k) ?_
  show Go _ _ _ _ _ _ _ (T17.setTop (mkF m 74 #[.val (.int p0), .val (.ref a1), .val (.int (4 : Int32)), .val (.int ((Int32.toUInt32 ((Int32.toUInt32 ((Int32.toUInt32 p0 >>> ((6 : Int32) &&& 31).toUInt32).toInt32) >>> ((6 : Int32) &&& 31).toUInt32).toInt32) >>> ((6 : Int32) &&& 31).toUInt32).toInt32)), .val (.int (0 : Int32))] [(.int (4 : Int32))]))
  refine Go.retI X17 hx Bd.returns hlk (hb hby d1_74) ?_ (by decide) (by decide)
  rw [e17]
  exact ⟨f20c, (rfl), N17, k19, f17, (by simp +decide [qf20c]), (by simp +decide [qf20c, qf15c]), (by simp +decide [qf20c, qf15c, qf10c]), (by simp +decide [qf20c, qf15c, qf10c, qf5c])⟩
theorem own_lt2 {c : Int32} (h : c < (2048 : Int32)) : c.toInt < 2048 := by rw [Int32.lt_iff_toInt_lt, own_i_2048] at h; exact h
theorem own_lt3 {c : Int32} (h : c < (65536 : Int32)) : c.toInt < 65536 := by rw [Int32.lt_iff_toInt_lt, own_i_65536] at h; exact h
theorem own_lt4 {c : Int32} (h : 128 ≤ c.toInt ∧ c.toInt ≤ 1114111) : c.toInt < 1114112 := by omega
theorem pn_14 : plainName "com/example/omniform/omniform/Utf8EncodePinLaw" = true := by first | (simp [plainName, overriddenIn]; done) | decide +kernel
theorem pd_0 : parseMethodDescriptor "(I[B)I" = some ⟨[.int, (.array .byte)], some .int⟩ := by decide +kernel
theorem ef_0 (m : MethodId) (qx : Int32) (qf : Int32) : entryFrame m #[(.int qx), (.int qf)] maxLocals = mkF m 0 #[.val (.int qx), .val (.int qf), .unset, .unset, .unset, .unset, .unset, .unset, .unset, .unset] [] := by first | (simp [entryFrame, mkF, argsToLocals, Value.category, maxLocals]; done) | rfl
def Q0 (Z : State) (qx : Int32) (qf : Int32) (h0 : Heap) (n0 : Nat) (v : Option Value) (h : Heap) (L : List Loc) : Prop := (v = some (.int 1)) ∧ (Fr n0 L)
set_option maxRecDepth 65536 in
set_option maxHeartbeats 40000000 in
theorem rm0 (l : Launch) (Z : State) (aZ : Array Value) (hw : ∀ d ∈ tables_1, d.before aZ Z = true) (ws : List Jvm.Cond) (qx : Int32) (qf : Int32) (h0 : Heap) (n0 : Nat) (Z0 : n0 ≤ h0.size)  :
    MetFree l x (head1 (Jvm.Cond.code x code maxLocals ret :: ws) room_1) (fun a U => a = #[(.int qx), (.int qf)] ∧ Z.Warmed39 U.vm ∧ U.heap = h0) (fun _ _ _ _ _ => True) (fun _ U o U' => ∃ v L, o = .returned v ∧ Q0 Z qx qf h0 n0 v U'.heap L ∧ FrameEnd U o U' L 1 4) := by
  refine MetFree.of_bodySF (plainFor_of_name pn_14) hisR ?_
  intro p e s m args below meth c s₁ Bd hml0 hP hK
  obtain ⟨rfl, hZ, hh⟩ := hP
  have hx := Bd.exec
  have hby := Bd.bytes
  have hml : c.maxLocals = 10 := hml0
  have hown : s.vm.findClass "com/example/omniform/omniform/Utf8EncodePinLaw" = some m.cls := findClass_of_methodNamed Bd.named
  have hnm := (name_of_methodNamed Bd.named Bd.method).1
  have hlk : meth.locks = false := BodyLoose.notSynchronized Bd
  have X0 : Stand p l e room_1 s m #[(.int qx), (.int qf)] below meth c s₁ [] 0 0 := Stand.of_body Bd
  have e0 : s₁.heap = h0 := by rw [← hh, Bd.state]; rfl
  have N0 := Fr.nil n0
  have sq0 : h0.size ≤ h0.size := Nat.le_refl _
  change Go p e below s 1 4 (Q0 Z qx qf h0 n0) (s₁.setTop (entryFrame m #[(.int qx), (.int qf)] maxLocals))
  rw [ef_0 m qx qf]
  show Go _ _ _ _ _ _ _ (s₁.setTop (mkF m 0 #[.val (.int qx), .val (.int qf), .unset, .unset, .unset, .unset, .unset, .unset, .unset, .unset] []))
  refine Go.step (fun _ k => XS.iloadN X0.here hx rfl (hb hby at_0) rfl  k) ?_
  show Go _ _ _ _ _ _ _ (s₁.setTop (mkF m 1 #[.val (.int qx), .val (.int qf), .unset, .unset, .unset, .unset, .unset, .unset, .unset, .unset] [(.int qx)]))
  refine Go.step (X0.ldcInt hx hown (mvT hZ (hw _ (List.mem_of_getElem? (i := 0) rfl))) (g := (mkF m 1 #[.val (.int qx), .val (.int qf), .unset, .unset, .unset, .unset, .unset, .unset, .unset, .unset] [(.int qx)])) rfl (hb hby at_1)) ?_
  show Go _ _ _ _ _ _ _ (s₁.setTop (mkF m 3 #[.val (.int qx), .val (.int qf), .unset, .unset, .unset, .unset, .unset, .unset, .unset, .unset] [(.int (2147483647 : Int32)), (.int qx)]))
  refine Go.step (fun _ k => XS.iand X0.here hx rfl (hb hby at_3) rfl k) ?_
  show Go _ _ _ _ _ _ _ (s₁.setTop (mkF m 4 #[.val (.int qx), .val (.int qf), .unset, .unset, .unset, .unset, .unset, .unset, .unset, .unset] [(.int (qx &&& (2147483647 : Int32)))]))
  refine Go.step (X0.ldcInt hx hown (mvT hZ (hw _ (List.mem_of_getElem? (i := 1) rfl))) (g := (mkF m 4 #[.val (.int qx), .val (.int qf), .unset, .unset, .unset, .unset, .unset, .unset, .unset, .unset] [(.int (qx &&& (2147483647 : Int32)))])) rfl (hb hby at_4)) ?_
  show Go _ _ _ _ _ _ _ (s₁.setTop (mkF m 6 #[.val (.int qx), .val (.int qf), .unset, .unset, .unset, .unset, .unset, .unset, .unset, .unset] [(.int (1111936 : Int32)), (.int (qx &&& (2147483647 : Int32)))]))
  have nz6 : (1111936 : Int32) ≠ 0 := (by decide)
  refine Go.step (fun _ k => iremM X0 hx rfl (hb hby at_6) rfl nz6 k) ?_
  show Go _ _ _ _ _ _ _ (s₁.setTop (mkF m 7 #[.val (.int qx), .val (.int qf), .unset, .unset, .unset, .unset, .unset, .unset, .unset, .unset] [(.int ((qx &&& (2147483647 : Int32)) % (1111936 : Int32)))]))
  refine Go.step (fun _ k => XS.sipush X0.here hx rfl (hb hby at_7) k) ?_
  show Go _ _ _ _ _ _ _ (s₁.setTop (mkF m 10 #[.val (.int qx), .val (.int qf), .unset, .unset, .unset, .unset, .unset, .unset, .unset, .unset] [(.int (128 : Int32)), (.int ((qx &&& (2147483647 : Int32)) % (1111936 : Int32)))]))
  refine Go.step (fun _ k => XS.iadd X0.here hx rfl (hb hby at_10) rfl k) ?_
  show Go _ _ _ _ _ _ _ (s₁.setTop (mkF m 11 #[.val (.int qx), .val (.int qf), .unset, .unset, .unset, .unset, .unset, .unset, .unset, .unset] [(.int (((qx &&& (2147483647 : Int32)) % (1111936 : Int32)) + (128 : Int32)))]))
  obtain ⟨cp0, q_cp0⟩ : ∃ z : Int32, z = (((qx &&& (2147483647 : Int32)) % (1111936 : Int32)) + (128 : Int32)) := ⟨_, rfl⟩
  rw [← q_cp0]
  have hcp00 : 128 ≤ cp0.toInt ∧ cp0.toInt ≤ 1112063 := by rw [q_cp0]; exact own_cp qx
  show Go _ _ _ _ _ _ _ (s₁.setTop (mkF m 11 #[.val (.int qx), .val (.int qf), .unset, .unset, .unset, .unset, .unset, .unset, .unset, .unset] [(.int cp0)]))
  refine Go.step (fun _ k => XS.istoreN X0.here hx rfl (hb hby at_11) rfl (l' := #[.val (.int qx), .val (.int qf), .val (.int cp0), .unset, .unset, .unset, .unset, .unset, .unset, .unset]) rfl k) ?_
  have J24_1 : ∀ (cp : Int32) (TJ1 : State) (locs1 : List Loc) (X1 : Stand p l e room_1 s m #[(.int qx), (.int qf)] below meth c TJ1 locs1 0 0) (e1 : TJ1.heap = h0) (N1 : Fr n0 locs1) (hcp : 128 ≤ cp.toInt ∧ cp.toInt ≤ 1114111), Go p e below s 1 4 (Q0 Z qx qf h0 n0) (TJ1.setTop (mkF m 24 #[.val (.int qx), .val (.int qf), .val (.int cp), .unset, .unset, .unset, .unset, .unset, .unset, .unset] [])) := by
    intro cp TJ1 locs1 X1 e1 N1 hcp
    have hcp0 : 0 ≤ cp.toInt := by omega
    show Go _ _ _ _ _ _ _ (TJ1.setTop (mkF m 24 #[.val (.int qx), .val (.int qf), .val (.int cp), .unset, .unset, .unset, .unset, .unset, .unset, .unset] []))
    refine Go.step (fun _ k => XS.iconst X1.here hx rfl (hb hby at_24) k) ?_
    show Go _ _ _ _ _ _ _ (TJ1.setTop (mkF m 25 #[.val (.int qx), .val (.int qf), .val (.int cp), .unset, .unset, .unset, .unset, .unset, .unset, .unset] [(.int (4 : Int32))]))
    have ng2 : ¬ (4 : Int32) < 0 := (by decide)
    have lc2 : ((4 : Int32)).toNatClampNeg ≤ 4 := (by decide)
    obtain ⟨T2, h2, k2, X2, e2, E2, A2, st2⟩ := newP X1 hx hZ (hw _ (List.mem_of_getElem? (i := 3) rfl)) e1 (g := (mkF m 25 #[.val (.int qx), .val (.int qf), .val (.int cp), .unset, .unset, .unset, .unset, .unset, .unset, .unset] [(.int (4 : Int32))])) rfl (hb hby at_25) rfl ng2 (cap := 4) lc2 (by decide) (by decide) (by decide)
    obtain ⟨b2, g2⟩ : ∃ z, z = h0.size := ⟨_, rfl⟩
    rw [← g2] at A2 st2
    refine Go.step st2 ?_
    have gn2 : n0 ≤ b2 := Nat.le_trans Z0 (Nat.le_of_eq g2.symm)
    have sz2 : h0.size ≤ b2 := Nat.le_trans sq0 (Nat.le_of_eq g2.symm)
    have z3 : n0 ≤ h2.size := Nat.le_trans Z0 E2.1
    have sqz3 : h0.size ≤ h2.size := Nat.le_trans sq0 E2.1
    have f5 : Ai Z h2 b2 .byte (4 : Int32) (fun _ => 0) := Ai.new A2 ng2 rfl
    show Go _ _ _ _ _ _ _ (T2.setTop (mkF m 27 #[.val (.int qx), .val (.int qf), .val (.int cp), .unset, .unset, .unset, .unset, .unset, .unset, .unset] [(.ref b2)]))
    refine Go.step (fun _ k => XS.astoreN X2.here hx rfl (hb hby at_27) rfl rfl (l' := #[.val (.int qx), .val (.int qf), .val (.int cp), .val (.ref b2), .unset, .unset, .unset, .unset, .unset, .unset]) rfl k) ?_
    show Go _ _ _ _ _ _ _ (T2.setTop (mkF m 28 #[.val (.int qx), .val (.int qf), .val (.int cp), .val (.ref b2), .unset, .unset, .unset, .unset, .unset, .unset] []))
    refine Go.step (fun _ k => XS.aloadN X2.here hx rfl (hb hby at_28) rfl rfl  k) ?_
    show Go _ _ _ _ _ _ _ (T2.setTop (mkF m 29 #[.val (.int qx), .val (.int qf), .val (.int cp), .val (.ref b2), .unset, .unset, .unset, .unset, .unset, .unset] [(.ref b2)]))
    refine Go.step (fun _ k => XS.iconst X2.here hx rfl (hb hby at_29) k) ?_
    show Go _ _ _ _ _ _ _ (T2.setTop (mkF m 30 #[.val (.int qx), .val (.int qf), .val (.int cp), .val (.ref b2), .unset, .unset, .unset, .unset, .unset, .unset] [(.int (0 : Int32)), (.ref b2)]))
    refine Go.step (fun _ k => XS.iloadN X2.here hx rfl (hb hby at_30) rfl  k) ?_
    show Go _ _ _ _ _ _ _ (T2.setTop (mkF m 31 #[.val (.int qx), .val (.int qf), .val (.int cp), .val (.ref b2), .unset, .unset, .unset, .unset, .unset, .unset] [(.int qf), (.int (0 : Int32)), (.ref b2)]))
    refine Go.step (fun _ k => XS.i2b X2.here hx rfl (hb hby at_31) rfl k) ?_
    show Go _ _ _ _ _ _ _ (T2.setTop (mkF m 32 #[.val (.int qx), .val (.int qf), .val (.int cp), .val (.ref b2), .unset, .unset, .unset, .unset, .unset, .unset] [(.int (Int8.toInt32 (Int32.toInt8 qf))), (.int (0 : Int32)), (.ref b2)]))
    have lo6 : ¬ (0 : Int32) < 0 := (by decide)
    have hi6 : (0 : Int32) < (4 : Int32) := (by decide)
    obtain ⟨T7, h7, X7, e7, W7, f7, st7⟩ := Ai.stB X2 hx hZ e2 f5 (j := (0 : Int32)) (x := (Int8.toInt32 (Int32.toInt8 qf))) lo6 hi6 (g := (mkF m 32 #[.val (.int qx), .val (.int qf), .val (.int cp), .val (.ref b2), .unset, .unset, .unset, .unset, .unset, .unset] [(.int (Int8.toInt32 (Int32.toInt8 qf))), (.int (0 : Int32)), (.ref b2)])) rfl rfl (hb hby at_32)
    refine Go.step st7 ?_
    have N7 := Fr.snoc X7 N1 gn2
    have z8 : n0 ≤ h7.size := Nat.le_trans z3 (Keep.of_wr W7).1
    have sqz8 : h0.size ≤ h7.size := Nat.le_trans sqz3 (Keep.of_wr W7).1
    obtain ⟨f10c, qf10c⟩ : ∃ F, F = (fun i => if i = (0 : Int32) then (nar .byte (Int8.toInt32 (Int32.toInt8 qf))) else (fun _ => 0) i) := ⟨_, rfl⟩
    rw [← qf10c] at f7
    show Go _ _ _ _ _ _ _ (T7.setTop (mkF m 33 #[.val (.int qx), .val (.int qf), .val (.int cp), .val (.ref b2), .unset, .unset, .unset, .unset, .unset, .unset] []))
    refine Go.step (fun _ k => XS.aloadN X7.here hx rfl (hb hby at_33) rfl rfl  k) ?_
    show Go _ _ _ _ _ _ _ (T7.setTop (mkF m 34 #[.val (.int qx), .val (.int qf), .val (.int cp), .val (.ref b2), .unset, .unset, .unset, .unset, .unset, .unset] [(.ref b2)]))
    refine Go.step (fun _ k => XS.iconst X7.here hx rfl (hb hby at_34) k) ?_
    show Go _ _ _ _ _ _ _ (T7.setTop (mkF m 35 #[.val (.int qx), .val (.int qf), .val (.int cp), .val (.ref b2), .unset, .unset, .unset, .unset, .unset, .unset] [(.int (1 : Int32)), (.ref b2)]))
    refine Go.step (fun _ k => XS.iloadN X7.here hx rfl (hb hby at_35) rfl  k) ?_
    show Go _ _ _ _ _ _ _ (T7.setTop (mkF m 36 #[.val (.int qx), .val (.int qf), .val (.int cp), .val (.ref b2), .unset, .unset, .unset, .unset, .unset, .unset] [(.int qf), (.int (1 : Int32)), (.ref b2)]))
    refine Go.step (fun _ k => XS.bipush X7.here hx rfl (hb hby at_36) k) ?_
    show Go _ _ _ _ _ _ _ (T7.setTop (mkF m 38 #[.val (.int qx), .val (.int qf), .val (.int cp), .val (.ref b2), .unset, .unset, .unset, .unset, .unset, .unset] [(.int (8 : Int32)), (.int qf), (.int (1 : Int32)), (.ref b2)]))
    refine Go.step (fun _ k => XS.iushr X7.here hx rfl (hb hby at_38) rfl k) ?_
    show Go _ _ _ _ _ _ _ (T7.setTop (mkF m 39 #[.val (.int qx), .val (.int qf), .val (.int cp), .val (.ref b2), .unset, .unset, .unset, .unset, .unset, .unset] [(.int ((Int32.toUInt32 qf >>> ((8 : Int32) &&& 31).toUInt32).toInt32)), (.int (1 : Int32)), (.ref b2)]))
    refine Go.step (fun _ k => XS.i2b X7.here hx rfl (hb hby at_39) rfl k) ?_
    show Go _ _ _ _ _ _ _ (T7.setTop (mkF m 40 #[.val (.int qx), .val (.int qf), .val (.int cp), .val (.ref b2), .unset, .unset, .unset, .unset, .unset, .unset] [(.int (Int8.toInt32 (Int32.toInt8 ((Int32.toUInt32 qf >>> ((8 : Int32) &&& 31).toUInt32).toInt32)))), (.int (1 : Int32)), (.ref b2)]))
    have lo11 : ¬ (1 : Int32) < 0 := (by decide)
    have hi11 : (1 : Int32) < (4 : Int32) := (by decide)
    obtain ⟨T12, h12, X12, e12, W12, f12, st12⟩ := Ai.stB X7 hx hZ e7 f7 (j := (1 : Int32)) (x := (Int8.toInt32 (Int32.toInt8 ((Int32.toUInt32 qf >>> ((8 : Int32) &&& 31).toUInt32).toInt32)))) lo11 hi11 (g := (mkF m 40 #[.val (.int qx), .val (.int qf), .val (.int cp), .val (.ref b2), .unset, .unset, .unset, .unset, .unset, .unset] [(.int (Int8.toInt32 (Int32.toInt8 ((Int32.toUInt32 qf >>> ((8 : Int32) &&& 31).toUInt32).toInt32)))), (.int (1 : Int32)), (.ref b2)])) rfl rfl (hb hby at_40)
    refine Go.step st12 ?_
    have N12 := Fr.snoc X12 N7 gn2
    have z13 : n0 ≤ h12.size := Nat.le_trans z8 (Keep.of_wr W12).1
    have sqz13 : h0.size ≤ h12.size := Nat.le_trans sqz8 (Keep.of_wr W12).1
    obtain ⟨f15c, qf15c⟩ : ∃ F, F = (fun i => if i = (1 : Int32) then (nar .byte (Int8.toInt32 (Int32.toInt8 ((Int32.toUInt32 qf >>> ((8 : Int32) &&& 31).toUInt32).toInt32)))) else f10c i) := ⟨_, rfl⟩
    rw [← qf15c] at f12
    show Go _ _ _ _ _ _ _ (T12.setTop (mkF m 41 #[.val (.int qx), .val (.int qf), .val (.int cp), .val (.ref b2), .unset, .unset, .unset, .unset, .unset, .unset] []))
    refine Go.step (fun _ k => XS.aloadN X12.here hx rfl (hb hby at_41) rfl rfl  k) ?_
    show Go _ _ _ _ _ _ _ (T12.setTop (mkF m 42 #[.val (.int qx), .val (.int qf), .val (.int cp), .val (.ref b2), .unset, .unset, .unset, .unset, .unset, .unset] [(.ref b2)]))
    refine Go.step (fun _ k => XS.iconst X12.here hx rfl (hb hby at_42) k) ?_
    show Go _ _ _ _ _ _ _ (T12.setTop (mkF m 43 #[.val (.int qx), .val (.int qf), .val (.int cp), .val (.ref b2), .unset, .unset, .unset, .unset, .unset, .unset] [(.int (2 : Int32)), (.ref b2)]))
    refine Go.step (fun _ k => XS.iloadN X12.here hx rfl (hb hby at_43) rfl  k) ?_
    show Go _ _ _ _ _ _ _ (T12.setTop (mkF m 44 #[.val (.int qx), .val (.int qf), .val (.int cp), .val (.ref b2), .unset, .unset, .unset, .unset, .unset, .unset] [(.int qf), (.int (2 : Int32)), (.ref b2)]))
    refine Go.step (fun _ k => XS.bipush X12.here hx rfl (hb hby at_44) k) ?_
    show Go _ _ _ _ _ _ _ (T12.setTop (mkF m 46 #[.val (.int qx), .val (.int qf), .val (.int cp), .val (.ref b2), .unset, .unset, .unset, .unset, .unset, .unset] [(.int (16 : Int32)), (.int qf), (.int (2 : Int32)), (.ref b2)]))
    refine Go.step (fun _ k => XS.iushr X12.here hx rfl (hb hby at_46) rfl k) ?_
    show Go _ _ _ _ _ _ _ (T12.setTop (mkF m 47 #[.val (.int qx), .val (.int qf), .val (.int cp), .val (.ref b2), .unset, .unset, .unset, .unset, .unset, .unset] [(.int ((Int32.toUInt32 qf >>> ((16 : Int32) &&& 31).toUInt32).toInt32)), (.int (2 : Int32)), (.ref b2)]))
    refine Go.step (fun _ k => XS.i2b X12.here hx rfl (hb hby at_47) rfl k) ?_
    show Go _ _ _ _ _ _ _ (T12.setTop (mkF m 48 #[.val (.int qx), .val (.int qf), .val (.int cp), .val (.ref b2), .unset, .unset, .unset, .unset, .unset, .unset] [(.int (Int8.toInt32 (Int32.toInt8 ((Int32.toUInt32 qf >>> ((16 : Int32) &&& 31).toUInt32).toInt32)))), (.int (2 : Int32)), (.ref b2)]))
    have lo16 : ¬ (2 : Int32) < 0 := (by decide)
    have hi16 : (2 : Int32) < (4 : Int32) := (by decide)
    obtain ⟨T17, h17, X17, e17, W17, f17, st17⟩ := Ai.stB X12 hx hZ e12 f12 (j := (2 : Int32)) (x := (Int8.toInt32 (Int32.toInt8 ((Int32.toUInt32 qf >>> ((16 : Int32) &&& 31).toUInt32).toInt32)))) lo16 hi16 (g := (mkF m 48 #[.val (.int qx), .val (.int qf), .val (.int cp), .val (.ref b2), .unset, .unset, .unset, .unset, .unset, .unset] [(.int (Int8.toInt32 (Int32.toInt8 ((Int32.toUInt32 qf >>> ((16 : Int32) &&& 31).toUInt32).toInt32)))), (.int (2 : Int32)), (.ref b2)])) rfl rfl (hb hby at_48)
    refine Go.step st17 ?_
    have N17 := Fr.snoc X17 N12 gn2
    have z18 : n0 ≤ h17.size := Nat.le_trans z13 (Keep.of_wr W17).1
    have sqz18 : h0.size ≤ h17.size := Nat.le_trans sqz13 (Keep.of_wr W17).1
    obtain ⟨f20c, qf20c⟩ : ∃ F, F = (fun i => if i = (2 : Int32) then (nar .byte (Int8.toInt32 (Int32.toInt8 ((Int32.toUInt32 qf >>> ((16 : Int32) &&& 31).toUInt32).toInt32)))) else f15c i) := ⟨_, rfl⟩
    rw [← qf20c] at f17
    show Go _ _ _ _ _ _ _ (T17.setTop (mkF m 49 #[.val (.int qx), .val (.int qf), .val (.int cp), .val (.ref b2), .unset, .unset, .unset, .unset, .unset, .unset] []))
    refine Go.step (fun _ k => XS.aloadN X17.here hx rfl (hb hby at_49) rfl rfl  k) ?_
    show Go _ _ _ _ _ _ _ (T17.setTop (mkF m 50 #[.val (.int qx), .val (.int qf), .val (.int cp), .val (.ref b2), .unset, .unset, .unset, .unset, .unset, .unset] [(.ref b2)]))
    refine Go.step (fun _ k => XS.iconst X17.here hx rfl (hb hby at_50) k) ?_
    show Go _ _ _ _ _ _ _ (T17.setTop (mkF m 51 #[.val (.int qx), .val (.int qf), .val (.int cp), .val (.ref b2), .unset, .unset, .unset, .unset, .unset, .unset] [(.int (3 : Int32)), (.ref b2)]))
    refine Go.step (fun _ k => XS.iloadN X17.here hx rfl (hb hby at_51) rfl  k) ?_
    show Go _ _ _ _ _ _ _ (T17.setTop (mkF m 52 #[.val (.int qx), .val (.int qf), .val (.int cp), .val (.ref b2), .unset, .unset, .unset, .unset, .unset, .unset] [(.int qf), (.int (3 : Int32)), (.ref b2)]))
    refine Go.step (fun _ k => XS.bipush X17.here hx rfl (hb hby at_52) k) ?_
    show Go _ _ _ _ _ _ _ (T17.setTop (mkF m 54 #[.val (.int qx), .val (.int qf), .val (.int cp), .val (.ref b2), .unset, .unset, .unset, .unset, .unset, .unset] [(.int (24 : Int32)), (.int qf), (.int (3 : Int32)), (.ref b2)]))
    refine Go.step (fun _ k => XS.iushr X17.here hx rfl (hb hby at_54) rfl k) ?_
    show Go _ _ _ _ _ _ _ (T17.setTop (mkF m 55 #[.val (.int qx), .val (.int qf), .val (.int cp), .val (.ref b2), .unset, .unset, .unset, .unset, .unset, .unset] [(.int ((Int32.toUInt32 qf >>> ((24 : Int32) &&& 31).toUInt32).toInt32)), (.int (3 : Int32)), (.ref b2)]))
    refine Go.step (fun _ k => XS.i2b X17.here hx rfl (hb hby at_55) rfl k) ?_
    show Go _ _ _ _ _ _ _ (T17.setTop (mkF m 56 #[.val (.int qx), .val (.int qf), .val (.int cp), .val (.ref b2), .unset, .unset, .unset, .unset, .unset, .unset] [(.int (Int8.toInt32 (Int32.toInt8 ((Int32.toUInt32 qf >>> ((24 : Int32) &&& 31).toUInt32).toInt32)))), (.int (3 : Int32)), (.ref b2)]))
    have lo21 : ¬ (3 : Int32) < 0 := (by decide)
    have hi21 : (3 : Int32) < (4 : Int32) := (by decide)
    obtain ⟨T22, h22, X22, e22, W22, f22, st22⟩ := Ai.stB X17 hx hZ e17 f17 (j := (3 : Int32)) (x := (Int8.toInt32 (Int32.toInt8 ((Int32.toUInt32 qf >>> ((24 : Int32) &&& 31).toUInt32).toInt32)))) lo21 hi21 (g := (mkF m 56 #[.val (.int qx), .val (.int qf), .val (.int cp), .val (.ref b2), .unset, .unset, .unset, .unset, .unset, .unset] [(.int (Int8.toInt32 (Int32.toInt8 ((Int32.toUInt32 qf >>> ((24 : Int32) &&& 31).toUInt32).toInt32)))), (.int (3 : Int32)), (.ref b2)])) rfl rfl (hb hby at_56)
    refine Go.step st22 ?_
    have N22 := Fr.snoc X22 N17 gn2
    have z23 : n0 ≤ h22.size := Nat.le_trans z18 (Keep.of_wr W22).1
    have sqz23 : h0.size ≤ h22.size := Nat.le_trans sqz18 (Keep.of_wr W22).1
    obtain ⟨f25c, qf25c⟩ : ∃ F, F = (fun i => if i = (3 : Int32) then (nar .byte (Int8.toInt32 (Int32.toInt8 ((Int32.toUInt32 qf >>> ((24 : Int32) &&& 31).toUInt32).toInt32)))) else f20c i) := ⟨_, rfl⟩
    rw [← qf25c] at f22
    have hf2 : f25c (2 : Int32) = (nar .byte (Int8.toInt32 (Int32.toInt8 ((Int32.toUInt32 qf >>> ((16 : Int32) &&& 31).toUInt32).toInt32)))) := by simp +decide [qf25c, qf20c]
    have hf3 : f25c (3 : Int32) = (nar .byte (Int8.toInt32 (Int32.toInt8 ((Int32.toUInt32 qf >>> ((24 : Int32) &&& 31).toUInt32).toInt32)))) := by simp +decide [qf25c]
    show Go _ _ _ _ _ _ _ (T22.setTop (mkF m 57 #[.val (.int qx), .val (.int qf), .val (.int cp), .val (.ref b2), .unset, .unset, .unset, .unset, .unset, .unset] []))
    refine Go.step (fun _ k => XS.iloadN X22.here hx rfl (hb hby at_57) rfl  k) ?_
    show Go _ _ _ _ _ _ _ (T22.setTop (mkF m 58 #[.val (.int qx), .val (.int qf), .val (.int cp), .val (.ref b2), .unset, .unset, .unset, .unset, .unset, .unset] [(.int cp)]))
    refine Go.step (fun _ k => XS.aloadN X22.here hx rfl (hb hby at_58) rfl rfl  k) ?_
    by_cases hsA : cp < (2048 : Int32)
    · skip
      show Go _ _ _ _ _ _ _ (T22.setTop (mkF m 59 #[.val (.int qx), .val (.int qf), .val (.int cp), .val (.ref b2), .unset, .unset, .unset, .unset, .unset, .unset] [(.ref b2), (.int cp)]))
      have pq26 : cp < (2048 : Int32) := hsA
      obtain ⟨_, _, ⟨T27, L27, k27, n27⟩, -, X27, ⟨Lc27, hQ27, l27, y27, z27⟩, st27⟩ := Jvm.LawKit.callS X22 hx (y := (⟨"com/example/omniform/omniform/Utf8", "encode", "(I[B)I"⟩ : MethodName)) hown (mvT hZ (hw _ (List.mem_of_getElem? (i := 4) rfl))) (mvT hZ (hw _ (List.mem_of_getElem? (i := 5) rfl))) (mvT hZ (hw _ (List.mem_of_getElem? (i := 6) rfl))) (mvT hZ (hw _ (List.mem_of_getElem? (i := 7) rfl))) (by decide) (backOf (W := 0) (rm1_2 l Z aZ hw [] cp b2 f25c h22 n0 z23 f22 gn2 pq26) hZ (hw _ (List.mem_of_getElem? (i := 7) rfl)) (hw _ (List.mem_of_getElem? (i := 6) rfl)) (by decide) (by decide)) (g := (mkF m 59 #[.val (.int qx), .val (.int qf), .val (.int cp), .val (.ref b2), .unset, .unset, .unset, .unset, .unset, .unset] [(.ref b2), (.int cp)])) rfl (by rw [hml]; rfl) (argsL := [(.int cp), (.ref b2)]) (rest := []) (lenOf pd_0 rfl) rfl (by show 2 * 0 + _ ≤ _; exact Nat.le_of_eq rfl) (hb hby at_59) (fun _ _ => ⟨rfl, e22, (by decide : 1 + 0 ≤ _), (by decide : 4 + 0 ≤ _)⟩)
      dsimp only [Pt.U, Pt.locs, Pt.cells, Pt.slots] at X27 l27 y27 z27 st27 hQ27
      subst l27 y27 z27
      obtain ⟨F2_27, rfl, Nq27, K27, c27_0, u27_0, u27_1, u27_2, u27_3⟩ := hQ27
      have N27 := Fr.app N22 Nq27
      refine Go.step st27 ?_
      have z28 : n0 ≤ T27.heap.size := Nat.le_trans z23 K27.1
      have sqz28 : h0.size ≤ T27.heap.size := Nat.le_trans sqz23 K27.1
      show Go _ _ _ _ _ _ _ (T27.setTop (mkF m 62 #[.val (.int qx), .val (.int qf), .val (.int cp), .val (.ref b2), .unset, .unset, .unset, .unset, .unset, .unset] [(.int (2 : Int32))]))
      refine Go.step (fun _ k => XS.istore X27.here hx rfl (hb hby at_62) rfl (l' := #[.val (.int qx), .val (.int qf), .val (.int cp), .val (.ref b2), .val (.int (2 : Int32)), .unset, .unset, .unset, .unset, .unset]) rfl k) ?_
      show Go _ _ _ _ _ _ _ (T27.setTop (mkF m 64 #[.val (.int qx), .val (.int qf), .val (.int cp), .val (.ref b2), .val (.int (2 : Int32)), .unset, .unset, .unset, .unset, .unset] []))
      refine Go.step (fun _ k => XS.iloadN X27.here hx rfl (hb hby at_64) rfl  k) ?_
      show Go _ _ _ _ _ _ _ (T27.setTop (mkF m 65 #[.val (.int qx), .val (.int qf), .val (.int cp), .val (.ref b2), .val (.int (2 : Int32)), .unset, .unset, .unset, .unset, .unset] [(.int qf)]))
      refine Go.step (fun _ k => XS.bipush X27.here hx rfl (hb hby at_65) k) ?_
      show Go _ _ _ _ _ _ _ (T27.setTop (mkF m 67 #[.val (.int qx), .val (.int qf), .val (.int cp), .val (.ref b2), .val (.int (2 : Int32)), .unset, .unset, .unset, .unset, .unset] [(.int (16 : Int32)), (.int qf)]))
      refine Go.step (fun _ k => XS.iushr X27.here hx rfl (hb hby at_67) rfl k) ?_
      show Go _ _ _ _ _ _ _ (T27.setTop (mkF m 68 #[.val (.int qx), .val (.int qf), .val (.int cp), .val (.ref b2), .val (.int (2 : Int32)), .unset, .unset, .unset, .unset, .unset] [(.int ((Int32.toUInt32 qf >>> ((16 : Int32) &&& 31).toUInt32).toInt32))]))
      refine Go.step (fun _ k => XS.sipush X27.here hx rfl (hb hby at_68) k) ?_
      show Go _ _ _ _ _ _ _ (T27.setTop (mkF m 71 #[.val (.int qx), .val (.int qf), .val (.int cp), .val (.ref b2), .val (.int (2 : Int32)), .unset, .unset, .unset, .unset, .unset] [(.int (255 : Int32)), (.int ((Int32.toUInt32 qf >>> ((16 : Int32) &&& 31).toUInt32).toInt32))]))
      refine Go.step (fun _ k => XS.iand X27.here hx rfl (hb hby at_71) rfl k) ?_
      show Go _ _ _ _ _ _ _ (T27.setTop (mkF m 72 #[.val (.int qx), .val (.int qf), .val (.int cp), .val (.ref b2), .val (.int (2 : Int32)), .unset, .unset, .unset, .unset, .unset] [(.int (((Int32.toUInt32 qf >>> ((16 : Int32) &&& 31).toUInt32).toInt32) &&& (255 : Int32)))]))
      refine Go.step (fun _ k => XS.istore X27.here hx rfl (hb hby at_72) rfl (l' := #[.val (.int qx), .val (.int qf), .val (.int cp), .val (.ref b2), .val (.int (2 : Int32)), .unset, .unset, .unset, .val (.int (((Int32.toUInt32 qf >>> ((16 : Int32) &&& 31).toUInt32).toInt32) &&& (255 : Int32))), .unset]) rfl k) ?_
      show Go _ _ _ _ _ _ _ (T27.setTop (mkF m 74 #[.val (.int qx), .val (.int qf), .val (.int cp), .val (.ref b2), .val (.int (2 : Int32)), .unset, .unset, .unset, .val (.int (((Int32.toUInt32 qf >>> ((16 : Int32) &&& 31).toUInt32).toInt32) &&& (255 : Int32))), .unset] []))
      refine Go.step (fun _ k => XS.iloadN X27.here hx rfl (hb hby at_74) rfl  k) ?_
      show Go _ _ _ _ _ _ _ (T27.setTop (mkF m 75 #[.val (.int qx), .val (.int qf), .val (.int cp), .val (.ref b2), .val (.int (2 : Int32)), .unset, .unset, .unset, .val (.int (((Int32.toUInt32 qf >>> ((16 : Int32) &&& 31).toUInt32).toInt32) &&& (255 : Int32))), .unset] [(.int qf)]))
      refine Go.step (fun _ k => XS.bipush X27.here hx rfl (hb hby at_75) k) ?_
      show Go _ _ _ _ _ _ _ (T27.setTop (mkF m 77 #[.val (.int qx), .val (.int qf), .val (.int cp), .val (.ref b2), .val (.int (2 : Int32)), .unset, .unset, .unset, .val (.int (((Int32.toUInt32 qf >>> ((16 : Int32) &&& 31).toUInt32).toInt32) &&& (255 : Int32))), .unset] [(.int (24 : Int32)), (.int qf)]))
      refine Go.step (fun _ k => XS.iushr X27.here hx rfl (hb hby at_77) rfl k) ?_
      show Go _ _ _ _ _ _ _ (T27.setTop (mkF m 78 #[.val (.int qx), .val (.int qf), .val (.int cp), .val (.ref b2), .val (.int (2 : Int32)), .unset, .unset, .unset, .val (.int (((Int32.toUInt32 qf >>> ((16 : Int32) &&& 31).toUInt32).toInt32) &&& (255 : Int32))), .unset] [(.int ((Int32.toUInt32 qf >>> ((24 : Int32) &&& 31).toUInt32).toInt32))]))
      refine Go.step (fun _ k => XS.sipush X27.here hx rfl (hb hby at_78) k) ?_
      show Go _ _ _ _ _ _ _ (T27.setTop (mkF m 81 #[.val (.int qx), .val (.int qf), .val (.int cp), .val (.ref b2), .val (.int (2 : Int32)), .unset, .unset, .unset, .val (.int (((Int32.toUInt32 qf >>> ((16 : Int32) &&& 31).toUInt32).toInt32) &&& (255 : Int32))), .unset] [(.int (255 : Int32)), (.int ((Int32.toUInt32 qf >>> ((24 : Int32) &&& 31).toUInt32).toInt32))]))
      refine Go.step (fun _ k => XS.iand X27.here hx rfl (hb hby at_81) rfl k) ?_
      show Go _ _ _ _ _ _ _ (T27.setTop (mkF m 82 #[.val (.int qx), .val (.int qf), .val (.int cp), .val (.ref b2), .val (.int (2 : Int32)), .unset, .unset, .unset, .val (.int (((Int32.toUInt32 qf >>> ((16 : Int32) &&& 31).toUInt32).toInt32) &&& (255 : Int32))), .unset] [(.int (((Int32.toUInt32 qf >>> ((24 : Int32) &&& 31).toUInt32).toInt32) &&& (255 : Int32)))]))
      refine Go.step (fun _ k => XS.istore X27.here hx rfl (hb hby at_82) rfl (l' := #[.val (.int qx), .val (.int qf), .val (.int cp), .val (.ref b2), .val (.int (2 : Int32)), .unset, .unset, .unset, .val (.int (((Int32.toUInt32 qf >>> ((16 : Int32) &&& 31).toUInt32).toInt32) &&& (255 : Int32))), .val (.int (((Int32.toUInt32 qf >>> ((24 : Int32) &&& 31).toUInt32).toInt32) &&& (255 : Int32)))]) rfl k) ?_
      show Go _ _ _ _ _ _ _ (T27.setTop (mkF m 84 #[.val (.int qx), .val (.int qf), .val (.int cp), .val (.ref b2), .val (.int (2 : Int32)), .unset, .unset, .unset, .val (.int (((Int32.toUInt32 qf >>> ((16 : Int32) &&& 31).toUInt32).toInt32) &&& (255 : Int32))), .val (.int (((Int32.toUInt32 qf >>> ((24 : Int32) &&& 31).toUInt32).toInt32) &&& (255 : Int32)))] []))
      refine Go.step (fun _ k => XS.iloadN X27.here hx rfl (hb hby at_84) rfl  k) ?_
      show Go _ _ _ _ _ _ _ (T27.setTop (mkF m 85 #[.val (.int qx), .val (.int qf), .val (.int cp), .val (.ref b2), .val (.int (2 : Int32)), .unset, .unset, .unset, .val (.int (((Int32.toUInt32 qf >>> ((16 : Int32) &&& 31).toUInt32).toInt32) &&& (255 : Int32))), .val (.int (((Int32.toUInt32 qf >>> ((24 : Int32) &&& 31).toUInt32).toInt32) &&& (255 : Int32)))] [(.int cp)]))
      refine Go.step (fun _ k => XS.sipush X27.here hx rfl (hb hby at_85) k) ?_
      show Go _ _ _ _ _ _ _ (T27.setTop (mkF m 88 #[.val (.int qx), .val (.int qf), .val (.int cp), .val (.ref b2), .val (.int (2 : Int32)), .unset, .unset, .unset, .val (.int (((Int32.toUInt32 qf >>> ((16 : Int32) &&& 31).toUInt32).toInt32) &&& (255 : Int32))), .val (.int (((Int32.toUInt32 qf >>> ((24 : Int32) &&& 31).toUInt32).toInt32) &&& (255 : Int32)))] [(.int (2048 : Int32)), (.int cp)]))
      have hc88 : cp < (2048 : Int32) := hsA
      refine Go.step (fun _ k => XS.icmpNo X27.here hx rfl (hb hby at_88) rfl (tlt hc88).2.1 k) ?_
      show Go _ _ _ _ _ _ _ (T27.setTop (mkF m 91 #[.val (.int qx), .val (.int qf), .val (.int cp), .val (.ref b2), .val (.int (2 : Int32)), .unset, .unset, .unset, .val (.int (((Int32.toUInt32 qf >>> ((16 : Int32) &&& 31).toUInt32).toInt32) &&& (255 : Int32))), .val (.int (((Int32.toUInt32 qf >>> ((24 : Int32) &&& 31).toUInt32).toInt32) &&& (255 : Int32)))] []))
      refine Go.step (fun _ k => XS.iconst X27.here hx rfl (hb hby at_91) k) ?_
      show Go _ _ _ _ _ _ _ (T27.setTop (mkF m 92 #[.val (.int qx), .val (.int qf), .val (.int cp), .val (.ref b2), .val (.int (2 : Int32)), .unset, .unset, .unset, .val (.int (((Int32.toUInt32 qf >>> ((16 : Int32) &&& 31).toUInt32).toInt32) &&& (255 : Int32))), .val (.int (((Int32.toUInt32 qf >>> ((24 : Int32) &&& 31).toUInt32).toInt32) &&& (255 : Int32)))] [(.int (2 : Int32))]))
      refine Go.step (fun _ k => XS.istore X27.here hx rfl (hb hby at_92) rfl (l' := #[.val (.int qx), .val (.int qf), .val (.int cp), .val (.ref b2), .val (.int (2 : Int32)), .val (.int (2 : Int32)), .unset, .unset, .val (.int (((Int32.toUInt32 qf >>> ((16 : Int32) &&& 31).toUInt32).toInt32) &&& (255 : Int32))), .val (.int (((Int32.toUInt32 qf >>> ((24 : Int32) &&& 31).toUInt32).toInt32) &&& (255 : Int32)))]) rfl k) ?_
      show Go _ _ _ _ _ _ _ (T27.setTop (mkF m 94 #[.val (.int qx), .val (.int qf), .val (.int cp), .val (.ref b2), .val (.int (2 : Int32)), .val (.int (2 : Int32)), .unset, .unset, .val (.int (((Int32.toUInt32 qf >>> ((16 : Int32) &&& 31).toUInt32).toInt32) &&& (255 : Int32))), .val (.int (((Int32.toUInt32 qf >>> ((24 : Int32) &&& 31).toUInt32).toInt32) &&& (255 : Int32)))] []))
      refine Go.step (fun _ k => XS.sipush X27.here hx rfl (hb hby at_94) k) ?_
      show Go _ _ _ _ _ _ _ (T27.setTop (mkF m 97 #[.val (.int qx), .val (.int qf), .val (.int cp), .val (.ref b2), .val (.int (2 : Int32)), .val (.int (2 : Int32)), .unset, .unset, .val (.int (((Int32.toUInt32 qf >>> ((16 : Int32) &&& 31).toUInt32).toInt32) &&& (255 : Int32))), .val (.int (((Int32.toUInt32 qf >>> ((24 : Int32) &&& 31).toUInt32).toInt32) &&& (255 : Int32)))] [(.int (192 : Int32))]))
      refine Go.step (fun _ k => XS.iloadN X27.here hx rfl (hb hby at_97) rfl  k) ?_
      show Go _ _ _ _ _ _ _ (T27.setTop (mkF m 98 #[.val (.int qx), .val (.int qf), .val (.int cp), .val (.ref b2), .val (.int (2 : Int32)), .val (.int (2 : Int32)), .unset, .unset, .val (.int (((Int32.toUInt32 qf >>> ((16 : Int32) &&& 31).toUInt32).toInt32) &&& (255 : Int32))), .val (.int (((Int32.toUInt32 qf >>> ((24 : Int32) &&& 31).toUInt32).toInt32) &&& (255 : Int32)))] [(.int cp), (.int (192 : Int32))]))
      refine Go.step (fun _ k => XS.bipush X27.here hx rfl (hb hby at_98) k) ?_
      show Go _ _ _ _ _ _ _ (T27.setTop (mkF m 100 #[.val (.int qx), .val (.int qf), .val (.int cp), .val (.ref b2), .val (.int (2 : Int32)), .val (.int (2 : Int32)), .unset, .unset, .val (.int (((Int32.toUInt32 qf >>> ((16 : Int32) &&& 31).toUInt32).toInt32) &&& (255 : Int32))), .val (.int (((Int32.toUInt32 qf >>> ((24 : Int32) &&& 31).toUInt32).toInt32) &&& (255 : Int32)))] [(.int (6 : Int32)), (.int cp), (.int (192 : Int32))]))
      refine Go.step (fun _ k => XS.ishr X27.here hx rfl (hb hby at_100) rfl k) ?_
      show Go _ _ _ _ _ _ _ (T27.setTop (mkF m 101 #[.val (.int qx), .val (.int qf), .val (.int cp), .val (.ref b2), .val (.int (2 : Int32)), .val (.int (2 : Int32)), .unset, .unset, .val (.int (((Int32.toUInt32 qf >>> ((16 : Int32) &&& 31).toUInt32).toInt32) &&& (255 : Int32))), .val (.int (((Int32.toUInt32 qf >>> ((24 : Int32) &&& 31).toUInt32).toInt32) &&& (255 : Int32)))] [(.int (cp >>> ((6 : Int32) &&& 31))), (.int (192 : Int32))]))
      refine Go.step (fun _ k => XS.ior X27.here hx rfl (hb hby at_101) rfl k) ?_
      show Go _ _ _ _ _ _ _ (T27.setTop (mkF m 102 #[.val (.int qx), .val (.int qf), .val (.int cp), .val (.ref b2), .val (.int (2 : Int32)), .val (.int (2 : Int32)), .unset, .unset, .val (.int (((Int32.toUInt32 qf >>> ((16 : Int32) &&& 31).toUInt32).toInt32) &&& (255 : Int32))), .val (.int (((Int32.toUInt32 qf >>> ((24 : Int32) &&& 31).toUInt32).toInt32) &&& (255 : Int32)))] [(.int ((192 : Int32) ||| (cp >>> ((6 : Int32) &&& 31))))]))
      refine Go.step (fun _ k => XS.istore X27.here hx rfl (hb hby at_102) rfl (l' := #[.val (.int qx), .val (.int qf), .val (.int cp), .val (.ref b2), .val (.int (2 : Int32)), .val (.int (2 : Int32)), .val (.int ((192 : Int32) ||| (cp >>> ((6 : Int32) &&& 31)))), .unset, .val (.int (((Int32.toUInt32 qf >>> ((16 : Int32) &&& 31).toUInt32).toInt32) &&& (255 : Int32))), .val (.int (((Int32.toUInt32 qf >>> ((24 : Int32) &&& 31).toUInt32).toInt32) &&& (255 : Int32)))]) rfl k) ?_
      show Go _ _ _ _ _ _ _ (T27.setTop (mkF m 104 #[.val (.int qx), .val (.int qf), .val (.int cp), .val (.ref b2), .val (.int (2 : Int32)), .val (.int (2 : Int32)), .val (.int ((192 : Int32) ||| (cp >>> ((6 : Int32) &&& 31)))), .unset, .val (.int (((Int32.toUInt32 qf >>> ((16 : Int32) &&& 31).toUInt32).toInt32) &&& (255 : Int32))), .val (.int (((Int32.toUInt32 qf >>> ((24 : Int32) &&& 31).toUInt32).toInt32) &&& (255 : Int32)))] []))
      refine Go.step (fun _ k => XS.sipush X27.here hx rfl (hb hby at_104) k) ?_
      show Go _ _ _ _ _ _ _ (T27.setTop (mkF m 107 #[.val (.int qx), .val (.int qf), .val (.int cp), .val (.ref b2), .val (.int (2 : Int32)), .val (.int (2 : Int32)), .val (.int ((192 : Int32) ||| (cp >>> ((6 : Int32) &&& 31)))), .unset, .val (.int (((Int32.toUInt32 qf >>> ((16 : Int32) &&& 31).toUInt32).toInt32) &&& (255 : Int32))), .val (.int (((Int32.toUInt32 qf >>> ((24 : Int32) &&& 31).toUInt32).toInt32) &&& (255 : Int32)))] [(.int (128 : Int32))]))
      refine Go.step (fun _ k => XS.iloadN X27.here hx rfl (hb hby at_107) rfl  k) ?_
      show Go _ _ _ _ _ _ _ (T27.setTop (mkF m 108 #[.val (.int qx), .val (.int qf), .val (.int cp), .val (.ref b2), .val (.int (2 : Int32)), .val (.int (2 : Int32)), .val (.int ((192 : Int32) ||| (cp >>> ((6 : Int32) &&& 31)))), .unset, .val (.int (((Int32.toUInt32 qf >>> ((16 : Int32) &&& 31).toUInt32).toInt32) &&& (255 : Int32))), .val (.int (((Int32.toUInt32 qf >>> ((24 : Int32) &&& 31).toUInt32).toInt32) &&& (255 : Int32)))] [(.int cp), (.int (128 : Int32))]))
      refine Go.step (fun _ k => XS.bipush X27.here hx rfl (hb hby at_108) k) ?_
      show Go _ _ _ _ _ _ _ (T27.setTop (mkF m 110 #[.val (.int qx), .val (.int qf), .val (.int cp), .val (.ref b2), .val (.int (2 : Int32)), .val (.int (2 : Int32)), .val (.int ((192 : Int32) ||| (cp >>> ((6 : Int32) &&& 31)))), .unset, .val (.int (((Int32.toUInt32 qf >>> ((16 : Int32) &&& 31).toUInt32).toInt32) &&& (255 : Int32))), .val (.int (((Int32.toUInt32 qf >>> ((24 : Int32) &&& 31).toUInt32).toInt32) &&& (255 : Int32)))] [(.int (63 : Int32)), (.int cp), (.int (128 : Int32))]))
      refine Go.step (fun _ k => XS.iand X27.here hx rfl (hb hby at_110) rfl k) ?_
      show Go _ _ _ _ _ _ _ (T27.setTop (mkF m 111 #[.val (.int qx), .val (.int qf), .val (.int cp), .val (.ref b2), .val (.int (2 : Int32)), .val (.int (2 : Int32)), .val (.int ((192 : Int32) ||| (cp >>> ((6 : Int32) &&& 31)))), .unset, .val (.int (((Int32.toUInt32 qf >>> ((16 : Int32) &&& 31).toUInt32).toInt32) &&& (255 : Int32))), .val (.int (((Int32.toUInt32 qf >>> ((24 : Int32) &&& 31).toUInt32).toInt32) &&& (255 : Int32)))] [(.int (cp &&& (63 : Int32))), (.int (128 : Int32))]))
      refine Go.step (fun _ k => XS.ior X27.here hx rfl (hb hby at_111) rfl k) ?_
      show Go _ _ _ _ _ _ _ (T27.setTop (mkF m 112 #[.val (.int qx), .val (.int qf), .val (.int cp), .val (.ref b2), .val (.int (2 : Int32)), .val (.int (2 : Int32)), .val (.int ((192 : Int32) ||| (cp >>> ((6 : Int32) &&& 31)))), .unset, .val (.int (((Int32.toUInt32 qf >>> ((16 : Int32) &&& 31).toUInt32).toInt32) &&& (255 : Int32))), .val (.int (((Int32.toUInt32 qf >>> ((24 : Int32) &&& 31).toUInt32).toInt32) &&& (255 : Int32)))] [(.int ((128 : Int32) ||| (cp &&& (63 : Int32))))]))
      refine Go.step (fun _ k => XS.istore X27.here hx rfl (hb hby at_112) rfl (l' := #[.val (.int qx), .val (.int qf), .val (.int cp), .val (.ref b2), .val (.int (2 : Int32)), .val (.int (2 : Int32)), .val (.int ((192 : Int32) ||| (cp >>> ((6 : Int32) &&& 31)))), .val (.int ((128 : Int32) ||| (cp &&& (63 : Int32)))), .val (.int (((Int32.toUInt32 qf >>> ((16 : Int32) &&& 31).toUInt32).toInt32) &&& (255 : Int32))), .val (.int (((Int32.toUInt32 qf >>> ((24 : Int32) &&& 31).toUInt32).toInt32) &&& (255 : Int32)))]) rfl k) ?_
      show Go _ _ _ _ _ _ _ (T27.setTop (mkF m 114 #[.val (.int qx), .val (.int qf), .val (.int cp), .val (.ref b2), .val (.int (2 : Int32)), .val (.int (2 : Int32)), .val (.int ((192 : Int32) ||| (cp >>> ((6 : Int32) &&& 31)))), .val (.int ((128 : Int32) ||| (cp &&& (63 : Int32)))), .val (.int (((Int32.toUInt32 qf >>> ((16 : Int32) &&& 31).toUInt32).toInt32) &&& (255 : Int32))), .val (.int (((Int32.toUInt32 qf >>> ((24 : Int32) &&& 31).toUInt32).toInt32) &&& (255 : Int32)))] []))
      refine Go.step (fun _ k => XS.goto X27.here hx rfl (pc0 := 114) (pc' := 211) rfl (hb hby at_114) (by decide) (by decide) k) ?_
      show Go _ _ _ _ _ _ _ (T27.setTop (mkF m 211 #[.val (.int qx), .val (.int qf), .val (.int cp), .val (.ref b2), .val (.int (2 : Int32)), .val (.int (2 : Int32)), .val (.int ((192 : Int32) ||| (cp >>> ((6 : Int32) &&& 31)))), .val (.int ((128 : Int32) ||| (cp &&& (63 : Int32)))), .val (.int (((Int32.toUInt32 qf >>> ((16 : Int32) &&& 31).toUInt32).toInt32) &&& (255 : Int32))), .val (.int (((Int32.toUInt32 qf >>> ((24 : Int32) &&& 31).toUInt32).toInt32) &&& (255 : Int32)))] []))
      refine Go.step (fun _ k => XS.iload X27.here hx rfl (hb hby at_211) rfl  k) ?_
      show Go _ _ _ _ _ _ _ (T27.setTop (mkF m 213 #[.val (.int qx), .val (.int qf), .val (.int cp), .val (.ref b2), .val (.int (2 : Int32)), .val (.int (2 : Int32)), .val (.int ((192 : Int32) ||| (cp >>> ((6 : Int32) &&& 31)))), .val (.int ((128 : Int32) ||| (cp &&& (63 : Int32)))), .val (.int (((Int32.toUInt32 qf >>> ((16 : Int32) &&& 31).toUInt32).toInt32) &&& (255 : Int32))), .val (.int (((Int32.toUInt32 qf >>> ((24 : Int32) &&& 31).toUInt32).toInt32) &&& (255 : Int32)))] [(.int (2 : Int32))]))
      refine Go.step (fun _ k => XS.iload X27.here hx rfl (hb hby at_213) rfl  k) ?_
      show Go _ _ _ _ _ _ _ (T27.setTop (mkF m 215 #[.val (.int qx), .val (.int qf), .val (.int cp), .val (.ref b2), .val (.int (2 : Int32)), .val (.int (2 : Int32)), .val (.int ((192 : Int32) ||| (cp >>> ((6 : Int32) &&& 31)))), .val (.int ((128 : Int32) ||| (cp &&& (63 : Int32)))), .val (.int (((Int32.toUInt32 qf >>> ((16 : Int32) &&& 31).toUInt32).toInt32) &&& (255 : Int32))), .val (.int (((Int32.toUInt32 qf >>> ((24 : Int32) &&& 31).toUInt32).toInt32) &&& (255 : Int32)))] [(.int (2 : Int32)), (.int (2 : Int32))]))
      have hc215 : (2 : Int32) = (2 : Int32) := by decide
      refine Go.step (fun _ k => XS.icmpNo X27.here hx rfl (hb hby at_215) rfl (teq hc215).2 k) ?_
      show Go _ _ _ _ _ _ _ (T27.setTop (mkF m 218 #[.val (.int qx), .val (.int qf), .val (.int cp), .val (.ref b2), .val (.int (2 : Int32)), .val (.int (2 : Int32)), .val (.int ((192 : Int32) ||| (cp >>> ((6 : Int32) &&& 31)))), .val (.int ((128 : Int32) ||| (cp &&& (63 : Int32)))), .val (.int (((Int32.toUInt32 qf >>> ((16 : Int32) &&& 31).toUInt32).toInt32) &&& (255 : Int32))), .val (.int (((Int32.toUInt32 qf >>> ((24 : Int32) &&& 31).toUInt32).toInt32) &&& (255 : Int32)))] []))
      refine Go.step (fun _ k => XS.aloadN X27.here hx rfl (hb hby at_218) rfl rfl  k) ?_
      show Go _ _ _ _ _ _ _ (T27.setTop (mkF m 219 #[.val (.int qx), .val (.int qf), .val (.int cp), .val (.ref b2), .val (.int (2 : Int32)), .val (.int (2 : Int32)), .val (.int ((192 : Int32) ||| (cp >>> ((6 : Int32) &&& 31)))), .val (.int ((128 : Int32) ||| (cp &&& (63 : Int32)))), .val (.int (((Int32.toUInt32 qf >>> ((16 : Int32) &&& 31).toUInt32).toInt32) &&& (255 : Int32))), .val (.int (((Int32.toUInt32 qf >>> ((24 : Int32) &&& 31).toUInt32).toInt32) &&& (255 : Int32)))] [(.ref b2)]))
      refine Go.step (fun _ k => XS.iconst X27.here hx rfl (hb hby at_219) k) ?_
      show Go _ _ _ _ _ _ _ (T27.setTop (mkF m 220 #[.val (.int qx), .val (.int qf), .val (.int cp), .val (.ref b2), .val (.int (2 : Int32)), .val (.int (2 : Int32)), .val (.int ((192 : Int32) ||| (cp >>> ((6 : Int32) &&& 31)))), .val (.int ((128 : Int32) ||| (cp &&& (63 : Int32)))), .val (.int (((Int32.toUInt32 qf >>> ((16 : Int32) &&& 31).toUInt32).toInt32) &&& (255 : Int32))), .val (.int (((Int32.toUInt32 qf >>> ((24 : Int32) &&& 31).toUInt32).toInt32) &&& (255 : Int32)))] [(.int (0 : Int32)), (.ref b2)]))
      have lo30 : ¬ (0 : Int32) < 0 := (by decide)
      have hi30 : (0 : Int32) < (4 : Int32) := (by decide)
      refine Go.step (Ai.baload X27 hx hZ rfl c27_0 (j := (0 : Int32)) lo30 hi30 (g := (mkF m 220 #[.val (.int qx), .val (.int qf), .val (.int cp), .val (.ref b2), .val (.int (2 : Int32)), .val (.int (2 : Int32)), .val (.int ((192 : Int32) ||| (cp >>> ((6 : Int32) &&& 31)))), .val (.int ((128 : Int32) ||| (cp &&& (63 : Int32)))), .val (.int (((Int32.toUInt32 qf >>> ((16 : Int32) &&& 31).toUInt32).toInt32) &&& (255 : Int32))), .val (.int (((Int32.toUInt32 qf >>> ((24 : Int32) &&& 31).toUInt32).toInt32) &&& (255 : Int32)))] [(.int (0 : Int32)), (.ref b2)])) rfl rfl (hb hby at_220)) ?_
      show Go _ _ _ _ _ _ _ (T27.setTop (mkF m 221 #[.val (.int qx), .val (.int qf), .val (.int cp), .val (.ref b2), .val (.int (2 : Int32)), .val (.int (2 : Int32)), .val (.int ((192 : Int32) ||| (cp >>> ((6 : Int32) &&& 31)))), .val (.int ((128 : Int32) ||| (cp &&& (63 : Int32)))), .val (.int (((Int32.toUInt32 qf >>> ((16 : Int32) &&& 31).toUInt32).toInt32) &&& (255 : Int32))), .val (.int (((Int32.toUInt32 qf >>> ((24 : Int32) &&& 31).toUInt32).toInt32) &&& (255 : Int32)))] [(.int (F2_27 (0 : Int32)))]))
      refine Go.step (fun _ k => XS.sipush X27.here hx rfl (hb hby at_221) k) ?_
      show Go _ _ _ _ _ _ _ (T27.setTop (mkF m 224 #[.val (.int qx), .val (.int qf), .val (.int cp), .val (.ref b2), .val (.int (2 : Int32)), .val (.int (2 : Int32)), .val (.int ((192 : Int32) ||| (cp >>> ((6 : Int32) &&& 31)))), .val (.int ((128 : Int32) ||| (cp &&& (63 : Int32)))), .val (.int (((Int32.toUInt32 qf >>> ((16 : Int32) &&& 31).toUInt32).toInt32) &&& (255 : Int32))), .val (.int (((Int32.toUInt32 qf >>> ((24 : Int32) &&& 31).toUInt32).toInt32) &&& (255 : Int32)))] [(.int (255 : Int32)), (.int (F2_27 (0 : Int32)))]))
      refine Go.step (fun _ k => XS.iand X27.here hx rfl (hb hby at_224) rfl k) ?_
      show Go _ _ _ _ _ _ _ (T27.setTop (mkF m 225 #[.val (.int qx), .val (.int qf), .val (.int cp), .val (.ref b2), .val (.int (2 : Int32)), .val (.int (2 : Int32)), .val (.int ((192 : Int32) ||| (cp >>> ((6 : Int32) &&& 31)))), .val (.int ((128 : Int32) ||| (cp &&& (63 : Int32)))), .val (.int (((Int32.toUInt32 qf >>> ((16 : Int32) &&& 31).toUInt32).toInt32) &&& (255 : Int32))), .val (.int (((Int32.toUInt32 qf >>> ((24 : Int32) &&& 31).toUInt32).toInt32) &&& (255 : Int32)))] [(.int ((F2_27 (0 : Int32)) &&& (255 : Int32)))]))
      refine Go.step (fun _ k => XS.iload X27.here hx rfl (hb hby at_225) rfl  k) ?_
      show Go _ _ _ _ _ _ _ (T27.setTop (mkF m 227 #[.val (.int qx), .val (.int qf), .val (.int cp), .val (.ref b2), .val (.int (2 : Int32)), .val (.int (2 : Int32)), .val (.int ((192 : Int32) ||| (cp >>> ((6 : Int32) &&& 31)))), .val (.int ((128 : Int32) ||| (cp &&& (63 : Int32)))), .val (.int (((Int32.toUInt32 qf >>> ((16 : Int32) &&& 31).toUInt32).toInt32) &&& (255 : Int32))), .val (.int (((Int32.toUInt32 qf >>> ((24 : Int32) &&& 31).toUInt32).toInt32) &&& (255 : Int32)))] [(.int ((192 : Int32) ||| (cp >>> ((6 : Int32) &&& 31)))), (.int ((F2_27 (0 : Int32)) &&& (255 : Int32)))]))
      have hc227 : ((F2_27 (0 : Int32)) &&& (255 : Int32)) = ((192 : Int32) ||| (cp >>> ((6 : Int32) &&& 31))) := by rw [u27_0]; exact own_h2 hcp0 (own_lt2 hsA)
      refine Go.step (fun _ k => XS.icmpNo X27.here hx rfl (hb hby at_227) rfl (teq hc227).2 k) ?_
      show Go _ _ _ _ _ _ _ (T27.setTop (mkF m 230 #[.val (.int qx), .val (.int qf), .val (.int cp), .val (.ref b2), .val (.int (2 : Int32)), .val (.int (2 : Int32)), .val (.int ((192 : Int32) ||| (cp >>> ((6 : Int32) &&& 31)))), .val (.int ((128 : Int32) ||| (cp &&& (63 : Int32)))), .val (.int (((Int32.toUInt32 qf >>> ((16 : Int32) &&& 31).toUInt32).toInt32) &&& (255 : Int32))), .val (.int (((Int32.toUInt32 qf >>> ((24 : Int32) &&& 31).toUInt32).toInt32) &&& (255 : Int32)))] []))
      refine Go.step (fun _ k => XS.aloadN X27.here hx rfl (hb hby at_230) rfl rfl  k) ?_
      show Go _ _ _ _ _ _ _ (T27.setTop (mkF m 231 #[.val (.int qx), .val (.int qf), .val (.int cp), .val (.ref b2), .val (.int (2 : Int32)), .val (.int (2 : Int32)), .val (.int ((192 : Int32) ||| (cp >>> ((6 : Int32) &&& 31)))), .val (.int ((128 : Int32) ||| (cp &&& (63 : Int32)))), .val (.int (((Int32.toUInt32 qf >>> ((16 : Int32) &&& 31).toUInt32).toInt32) &&& (255 : Int32))), .val (.int (((Int32.toUInt32 qf >>> ((24 : Int32) &&& 31).toUInt32).toInt32) &&& (255 : Int32)))] [(.ref b2)]))
      refine Go.step (fun _ k => XS.iconst X27.here hx rfl (hb hby at_231) k) ?_
      show Go _ _ _ _ _ _ _ (T27.setTop (mkF m 232 #[.val (.int qx), .val (.int qf), .val (.int cp), .val (.ref b2), .val (.int (2 : Int32)), .val (.int (2 : Int32)), .val (.int ((192 : Int32) ||| (cp >>> ((6 : Int32) &&& 31)))), .val (.int ((128 : Int32) ||| (cp &&& (63 : Int32)))), .val (.int (((Int32.toUInt32 qf >>> ((16 : Int32) &&& 31).toUInt32).toInt32) &&& (255 : Int32))), .val (.int (((Int32.toUInt32 qf >>> ((24 : Int32) &&& 31).toUInt32).toInt32) &&& (255 : Int32)))] [(.int (1 : Int32)), (.ref b2)]))
      have lo31 : ¬ (1 : Int32) < 0 := (by decide)
      have hi31 : (1 : Int32) < (4 : Int32) := (by decide)
      refine Go.step (Ai.baload X27 hx hZ rfl c27_0 (j := (1 : Int32)) lo31 hi31 (g := (mkF m 232 #[.val (.int qx), .val (.int qf), .val (.int cp), .val (.ref b2), .val (.int (2 : Int32)), .val (.int (2 : Int32)), .val (.int ((192 : Int32) ||| (cp >>> ((6 : Int32) &&& 31)))), .val (.int ((128 : Int32) ||| (cp &&& (63 : Int32)))), .val (.int (((Int32.toUInt32 qf >>> ((16 : Int32) &&& 31).toUInt32).toInt32) &&& (255 : Int32))), .val (.int (((Int32.toUInt32 qf >>> ((24 : Int32) &&& 31).toUInt32).toInt32) &&& (255 : Int32)))] [(.int (1 : Int32)), (.ref b2)])) rfl rfl (hb hby at_232)) ?_
      show Go _ _ _ _ _ _ _ (T27.setTop (mkF m 233 #[.val (.int qx), .val (.int qf), .val (.int cp), .val (.ref b2), .val (.int (2 : Int32)), .val (.int (2 : Int32)), .val (.int ((192 : Int32) ||| (cp >>> ((6 : Int32) &&& 31)))), .val (.int ((128 : Int32) ||| (cp &&& (63 : Int32)))), .val (.int (((Int32.toUInt32 qf >>> ((16 : Int32) &&& 31).toUInt32).toInt32) &&& (255 : Int32))), .val (.int (((Int32.toUInt32 qf >>> ((24 : Int32) &&& 31).toUInt32).toInt32) &&& (255 : Int32)))] [(.int (F2_27 (1 : Int32)))]))
      refine Go.step (fun _ k => XS.sipush X27.here hx rfl (hb hby at_233) k) ?_
      show Go _ _ _ _ _ _ _ (T27.setTop (mkF m 236 #[.val (.int qx), .val (.int qf), .val (.int cp), .val (.ref b2), .val (.int (2 : Int32)), .val (.int (2 : Int32)), .val (.int ((192 : Int32) ||| (cp >>> ((6 : Int32) &&& 31)))), .val (.int ((128 : Int32) ||| (cp &&& (63 : Int32)))), .val (.int (((Int32.toUInt32 qf >>> ((16 : Int32) &&& 31).toUInt32).toInt32) &&& (255 : Int32))), .val (.int (((Int32.toUInt32 qf >>> ((24 : Int32) &&& 31).toUInt32).toInt32) &&& (255 : Int32)))] [(.int (255 : Int32)), (.int (F2_27 (1 : Int32)))]))
      refine Go.step (fun _ k => XS.iand X27.here hx rfl (hb hby at_236) rfl k) ?_
      show Go _ _ _ _ _ _ _ (T27.setTop (mkF m 237 #[.val (.int qx), .val (.int qf), .val (.int cp), .val (.ref b2), .val (.int (2 : Int32)), .val (.int (2 : Int32)), .val (.int ((192 : Int32) ||| (cp >>> ((6 : Int32) &&& 31)))), .val (.int ((128 : Int32) ||| (cp &&& (63 : Int32)))), .val (.int (((Int32.toUInt32 qf >>> ((16 : Int32) &&& 31).toUInt32).toInt32) &&& (255 : Int32))), .val (.int (((Int32.toUInt32 qf >>> ((24 : Int32) &&& 31).toUInt32).toInt32) &&& (255 : Int32)))] [(.int ((F2_27 (1 : Int32)) &&& (255 : Int32)))]))
      refine Go.step (fun _ k => XS.iload X27.here hx rfl (hb hby at_237) rfl  k) ?_
      show Go _ _ _ _ _ _ _ (T27.setTop (mkF m 239 #[.val (.int qx), .val (.int qf), .val (.int cp), .val (.ref b2), .val (.int (2 : Int32)), .val (.int (2 : Int32)), .val (.int ((192 : Int32) ||| (cp >>> ((6 : Int32) &&& 31)))), .val (.int ((128 : Int32) ||| (cp &&& (63 : Int32)))), .val (.int (((Int32.toUInt32 qf >>> ((16 : Int32) &&& 31).toUInt32).toInt32) &&& (255 : Int32))), .val (.int (((Int32.toUInt32 qf >>> ((24 : Int32) &&& 31).toUInt32).toInt32) &&& (255 : Int32)))] [(.int ((128 : Int32) ||| (cp &&& (63 : Int32)))), (.int ((F2_27 (1 : Int32)) &&& (255 : Int32)))]))
      have hc239 : ((F2_27 (1 : Int32)) &&& (255 : Int32)) = ((128 : Int32) ||| (cp &&& (63 : Int32))) := by rw [u27_1]; exact own_t0 cp
      refine Go.step (fun _ k => XS.icmpNo X27.here hx rfl (hb hby at_239) rfl (teq hc239).2 k) ?_
      show Go _ _ _ _ _ _ _ (T27.setTop (mkF m 242 #[.val (.int qx), .val (.int qf), .val (.int cp), .val (.ref b2), .val (.int (2 : Int32)), .val (.int (2 : Int32)), .val (.int ((192 : Int32) ||| (cp >>> ((6 : Int32) &&& 31)))), .val (.int ((128 : Int32) ||| (cp &&& (63 : Int32)))), .val (.int (((Int32.toUInt32 qf >>> ((16 : Int32) &&& 31).toUInt32).toInt32) &&& (255 : Int32))), .val (.int (((Int32.toUInt32 qf >>> ((24 : Int32) &&& 31).toUInt32).toInt32) &&& (255 : Int32)))] []))
      refine Go.step (fun _ k => XS.aloadN X27.here hx rfl (hb hby at_242) rfl rfl  k) ?_
      show Go _ _ _ _ _ _ _ (T27.setTop (mkF m 243 #[.val (.int qx), .val (.int qf), .val (.int cp), .val (.ref b2), .val (.int (2 : Int32)), .val (.int (2 : Int32)), .val (.int ((192 : Int32) ||| (cp >>> ((6 : Int32) &&& 31)))), .val (.int ((128 : Int32) ||| (cp &&& (63 : Int32)))), .val (.int (((Int32.toUInt32 qf >>> ((16 : Int32) &&& 31).toUInt32).toInt32) &&& (255 : Int32))), .val (.int (((Int32.toUInt32 qf >>> ((24 : Int32) &&& 31).toUInt32).toInt32) &&& (255 : Int32)))] [(.ref b2)]))
      refine Go.step (fun _ k => XS.iconst X27.here hx rfl (hb hby at_243) k) ?_
      show Go _ _ _ _ _ _ _ (T27.setTop (mkF m 244 #[.val (.int qx), .val (.int qf), .val (.int cp), .val (.ref b2), .val (.int (2 : Int32)), .val (.int (2 : Int32)), .val (.int ((192 : Int32) ||| (cp >>> ((6 : Int32) &&& 31)))), .val (.int ((128 : Int32) ||| (cp &&& (63 : Int32)))), .val (.int (((Int32.toUInt32 qf >>> ((16 : Int32) &&& 31).toUInt32).toInt32) &&& (255 : Int32))), .val (.int (((Int32.toUInt32 qf >>> ((24 : Int32) &&& 31).toUInt32).toInt32) &&& (255 : Int32)))] [(.int (2 : Int32)), (.ref b2)]))
      have lo32 : ¬ (2 : Int32) < 0 := (by decide)
      have hi32 : (2 : Int32) < (4 : Int32) := (by decide)
      refine Go.step (Ai.baload X27 hx hZ rfl c27_0 (j := (2 : Int32)) lo32 hi32 (g := (mkF m 244 #[.val (.int qx), .val (.int qf), .val (.int cp), .val (.ref b2), .val (.int (2 : Int32)), .val (.int (2 : Int32)), .val (.int ((192 : Int32) ||| (cp >>> ((6 : Int32) &&& 31)))), .val (.int ((128 : Int32) ||| (cp &&& (63 : Int32)))), .val (.int (((Int32.toUInt32 qf >>> ((16 : Int32) &&& 31).toUInt32).toInt32) &&& (255 : Int32))), .val (.int (((Int32.toUInt32 qf >>> ((24 : Int32) &&& 31).toUInt32).toInt32) &&& (255 : Int32)))] [(.int (2 : Int32)), (.ref b2)])) rfl rfl (hb hby at_244)) ?_
      show Go _ _ _ _ _ _ _ (T27.setTop (mkF m 245 #[.val (.int qx), .val (.int qf), .val (.int cp), .val (.ref b2), .val (.int (2 : Int32)), .val (.int (2 : Int32)), .val (.int ((192 : Int32) ||| (cp >>> ((6 : Int32) &&& 31)))), .val (.int ((128 : Int32) ||| (cp &&& (63 : Int32)))), .val (.int (((Int32.toUInt32 qf >>> ((16 : Int32) &&& 31).toUInt32).toInt32) &&& (255 : Int32))), .val (.int (((Int32.toUInt32 qf >>> ((24 : Int32) &&& 31).toUInt32).toInt32) &&& (255 : Int32)))] [(.int (F2_27 (2 : Int32)))]))
      refine Go.step (fun _ k => XS.sipush X27.here hx rfl (hb hby at_245) k) ?_
      show Go _ _ _ _ _ _ _ (T27.setTop (mkF m 248 #[.val (.int qx), .val (.int qf), .val (.int cp), .val (.ref b2), .val (.int (2 : Int32)), .val (.int (2 : Int32)), .val (.int ((192 : Int32) ||| (cp >>> ((6 : Int32) &&& 31)))), .val (.int ((128 : Int32) ||| (cp &&& (63 : Int32)))), .val (.int (((Int32.toUInt32 qf >>> ((16 : Int32) &&& 31).toUInt32).toInt32) &&& (255 : Int32))), .val (.int (((Int32.toUInt32 qf >>> ((24 : Int32) &&& 31).toUInt32).toInt32) &&& (255 : Int32)))] [(.int (255 : Int32)), (.int (F2_27 (2 : Int32)))]))
      refine Go.step (fun _ k => XS.iand X27.here hx rfl (hb hby at_248) rfl k) ?_
      show Go _ _ _ _ _ _ _ (T27.setTop (mkF m 249 #[.val (.int qx), .val (.int qf), .val (.int cp), .val (.ref b2), .val (.int (2 : Int32)), .val (.int (2 : Int32)), .val (.int ((192 : Int32) ||| (cp >>> ((6 : Int32) &&& 31)))), .val (.int ((128 : Int32) ||| (cp &&& (63 : Int32)))), .val (.int (((Int32.toUInt32 qf >>> ((16 : Int32) &&& 31).toUInt32).toInt32) &&& (255 : Int32))), .val (.int (((Int32.toUInt32 qf >>> ((24 : Int32) &&& 31).toUInt32).toInt32) &&& (255 : Int32)))] [(.int ((F2_27 (2 : Int32)) &&& (255 : Int32)))]))
      refine Go.step (fun _ k => XS.iload X27.here hx rfl (hb hby at_249) rfl  k) ?_
      show Go _ _ _ _ _ _ _ (T27.setTop (mkF m 251 #[.val (.int qx), .val (.int qf), .val (.int cp), .val (.ref b2), .val (.int (2 : Int32)), .val (.int (2 : Int32)), .val (.int ((192 : Int32) ||| (cp >>> ((6 : Int32) &&& 31)))), .val (.int ((128 : Int32) ||| (cp &&& (63 : Int32)))), .val (.int (((Int32.toUInt32 qf >>> ((16 : Int32) &&& 31).toUInt32).toInt32) &&& (255 : Int32))), .val (.int (((Int32.toUInt32 qf >>> ((24 : Int32) &&& 31).toUInt32).toInt32) &&& (255 : Int32)))] [(.int (((Int32.toUInt32 qf >>> ((16 : Int32) &&& 31).toUInt32).toInt32) &&& (255 : Int32))), (.int ((F2_27 (2 : Int32)) &&& (255 : Int32)))]))
      have hc251 : ((F2_27 (2 : Int32)) &&& (255 : Int32)) = (((Int32.toUInt32 qf >>> ((16 : Int32) &&& 31).toUInt32).toInt32) &&& (255 : Int32)) := by rw [u27_2, hf2]; exact own_m8 _
      refine Go.step (fun _ k => XS.icmpNo X27.here hx rfl (hb hby at_251) rfl (teq hc251).2 k) ?_
      show Go _ _ _ _ _ _ _ (T27.setTop (mkF m 254 #[.val (.int qx), .val (.int qf), .val (.int cp), .val (.ref b2), .val (.int (2 : Int32)), .val (.int (2 : Int32)), .val (.int ((192 : Int32) ||| (cp >>> ((6 : Int32) &&& 31)))), .val (.int ((128 : Int32) ||| (cp &&& (63 : Int32)))), .val (.int (((Int32.toUInt32 qf >>> ((16 : Int32) &&& 31).toUInt32).toInt32) &&& (255 : Int32))), .val (.int (((Int32.toUInt32 qf >>> ((24 : Int32) &&& 31).toUInt32).toInt32) &&& (255 : Int32)))] []))
      refine Go.step (fun _ k => XS.aloadN X27.here hx rfl (hb hby at_254) rfl rfl  k) ?_
      show Go _ _ _ _ _ _ _ (T27.setTop (mkF m 255 #[.val (.int qx), .val (.int qf), .val (.int cp), .val (.ref b2), .val (.int (2 : Int32)), .val (.int (2 : Int32)), .val (.int ((192 : Int32) ||| (cp >>> ((6 : Int32) &&& 31)))), .val (.int ((128 : Int32) ||| (cp &&& (63 : Int32)))), .val (.int (((Int32.toUInt32 qf >>> ((16 : Int32) &&& 31).toUInt32).toInt32) &&& (255 : Int32))), .val (.int (((Int32.toUInt32 qf >>> ((24 : Int32) &&& 31).toUInt32).toInt32) &&& (255 : Int32)))] [(.ref b2)]))
      refine Go.step (fun _ k => XS.iconst X27.here hx rfl (hb hby at_255) k) ?_
      show Go _ _ _ _ _ _ _ (T27.setTop (mkF m 256 #[.val (.int qx), .val (.int qf), .val (.int cp), .val (.ref b2), .val (.int (2 : Int32)), .val (.int (2 : Int32)), .val (.int ((192 : Int32) ||| (cp >>> ((6 : Int32) &&& 31)))), .val (.int ((128 : Int32) ||| (cp &&& (63 : Int32)))), .val (.int (((Int32.toUInt32 qf >>> ((16 : Int32) &&& 31).toUInt32).toInt32) &&& (255 : Int32))), .val (.int (((Int32.toUInt32 qf >>> ((24 : Int32) &&& 31).toUInt32).toInt32) &&& (255 : Int32)))] [(.int (3 : Int32)), (.ref b2)]))
      have lo33 : ¬ (3 : Int32) < 0 := (by decide)
      have hi33 : (3 : Int32) < (4 : Int32) := (by decide)
      refine Go.step (Ai.baload X27 hx hZ rfl c27_0 (j := (3 : Int32)) lo33 hi33 (g := (mkF m 256 #[.val (.int qx), .val (.int qf), .val (.int cp), .val (.ref b2), .val (.int (2 : Int32)), .val (.int (2 : Int32)), .val (.int ((192 : Int32) ||| (cp >>> ((6 : Int32) &&& 31)))), .val (.int ((128 : Int32) ||| (cp &&& (63 : Int32)))), .val (.int (((Int32.toUInt32 qf >>> ((16 : Int32) &&& 31).toUInt32).toInt32) &&& (255 : Int32))), .val (.int (((Int32.toUInt32 qf >>> ((24 : Int32) &&& 31).toUInt32).toInt32) &&& (255 : Int32)))] [(.int (3 : Int32)), (.ref b2)])) rfl rfl (hb hby at_256)) ?_
      show Go _ _ _ _ _ _ _ (T27.setTop (mkF m 257 #[.val (.int qx), .val (.int qf), .val (.int cp), .val (.ref b2), .val (.int (2 : Int32)), .val (.int (2 : Int32)), .val (.int ((192 : Int32) ||| (cp >>> ((6 : Int32) &&& 31)))), .val (.int ((128 : Int32) ||| (cp &&& (63 : Int32)))), .val (.int (((Int32.toUInt32 qf >>> ((16 : Int32) &&& 31).toUInt32).toInt32) &&& (255 : Int32))), .val (.int (((Int32.toUInt32 qf >>> ((24 : Int32) &&& 31).toUInt32).toInt32) &&& (255 : Int32)))] [(.int (F2_27 (3 : Int32)))]))
      refine Go.step (fun _ k => XS.sipush X27.here hx rfl (hb hby at_257) k) ?_
      show Go _ _ _ _ _ _ _ (T27.setTop (mkF m 260 #[.val (.int qx), .val (.int qf), .val (.int cp), .val (.ref b2), .val (.int (2 : Int32)), .val (.int (2 : Int32)), .val (.int ((192 : Int32) ||| (cp >>> ((6 : Int32) &&& 31)))), .val (.int ((128 : Int32) ||| (cp &&& (63 : Int32)))), .val (.int (((Int32.toUInt32 qf >>> ((16 : Int32) &&& 31).toUInt32).toInt32) &&& (255 : Int32))), .val (.int (((Int32.toUInt32 qf >>> ((24 : Int32) &&& 31).toUInt32).toInt32) &&& (255 : Int32)))] [(.int (255 : Int32)), (.int (F2_27 (3 : Int32)))]))
      refine Go.step (fun _ k => XS.iand X27.here hx rfl (hb hby at_260) rfl k) ?_
      show Go _ _ _ _ _ _ _ (T27.setTop (mkF m 261 #[.val (.int qx), .val (.int qf), .val (.int cp), .val (.ref b2), .val (.int (2 : Int32)), .val (.int (2 : Int32)), .val (.int ((192 : Int32) ||| (cp >>> ((6 : Int32) &&& 31)))), .val (.int ((128 : Int32) ||| (cp &&& (63 : Int32)))), .val (.int (((Int32.toUInt32 qf >>> ((16 : Int32) &&& 31).toUInt32).toInt32) &&& (255 : Int32))), .val (.int (((Int32.toUInt32 qf >>> ((24 : Int32) &&& 31).toUInt32).toInt32) &&& (255 : Int32)))] [(.int ((F2_27 (3 : Int32)) &&& (255 : Int32)))]))
      refine Go.step (fun _ k => XS.iload X27.here hx rfl (hb hby at_261) rfl  k) ?_
      show Go _ _ _ _ _ _ _ (T27.setTop (mkF m 263 #[.val (.int qx), .val (.int qf), .val (.int cp), .val (.ref b2), .val (.int (2 : Int32)), .val (.int (2 : Int32)), .val (.int ((192 : Int32) ||| (cp >>> ((6 : Int32) &&& 31)))), .val (.int ((128 : Int32) ||| (cp &&& (63 : Int32)))), .val (.int (((Int32.toUInt32 qf >>> ((16 : Int32) &&& 31).toUInt32).toInt32) &&& (255 : Int32))), .val (.int (((Int32.toUInt32 qf >>> ((24 : Int32) &&& 31).toUInt32).toInt32) &&& (255 : Int32)))] [(.int (((Int32.toUInt32 qf >>> ((24 : Int32) &&& 31).toUInt32).toInt32) &&& (255 : Int32))), (.int ((F2_27 (3 : Int32)) &&& (255 : Int32)))]))
      have hc263 : ((F2_27 (3 : Int32)) &&& (255 : Int32)) = (((Int32.toUInt32 qf >>> ((24 : Int32) &&& 31).toUInt32).toInt32) &&& (255 : Int32)) := by rw [u27_3, hf3]; exact own_m8 _
      refine Go.step (fun _ k => XS.icmpNo X27.here hx rfl (hb hby at_263) rfl (teq hc263).2 k) ?_
      show Go _ _ _ _ _ _ _ (T27.setTop (mkF m 266 #[.val (.int qx), .val (.int qf), .val (.int cp), .val (.ref b2), .val (.int (2 : Int32)), .val (.int (2 : Int32)), .val (.int ((192 : Int32) ||| (cp >>> ((6 : Int32) &&& 31)))), .val (.int ((128 : Int32) ||| (cp &&& (63 : Int32)))), .val (.int (((Int32.toUInt32 qf >>> ((16 : Int32) &&& 31).toUInt32).toInt32) &&& (255 : Int32))), .val (.int (((Int32.toUInt32 qf >>> ((24 : Int32) &&& 31).toUInt32).toInt32) &&& (255 : Int32)))] []))
      refine Go.step (fun _ k => XS.iconst X27.here hx rfl (hb hby at_266) k) ?_
      show Go _ _ _ _ _ _ _ (T27.setTop (mkF m 267 #[.val (.int qx), .val (.int qf), .val (.int cp), .val (.ref b2), .val (.int (2 : Int32)), .val (.int (2 : Int32)), .val (.int ((192 : Int32) ||| (cp >>> ((6 : Int32) &&& 31)))), .val (.int ((128 : Int32) ||| (cp &&& (63 : Int32)))), .val (.int (((Int32.toUInt32 qf >>> ((16 : Int32) &&& 31).toUInt32).toInt32) &&& (255 : Int32))), .val (.int (((Int32.toUInt32 qf >>> ((24 : Int32) &&& 31).toUInt32).toInt32) &&& (255 : Int32)))] [(.int (1 : Int32))]))
      refine Go.step (fun _ k => XS.goto X27.here hx rfl (pc0 := 267) (pc' := 271) rfl (hb hby at_267) (by decide) (by decide) k) ?_
      show Go _ _ _ _ _ _ _ (T27.setTop (mkF m 271 #[.val (.int qx), .val (.int qf), .val (.int cp), .val (.ref b2), .val (.int (2 : Int32)), .val (.int (2 : Int32)), .val (.int ((192 : Int32) ||| (cp >>> ((6 : Int32) &&& 31)))), .val (.int ((128 : Int32) ||| (cp &&& (63 : Int32)))), .val (.int (((Int32.toUInt32 qf >>> ((16 : Int32) &&& 31).toUInt32).toInt32) &&& (255 : Int32))), .val (.int (((Int32.toUInt32 qf >>> ((24 : Int32) &&& 31).toUInt32).toInt32) &&& (255 : Int32)))] [(.int (1 : Int32))]))
      refine Go.retN X27 hx (t := .boolean) Bd.returns (by simp) hlk (hb hby at_271) ?_ (by decide) (by decide)
      exact ⟨(by first | rfl | (simp_all [own_nb1, own_nb0]; done)), N27⟩
    · skip
      by_cases hsB : cp < (65536 : Int32)
      · skip
        show Go _ _ _ _ _ _ _ (T22.setTop (mkF m 59 #[.val (.int qx), .val (.int qf), .val (.int cp), .val (.ref b2), .unset, .unset, .unset, .unset, .unset, .unset] [(.ref b2), (.int cp)]))
        have pq34 : ¬ cp < (2048 : Int32) := hsA
        have pq35 : cp < (65536 : Int32) := hsB
        obtain ⟨_, _, ⟨T36, L36, k36, n36⟩, -, X36, ⟨Lc36, hQ36, l36, y36, z36⟩, st36⟩ := Jvm.LawKit.callS X22 hx (y := (⟨"com/example/omniform/omniform/Utf8", "encode", "(I[B)I"⟩ : MethodName)) hown (mvT hZ (hw _ (List.mem_of_getElem? (i := 4) rfl))) (mvT hZ (hw _ (List.mem_of_getElem? (i := 5) rfl))) (mvT hZ (hw _ (List.mem_of_getElem? (i := 6) rfl))) (mvT hZ (hw _ (List.mem_of_getElem? (i := 7) rfl))) (by decide) (backOf (W := 0) (rm1_3 l Z aZ hw [] cp b2 f25c h22 n0 z23 f22 gn2 pq34 pq35) hZ (hw _ (List.mem_of_getElem? (i := 7) rfl)) (hw _ (List.mem_of_getElem? (i := 6) rfl)) (by decide) (by decide)) (g := (mkF m 59 #[.val (.int qx), .val (.int qf), .val (.int cp), .val (.ref b2), .unset, .unset, .unset, .unset, .unset, .unset] [(.ref b2), (.int cp)])) rfl (by rw [hml]; rfl) (argsL := [(.int cp), (.ref b2)]) (rest := []) (lenOf pd_0 rfl) rfl (by show 2 * 0 + _ ≤ _; exact Nat.le_of_eq rfl) (hb hby at_59) (fun _ _ => ⟨rfl, e22, (by decide : 1 + 0 ≤ _), (by decide : 4 + 0 ≤ _)⟩)
        dsimp only [Pt.U, Pt.locs, Pt.cells, Pt.slots] at X36 l36 y36 z36 st36 hQ36
        subst l36 y36 z36
        obtain ⟨F2_36, rfl, Nq36, K36, c36_0, u36_0, u36_1, u36_2, u36_3⟩ := hQ36
        have N36 := Fr.app N22 Nq36
        refine Go.step st36 ?_
        have z37 : n0 ≤ T36.heap.size := Nat.le_trans z23 K36.1
        have sqz37 : h0.size ≤ T36.heap.size := Nat.le_trans sqz23 K36.1
        show Go _ _ _ _ _ _ _ (T36.setTop (mkF m 62 #[.val (.int qx), .val (.int qf), .val (.int cp), .val (.ref b2), .unset, .unset, .unset, .unset, .unset, .unset] [(.int (3 : Int32))]))
        refine Go.step (fun _ k => XS.istore X36.here hx rfl (hb hby at_62) rfl (l' := #[.val (.int qx), .val (.int qf), .val (.int cp), .val (.ref b2), .val (.int (3 : Int32)), .unset, .unset, .unset, .unset, .unset]) rfl k) ?_
        show Go _ _ _ _ _ _ _ (T36.setTop (mkF m 64 #[.val (.int qx), .val (.int qf), .val (.int cp), .val (.ref b2), .val (.int (3 : Int32)), .unset, .unset, .unset, .unset, .unset] []))
        refine Go.step (fun _ k => XS.iloadN X36.here hx rfl (hb hby at_64) rfl  k) ?_
        show Go _ _ _ _ _ _ _ (T36.setTop (mkF m 65 #[.val (.int qx), .val (.int qf), .val (.int cp), .val (.ref b2), .val (.int (3 : Int32)), .unset, .unset, .unset, .unset, .unset] [(.int qf)]))
        refine Go.step (fun _ k => XS.bipush X36.here hx rfl (hb hby at_65) k) ?_
        show Go _ _ _ _ _ _ _ (T36.setTop (mkF m 67 #[.val (.int qx), .val (.int qf), .val (.int cp), .val (.ref b2), .val (.int (3 : Int32)), .unset, .unset, .unset, .unset, .unset] [(.int (16 : Int32)), (.int qf)]))
        refine Go.step (fun _ k => XS.iushr X36.here hx rfl (hb hby at_67) rfl k) ?_
        show Go _ _ _ _ _ _ _ (T36.setTop (mkF m 68 #[.val (.int qx), .val (.int qf), .val (.int cp), .val (.ref b2), .val (.int (3 : Int32)), .unset, .unset, .unset, .unset, .unset] [(.int ((Int32.toUInt32 qf >>> ((16 : Int32) &&& 31).toUInt32).toInt32))]))
        refine Go.step (fun _ k => XS.sipush X36.here hx rfl (hb hby at_68) k) ?_
        show Go _ _ _ _ _ _ _ (T36.setTop (mkF m 71 #[.val (.int qx), .val (.int qf), .val (.int cp), .val (.ref b2), .val (.int (3 : Int32)), .unset, .unset, .unset, .unset, .unset] [(.int (255 : Int32)), (.int ((Int32.toUInt32 qf >>> ((16 : Int32) &&& 31).toUInt32).toInt32))]))
        refine Go.step (fun _ k => XS.iand X36.here hx rfl (hb hby at_71) rfl k) ?_
        show Go _ _ _ _ _ _ _ (T36.setTop (mkF m 72 #[.val (.int qx), .val (.int qf), .val (.int cp), .val (.ref b2), .val (.int (3 : Int32)), .unset, .unset, .unset, .unset, .unset] [(.int (((Int32.toUInt32 qf >>> ((16 : Int32) &&& 31).toUInt32).toInt32) &&& (255 : Int32)))]))
        refine Go.step (fun _ k => XS.istore X36.here hx rfl (hb hby at_72) rfl (l' := #[.val (.int qx), .val (.int qf), .val (.int cp), .val (.ref b2), .val (.int (3 : Int32)), .unset, .unset, .unset, .val (.int (((Int32.toUInt32 qf >>> ((16 : Int32) &&& 31).toUInt32).toInt32) &&& (255 : Int32))), .unset]) rfl k) ?_
        show Go _ _ _ _ _ _ _ (T36.setTop (mkF m 74 #[.val (.int qx), .val (.int qf), .val (.int cp), .val (.ref b2), .val (.int (3 : Int32)), .unset, .unset, .unset, .val (.int (((Int32.toUInt32 qf >>> ((16 : Int32) &&& 31).toUInt32).toInt32) &&& (255 : Int32))), .unset] []))
        refine Go.step (fun _ k => XS.iloadN X36.here hx rfl (hb hby at_74) rfl  k) ?_
        show Go _ _ _ _ _ _ _ (T36.setTop (mkF m 75 #[.val (.int qx), .val (.int qf), .val (.int cp), .val (.ref b2), .val (.int (3 : Int32)), .unset, .unset, .unset, .val (.int (((Int32.toUInt32 qf >>> ((16 : Int32) &&& 31).toUInt32).toInt32) &&& (255 : Int32))), .unset] [(.int qf)]))
        refine Go.step (fun _ k => XS.bipush X36.here hx rfl (hb hby at_75) k) ?_
        show Go _ _ _ _ _ _ _ (T36.setTop (mkF m 77 #[.val (.int qx), .val (.int qf), .val (.int cp), .val (.ref b2), .val (.int (3 : Int32)), .unset, .unset, .unset, .val (.int (((Int32.toUInt32 qf >>> ((16 : Int32) &&& 31).toUInt32).toInt32) &&& (255 : Int32))), .unset] [(.int (24 : Int32)), (.int qf)]))
        refine Go.step (fun _ k => XS.iushr X36.here hx rfl (hb hby at_77) rfl k) ?_
        show Go _ _ _ _ _ _ _ (T36.setTop (mkF m 78 #[.val (.int qx), .val (.int qf), .val (.int cp), .val (.ref b2), .val (.int (3 : Int32)), .unset, .unset, .unset, .val (.int (((Int32.toUInt32 qf >>> ((16 : Int32) &&& 31).toUInt32).toInt32) &&& (255 : Int32))), .unset] [(.int ((Int32.toUInt32 qf >>> ((24 : Int32) &&& 31).toUInt32).toInt32))]))
        refine Go.step (fun _ k => XS.sipush X36.here hx rfl (hb hby at_78) k) ?_
        show Go _ _ _ _ _ _ _ (T36.setTop (mkF m 81 #[.val (.int qx), .val (.int qf), .val (.int cp), .val (.ref b2), .val (.int (3 : Int32)), .unset, .unset, .unset, .val (.int (((Int32.toUInt32 qf >>> ((16 : Int32) &&& 31).toUInt32).toInt32) &&& (255 : Int32))), .unset] [(.int (255 : Int32)), (.int ((Int32.toUInt32 qf >>> ((24 : Int32) &&& 31).toUInt32).toInt32))]))
        refine Go.step (fun _ k => XS.iand X36.here hx rfl (hb hby at_81) rfl k) ?_
        show Go _ _ _ _ _ _ _ (T36.setTop (mkF m 82 #[.val (.int qx), .val (.int qf), .val (.int cp), .val (.ref b2), .val (.int (3 : Int32)), .unset, .unset, .unset, .val (.int (((Int32.toUInt32 qf >>> ((16 : Int32) &&& 31).toUInt32).toInt32) &&& (255 : Int32))), .unset] [(.int (((Int32.toUInt32 qf >>> ((24 : Int32) &&& 31).toUInt32).toInt32) &&& (255 : Int32)))]))
        refine Go.step (fun _ k => XS.istore X36.here hx rfl (hb hby at_82) rfl (l' := #[.val (.int qx), .val (.int qf), .val (.int cp), .val (.ref b2), .val (.int (3 : Int32)), .unset, .unset, .unset, .val (.int (((Int32.toUInt32 qf >>> ((16 : Int32) &&& 31).toUInt32).toInt32) &&& (255 : Int32))), .val (.int (((Int32.toUInt32 qf >>> ((24 : Int32) &&& 31).toUInt32).toInt32) &&& (255 : Int32)))]) rfl k) ?_
        show Go _ _ _ _ _ _ _ (T36.setTop (mkF m 84 #[.val (.int qx), .val (.int qf), .val (.int cp), .val (.ref b2), .val (.int (3 : Int32)), .unset, .unset, .unset, .val (.int (((Int32.toUInt32 qf >>> ((16 : Int32) &&& 31).toUInt32).toInt32) &&& (255 : Int32))), .val (.int (((Int32.toUInt32 qf >>> ((24 : Int32) &&& 31).toUInt32).toInt32) &&& (255 : Int32)))] []))
        refine Go.step (fun _ k => XS.iloadN X36.here hx rfl (hb hby at_84) rfl  k) ?_
        show Go _ _ _ _ _ _ _ (T36.setTop (mkF m 85 #[.val (.int qx), .val (.int qf), .val (.int cp), .val (.ref b2), .val (.int (3 : Int32)), .unset, .unset, .unset, .val (.int (((Int32.toUInt32 qf >>> ((16 : Int32) &&& 31).toUInt32).toInt32) &&& (255 : Int32))), .val (.int (((Int32.toUInt32 qf >>> ((24 : Int32) &&& 31).toUInt32).toInt32) &&& (255 : Int32)))] [(.int cp)]))
        refine Go.step (fun _ k => XS.sipush X36.here hx rfl (hb hby at_85) k) ?_
        show Go _ _ _ _ _ _ _ (T36.setTop (mkF m 88 #[.val (.int qx), .val (.int qf), .val (.int cp), .val (.ref b2), .val (.int (3 : Int32)), .unset, .unset, .unset, .val (.int (((Int32.toUInt32 qf >>> ((16 : Int32) &&& 31).toUInt32).toInt32) &&& (255 : Int32))), .val (.int (((Int32.toUInt32 qf >>> ((24 : Int32) &&& 31).toUInt32).toInt32) &&& (255 : Int32)))] [(.int (2048 : Int32)), (.int cp)]))
        have hc88 : ¬ (cp < (2048 : Int32)) := hsA
        refine Go.step (fun _ k => XS.icmpYes X36.here hx rfl (pc0 := 88) (pc' := 117) rfl (hb hby at_88) rfl (flt hc88).2.1 (by decide) (by decide) k) ?_
        show Go _ _ _ _ _ _ _ (T36.setTop (mkF m 117 #[.val (.int qx), .val (.int qf), .val (.int cp), .val (.ref b2), .val (.int (3 : Int32)), .unset, .unset, .unset, .val (.int (((Int32.toUInt32 qf >>> ((16 : Int32) &&& 31).toUInt32).toInt32) &&& (255 : Int32))), .val (.int (((Int32.toUInt32 qf >>> ((24 : Int32) &&& 31).toUInt32).toInt32) &&& (255 : Int32)))] []))
        refine Go.step (fun _ k => XS.iloadN X36.here hx rfl (hb hby at_117) rfl  k) ?_
        show Go _ _ _ _ _ _ _ (T36.setTop (mkF m 118 #[.val (.int qx), .val (.int qf), .val (.int cp), .val (.ref b2), .val (.int (3 : Int32)), .unset, .unset, .unset, .val (.int (((Int32.toUInt32 qf >>> ((16 : Int32) &&& 31).toUInt32).toInt32) &&& (255 : Int32))), .val (.int (((Int32.toUInt32 qf >>> ((24 : Int32) &&& 31).toUInt32).toInt32) &&& (255 : Int32)))] [(.int cp)]))
        refine Go.step (X36.ldcInt hx hown (mvT hZ (hw _ (List.mem_of_getElem? (i := 9) rfl))) (g := (mkF m 118 #[.val (.int qx), .val (.int qf), .val (.int cp), .val (.ref b2), .val (.int (3 : Int32)), .unset, .unset, .unset, .val (.int (((Int32.toUInt32 qf >>> ((16 : Int32) &&& 31).toUInt32).toInt32) &&& (255 : Int32))), .val (.int (((Int32.toUInt32 qf >>> ((24 : Int32) &&& 31).toUInt32).toInt32) &&& (255 : Int32)))] [(.int cp)])) rfl (hb hby at_118)) ?_
        show Go _ _ _ _ _ _ _ (T36.setTop (mkF m 120 #[.val (.int qx), .val (.int qf), .val (.int cp), .val (.ref b2), .val (.int (3 : Int32)), .unset, .unset, .unset, .val (.int (((Int32.toUInt32 qf >>> ((16 : Int32) &&& 31).toUInt32).toInt32) &&& (255 : Int32))), .val (.int (((Int32.toUInt32 qf >>> ((24 : Int32) &&& 31).toUInt32).toInt32) &&& (255 : Int32)))] [(.int (65536 : Int32)), (.int cp)]))
        have hc120 : cp < (65536 : Int32) := hsB
        refine Go.step (fun _ k => XS.icmpNo X36.here hx rfl (hb hby at_120) rfl (tlt hc120).2.1 k) ?_
        show Go _ _ _ _ _ _ _ (T36.setTop (mkF m 123 #[.val (.int qx), .val (.int qf), .val (.int cp), .val (.ref b2), .val (.int (3 : Int32)), .unset, .unset, .unset, .val (.int (((Int32.toUInt32 qf >>> ((16 : Int32) &&& 31).toUInt32).toInt32) &&& (255 : Int32))), .val (.int (((Int32.toUInt32 qf >>> ((24 : Int32) &&& 31).toUInt32).toInt32) &&& (255 : Int32)))] []))
        refine Go.step (fun _ k => XS.iconst X36.here hx rfl (hb hby at_123) k) ?_
        show Go _ _ _ _ _ _ _ (T36.setTop (mkF m 124 #[.val (.int qx), .val (.int qf), .val (.int cp), .val (.ref b2), .val (.int (3 : Int32)), .unset, .unset, .unset, .val (.int (((Int32.toUInt32 qf >>> ((16 : Int32) &&& 31).toUInt32).toInt32) &&& (255 : Int32))), .val (.int (((Int32.toUInt32 qf >>> ((24 : Int32) &&& 31).toUInt32).toInt32) &&& (255 : Int32)))] [(.int (3 : Int32))]))
        refine Go.step (fun _ k => XS.istore X36.here hx rfl (hb hby at_124) rfl (l' := #[.val (.int qx), .val (.int qf), .val (.int cp), .val (.ref b2), .val (.int (3 : Int32)), .val (.int (3 : Int32)), .unset, .unset, .val (.int (((Int32.toUInt32 qf >>> ((16 : Int32) &&& 31).toUInt32).toInt32) &&& (255 : Int32))), .val (.int (((Int32.toUInt32 qf >>> ((24 : Int32) &&& 31).toUInt32).toInt32) &&& (255 : Int32)))]) rfl k) ?_
        show Go _ _ _ _ _ _ _ (T36.setTop (mkF m 126 #[.val (.int qx), .val (.int qf), .val (.int cp), .val (.ref b2), .val (.int (3 : Int32)), .val (.int (3 : Int32)), .unset, .unset, .val (.int (((Int32.toUInt32 qf >>> ((16 : Int32) &&& 31).toUInt32).toInt32) &&& (255 : Int32))), .val (.int (((Int32.toUInt32 qf >>> ((24 : Int32) &&& 31).toUInt32).toInt32) &&& (255 : Int32)))] []))
        refine Go.step (fun _ k => XS.sipush X36.here hx rfl (hb hby at_126) k) ?_
        show Go _ _ _ _ _ _ _ (T36.setTop (mkF m 129 #[.val (.int qx), .val (.int qf), .val (.int cp), .val (.ref b2), .val (.int (3 : Int32)), .val (.int (3 : Int32)), .unset, .unset, .val (.int (((Int32.toUInt32 qf >>> ((16 : Int32) &&& 31).toUInt32).toInt32) &&& (255 : Int32))), .val (.int (((Int32.toUInt32 qf >>> ((24 : Int32) &&& 31).toUInt32).toInt32) &&& (255 : Int32)))] [(.int (224 : Int32))]))
        refine Go.step (fun _ k => XS.iloadN X36.here hx rfl (hb hby at_129) rfl  k) ?_
        show Go _ _ _ _ _ _ _ (T36.setTop (mkF m 130 #[.val (.int qx), .val (.int qf), .val (.int cp), .val (.ref b2), .val (.int (3 : Int32)), .val (.int (3 : Int32)), .unset, .unset, .val (.int (((Int32.toUInt32 qf >>> ((16 : Int32) &&& 31).toUInt32).toInt32) &&& (255 : Int32))), .val (.int (((Int32.toUInt32 qf >>> ((24 : Int32) &&& 31).toUInt32).toInt32) &&& (255 : Int32)))] [(.int cp), (.int (224 : Int32))]))
        refine Go.step (fun _ k => XS.bipush X36.here hx rfl (hb hby at_130) k) ?_
        show Go _ _ _ _ _ _ _ (T36.setTop (mkF m 132 #[.val (.int qx), .val (.int qf), .val (.int cp), .val (.ref b2), .val (.int (3 : Int32)), .val (.int (3 : Int32)), .unset, .unset, .val (.int (((Int32.toUInt32 qf >>> ((16 : Int32) &&& 31).toUInt32).toInt32) &&& (255 : Int32))), .val (.int (((Int32.toUInt32 qf >>> ((24 : Int32) &&& 31).toUInt32).toInt32) &&& (255 : Int32)))] [(.int (12 : Int32)), (.int cp), (.int (224 : Int32))]))
        refine Go.step (fun _ k => XS.ishr X36.here hx rfl (hb hby at_132) rfl k) ?_
        show Go _ _ _ _ _ _ _ (T36.setTop (mkF m 133 #[.val (.int qx), .val (.int qf), .val (.int cp), .val (.ref b2), .val (.int (3 : Int32)), .val (.int (3 : Int32)), .unset, .unset, .val (.int (((Int32.toUInt32 qf >>> ((16 : Int32) &&& 31).toUInt32).toInt32) &&& (255 : Int32))), .val (.int (((Int32.toUInt32 qf >>> ((24 : Int32) &&& 31).toUInt32).toInt32) &&& (255 : Int32)))] [(.int (cp >>> ((12 : Int32) &&& 31))), (.int (224 : Int32))]))
        refine Go.step (fun _ k => XS.ior X36.here hx rfl (hb hby at_133) rfl k) ?_
        show Go _ _ _ _ _ _ _ (T36.setTop (mkF m 134 #[.val (.int qx), .val (.int qf), .val (.int cp), .val (.ref b2), .val (.int (3 : Int32)), .val (.int (3 : Int32)), .unset, .unset, .val (.int (((Int32.toUInt32 qf >>> ((16 : Int32) &&& 31).toUInt32).toInt32) &&& (255 : Int32))), .val (.int (((Int32.toUInt32 qf >>> ((24 : Int32) &&& 31).toUInt32).toInt32) &&& (255 : Int32)))] [(.int ((224 : Int32) ||| (cp >>> ((12 : Int32) &&& 31))))]))
        refine Go.step (fun _ k => XS.istore X36.here hx rfl (hb hby at_134) rfl (l' := #[.val (.int qx), .val (.int qf), .val (.int cp), .val (.ref b2), .val (.int (3 : Int32)), .val (.int (3 : Int32)), .val (.int ((224 : Int32) ||| (cp >>> ((12 : Int32) &&& 31)))), .unset, .val (.int (((Int32.toUInt32 qf >>> ((16 : Int32) &&& 31).toUInt32).toInt32) &&& (255 : Int32))), .val (.int (((Int32.toUInt32 qf >>> ((24 : Int32) &&& 31).toUInt32).toInt32) &&& (255 : Int32)))]) rfl k) ?_
        show Go _ _ _ _ _ _ _ (T36.setTop (mkF m 136 #[.val (.int qx), .val (.int qf), .val (.int cp), .val (.ref b2), .val (.int (3 : Int32)), .val (.int (3 : Int32)), .val (.int ((224 : Int32) ||| (cp >>> ((12 : Int32) &&& 31)))), .unset, .val (.int (((Int32.toUInt32 qf >>> ((16 : Int32) &&& 31).toUInt32).toInt32) &&& (255 : Int32))), .val (.int (((Int32.toUInt32 qf >>> ((24 : Int32) &&& 31).toUInt32).toInt32) &&& (255 : Int32)))] []))
        refine Go.step (fun _ k => XS.sipush X36.here hx rfl (hb hby at_136) k) ?_
        show Go _ _ _ _ _ _ _ (T36.setTop (mkF m 139 #[.val (.int qx), .val (.int qf), .val (.int cp), .val (.ref b2), .val (.int (3 : Int32)), .val (.int (3 : Int32)), .val (.int ((224 : Int32) ||| (cp >>> ((12 : Int32) &&& 31)))), .unset, .val (.int (((Int32.toUInt32 qf >>> ((16 : Int32) &&& 31).toUInt32).toInt32) &&& (255 : Int32))), .val (.int (((Int32.toUInt32 qf >>> ((24 : Int32) &&& 31).toUInt32).toInt32) &&& (255 : Int32)))] [(.int (128 : Int32))]))
        refine Go.step (fun _ k => XS.iloadN X36.here hx rfl (hb hby at_139) rfl  k) ?_
        show Go _ _ _ _ _ _ _ (T36.setTop (mkF m 140 #[.val (.int qx), .val (.int qf), .val (.int cp), .val (.ref b2), .val (.int (3 : Int32)), .val (.int (3 : Int32)), .val (.int ((224 : Int32) ||| (cp >>> ((12 : Int32) &&& 31)))), .unset, .val (.int (((Int32.toUInt32 qf >>> ((16 : Int32) &&& 31).toUInt32).toInt32) &&& (255 : Int32))), .val (.int (((Int32.toUInt32 qf >>> ((24 : Int32) &&& 31).toUInt32).toInt32) &&& (255 : Int32)))] [(.int cp), (.int (128 : Int32))]))
        refine Go.step (fun _ k => XS.bipush X36.here hx rfl (hb hby at_140) k) ?_
        show Go _ _ _ _ _ _ _ (T36.setTop (mkF m 142 #[.val (.int qx), .val (.int qf), .val (.int cp), .val (.ref b2), .val (.int (3 : Int32)), .val (.int (3 : Int32)), .val (.int ((224 : Int32) ||| (cp >>> ((12 : Int32) &&& 31)))), .unset, .val (.int (((Int32.toUInt32 qf >>> ((16 : Int32) &&& 31).toUInt32).toInt32) &&& (255 : Int32))), .val (.int (((Int32.toUInt32 qf >>> ((24 : Int32) &&& 31).toUInt32).toInt32) &&& (255 : Int32)))] [(.int (6 : Int32)), (.int cp), (.int (128 : Int32))]))
        refine Go.step (fun _ k => XS.ishr X36.here hx rfl (hb hby at_142) rfl k) ?_
        show Go _ _ _ _ _ _ _ (T36.setTop (mkF m 143 #[.val (.int qx), .val (.int qf), .val (.int cp), .val (.ref b2), .val (.int (3 : Int32)), .val (.int (3 : Int32)), .val (.int ((224 : Int32) ||| (cp >>> ((12 : Int32) &&& 31)))), .unset, .val (.int (((Int32.toUInt32 qf >>> ((16 : Int32) &&& 31).toUInt32).toInt32) &&& (255 : Int32))), .val (.int (((Int32.toUInt32 qf >>> ((24 : Int32) &&& 31).toUInt32).toInt32) &&& (255 : Int32)))] [(.int (cp >>> ((6 : Int32) &&& 31))), (.int (128 : Int32))]))
        refine Go.step (fun _ k => XS.bipush X36.here hx rfl (hb hby at_143) k) ?_
        show Go _ _ _ _ _ _ _ (T36.setTop (mkF m 145 #[.val (.int qx), .val (.int qf), .val (.int cp), .val (.ref b2), .val (.int (3 : Int32)), .val (.int (3 : Int32)), .val (.int ((224 : Int32) ||| (cp >>> ((12 : Int32) &&& 31)))), .unset, .val (.int (((Int32.toUInt32 qf >>> ((16 : Int32) &&& 31).toUInt32).toInt32) &&& (255 : Int32))), .val (.int (((Int32.toUInt32 qf >>> ((24 : Int32) &&& 31).toUInt32).toInt32) &&& (255 : Int32)))] [(.int (63 : Int32)), (.int (cp >>> ((6 : Int32) &&& 31))), (.int (128 : Int32))]))
        refine Go.step (fun _ k => XS.iand X36.here hx rfl (hb hby at_145) rfl k) ?_
        show Go _ _ _ _ _ _ _ (T36.setTop (mkF m 146 #[.val (.int qx), .val (.int qf), .val (.int cp), .val (.ref b2), .val (.int (3 : Int32)), .val (.int (3 : Int32)), .val (.int ((224 : Int32) ||| (cp >>> ((12 : Int32) &&& 31)))), .unset, .val (.int (((Int32.toUInt32 qf >>> ((16 : Int32) &&& 31).toUInt32).toInt32) &&& (255 : Int32))), .val (.int (((Int32.toUInt32 qf >>> ((24 : Int32) &&& 31).toUInt32).toInt32) &&& (255 : Int32)))] [(.int ((cp >>> ((6 : Int32) &&& 31)) &&& (63 : Int32))), (.int (128 : Int32))]))
        refine Go.step (fun _ k => XS.ior X36.here hx rfl (hb hby at_146) rfl k) ?_
        show Go _ _ _ _ _ _ _ (T36.setTop (mkF m 147 #[.val (.int qx), .val (.int qf), .val (.int cp), .val (.ref b2), .val (.int (3 : Int32)), .val (.int (3 : Int32)), .val (.int ((224 : Int32) ||| (cp >>> ((12 : Int32) &&& 31)))), .unset, .val (.int (((Int32.toUInt32 qf >>> ((16 : Int32) &&& 31).toUInt32).toInt32) &&& (255 : Int32))), .val (.int (((Int32.toUInt32 qf >>> ((24 : Int32) &&& 31).toUInt32).toInt32) &&& (255 : Int32)))] [(.int ((128 : Int32) ||| ((cp >>> ((6 : Int32) &&& 31)) &&& (63 : Int32))))]))
        refine Go.step (fun _ k => XS.istore X36.here hx rfl (hb hby at_147) rfl (l' := #[.val (.int qx), .val (.int qf), .val (.int cp), .val (.ref b2), .val (.int (3 : Int32)), .val (.int (3 : Int32)), .val (.int ((224 : Int32) ||| (cp >>> ((12 : Int32) &&& 31)))), .val (.int ((128 : Int32) ||| ((cp >>> ((6 : Int32) &&& 31)) &&& (63 : Int32)))), .val (.int (((Int32.toUInt32 qf >>> ((16 : Int32) &&& 31).toUInt32).toInt32) &&& (255 : Int32))), .val (.int (((Int32.toUInt32 qf >>> ((24 : Int32) &&& 31).toUInt32).toInt32) &&& (255 : Int32)))]) rfl k) ?_
        show Go _ _ _ _ _ _ _ (T36.setTop (mkF m 149 #[.val (.int qx), .val (.int qf), .val (.int cp), .val (.ref b2), .val (.int (3 : Int32)), .val (.int (3 : Int32)), .val (.int ((224 : Int32) ||| (cp >>> ((12 : Int32) &&& 31)))), .val (.int ((128 : Int32) ||| ((cp >>> ((6 : Int32) &&& 31)) &&& (63 : Int32)))), .val (.int (((Int32.toUInt32 qf >>> ((16 : Int32) &&& 31).toUInt32).toInt32) &&& (255 : Int32))), .val (.int (((Int32.toUInt32 qf >>> ((24 : Int32) &&& 31).toUInt32).toInt32) &&& (255 : Int32)))] []))
        refine Go.step (fun _ k => XS.sipush X36.here hx rfl (hb hby at_149) k) ?_
        show Go _ _ _ _ _ _ _ (T36.setTop (mkF m 152 #[.val (.int qx), .val (.int qf), .val (.int cp), .val (.ref b2), .val (.int (3 : Int32)), .val (.int (3 : Int32)), .val (.int ((224 : Int32) ||| (cp >>> ((12 : Int32) &&& 31)))), .val (.int ((128 : Int32) ||| ((cp >>> ((6 : Int32) &&& 31)) &&& (63 : Int32)))), .val (.int (((Int32.toUInt32 qf >>> ((16 : Int32) &&& 31).toUInt32).toInt32) &&& (255 : Int32))), .val (.int (((Int32.toUInt32 qf >>> ((24 : Int32) &&& 31).toUInt32).toInt32) &&& (255 : Int32)))] [(.int (128 : Int32))]))
        refine Go.step (fun _ k => XS.iloadN X36.here hx rfl (hb hby at_152) rfl  k) ?_
        show Go _ _ _ _ _ _ _ (T36.setTop (mkF m 153 #[.val (.int qx), .val (.int qf), .val (.int cp), .val (.ref b2), .val (.int (3 : Int32)), .val (.int (3 : Int32)), .val (.int ((224 : Int32) ||| (cp >>> ((12 : Int32) &&& 31)))), .val (.int ((128 : Int32) ||| ((cp >>> ((6 : Int32) &&& 31)) &&& (63 : Int32)))), .val (.int (((Int32.toUInt32 qf >>> ((16 : Int32) &&& 31).toUInt32).toInt32) &&& (255 : Int32))), .val (.int (((Int32.toUInt32 qf >>> ((24 : Int32) &&& 31).toUInt32).toInt32) &&& (255 : Int32)))] [(.int cp), (.int (128 : Int32))]))
        refine Go.step (fun _ k => XS.bipush X36.here hx rfl (hb hby at_153) k) ?_
        show Go _ _ _ _ _ _ _ (T36.setTop (mkF m 155 #[.val (.int qx), .val (.int qf), .val (.int cp), .val (.ref b2), .val (.int (3 : Int32)), .val (.int (3 : Int32)), .val (.int ((224 : Int32) ||| (cp >>> ((12 : Int32) &&& 31)))), .val (.int ((128 : Int32) ||| ((cp >>> ((6 : Int32) &&& 31)) &&& (63 : Int32)))), .val (.int (((Int32.toUInt32 qf >>> ((16 : Int32) &&& 31).toUInt32).toInt32) &&& (255 : Int32))), .val (.int (((Int32.toUInt32 qf >>> ((24 : Int32) &&& 31).toUInt32).toInt32) &&& (255 : Int32)))] [(.int (63 : Int32)), (.int cp), (.int (128 : Int32))]))
        refine Go.step (fun _ k => XS.iand X36.here hx rfl (hb hby at_155) rfl k) ?_
        show Go _ _ _ _ _ _ _ (T36.setTop (mkF m 156 #[.val (.int qx), .val (.int qf), .val (.int cp), .val (.ref b2), .val (.int (3 : Int32)), .val (.int (3 : Int32)), .val (.int ((224 : Int32) ||| (cp >>> ((12 : Int32) &&& 31)))), .val (.int ((128 : Int32) ||| ((cp >>> ((6 : Int32) &&& 31)) &&& (63 : Int32)))), .val (.int (((Int32.toUInt32 qf >>> ((16 : Int32) &&& 31).toUInt32).toInt32) &&& (255 : Int32))), .val (.int (((Int32.toUInt32 qf >>> ((24 : Int32) &&& 31).toUInt32).toInt32) &&& (255 : Int32)))] [(.int (cp &&& (63 : Int32))), (.int (128 : Int32))]))
        refine Go.step (fun _ k => XS.ior X36.here hx rfl (hb hby at_156) rfl k) ?_
        show Go _ _ _ _ _ _ _ (T36.setTop (mkF m 157 #[.val (.int qx), .val (.int qf), .val (.int cp), .val (.ref b2), .val (.int (3 : Int32)), .val (.int (3 : Int32)), .val (.int ((224 : Int32) ||| (cp >>> ((12 : Int32) &&& 31)))), .val (.int ((128 : Int32) ||| ((cp >>> ((6 : Int32) &&& 31)) &&& (63 : Int32)))), .val (.int (((Int32.toUInt32 qf >>> ((16 : Int32) &&& 31).toUInt32).toInt32) &&& (255 : Int32))), .val (.int (((Int32.toUInt32 qf >>> ((24 : Int32) &&& 31).toUInt32).toInt32) &&& (255 : Int32)))] [(.int ((128 : Int32) ||| (cp &&& (63 : Int32))))]))
        refine Go.step (fun _ k => XS.istore X36.here hx rfl (hb hby at_157) rfl (l' := #[.val (.int qx), .val (.int qf), .val (.int cp), .val (.ref b2), .val (.int (3 : Int32)), .val (.int (3 : Int32)), .val (.int ((224 : Int32) ||| (cp >>> ((12 : Int32) &&& 31)))), .val (.int ((128 : Int32) ||| ((cp >>> ((6 : Int32) &&& 31)) &&& (63 : Int32)))), .val (.int ((128 : Int32) ||| (cp &&& (63 : Int32)))), .val (.int (((Int32.toUInt32 qf >>> ((24 : Int32) &&& 31).toUInt32).toInt32) &&& (255 : Int32)))]) rfl k) ?_
        show Go _ _ _ _ _ _ _ (T36.setTop (mkF m 159 #[.val (.int qx), .val (.int qf), .val (.int cp), .val (.ref b2), .val (.int (3 : Int32)), .val (.int (3 : Int32)), .val (.int ((224 : Int32) ||| (cp >>> ((12 : Int32) &&& 31)))), .val (.int ((128 : Int32) ||| ((cp >>> ((6 : Int32) &&& 31)) &&& (63 : Int32)))), .val (.int ((128 : Int32) ||| (cp &&& (63 : Int32)))), .val (.int (((Int32.toUInt32 qf >>> ((24 : Int32) &&& 31).toUInt32).toInt32) &&& (255 : Int32)))] []))
        refine Go.step (fun _ k => XS.goto X36.here hx rfl (pc0 := 159) (pc' := 211) rfl (hb hby at_159) (by decide) (by decide) k) ?_
        show Go _ _ _ _ _ _ _ (T36.setTop (mkF m 211 #[.val (.int qx), .val (.int qf), .val (.int cp), .val (.ref b2), .val (.int (3 : Int32)), .val (.int (3 : Int32)), .val (.int ((224 : Int32) ||| (cp >>> ((12 : Int32) &&& 31)))), .val (.int ((128 : Int32) ||| ((cp >>> ((6 : Int32) &&& 31)) &&& (63 : Int32)))), .val (.int ((128 : Int32) ||| (cp &&& (63 : Int32)))), .val (.int (((Int32.toUInt32 qf >>> ((24 : Int32) &&& 31).toUInt32).toInt32) &&& (255 : Int32)))] []))
        refine Go.step (fun _ k => XS.iload X36.here hx rfl (hb hby at_211) rfl  k) ?_
        show Go _ _ _ _ _ _ _ (T36.setTop (mkF m 213 #[.val (.int qx), .val (.int qf), .val (.int cp), .val (.ref b2), .val (.int (3 : Int32)), .val (.int (3 : Int32)), .val (.int ((224 : Int32) ||| (cp >>> ((12 : Int32) &&& 31)))), .val (.int ((128 : Int32) ||| ((cp >>> ((6 : Int32) &&& 31)) &&& (63 : Int32)))), .val (.int ((128 : Int32) ||| (cp &&& (63 : Int32)))), .val (.int (((Int32.toUInt32 qf >>> ((24 : Int32) &&& 31).toUInt32).toInt32) &&& (255 : Int32)))] [(.int (3 : Int32))]))
        refine Go.step (fun _ k => XS.iload X36.here hx rfl (hb hby at_213) rfl  k) ?_
        show Go _ _ _ _ _ _ _ (T36.setTop (mkF m 215 #[.val (.int qx), .val (.int qf), .val (.int cp), .val (.ref b2), .val (.int (3 : Int32)), .val (.int (3 : Int32)), .val (.int ((224 : Int32) ||| (cp >>> ((12 : Int32) &&& 31)))), .val (.int ((128 : Int32) ||| ((cp >>> ((6 : Int32) &&& 31)) &&& (63 : Int32)))), .val (.int ((128 : Int32) ||| (cp &&& (63 : Int32)))), .val (.int (((Int32.toUInt32 qf >>> ((24 : Int32) &&& 31).toUInt32).toInt32) &&& (255 : Int32)))] [(.int (3 : Int32)), (.int (3 : Int32))]))
        have hc215 : (3 : Int32) = (3 : Int32) := by decide
        refine Go.step (fun _ k => XS.icmpNo X36.here hx rfl (hb hby at_215) rfl (teq hc215).2 k) ?_
        show Go _ _ _ _ _ _ _ (T36.setTop (mkF m 218 #[.val (.int qx), .val (.int qf), .val (.int cp), .val (.ref b2), .val (.int (3 : Int32)), .val (.int (3 : Int32)), .val (.int ((224 : Int32) ||| (cp >>> ((12 : Int32) &&& 31)))), .val (.int ((128 : Int32) ||| ((cp >>> ((6 : Int32) &&& 31)) &&& (63 : Int32)))), .val (.int ((128 : Int32) ||| (cp &&& (63 : Int32)))), .val (.int (((Int32.toUInt32 qf >>> ((24 : Int32) &&& 31).toUInt32).toInt32) &&& (255 : Int32)))] []))
        refine Go.step (fun _ k => XS.aloadN X36.here hx rfl (hb hby at_218) rfl rfl  k) ?_
        show Go _ _ _ _ _ _ _ (T36.setTop (mkF m 219 #[.val (.int qx), .val (.int qf), .val (.int cp), .val (.ref b2), .val (.int (3 : Int32)), .val (.int (3 : Int32)), .val (.int ((224 : Int32) ||| (cp >>> ((12 : Int32) &&& 31)))), .val (.int ((128 : Int32) ||| ((cp >>> ((6 : Int32) &&& 31)) &&& (63 : Int32)))), .val (.int ((128 : Int32) ||| (cp &&& (63 : Int32)))), .val (.int (((Int32.toUInt32 qf >>> ((24 : Int32) &&& 31).toUInt32).toInt32) &&& (255 : Int32)))] [(.ref b2)]))
        refine Go.step (fun _ k => XS.iconst X36.here hx rfl (hb hby at_219) k) ?_
        show Go _ _ _ _ _ _ _ (T36.setTop (mkF m 220 #[.val (.int qx), .val (.int qf), .val (.int cp), .val (.ref b2), .val (.int (3 : Int32)), .val (.int (3 : Int32)), .val (.int ((224 : Int32) ||| (cp >>> ((12 : Int32) &&& 31)))), .val (.int ((128 : Int32) ||| ((cp >>> ((6 : Int32) &&& 31)) &&& (63 : Int32)))), .val (.int ((128 : Int32) ||| (cp &&& (63 : Int32)))), .val (.int (((Int32.toUInt32 qf >>> ((24 : Int32) &&& 31).toUInt32).toInt32) &&& (255 : Int32)))] [(.int (0 : Int32)), (.ref b2)]))
        have lo39 : ¬ (0 : Int32) < 0 := (by decide)
        have hi39 : (0 : Int32) < (4 : Int32) := (by decide)
        refine Go.step (Ai.baload X36 hx hZ rfl c36_0 (j := (0 : Int32)) lo39 hi39 (g := (mkF m 220 #[.val (.int qx), .val (.int qf), .val (.int cp), .val (.ref b2), .val (.int (3 : Int32)), .val (.int (3 : Int32)), .val (.int ((224 : Int32) ||| (cp >>> ((12 : Int32) &&& 31)))), .val (.int ((128 : Int32) ||| ((cp >>> ((6 : Int32) &&& 31)) &&& (63 : Int32)))), .val (.int ((128 : Int32) ||| (cp &&& (63 : Int32)))), .val (.int (((Int32.toUInt32 qf >>> ((24 : Int32) &&& 31).toUInt32).toInt32) &&& (255 : Int32)))] [(.int (0 : Int32)), (.ref b2)])) rfl rfl (hb hby at_220)) ?_
        show Go _ _ _ _ _ _ _ (T36.setTop (mkF m 221 #[.val (.int qx), .val (.int qf), .val (.int cp), .val (.ref b2), .val (.int (3 : Int32)), .val (.int (3 : Int32)), .val (.int ((224 : Int32) ||| (cp >>> ((12 : Int32) &&& 31)))), .val (.int ((128 : Int32) ||| ((cp >>> ((6 : Int32) &&& 31)) &&& (63 : Int32)))), .val (.int ((128 : Int32) ||| (cp &&& (63 : Int32)))), .val (.int (((Int32.toUInt32 qf >>> ((24 : Int32) &&& 31).toUInt32).toInt32) &&& (255 : Int32)))] [(.int (F2_36 (0 : Int32)))]))
        refine Go.step (fun _ k => XS.sipush X36.here hx rfl (hb hby at_221) k) ?_
        show Go _ _ _ _ _ _ _ (T36.setTop (mkF m 224 #[.val (.int qx), .val (.int qf), .val (.int cp), .val (.ref b2), .val (.int (3 : Int32)), .val (.int (3 : Int32)), .val (.int ((224 : Int32) ||| (cp >>> ((12 : Int32) &&& 31)))), .val (.int ((128 : Int32) ||| ((cp >>> ((6 : Int32) &&& 31)) &&& (63 : Int32)))), .val (.int ((128 : Int32) ||| (cp &&& (63 : Int32)))), .val (.int (((Int32.toUInt32 qf >>> ((24 : Int32) &&& 31).toUInt32).toInt32) &&& (255 : Int32)))] [(.int (255 : Int32)), (.int (F2_36 (0 : Int32)))]))
        refine Go.step (fun _ k => XS.iand X36.here hx rfl (hb hby at_224) rfl k) ?_
        show Go _ _ _ _ _ _ _ (T36.setTop (mkF m 225 #[.val (.int qx), .val (.int qf), .val (.int cp), .val (.ref b2), .val (.int (3 : Int32)), .val (.int (3 : Int32)), .val (.int ((224 : Int32) ||| (cp >>> ((12 : Int32) &&& 31)))), .val (.int ((128 : Int32) ||| ((cp >>> ((6 : Int32) &&& 31)) &&& (63 : Int32)))), .val (.int ((128 : Int32) ||| (cp &&& (63 : Int32)))), .val (.int (((Int32.toUInt32 qf >>> ((24 : Int32) &&& 31).toUInt32).toInt32) &&& (255 : Int32)))] [(.int ((F2_36 (0 : Int32)) &&& (255 : Int32)))]))
        refine Go.step (fun _ k => XS.iload X36.here hx rfl (hb hby at_225) rfl  k) ?_
        show Go _ _ _ _ _ _ _ (T36.setTop (mkF m 227 #[.val (.int qx), .val (.int qf), .val (.int cp), .val (.ref b2), .val (.int (3 : Int32)), .val (.int (3 : Int32)), .val (.int ((224 : Int32) ||| (cp >>> ((12 : Int32) &&& 31)))), .val (.int ((128 : Int32) ||| ((cp >>> ((6 : Int32) &&& 31)) &&& (63 : Int32)))), .val (.int ((128 : Int32) ||| (cp &&& (63 : Int32)))), .val (.int (((Int32.toUInt32 qf >>> ((24 : Int32) &&& 31).toUInt32).toInt32) &&& (255 : Int32)))] [(.int ((224 : Int32) ||| (cp >>> ((12 : Int32) &&& 31)))), (.int ((F2_36 (0 : Int32)) &&& (255 : Int32)))]))
        have hc227 : ((F2_36 (0 : Int32)) &&& (255 : Int32)) = ((224 : Int32) ||| (cp >>> ((12 : Int32) &&& 31))) := by rw [u36_0]; exact own_h3 hcp0 (own_lt3 hsB)
        refine Go.step (fun _ k => XS.icmpNo X36.here hx rfl (hb hby at_227) rfl (teq hc227).2 k) ?_
        show Go _ _ _ _ _ _ _ (T36.setTop (mkF m 230 #[.val (.int qx), .val (.int qf), .val (.int cp), .val (.ref b2), .val (.int (3 : Int32)), .val (.int (3 : Int32)), .val (.int ((224 : Int32) ||| (cp >>> ((12 : Int32) &&& 31)))), .val (.int ((128 : Int32) ||| ((cp >>> ((6 : Int32) &&& 31)) &&& (63 : Int32)))), .val (.int ((128 : Int32) ||| (cp &&& (63 : Int32)))), .val (.int (((Int32.toUInt32 qf >>> ((24 : Int32) &&& 31).toUInt32).toInt32) &&& (255 : Int32)))] []))
        refine Go.step (fun _ k => XS.aloadN X36.here hx rfl (hb hby at_230) rfl rfl  k) ?_
        show Go _ _ _ _ _ _ _ (T36.setTop (mkF m 231 #[.val (.int qx), .val (.int qf), .val (.int cp), .val (.ref b2), .val (.int (3 : Int32)), .val (.int (3 : Int32)), .val (.int ((224 : Int32) ||| (cp >>> ((12 : Int32) &&& 31)))), .val (.int ((128 : Int32) ||| ((cp >>> ((6 : Int32) &&& 31)) &&& (63 : Int32)))), .val (.int ((128 : Int32) ||| (cp &&& (63 : Int32)))), .val (.int (((Int32.toUInt32 qf >>> ((24 : Int32) &&& 31).toUInt32).toInt32) &&& (255 : Int32)))] [(.ref b2)]))
        refine Go.step (fun _ k => XS.iconst X36.here hx rfl (hb hby at_231) k) ?_
        show Go _ _ _ _ _ _ _ (T36.setTop (mkF m 232 #[.val (.int qx), .val (.int qf), .val (.int cp), .val (.ref b2), .val (.int (3 : Int32)), .val (.int (3 : Int32)), .val (.int ((224 : Int32) ||| (cp >>> ((12 : Int32) &&& 31)))), .val (.int ((128 : Int32) ||| ((cp >>> ((6 : Int32) &&& 31)) &&& (63 : Int32)))), .val (.int ((128 : Int32) ||| (cp &&& (63 : Int32)))), .val (.int (((Int32.toUInt32 qf >>> ((24 : Int32) &&& 31).toUInt32).toInt32) &&& (255 : Int32)))] [(.int (1 : Int32)), (.ref b2)]))
        have lo40 : ¬ (1 : Int32) < 0 := (by decide)
        have hi40 : (1 : Int32) < (4 : Int32) := (by decide)
        refine Go.step (Ai.baload X36 hx hZ rfl c36_0 (j := (1 : Int32)) lo40 hi40 (g := (mkF m 232 #[.val (.int qx), .val (.int qf), .val (.int cp), .val (.ref b2), .val (.int (3 : Int32)), .val (.int (3 : Int32)), .val (.int ((224 : Int32) ||| (cp >>> ((12 : Int32) &&& 31)))), .val (.int ((128 : Int32) ||| ((cp >>> ((6 : Int32) &&& 31)) &&& (63 : Int32)))), .val (.int ((128 : Int32) ||| (cp &&& (63 : Int32)))), .val (.int (((Int32.toUInt32 qf >>> ((24 : Int32) &&& 31).toUInt32).toInt32) &&& (255 : Int32)))] [(.int (1 : Int32)), (.ref b2)])) rfl rfl (hb hby at_232)) ?_
        show Go _ _ _ _ _ _ _ (T36.setTop (mkF m 233 #[.val (.int qx), .val (.int qf), .val (.int cp), .val (.ref b2), .val (.int (3 : Int32)), .val (.int (3 : Int32)), .val (.int ((224 : Int32) ||| (cp >>> ((12 : Int32) &&& 31)))), .val (.int ((128 : Int32) ||| ((cp >>> ((6 : Int32) &&& 31)) &&& (63 : Int32)))), .val (.int ((128 : Int32) ||| (cp &&& (63 : Int32)))), .val (.int (((Int32.toUInt32 qf >>> ((24 : Int32) &&& 31).toUInt32).toInt32) &&& (255 : Int32)))] [(.int (F2_36 (1 : Int32)))]))
        refine Go.step (fun _ k => XS.sipush X36.here hx rfl (hb hby at_233) k) ?_
        show Go _ _ _ _ _ _ _ (T36.setTop (mkF m 236 #[.val (.int qx), .val (.int qf), .val (.int cp), .val (.ref b2), .val (.int (3 : Int32)), .val (.int (3 : Int32)), .val (.int ((224 : Int32) ||| (cp >>> ((12 : Int32) &&& 31)))), .val (.int ((128 : Int32) ||| ((cp >>> ((6 : Int32) &&& 31)) &&& (63 : Int32)))), .val (.int ((128 : Int32) ||| (cp &&& (63 : Int32)))), .val (.int (((Int32.toUInt32 qf >>> ((24 : Int32) &&& 31).toUInt32).toInt32) &&& (255 : Int32)))] [(.int (255 : Int32)), (.int (F2_36 (1 : Int32)))]))
        refine Go.step (fun _ k => XS.iand X36.here hx rfl (hb hby at_236) rfl k) ?_
        show Go _ _ _ _ _ _ _ (T36.setTop (mkF m 237 #[.val (.int qx), .val (.int qf), .val (.int cp), .val (.ref b2), .val (.int (3 : Int32)), .val (.int (3 : Int32)), .val (.int ((224 : Int32) ||| (cp >>> ((12 : Int32) &&& 31)))), .val (.int ((128 : Int32) ||| ((cp >>> ((6 : Int32) &&& 31)) &&& (63 : Int32)))), .val (.int ((128 : Int32) ||| (cp &&& (63 : Int32)))), .val (.int (((Int32.toUInt32 qf >>> ((24 : Int32) &&& 31).toUInt32).toInt32) &&& (255 : Int32)))] [(.int ((F2_36 (1 : Int32)) &&& (255 : Int32)))]))
        refine Go.step (fun _ k => XS.iload X36.here hx rfl (hb hby at_237) rfl  k) ?_
        show Go _ _ _ _ _ _ _ (T36.setTop (mkF m 239 #[.val (.int qx), .val (.int qf), .val (.int cp), .val (.ref b2), .val (.int (3 : Int32)), .val (.int (3 : Int32)), .val (.int ((224 : Int32) ||| (cp >>> ((12 : Int32) &&& 31)))), .val (.int ((128 : Int32) ||| ((cp >>> ((6 : Int32) &&& 31)) &&& (63 : Int32)))), .val (.int ((128 : Int32) ||| (cp &&& (63 : Int32)))), .val (.int (((Int32.toUInt32 qf >>> ((24 : Int32) &&& 31).toUInt32).toInt32) &&& (255 : Int32)))] [(.int ((128 : Int32) ||| ((cp >>> ((6 : Int32) &&& 31)) &&& (63 : Int32)))), (.int ((F2_36 (1 : Int32)) &&& (255 : Int32)))]))
        have hc239 : ((F2_36 (1 : Int32)) &&& (255 : Int32)) = ((128 : Int32) ||| ((cp >>> ((6 : Int32) &&& 31)) &&& (63 : Int32))) := by rw [u36_1]; exact own_t1 hcp0
        refine Go.step (fun _ k => XS.icmpNo X36.here hx rfl (hb hby at_239) rfl (teq hc239).2 k) ?_
        show Go _ _ _ _ _ _ _ (T36.setTop (mkF m 242 #[.val (.int qx), .val (.int qf), .val (.int cp), .val (.ref b2), .val (.int (3 : Int32)), .val (.int (3 : Int32)), .val (.int ((224 : Int32) ||| (cp >>> ((12 : Int32) &&& 31)))), .val (.int ((128 : Int32) ||| ((cp >>> ((6 : Int32) &&& 31)) &&& (63 : Int32)))), .val (.int ((128 : Int32) ||| (cp &&& (63 : Int32)))), .val (.int (((Int32.toUInt32 qf >>> ((24 : Int32) &&& 31).toUInt32).toInt32) &&& (255 : Int32)))] []))
        refine Go.step (fun _ k => XS.aloadN X36.here hx rfl (hb hby at_242) rfl rfl  k) ?_
        show Go _ _ _ _ _ _ _ (T36.setTop (mkF m 243 #[.val (.int qx), .val (.int qf), .val (.int cp), .val (.ref b2), .val (.int (3 : Int32)), .val (.int (3 : Int32)), .val (.int ((224 : Int32) ||| (cp >>> ((12 : Int32) &&& 31)))), .val (.int ((128 : Int32) ||| ((cp >>> ((6 : Int32) &&& 31)) &&& (63 : Int32)))), .val (.int ((128 : Int32) ||| (cp &&& (63 : Int32)))), .val (.int (((Int32.toUInt32 qf >>> ((24 : Int32) &&& 31).toUInt32).toInt32) &&& (255 : Int32)))] [(.ref b2)]))
        refine Go.step (fun _ k => XS.iconst X36.here hx rfl (hb hby at_243) k) ?_
        show Go _ _ _ _ _ _ _ (T36.setTop (mkF m 244 #[.val (.int qx), .val (.int qf), .val (.int cp), .val (.ref b2), .val (.int (3 : Int32)), .val (.int (3 : Int32)), .val (.int ((224 : Int32) ||| (cp >>> ((12 : Int32) &&& 31)))), .val (.int ((128 : Int32) ||| ((cp >>> ((6 : Int32) &&& 31)) &&& (63 : Int32)))), .val (.int ((128 : Int32) ||| (cp &&& (63 : Int32)))), .val (.int (((Int32.toUInt32 qf >>> ((24 : Int32) &&& 31).toUInt32).toInt32) &&& (255 : Int32)))] [(.int (2 : Int32)), (.ref b2)]))
        have lo41 : ¬ (2 : Int32) < 0 := (by decide)
        have hi41 : (2 : Int32) < (4 : Int32) := (by decide)
        refine Go.step (Ai.baload X36 hx hZ rfl c36_0 (j := (2 : Int32)) lo41 hi41 (g := (mkF m 244 #[.val (.int qx), .val (.int qf), .val (.int cp), .val (.ref b2), .val (.int (3 : Int32)), .val (.int (3 : Int32)), .val (.int ((224 : Int32) ||| (cp >>> ((12 : Int32) &&& 31)))), .val (.int ((128 : Int32) ||| ((cp >>> ((6 : Int32) &&& 31)) &&& (63 : Int32)))), .val (.int ((128 : Int32) ||| (cp &&& (63 : Int32)))), .val (.int (((Int32.toUInt32 qf >>> ((24 : Int32) &&& 31).toUInt32).toInt32) &&& (255 : Int32)))] [(.int (2 : Int32)), (.ref b2)])) rfl rfl (hb hby at_244)) ?_
        show Go _ _ _ _ _ _ _ (T36.setTop (mkF m 245 #[.val (.int qx), .val (.int qf), .val (.int cp), .val (.ref b2), .val (.int (3 : Int32)), .val (.int (3 : Int32)), .val (.int ((224 : Int32) ||| (cp >>> ((12 : Int32) &&& 31)))), .val (.int ((128 : Int32) ||| ((cp >>> ((6 : Int32) &&& 31)) &&& (63 : Int32)))), .val (.int ((128 : Int32) ||| (cp &&& (63 : Int32)))), .val (.int (((Int32.toUInt32 qf >>> ((24 : Int32) &&& 31).toUInt32).toInt32) &&& (255 : Int32)))] [(.int (F2_36 (2 : Int32)))]))
        refine Go.step (fun _ k => XS.sipush X36.here hx rfl (hb hby at_245) k) ?_
        show Go _ _ _ _ _ _ _ (T36.setTop (mkF m 248 #[.val (.int qx), .val (.int qf), .val (.int cp), .val (.ref b2), .val (.int (3 : Int32)), .val (.int (3 : Int32)), .val (.int ((224 : Int32) ||| (cp >>> ((12 : Int32) &&& 31)))), .val (.int ((128 : Int32) ||| ((cp >>> ((6 : Int32) &&& 31)) &&& (63 : Int32)))), .val (.int ((128 : Int32) ||| (cp &&& (63 : Int32)))), .val (.int (((Int32.toUInt32 qf >>> ((24 : Int32) &&& 31).toUInt32).toInt32) &&& (255 : Int32)))] [(.int (255 : Int32)), (.int (F2_36 (2 : Int32)))]))
        refine Go.step (fun _ k => XS.iand X36.here hx rfl (hb hby at_248) rfl k) ?_
        show Go _ _ _ _ _ _ _ (T36.setTop (mkF m 249 #[.val (.int qx), .val (.int qf), .val (.int cp), .val (.ref b2), .val (.int (3 : Int32)), .val (.int (3 : Int32)), .val (.int ((224 : Int32) ||| (cp >>> ((12 : Int32) &&& 31)))), .val (.int ((128 : Int32) ||| ((cp >>> ((6 : Int32) &&& 31)) &&& (63 : Int32)))), .val (.int ((128 : Int32) ||| (cp &&& (63 : Int32)))), .val (.int (((Int32.toUInt32 qf >>> ((24 : Int32) &&& 31).toUInt32).toInt32) &&& (255 : Int32)))] [(.int ((F2_36 (2 : Int32)) &&& (255 : Int32)))]))
        refine Go.step (fun _ k => XS.iload X36.here hx rfl (hb hby at_249) rfl  k) ?_
        show Go _ _ _ _ _ _ _ (T36.setTop (mkF m 251 #[.val (.int qx), .val (.int qf), .val (.int cp), .val (.ref b2), .val (.int (3 : Int32)), .val (.int (3 : Int32)), .val (.int ((224 : Int32) ||| (cp >>> ((12 : Int32) &&& 31)))), .val (.int ((128 : Int32) ||| ((cp >>> ((6 : Int32) &&& 31)) &&& (63 : Int32)))), .val (.int ((128 : Int32) ||| (cp &&& (63 : Int32)))), .val (.int (((Int32.toUInt32 qf >>> ((24 : Int32) &&& 31).toUInt32).toInt32) &&& (255 : Int32)))] [(.int ((128 : Int32) ||| (cp &&& (63 : Int32)))), (.int ((F2_36 (2 : Int32)) &&& (255 : Int32)))]))
        have hc251 : ((F2_36 (2 : Int32)) &&& (255 : Int32)) = ((128 : Int32) ||| (cp &&& (63 : Int32))) := by rw [u36_2]; exact own_t0 cp
        refine Go.step (fun _ k => XS.icmpNo X36.here hx rfl (hb hby at_251) rfl (teq hc251).2 k) ?_
        show Go _ _ _ _ _ _ _ (T36.setTop (mkF m 254 #[.val (.int qx), .val (.int qf), .val (.int cp), .val (.ref b2), .val (.int (3 : Int32)), .val (.int (3 : Int32)), .val (.int ((224 : Int32) ||| (cp >>> ((12 : Int32) &&& 31)))), .val (.int ((128 : Int32) ||| ((cp >>> ((6 : Int32) &&& 31)) &&& (63 : Int32)))), .val (.int ((128 : Int32) ||| (cp &&& (63 : Int32)))), .val (.int (((Int32.toUInt32 qf >>> ((24 : Int32) &&& 31).toUInt32).toInt32) &&& (255 : Int32)))] []))
        refine Go.step (fun _ k => XS.aloadN X36.here hx rfl (hb hby at_254) rfl rfl  k) ?_
        show Go _ _ _ _ _ _ _ (T36.setTop (mkF m 255 #[.val (.int qx), .val (.int qf), .val (.int cp), .val (.ref b2), .val (.int (3 : Int32)), .val (.int (3 : Int32)), .val (.int ((224 : Int32) ||| (cp >>> ((12 : Int32) &&& 31)))), .val (.int ((128 : Int32) ||| ((cp >>> ((6 : Int32) &&& 31)) &&& (63 : Int32)))), .val (.int ((128 : Int32) ||| (cp &&& (63 : Int32)))), .val (.int (((Int32.toUInt32 qf >>> ((24 : Int32) &&& 31).toUInt32).toInt32) &&& (255 : Int32)))] [(.ref b2)]))
        refine Go.step (fun _ k => XS.iconst X36.here hx rfl (hb hby at_255) k) ?_
        show Go _ _ _ _ _ _ _ (T36.setTop (mkF m 256 #[.val (.int qx), .val (.int qf), .val (.int cp), .val (.ref b2), .val (.int (3 : Int32)), .val (.int (3 : Int32)), .val (.int ((224 : Int32) ||| (cp >>> ((12 : Int32) &&& 31)))), .val (.int ((128 : Int32) ||| ((cp >>> ((6 : Int32) &&& 31)) &&& (63 : Int32)))), .val (.int ((128 : Int32) ||| (cp &&& (63 : Int32)))), .val (.int (((Int32.toUInt32 qf >>> ((24 : Int32) &&& 31).toUInt32).toInt32) &&& (255 : Int32)))] [(.int (3 : Int32)), (.ref b2)]))
        have lo42 : ¬ (3 : Int32) < 0 := (by decide)
        have hi42 : (3 : Int32) < (4 : Int32) := (by decide)
        refine Go.step (Ai.baload X36 hx hZ rfl c36_0 (j := (3 : Int32)) lo42 hi42 (g := (mkF m 256 #[.val (.int qx), .val (.int qf), .val (.int cp), .val (.ref b2), .val (.int (3 : Int32)), .val (.int (3 : Int32)), .val (.int ((224 : Int32) ||| (cp >>> ((12 : Int32) &&& 31)))), .val (.int ((128 : Int32) ||| ((cp >>> ((6 : Int32) &&& 31)) &&& (63 : Int32)))), .val (.int ((128 : Int32) ||| (cp &&& (63 : Int32)))), .val (.int (((Int32.toUInt32 qf >>> ((24 : Int32) &&& 31).toUInt32).toInt32) &&& (255 : Int32)))] [(.int (3 : Int32)), (.ref b2)])) rfl rfl (hb hby at_256)) ?_
        show Go _ _ _ _ _ _ _ (T36.setTop (mkF m 257 #[.val (.int qx), .val (.int qf), .val (.int cp), .val (.ref b2), .val (.int (3 : Int32)), .val (.int (3 : Int32)), .val (.int ((224 : Int32) ||| (cp >>> ((12 : Int32) &&& 31)))), .val (.int ((128 : Int32) ||| ((cp >>> ((6 : Int32) &&& 31)) &&& (63 : Int32)))), .val (.int ((128 : Int32) ||| (cp &&& (63 : Int32)))), .val (.int (((Int32.toUInt32 qf >>> ((24 : Int32) &&& 31).toUInt32).toInt32) &&& (255 : Int32)))] [(.int (F2_36 (3 : Int32)))]))
        refine Go.step (fun _ k => XS.sipush X36.here hx rfl (hb hby at_257) k) ?_
        show Go _ _ _ _ _ _ _ (T36.setTop (mkF m 260 #[.val (.int qx), .val (.int qf), .val (.int cp), .val (.ref b2), .val (.int (3 : Int32)), .val (.int (3 : Int32)), .val (.int ((224 : Int32) ||| (cp >>> ((12 : Int32) &&& 31)))), .val (.int ((128 : Int32) ||| ((cp >>> ((6 : Int32) &&& 31)) &&& (63 : Int32)))), .val (.int ((128 : Int32) ||| (cp &&& (63 : Int32)))), .val (.int (((Int32.toUInt32 qf >>> ((24 : Int32) &&& 31).toUInt32).toInt32) &&& (255 : Int32)))] [(.int (255 : Int32)), (.int (F2_36 (3 : Int32)))]))
        refine Go.step (fun _ k => XS.iand X36.here hx rfl (hb hby at_260) rfl k) ?_
        show Go _ _ _ _ _ _ _ (T36.setTop (mkF m 261 #[.val (.int qx), .val (.int qf), .val (.int cp), .val (.ref b2), .val (.int (3 : Int32)), .val (.int (3 : Int32)), .val (.int ((224 : Int32) ||| (cp >>> ((12 : Int32) &&& 31)))), .val (.int ((128 : Int32) ||| ((cp >>> ((6 : Int32) &&& 31)) &&& (63 : Int32)))), .val (.int ((128 : Int32) ||| (cp &&& (63 : Int32)))), .val (.int (((Int32.toUInt32 qf >>> ((24 : Int32) &&& 31).toUInt32).toInt32) &&& (255 : Int32)))] [(.int ((F2_36 (3 : Int32)) &&& (255 : Int32)))]))
        refine Go.step (fun _ k => XS.iload X36.here hx rfl (hb hby at_261) rfl  k) ?_
        show Go _ _ _ _ _ _ _ (T36.setTop (mkF m 263 #[.val (.int qx), .val (.int qf), .val (.int cp), .val (.ref b2), .val (.int (3 : Int32)), .val (.int (3 : Int32)), .val (.int ((224 : Int32) ||| (cp >>> ((12 : Int32) &&& 31)))), .val (.int ((128 : Int32) ||| ((cp >>> ((6 : Int32) &&& 31)) &&& (63 : Int32)))), .val (.int ((128 : Int32) ||| (cp &&& (63 : Int32)))), .val (.int (((Int32.toUInt32 qf >>> ((24 : Int32) &&& 31).toUInt32).toInt32) &&& (255 : Int32)))] [(.int (((Int32.toUInt32 qf >>> ((24 : Int32) &&& 31).toUInt32).toInt32) &&& (255 : Int32))), (.int ((F2_36 (3 : Int32)) &&& (255 : Int32)))]))
        have hc263 : ((F2_36 (3 : Int32)) &&& (255 : Int32)) = (((Int32.toUInt32 qf >>> ((24 : Int32) &&& 31).toUInt32).toInt32) &&& (255 : Int32)) := by rw [u36_3, hf3]; exact own_m8 _
        refine Go.step (fun _ k => XS.icmpNo X36.here hx rfl (hb hby at_263) rfl (teq hc263).2 k) ?_
        show Go _ _ _ _ _ _ _ (T36.setTop (mkF m 266 #[.val (.int qx), .val (.int qf), .val (.int cp), .val (.ref b2), .val (.int (3 : Int32)), .val (.int (3 : Int32)), .val (.int ((224 : Int32) ||| (cp >>> ((12 : Int32) &&& 31)))), .val (.int ((128 : Int32) ||| ((cp >>> ((6 : Int32) &&& 31)) &&& (63 : Int32)))), .val (.int ((128 : Int32) ||| (cp &&& (63 : Int32)))), .val (.int (((Int32.toUInt32 qf >>> ((24 : Int32) &&& 31).toUInt32).toInt32) &&& (255 : Int32)))] []))
        refine Go.step (fun _ k => XS.iconst X36.here hx rfl (hb hby at_266) k) ?_
        show Go _ _ _ _ _ _ _ (T36.setTop (mkF m 267 #[.val (.int qx), .val (.int qf), .val (.int cp), .val (.ref b2), .val (.int (3 : Int32)), .val (.int (3 : Int32)), .val (.int ((224 : Int32) ||| (cp >>> ((12 : Int32) &&& 31)))), .val (.int ((128 : Int32) ||| ((cp >>> ((6 : Int32) &&& 31)) &&& (63 : Int32)))), .val (.int ((128 : Int32) ||| (cp &&& (63 : Int32)))), .val (.int (((Int32.toUInt32 qf >>> ((24 : Int32) &&& 31).toUInt32).toInt32) &&& (255 : Int32)))] [(.int (1 : Int32))]))
        refine Go.step (fun _ k => XS.goto X36.here hx rfl (pc0 := 267) (pc' := 271) rfl (hb hby at_267) (by decide) (by decide) k) ?_
        show Go _ _ _ _ _ _ _ (T36.setTop (mkF m 271 #[.val (.int qx), .val (.int qf), .val (.int cp), .val (.ref b2), .val (.int (3 : Int32)), .val (.int (3 : Int32)), .val (.int ((224 : Int32) ||| (cp >>> ((12 : Int32) &&& 31)))), .val (.int ((128 : Int32) ||| ((cp >>> ((6 : Int32) &&& 31)) &&& (63 : Int32)))), .val (.int ((128 : Int32) ||| (cp &&& (63 : Int32)))), .val (.int (((Int32.toUInt32 qf >>> ((24 : Int32) &&& 31).toUInt32).toInt32) &&& (255 : Int32)))] [(.int (1 : Int32))]))
        refine Go.retN X36 hx (t := .boolean) Bd.returns (by simp) hlk (hb hby at_271) ?_ (by decide) (by decide)
        exact ⟨(by first | rfl | (simp_all [own_nb1, own_nb0]; done)), N36⟩
      · skip
        show Go _ _ _ _ _ _ _ (T22.setTop (mkF m 59 #[.val (.int qx), .val (.int qf), .val (.int cp), .val (.ref b2), .unset, .unset, .unset, .unset, .unset, .unset] [(.ref b2), (.int cp)]))
        have pq43 : ¬ cp < (2048 : Int32) := hsA
        have pq44 : ¬ cp < (65536 : Int32) := hsB
        obtain ⟨_, _, ⟨T45, L45, k45, n45⟩, -, X45, ⟨Lc45, hQ45, l45, y45, z45⟩, st45⟩ := Jvm.LawKit.callS X22 hx (y := (⟨"com/example/omniform/omniform/Utf8", "encode", "(I[B)I"⟩ : MethodName)) hown (mvT hZ (hw _ (List.mem_of_getElem? (i := 4) rfl))) (mvT hZ (hw _ (List.mem_of_getElem? (i := 5) rfl))) (mvT hZ (hw _ (List.mem_of_getElem? (i := 6) rfl))) (mvT hZ (hw _ (List.mem_of_getElem? (i := 7) rfl))) (by decide) (backOf (W := 0) (rm1_4 l Z aZ hw [] cp b2 f25c h22 n0 z23 f22 gn2 pq43 pq44) hZ (hw _ (List.mem_of_getElem? (i := 7) rfl)) (hw _ (List.mem_of_getElem? (i := 6) rfl)) (by decide) (by decide)) (g := (mkF m 59 #[.val (.int qx), .val (.int qf), .val (.int cp), .val (.ref b2), .unset, .unset, .unset, .unset, .unset, .unset] [(.ref b2), (.int cp)])) rfl (by rw [hml]; rfl) (argsL := [(.int cp), (.ref b2)]) (rest := []) (lenOf pd_0 rfl) rfl (by show 2 * 0 + _ ≤ _; exact Nat.le_of_eq rfl) (hb hby at_59) (fun _ _ => ⟨rfl, e22, (by decide : 1 + 0 ≤ _), (by decide : 4 + 0 ≤ _)⟩)
        dsimp only [Pt.U, Pt.locs, Pt.cells, Pt.slots] at X45 l45 y45 z45 st45 hQ45
        subst l45 y45 z45
        obtain ⟨F2_45, rfl, Nq45, K45, c45_0, u45_0, u45_1, u45_2, u45_3⟩ := hQ45
        have N45 := Fr.app N22 Nq45
        refine Go.step st45 ?_
        have z46 : n0 ≤ T45.heap.size := Nat.le_trans z23 K45.1
        have sqz46 : h0.size ≤ T45.heap.size := Nat.le_trans sqz23 K45.1
        show Go _ _ _ _ _ _ _ (T45.setTop (mkF m 62 #[.val (.int qx), .val (.int qf), .val (.int cp), .val (.ref b2), .unset, .unset, .unset, .unset, .unset, .unset] [(.int (4 : Int32))]))
        refine Go.step (fun _ k => XS.istore X45.here hx rfl (hb hby at_62) rfl (l' := #[.val (.int qx), .val (.int qf), .val (.int cp), .val (.ref b2), .val (.int (4 : Int32)), .unset, .unset, .unset, .unset, .unset]) rfl k) ?_
        show Go _ _ _ _ _ _ _ (T45.setTop (mkF m 64 #[.val (.int qx), .val (.int qf), .val (.int cp), .val (.ref b2), .val (.int (4 : Int32)), .unset, .unset, .unset, .unset, .unset] []))
        refine Go.step (fun _ k => XS.iloadN X45.here hx rfl (hb hby at_64) rfl  k) ?_
        show Go _ _ _ _ _ _ _ (T45.setTop (mkF m 65 #[.val (.int qx), .val (.int qf), .val (.int cp), .val (.ref b2), .val (.int (4 : Int32)), .unset, .unset, .unset, .unset, .unset] [(.int qf)]))
        refine Go.step (fun _ k => XS.bipush X45.here hx rfl (hb hby at_65) k) ?_
        show Go _ _ _ _ _ _ _ (T45.setTop (mkF m 67 #[.val (.int qx), .val (.int qf), .val (.int cp), .val (.ref b2), .val (.int (4 : Int32)), .unset, .unset, .unset, .unset, .unset] [(.int (16 : Int32)), (.int qf)]))
        refine Go.step (fun _ k => XS.iushr X45.here hx rfl (hb hby at_67) rfl k) ?_
        show Go _ _ _ _ _ _ _ (T45.setTop (mkF m 68 #[.val (.int qx), .val (.int qf), .val (.int cp), .val (.ref b2), .val (.int (4 : Int32)), .unset, .unset, .unset, .unset, .unset] [(.int ((Int32.toUInt32 qf >>> ((16 : Int32) &&& 31).toUInt32).toInt32))]))
        refine Go.step (fun _ k => XS.sipush X45.here hx rfl (hb hby at_68) k) ?_
        show Go _ _ _ _ _ _ _ (T45.setTop (mkF m 71 #[.val (.int qx), .val (.int qf), .val (.int cp), .val (.ref b2), .val (.int (4 : Int32)), .unset, .unset, .unset, .unset, .unset] [(.int (255 : Int32)), (.int ((Int32.toUInt32 qf >>> ((16 : Int32) &&& 31).toUInt32).toInt32))]))
        refine Go.step (fun _ k => XS.iand X45.here hx rfl (hb hby at_71) rfl k) ?_
        show Go _ _ _ _ _ _ _ (T45.setTop (mkF m 72 #[.val (.int qx), .val (.int qf), .val (.int cp), .val (.ref b2), .val (.int (4 : Int32)), .unset, .unset, .unset, .unset, .unset] [(.int (((Int32.toUInt32 qf >>> ((16 : Int32) &&& 31).toUInt32).toInt32) &&& (255 : Int32)))]))
        refine Go.step (fun _ k => XS.istore X45.here hx rfl (hb hby at_72) rfl (l' := #[.val (.int qx), .val (.int qf), .val (.int cp), .val (.ref b2), .val (.int (4 : Int32)), .unset, .unset, .unset, .val (.int (((Int32.toUInt32 qf >>> ((16 : Int32) &&& 31).toUInt32).toInt32) &&& (255 : Int32))), .unset]) rfl k) ?_
        show Go _ _ _ _ _ _ _ (T45.setTop (mkF m 74 #[.val (.int qx), .val (.int qf), .val (.int cp), .val (.ref b2), .val (.int (4 : Int32)), .unset, .unset, .unset, .val (.int (((Int32.toUInt32 qf >>> ((16 : Int32) &&& 31).toUInt32).toInt32) &&& (255 : Int32))), .unset] []))
        refine Go.step (fun _ k => XS.iloadN X45.here hx rfl (hb hby at_74) rfl  k) ?_
        show Go _ _ _ _ _ _ _ (T45.setTop (mkF m 75 #[.val (.int qx), .val (.int qf), .val (.int cp), .val (.ref b2), .val (.int (4 : Int32)), .unset, .unset, .unset, .val (.int (((Int32.toUInt32 qf >>> ((16 : Int32) &&& 31).toUInt32).toInt32) &&& (255 : Int32))), .unset] [(.int qf)]))
        refine Go.step (fun _ k => XS.bipush X45.here hx rfl (hb hby at_75) k) ?_
        show Go _ _ _ _ _ _ _ (T45.setTop (mkF m 77 #[.val (.int qx), .val (.int qf), .val (.int cp), .val (.ref b2), .val (.int (4 : Int32)), .unset, .unset, .unset, .val (.int (((Int32.toUInt32 qf >>> ((16 : Int32) &&& 31).toUInt32).toInt32) &&& (255 : Int32))), .unset] [(.int (24 : Int32)), (.int qf)]))
        refine Go.step (fun _ k => XS.iushr X45.here hx rfl (hb hby at_77) rfl k) ?_
        show Go _ _ _ _ _ _ _ (T45.setTop (mkF m 78 #[.val (.int qx), .val (.int qf), .val (.int cp), .val (.ref b2), .val (.int (4 : Int32)), .unset, .unset, .unset, .val (.int (((Int32.toUInt32 qf >>> ((16 : Int32) &&& 31).toUInt32).toInt32) &&& (255 : Int32))), .unset] [(.int ((Int32.toUInt32 qf >>> ((24 : Int32) &&& 31).toUInt32).toInt32))]))
        refine Go.step (fun _ k => XS.sipush X45.here hx rfl (hb hby at_78) k) ?_
        show Go _ _ _ _ _ _ _ (T45.setTop (mkF m 81 #[.val (.int qx), .val (.int qf), .val (.int cp), .val (.ref b2), .val (.int (4 : Int32)), .unset, .unset, .unset, .val (.int (((Int32.toUInt32 qf >>> ((16 : Int32) &&& 31).toUInt32).toInt32) &&& (255 : Int32))), .unset] [(.int (255 : Int32)), (.int ((Int32.toUInt32 qf >>> ((24 : Int32) &&& 31).toUInt32).toInt32))]))
        refine Go.step (fun _ k => XS.iand X45.here hx rfl (hb hby at_81) rfl k) ?_
        show Go _ _ _ _ _ _ _ (T45.setTop (mkF m 82 #[.val (.int qx), .val (.int qf), .val (.int cp), .val (.ref b2), .val (.int (4 : Int32)), .unset, .unset, .unset, .val (.int (((Int32.toUInt32 qf >>> ((16 : Int32) &&& 31).toUInt32).toInt32) &&& (255 : Int32))), .unset] [(.int (((Int32.toUInt32 qf >>> ((24 : Int32) &&& 31).toUInt32).toInt32) &&& (255 : Int32)))]))
        refine Go.step (fun _ k => XS.istore X45.here hx rfl (hb hby at_82) rfl (l' := #[.val (.int qx), .val (.int qf), .val (.int cp), .val (.ref b2), .val (.int (4 : Int32)), .unset, .unset, .unset, .val (.int (((Int32.toUInt32 qf >>> ((16 : Int32) &&& 31).toUInt32).toInt32) &&& (255 : Int32))), .val (.int (((Int32.toUInt32 qf >>> ((24 : Int32) &&& 31).toUInt32).toInt32) &&& (255 : Int32)))]) rfl k) ?_
        show Go _ _ _ _ _ _ _ (T45.setTop (mkF m 84 #[.val (.int qx), .val (.int qf), .val (.int cp), .val (.ref b2), .val (.int (4 : Int32)), .unset, .unset, .unset, .val (.int (((Int32.toUInt32 qf >>> ((16 : Int32) &&& 31).toUInt32).toInt32) &&& (255 : Int32))), .val (.int (((Int32.toUInt32 qf >>> ((24 : Int32) &&& 31).toUInt32).toInt32) &&& (255 : Int32)))] []))
        refine Go.step (fun _ k => XS.iloadN X45.here hx rfl (hb hby at_84) rfl  k) ?_
        show Go _ _ _ _ _ _ _ (T45.setTop (mkF m 85 #[.val (.int qx), .val (.int qf), .val (.int cp), .val (.ref b2), .val (.int (4 : Int32)), .unset, .unset, .unset, .val (.int (((Int32.toUInt32 qf >>> ((16 : Int32) &&& 31).toUInt32).toInt32) &&& (255 : Int32))), .val (.int (((Int32.toUInt32 qf >>> ((24 : Int32) &&& 31).toUInt32).toInt32) &&& (255 : Int32)))] [(.int cp)]))
        refine Go.step (fun _ k => XS.sipush X45.here hx rfl (hb hby at_85) k) ?_
        show Go _ _ _ _ _ _ _ (T45.setTop (mkF m 88 #[.val (.int qx), .val (.int qf), .val (.int cp), .val (.ref b2), .val (.int (4 : Int32)), .unset, .unset, .unset, .val (.int (((Int32.toUInt32 qf >>> ((16 : Int32) &&& 31).toUInt32).toInt32) &&& (255 : Int32))), .val (.int (((Int32.toUInt32 qf >>> ((24 : Int32) &&& 31).toUInt32).toInt32) &&& (255 : Int32)))] [(.int (2048 : Int32)), (.int cp)]))
        have hc88 : ¬ (cp < (2048 : Int32)) := hsA
        refine Go.step (fun _ k => XS.icmpYes X45.here hx rfl (pc0 := 88) (pc' := 117) rfl (hb hby at_88) rfl (flt hc88).2.1 (by decide) (by decide) k) ?_
        show Go _ _ _ _ _ _ _ (T45.setTop (mkF m 117 #[.val (.int qx), .val (.int qf), .val (.int cp), .val (.ref b2), .val (.int (4 : Int32)), .unset, .unset, .unset, .val (.int (((Int32.toUInt32 qf >>> ((16 : Int32) &&& 31).toUInt32).toInt32) &&& (255 : Int32))), .val (.int (((Int32.toUInt32 qf >>> ((24 : Int32) &&& 31).toUInt32).toInt32) &&& (255 : Int32)))] []))
        refine Go.step (fun _ k => XS.iloadN X45.here hx rfl (hb hby at_117) rfl  k) ?_
        show Go _ _ _ _ _ _ _ (T45.setTop (mkF m 118 #[.val (.int qx), .val (.int qf), .val (.int cp), .val (.ref b2), .val (.int (4 : Int32)), .unset, .unset, .unset, .val (.int (((Int32.toUInt32 qf >>> ((16 : Int32) &&& 31).toUInt32).toInt32) &&& (255 : Int32))), .val (.int (((Int32.toUInt32 qf >>> ((24 : Int32) &&& 31).toUInt32).toInt32) &&& (255 : Int32)))] [(.int cp)]))
        refine Go.step (X45.ldcInt hx hown (mvT hZ (hw _ (List.mem_of_getElem? (i := 9) rfl))) (g := (mkF m 118 #[.val (.int qx), .val (.int qf), .val (.int cp), .val (.ref b2), .val (.int (4 : Int32)), .unset, .unset, .unset, .val (.int (((Int32.toUInt32 qf >>> ((16 : Int32) &&& 31).toUInt32).toInt32) &&& (255 : Int32))), .val (.int (((Int32.toUInt32 qf >>> ((24 : Int32) &&& 31).toUInt32).toInt32) &&& (255 : Int32)))] [(.int cp)])) rfl (hb hby at_118)) ?_
        show Go _ _ _ _ _ _ _ (T45.setTop (mkF m 120 #[.val (.int qx), .val (.int qf), .val (.int cp), .val (.ref b2), .val (.int (4 : Int32)), .unset, .unset, .unset, .val (.int (((Int32.toUInt32 qf >>> ((16 : Int32) &&& 31).toUInt32).toInt32) &&& (255 : Int32))), .val (.int (((Int32.toUInt32 qf >>> ((24 : Int32) &&& 31).toUInt32).toInt32) &&& (255 : Int32)))] [(.int (65536 : Int32)), (.int cp)]))
        have hc120 : ¬ (cp < (65536 : Int32)) := hsB
        refine Go.step (fun _ k => XS.icmpYes X45.here hx rfl (pc0 := 120) (pc' := 162) rfl (hb hby at_120) rfl (flt hc120).2.1 (by decide) (by decide) k) ?_
        show Go _ _ _ _ _ _ _ (T45.setTop (mkF m 162 #[.val (.int qx), .val (.int qf), .val (.int cp), .val (.ref b2), .val (.int (4 : Int32)), .unset, .unset, .unset, .val (.int (((Int32.toUInt32 qf >>> ((16 : Int32) &&& 31).toUInt32).toInt32) &&& (255 : Int32))), .val (.int (((Int32.toUInt32 qf >>> ((24 : Int32) &&& 31).toUInt32).toInt32) &&& (255 : Int32)))] []))
        refine Go.step (fun _ k => XS.iconst X45.here hx rfl (hb hby at_162) k) ?_
        show Go _ _ _ _ _ _ _ (T45.setTop (mkF m 163 #[.val (.int qx), .val (.int qf), .val (.int cp), .val (.ref b2), .val (.int (4 : Int32)), .unset, .unset, .unset, .val (.int (((Int32.toUInt32 qf >>> ((16 : Int32) &&& 31).toUInt32).toInt32) &&& (255 : Int32))), .val (.int (((Int32.toUInt32 qf >>> ((24 : Int32) &&& 31).toUInt32).toInt32) &&& (255 : Int32)))] [(.int (4 : Int32))]))
        refine Go.step (fun _ k => XS.istore X45.here hx rfl (hb hby at_163) rfl (l' := #[.val (.int qx), .val (.int qf), .val (.int cp), .val (.ref b2), .val (.int (4 : Int32)), .val (.int (4 : Int32)), .unset, .unset, .val (.int (((Int32.toUInt32 qf >>> ((16 : Int32) &&& 31).toUInt32).toInt32) &&& (255 : Int32))), .val (.int (((Int32.toUInt32 qf >>> ((24 : Int32) &&& 31).toUInt32).toInt32) &&& (255 : Int32)))]) rfl k) ?_
        show Go _ _ _ _ _ _ _ (T45.setTop (mkF m 165 #[.val (.int qx), .val (.int qf), .val (.int cp), .val (.ref b2), .val (.int (4 : Int32)), .val (.int (4 : Int32)), .unset, .unset, .val (.int (((Int32.toUInt32 qf >>> ((16 : Int32) &&& 31).toUInt32).toInt32) &&& (255 : Int32))), .val (.int (((Int32.toUInt32 qf >>> ((24 : Int32) &&& 31).toUInt32).toInt32) &&& (255 : Int32)))] []))
        refine Go.step (fun _ k => XS.sipush X45.here hx rfl (hb hby at_165) k) ?_
        show Go _ _ _ _ _ _ _ (T45.setTop (mkF m 168 #[.val (.int qx), .val (.int qf), .val (.int cp), .val (.ref b2), .val (.int (4 : Int32)), .val (.int (4 : Int32)), .unset, .unset, .val (.int (((Int32.toUInt32 qf >>> ((16 : Int32) &&& 31).toUInt32).toInt32) &&& (255 : Int32))), .val (.int (((Int32.toUInt32 qf >>> ((24 : Int32) &&& 31).toUInt32).toInt32) &&& (255 : Int32)))] [(.int (240 : Int32))]))
        refine Go.step (fun _ k => XS.iloadN X45.here hx rfl (hb hby at_168) rfl  k) ?_
        show Go _ _ _ _ _ _ _ (T45.setTop (mkF m 169 #[.val (.int qx), .val (.int qf), .val (.int cp), .val (.ref b2), .val (.int (4 : Int32)), .val (.int (4 : Int32)), .unset, .unset, .val (.int (((Int32.toUInt32 qf >>> ((16 : Int32) &&& 31).toUInt32).toInt32) &&& (255 : Int32))), .val (.int (((Int32.toUInt32 qf >>> ((24 : Int32) &&& 31).toUInt32).toInt32) &&& (255 : Int32)))] [(.int cp), (.int (240 : Int32))]))
        refine Go.step (fun _ k => XS.bipush X45.here hx rfl (hb hby at_169) k) ?_
        show Go _ _ _ _ _ _ _ (T45.setTop (mkF m 171 #[.val (.int qx), .val (.int qf), .val (.int cp), .val (.ref b2), .val (.int (4 : Int32)), .val (.int (4 : Int32)), .unset, .unset, .val (.int (((Int32.toUInt32 qf >>> ((16 : Int32) &&& 31).toUInt32).toInt32) &&& (255 : Int32))), .val (.int (((Int32.toUInt32 qf >>> ((24 : Int32) &&& 31).toUInt32).toInt32) &&& (255 : Int32)))] [(.int (18 : Int32)), (.int cp), (.int (240 : Int32))]))
        refine Go.step (fun _ k => XS.ishr X45.here hx rfl (hb hby at_171) rfl k) ?_
        show Go _ _ _ _ _ _ _ (T45.setTop (mkF m 172 #[.val (.int qx), .val (.int qf), .val (.int cp), .val (.ref b2), .val (.int (4 : Int32)), .val (.int (4 : Int32)), .unset, .unset, .val (.int (((Int32.toUInt32 qf >>> ((16 : Int32) &&& 31).toUInt32).toInt32) &&& (255 : Int32))), .val (.int (((Int32.toUInt32 qf >>> ((24 : Int32) &&& 31).toUInt32).toInt32) &&& (255 : Int32)))] [(.int (cp >>> ((18 : Int32) &&& 31))), (.int (240 : Int32))]))
        refine Go.step (fun _ k => XS.ior X45.here hx rfl (hb hby at_172) rfl k) ?_
        show Go _ _ _ _ _ _ _ (T45.setTop (mkF m 173 #[.val (.int qx), .val (.int qf), .val (.int cp), .val (.ref b2), .val (.int (4 : Int32)), .val (.int (4 : Int32)), .unset, .unset, .val (.int (((Int32.toUInt32 qf >>> ((16 : Int32) &&& 31).toUInt32).toInt32) &&& (255 : Int32))), .val (.int (((Int32.toUInt32 qf >>> ((24 : Int32) &&& 31).toUInt32).toInt32) &&& (255 : Int32)))] [(.int ((240 : Int32) ||| (cp >>> ((18 : Int32) &&& 31))))]))
        refine Go.step (fun _ k => XS.istore X45.here hx rfl (hb hby at_173) rfl (l' := #[.val (.int qx), .val (.int qf), .val (.int cp), .val (.ref b2), .val (.int (4 : Int32)), .val (.int (4 : Int32)), .val (.int ((240 : Int32) ||| (cp >>> ((18 : Int32) &&& 31)))), .unset, .val (.int (((Int32.toUInt32 qf >>> ((16 : Int32) &&& 31).toUInt32).toInt32) &&& (255 : Int32))), .val (.int (((Int32.toUInt32 qf >>> ((24 : Int32) &&& 31).toUInt32).toInt32) &&& (255 : Int32)))]) rfl k) ?_
        show Go _ _ _ _ _ _ _ (T45.setTop (mkF m 175 #[.val (.int qx), .val (.int qf), .val (.int cp), .val (.ref b2), .val (.int (4 : Int32)), .val (.int (4 : Int32)), .val (.int ((240 : Int32) ||| (cp >>> ((18 : Int32) &&& 31)))), .unset, .val (.int (((Int32.toUInt32 qf >>> ((16 : Int32) &&& 31).toUInt32).toInt32) &&& (255 : Int32))), .val (.int (((Int32.toUInt32 qf >>> ((24 : Int32) &&& 31).toUInt32).toInt32) &&& (255 : Int32)))] []))
        refine Go.step (fun _ k => XS.sipush X45.here hx rfl (hb hby at_175) k) ?_
        show Go _ _ _ _ _ _ _ (T45.setTop (mkF m 178 #[.val (.int qx), .val (.int qf), .val (.int cp), .val (.ref b2), .val (.int (4 : Int32)), .val (.int (4 : Int32)), .val (.int ((240 : Int32) ||| (cp >>> ((18 : Int32) &&& 31)))), .unset, .val (.int (((Int32.toUInt32 qf >>> ((16 : Int32) &&& 31).toUInt32).toInt32) &&& (255 : Int32))), .val (.int (((Int32.toUInt32 qf >>> ((24 : Int32) &&& 31).toUInt32).toInt32) &&& (255 : Int32)))] [(.int (128 : Int32))]))
        refine Go.step (fun _ k => XS.iloadN X45.here hx rfl (hb hby at_178) rfl  k) ?_
        show Go _ _ _ _ _ _ _ (T45.setTop (mkF m 179 #[.val (.int qx), .val (.int qf), .val (.int cp), .val (.ref b2), .val (.int (4 : Int32)), .val (.int (4 : Int32)), .val (.int ((240 : Int32) ||| (cp >>> ((18 : Int32) &&& 31)))), .unset, .val (.int (((Int32.toUInt32 qf >>> ((16 : Int32) &&& 31).toUInt32).toInt32) &&& (255 : Int32))), .val (.int (((Int32.toUInt32 qf >>> ((24 : Int32) &&& 31).toUInt32).toInt32) &&& (255 : Int32)))] [(.int cp), (.int (128 : Int32))]))
        refine Go.step (fun _ k => XS.bipush X45.here hx rfl (hb hby at_179) k) ?_
        show Go _ _ _ _ _ _ _ (T45.setTop (mkF m 181 #[.val (.int qx), .val (.int qf), .val (.int cp), .val (.ref b2), .val (.int (4 : Int32)), .val (.int (4 : Int32)), .val (.int ((240 : Int32) ||| (cp >>> ((18 : Int32) &&& 31)))), .unset, .val (.int (((Int32.toUInt32 qf >>> ((16 : Int32) &&& 31).toUInt32).toInt32) &&& (255 : Int32))), .val (.int (((Int32.toUInt32 qf >>> ((24 : Int32) &&& 31).toUInt32).toInt32) &&& (255 : Int32)))] [(.int (12 : Int32)), (.int cp), (.int (128 : Int32))]))
        refine Go.step (fun _ k => XS.ishr X45.here hx rfl (hb hby at_181) rfl k) ?_
        show Go _ _ _ _ _ _ _ (T45.setTop (mkF m 182 #[.val (.int qx), .val (.int qf), .val (.int cp), .val (.ref b2), .val (.int (4 : Int32)), .val (.int (4 : Int32)), .val (.int ((240 : Int32) ||| (cp >>> ((18 : Int32) &&& 31)))), .unset, .val (.int (((Int32.toUInt32 qf >>> ((16 : Int32) &&& 31).toUInt32).toInt32) &&& (255 : Int32))), .val (.int (((Int32.toUInt32 qf >>> ((24 : Int32) &&& 31).toUInt32).toInt32) &&& (255 : Int32)))] [(.int (cp >>> ((12 : Int32) &&& 31))), (.int (128 : Int32))]))
        refine Go.step (fun _ k => XS.bipush X45.here hx rfl (hb hby at_182) k) ?_
        show Go _ _ _ _ _ _ _ (T45.setTop (mkF m 184 #[.val (.int qx), .val (.int qf), .val (.int cp), .val (.ref b2), .val (.int (4 : Int32)), .val (.int (4 : Int32)), .val (.int ((240 : Int32) ||| (cp >>> ((18 : Int32) &&& 31)))), .unset, .val (.int (((Int32.toUInt32 qf >>> ((16 : Int32) &&& 31).toUInt32).toInt32) &&& (255 : Int32))), .val (.int (((Int32.toUInt32 qf >>> ((24 : Int32) &&& 31).toUInt32).toInt32) &&& (255 : Int32)))] [(.int (63 : Int32)), (.int (cp >>> ((12 : Int32) &&& 31))), (.int (128 : Int32))]))
        refine Go.step (fun _ k => XS.iand X45.here hx rfl (hb hby at_184) rfl k) ?_
        show Go _ _ _ _ _ _ _ (T45.setTop (mkF m 185 #[.val (.int qx), .val (.int qf), .val (.int cp), .val (.ref b2), .val (.int (4 : Int32)), .val (.int (4 : Int32)), .val (.int ((240 : Int32) ||| (cp >>> ((18 : Int32) &&& 31)))), .unset, .val (.int (((Int32.toUInt32 qf >>> ((16 : Int32) &&& 31).toUInt32).toInt32) &&& (255 : Int32))), .val (.int (((Int32.toUInt32 qf >>> ((24 : Int32) &&& 31).toUInt32).toInt32) &&& (255 : Int32)))] [(.int ((cp >>> ((12 : Int32) &&& 31)) &&& (63 : Int32))), (.int (128 : Int32))]))
        refine Go.step (fun _ k => XS.ior X45.here hx rfl (hb hby at_185) rfl k) ?_
        show Go _ _ _ _ _ _ _ (T45.setTop (mkF m 186 #[.val (.int qx), .val (.int qf), .val (.int cp), .val (.ref b2), .val (.int (4 : Int32)), .val (.int (4 : Int32)), .val (.int ((240 : Int32) ||| (cp >>> ((18 : Int32) &&& 31)))), .unset, .val (.int (((Int32.toUInt32 qf >>> ((16 : Int32) &&& 31).toUInt32).toInt32) &&& (255 : Int32))), .val (.int (((Int32.toUInt32 qf >>> ((24 : Int32) &&& 31).toUInt32).toInt32) &&& (255 : Int32)))] [(.int ((128 : Int32) ||| ((cp >>> ((12 : Int32) &&& 31)) &&& (63 : Int32))))]))
        refine Go.step (fun _ k => XS.istore X45.here hx rfl (hb hby at_186) rfl (l' := #[.val (.int qx), .val (.int qf), .val (.int cp), .val (.ref b2), .val (.int (4 : Int32)), .val (.int (4 : Int32)), .val (.int ((240 : Int32) ||| (cp >>> ((18 : Int32) &&& 31)))), .val (.int ((128 : Int32) ||| ((cp >>> ((12 : Int32) &&& 31)) &&& (63 : Int32)))), .val (.int (((Int32.toUInt32 qf >>> ((16 : Int32) &&& 31).toUInt32).toInt32) &&& (255 : Int32))), .val (.int (((Int32.toUInt32 qf >>> ((24 : Int32) &&& 31).toUInt32).toInt32) &&& (255 : Int32)))]) rfl k) ?_
        show Go _ _ _ _ _ _ _ (T45.setTop (mkF m 188 #[.val (.int qx), .val (.int qf), .val (.int cp), .val (.ref b2), .val (.int (4 : Int32)), .val (.int (4 : Int32)), .val (.int ((240 : Int32) ||| (cp >>> ((18 : Int32) &&& 31)))), .val (.int ((128 : Int32) ||| ((cp >>> ((12 : Int32) &&& 31)) &&& (63 : Int32)))), .val (.int (((Int32.toUInt32 qf >>> ((16 : Int32) &&& 31).toUInt32).toInt32) &&& (255 : Int32))), .val (.int (((Int32.toUInt32 qf >>> ((24 : Int32) &&& 31).toUInt32).toInt32) &&& (255 : Int32)))] []))
        refine Go.step (fun _ k => XS.sipush X45.here hx rfl (hb hby at_188) k) ?_
        show Go _ _ _ _ _ _ _ (T45.setTop (mkF m 191 #[.val (.int qx), .val (.int qf), .val (.int cp), .val (.ref b2), .val (.int (4 : Int32)), .val (.int (4 : Int32)), .val (.int ((240 : Int32) ||| (cp >>> ((18 : Int32) &&& 31)))), .val (.int ((128 : Int32) ||| ((cp >>> ((12 : Int32) &&& 31)) &&& (63 : Int32)))), .val (.int (((Int32.toUInt32 qf >>> ((16 : Int32) &&& 31).toUInt32).toInt32) &&& (255 : Int32))), .val (.int (((Int32.toUInt32 qf >>> ((24 : Int32) &&& 31).toUInt32).toInt32) &&& (255 : Int32)))] [(.int (128 : Int32))]))
        refine Go.step (fun _ k => XS.iloadN X45.here hx rfl (hb hby at_191) rfl  k) ?_
        show Go _ _ _ _ _ _ _ (T45.setTop (mkF m 192 #[.val (.int qx), .val (.int qf), .val (.int cp), .val (.ref b2), .val (.int (4 : Int32)), .val (.int (4 : Int32)), .val (.int ((240 : Int32) ||| (cp >>> ((18 : Int32) &&& 31)))), .val (.int ((128 : Int32) ||| ((cp >>> ((12 : Int32) &&& 31)) &&& (63 : Int32)))), .val (.int (((Int32.toUInt32 qf >>> ((16 : Int32) &&& 31).toUInt32).toInt32) &&& (255 : Int32))), .val (.int (((Int32.toUInt32 qf >>> ((24 : Int32) &&& 31).toUInt32).toInt32) &&& (255 : Int32)))] [(.int cp), (.int (128 : Int32))]))
        refine Go.step (fun _ k => XS.bipush X45.here hx rfl (hb hby at_192) k) ?_
        show Go _ _ _ _ _ _ _ (T45.setTop (mkF m 194 #[.val (.int qx), .val (.int qf), .val (.int cp), .val (.ref b2), .val (.int (4 : Int32)), .val (.int (4 : Int32)), .val (.int ((240 : Int32) ||| (cp >>> ((18 : Int32) &&& 31)))), .val (.int ((128 : Int32) ||| ((cp >>> ((12 : Int32) &&& 31)) &&& (63 : Int32)))), .val (.int (((Int32.toUInt32 qf >>> ((16 : Int32) &&& 31).toUInt32).toInt32) &&& (255 : Int32))), .val (.int (((Int32.toUInt32 qf >>> ((24 : Int32) &&& 31).toUInt32).toInt32) &&& (255 : Int32)))] [(.int (6 : Int32)), (.int cp), (.int (128 : Int32))]))
        refine Go.step (fun _ k => XS.ishr X45.here hx rfl (hb hby at_194) rfl k) ?_
        show Go _ _ _ _ _ _ _ (T45.setTop (mkF m 195 #[.val (.int qx), .val (.int qf), .val (.int cp), .val (.ref b2), .val (.int (4 : Int32)), .val (.int (4 : Int32)), .val (.int ((240 : Int32) ||| (cp >>> ((18 : Int32) &&& 31)))), .val (.int ((128 : Int32) ||| ((cp >>> ((12 : Int32) &&& 31)) &&& (63 : Int32)))), .val (.int (((Int32.toUInt32 qf >>> ((16 : Int32) &&& 31).toUInt32).toInt32) &&& (255 : Int32))), .val (.int (((Int32.toUInt32 qf >>> ((24 : Int32) &&& 31).toUInt32).toInt32) &&& (255 : Int32)))] [(.int (cp >>> ((6 : Int32) &&& 31))), (.int (128 : Int32))]))
        refine Go.step (fun _ k => XS.bipush X45.here hx rfl (hb hby at_195) k) ?_
        show Go _ _ _ _ _ _ _ (T45.setTop (mkF m 197 #[.val (.int qx), .val (.int qf), .val (.int cp), .val (.ref b2), .val (.int (4 : Int32)), .val (.int (4 : Int32)), .val (.int ((240 : Int32) ||| (cp >>> ((18 : Int32) &&& 31)))), .val (.int ((128 : Int32) ||| ((cp >>> ((12 : Int32) &&& 31)) &&& (63 : Int32)))), .val (.int (((Int32.toUInt32 qf >>> ((16 : Int32) &&& 31).toUInt32).toInt32) &&& (255 : Int32))), .val (.int (((Int32.toUInt32 qf >>> ((24 : Int32) &&& 31).toUInt32).toInt32) &&& (255 : Int32)))] [(.int (63 : Int32)), (.int (cp >>> ((6 : Int32) &&& 31))), (.int (128 : Int32))]))
        refine Go.step (fun _ k => XS.iand X45.here hx rfl (hb hby at_197) rfl k) ?_
        show Go _ _ _ _ _ _ _ (T45.setTop (mkF m 198 #[.val (.int qx), .val (.int qf), .val (.int cp), .val (.ref b2), .val (.int (4 : Int32)), .val (.int (4 : Int32)), .val (.int ((240 : Int32) ||| (cp >>> ((18 : Int32) &&& 31)))), .val (.int ((128 : Int32) ||| ((cp >>> ((12 : Int32) &&& 31)) &&& (63 : Int32)))), .val (.int (((Int32.toUInt32 qf >>> ((16 : Int32) &&& 31).toUInt32).toInt32) &&& (255 : Int32))), .val (.int (((Int32.toUInt32 qf >>> ((24 : Int32) &&& 31).toUInt32).toInt32) &&& (255 : Int32)))] [(.int ((cp >>> ((6 : Int32) &&& 31)) &&& (63 : Int32))), (.int (128 : Int32))]))
        refine Go.step (fun _ k => XS.ior X45.here hx rfl (hb hby at_198) rfl k) ?_
        show Go _ _ _ _ _ _ _ (T45.setTop (mkF m 199 #[.val (.int qx), .val (.int qf), .val (.int cp), .val (.ref b2), .val (.int (4 : Int32)), .val (.int (4 : Int32)), .val (.int ((240 : Int32) ||| (cp >>> ((18 : Int32) &&& 31)))), .val (.int ((128 : Int32) ||| ((cp >>> ((12 : Int32) &&& 31)) &&& (63 : Int32)))), .val (.int (((Int32.toUInt32 qf >>> ((16 : Int32) &&& 31).toUInt32).toInt32) &&& (255 : Int32))), .val (.int (((Int32.toUInt32 qf >>> ((24 : Int32) &&& 31).toUInt32).toInt32) &&& (255 : Int32)))] [(.int ((128 : Int32) ||| ((cp >>> ((6 : Int32) &&& 31)) &&& (63 : Int32))))]))
        refine Go.step (fun _ k => XS.istore X45.here hx rfl (hb hby at_199) rfl (l' := #[.val (.int qx), .val (.int qf), .val (.int cp), .val (.ref b2), .val (.int (4 : Int32)), .val (.int (4 : Int32)), .val (.int ((240 : Int32) ||| (cp >>> ((18 : Int32) &&& 31)))), .val (.int ((128 : Int32) ||| ((cp >>> ((12 : Int32) &&& 31)) &&& (63 : Int32)))), .val (.int ((128 : Int32) ||| ((cp >>> ((6 : Int32) &&& 31)) &&& (63 : Int32)))), .val (.int (((Int32.toUInt32 qf >>> ((24 : Int32) &&& 31).toUInt32).toInt32) &&& (255 : Int32)))]) rfl k) ?_
        show Go _ _ _ _ _ _ _ (T45.setTop (mkF m 201 #[.val (.int qx), .val (.int qf), .val (.int cp), .val (.ref b2), .val (.int (4 : Int32)), .val (.int (4 : Int32)), .val (.int ((240 : Int32) ||| (cp >>> ((18 : Int32) &&& 31)))), .val (.int ((128 : Int32) ||| ((cp >>> ((12 : Int32) &&& 31)) &&& (63 : Int32)))), .val (.int ((128 : Int32) ||| ((cp >>> ((6 : Int32) &&& 31)) &&& (63 : Int32)))), .val (.int (((Int32.toUInt32 qf >>> ((24 : Int32) &&& 31).toUInt32).toInt32) &&& (255 : Int32)))] []))
        refine Go.step (fun _ k => XS.sipush X45.here hx rfl (hb hby at_201) k) ?_
        show Go _ _ _ _ _ _ _ (T45.setTop (mkF m 204 #[.val (.int qx), .val (.int qf), .val (.int cp), .val (.ref b2), .val (.int (4 : Int32)), .val (.int (4 : Int32)), .val (.int ((240 : Int32) ||| (cp >>> ((18 : Int32) &&& 31)))), .val (.int ((128 : Int32) ||| ((cp >>> ((12 : Int32) &&& 31)) &&& (63 : Int32)))), .val (.int ((128 : Int32) ||| ((cp >>> ((6 : Int32) &&& 31)) &&& (63 : Int32)))), .val (.int (((Int32.toUInt32 qf >>> ((24 : Int32) &&& 31).toUInt32).toInt32) &&& (255 : Int32)))] [(.int (128 : Int32))]))
        refine Go.step (fun _ k => XS.iloadN X45.here hx rfl (hb hby at_204) rfl  k) ?_
        show Go _ _ _ _ _ _ _ (T45.setTop (mkF m 205 #[.val (.int qx), .val (.int qf), .val (.int cp), .val (.ref b2), .val (.int (4 : Int32)), .val (.int (4 : Int32)), .val (.int ((240 : Int32) ||| (cp >>> ((18 : Int32) &&& 31)))), .val (.int ((128 : Int32) ||| ((cp >>> ((12 : Int32) &&& 31)) &&& (63 : Int32)))), .val (.int ((128 : Int32) ||| ((cp >>> ((6 : Int32) &&& 31)) &&& (63 : Int32)))), .val (.int (((Int32.toUInt32 qf >>> ((24 : Int32) &&& 31).toUInt32).toInt32) &&& (255 : Int32)))] [(.int cp), (.int (128 : Int32))]))
        refine Go.step (fun _ k => XS.bipush X45.here hx rfl (hb hby at_205) k) ?_
        show Go _ _ _ _ _ _ _ (T45.setTop (mkF m 207 #[.val (.int qx), .val (.int qf), .val (.int cp), .val (.ref b2), .val (.int (4 : Int32)), .val (.int (4 : Int32)), .val (.int ((240 : Int32) ||| (cp >>> ((18 : Int32) &&& 31)))), .val (.int ((128 : Int32) ||| ((cp >>> ((12 : Int32) &&& 31)) &&& (63 : Int32)))), .val (.int ((128 : Int32) ||| ((cp >>> ((6 : Int32) &&& 31)) &&& (63 : Int32)))), .val (.int (((Int32.toUInt32 qf >>> ((24 : Int32) &&& 31).toUInt32).toInt32) &&& (255 : Int32)))] [(.int (63 : Int32)), (.int cp), (.int (128 : Int32))]))
        refine Go.step (fun _ k => XS.iand X45.here hx rfl (hb hby at_207) rfl k) ?_
        show Go _ _ _ _ _ _ _ (T45.setTop (mkF m 208 #[.val (.int qx), .val (.int qf), .val (.int cp), .val (.ref b2), .val (.int (4 : Int32)), .val (.int (4 : Int32)), .val (.int ((240 : Int32) ||| (cp >>> ((18 : Int32) &&& 31)))), .val (.int ((128 : Int32) ||| ((cp >>> ((12 : Int32) &&& 31)) &&& (63 : Int32)))), .val (.int ((128 : Int32) ||| ((cp >>> ((6 : Int32) &&& 31)) &&& (63 : Int32)))), .val (.int (((Int32.toUInt32 qf >>> ((24 : Int32) &&& 31).toUInt32).toInt32) &&& (255 : Int32)))] [(.int (cp &&& (63 : Int32))), (.int (128 : Int32))]))
        refine Go.step (fun _ k => XS.ior X45.here hx rfl (hb hby at_208) rfl k) ?_
        show Go _ _ _ _ _ _ _ (T45.setTop (mkF m 209 #[.val (.int qx), .val (.int qf), .val (.int cp), .val (.ref b2), .val (.int (4 : Int32)), .val (.int (4 : Int32)), .val (.int ((240 : Int32) ||| (cp >>> ((18 : Int32) &&& 31)))), .val (.int ((128 : Int32) ||| ((cp >>> ((12 : Int32) &&& 31)) &&& (63 : Int32)))), .val (.int ((128 : Int32) ||| ((cp >>> ((6 : Int32) &&& 31)) &&& (63 : Int32)))), .val (.int (((Int32.toUInt32 qf >>> ((24 : Int32) &&& 31).toUInt32).toInt32) &&& (255 : Int32)))] [(.int ((128 : Int32) ||| (cp &&& (63 : Int32))))]))
        refine Go.step (fun _ k => XS.istore X45.here hx rfl (hb hby at_209) rfl (l' := #[.val (.int qx), .val (.int qf), .val (.int cp), .val (.ref b2), .val (.int (4 : Int32)), .val (.int (4 : Int32)), .val (.int ((240 : Int32) ||| (cp >>> ((18 : Int32) &&& 31)))), .val (.int ((128 : Int32) ||| ((cp >>> ((12 : Int32) &&& 31)) &&& (63 : Int32)))), .val (.int ((128 : Int32) ||| ((cp >>> ((6 : Int32) &&& 31)) &&& (63 : Int32)))), .val (.int ((128 : Int32) ||| (cp &&& (63 : Int32))))]) rfl k) ?_
        show Go _ _ _ _ _ _ _ (T45.setTop (mkF m 211 #[.val (.int qx), .val (.int qf), .val (.int cp), .val (.ref b2), .val (.int (4 : Int32)), .val (.int (4 : Int32)), .val (.int ((240 : Int32) ||| (cp >>> ((18 : Int32) &&& 31)))), .val (.int ((128 : Int32) ||| ((cp >>> ((12 : Int32) &&& 31)) &&& (63 : Int32)))), .val (.int ((128 : Int32) ||| ((cp >>> ((6 : Int32) &&& 31)) &&& (63 : Int32)))), .val (.int ((128 : Int32) ||| (cp &&& (63 : Int32))))] []))
        refine Go.step (fun _ k => XS.iload X45.here hx rfl (hb hby at_211) rfl  k) ?_
        show Go _ _ _ _ _ _ _ (T45.setTop (mkF m 213 #[.val (.int qx), .val (.int qf), .val (.int cp), .val (.ref b2), .val (.int (4 : Int32)), .val (.int (4 : Int32)), .val (.int ((240 : Int32) ||| (cp >>> ((18 : Int32) &&& 31)))), .val (.int ((128 : Int32) ||| ((cp >>> ((12 : Int32) &&& 31)) &&& (63 : Int32)))), .val (.int ((128 : Int32) ||| ((cp >>> ((6 : Int32) &&& 31)) &&& (63 : Int32)))), .val (.int ((128 : Int32) ||| (cp &&& (63 : Int32))))] [(.int (4 : Int32))]))
        refine Go.step (fun _ k => XS.iload X45.here hx rfl (hb hby at_213) rfl  k) ?_
        show Go _ _ _ _ _ _ _ (T45.setTop (mkF m 215 #[.val (.int qx), .val (.int qf), .val (.int cp), .val (.ref b2), .val (.int (4 : Int32)), .val (.int (4 : Int32)), .val (.int ((240 : Int32) ||| (cp >>> ((18 : Int32) &&& 31)))), .val (.int ((128 : Int32) ||| ((cp >>> ((12 : Int32) &&& 31)) &&& (63 : Int32)))), .val (.int ((128 : Int32) ||| ((cp >>> ((6 : Int32) &&& 31)) &&& (63 : Int32)))), .val (.int ((128 : Int32) ||| (cp &&& (63 : Int32))))] [(.int (4 : Int32)), (.int (4 : Int32))]))
        have hc215 : (4 : Int32) = (4 : Int32) := by decide
        refine Go.step (fun _ k => XS.icmpNo X45.here hx rfl (hb hby at_215) rfl (teq hc215).2 k) ?_
        show Go _ _ _ _ _ _ _ (T45.setTop (mkF m 218 #[.val (.int qx), .val (.int qf), .val (.int cp), .val (.ref b2), .val (.int (4 : Int32)), .val (.int (4 : Int32)), .val (.int ((240 : Int32) ||| (cp >>> ((18 : Int32) &&& 31)))), .val (.int ((128 : Int32) ||| ((cp >>> ((12 : Int32) &&& 31)) &&& (63 : Int32)))), .val (.int ((128 : Int32) ||| ((cp >>> ((6 : Int32) &&& 31)) &&& (63 : Int32)))), .val (.int ((128 : Int32) ||| (cp &&& (63 : Int32))))] []))
        refine Go.step (fun _ k => XS.aloadN X45.here hx rfl (hb hby at_218) rfl rfl  k) ?_
        show Go _ _ _ _ _ _ _ (T45.setTop (mkF m 219 #[.val (.int qx), .val (.int qf), .val (.int cp), .val (.ref b2), .val (.int (4 : Int32)), .val (.int (4 : Int32)), .val (.int ((240 : Int32) ||| (cp >>> ((18 : Int32) &&& 31)))), .val (.int ((128 : Int32) ||| ((cp >>> ((12 : Int32) &&& 31)) &&& (63 : Int32)))), .val (.int ((128 : Int32) ||| ((cp >>> ((6 : Int32) &&& 31)) &&& (63 : Int32)))), .val (.int ((128 : Int32) ||| (cp &&& (63 : Int32))))] [(.ref b2)]))
        refine Go.step (fun _ k => XS.iconst X45.here hx rfl (hb hby at_219) k) ?_
        show Go _ _ _ _ _ _ _ (T45.setTop (mkF m 220 #[.val (.int qx), .val (.int qf), .val (.int cp), .val (.ref b2), .val (.int (4 : Int32)), .val (.int (4 : Int32)), .val (.int ((240 : Int32) ||| (cp >>> ((18 : Int32) &&& 31)))), .val (.int ((128 : Int32) ||| ((cp >>> ((12 : Int32) &&& 31)) &&& (63 : Int32)))), .val (.int ((128 : Int32) ||| ((cp >>> ((6 : Int32) &&& 31)) &&& (63 : Int32)))), .val (.int ((128 : Int32) ||| (cp &&& (63 : Int32))))] [(.int (0 : Int32)), (.ref b2)]))
        have lo48 : ¬ (0 : Int32) < 0 := (by decide)
        have hi48 : (0 : Int32) < (4 : Int32) := (by decide)
        refine Go.step (Ai.baload X45 hx hZ rfl c45_0 (j := (0 : Int32)) lo48 hi48 (g := (mkF m 220 #[.val (.int qx), .val (.int qf), .val (.int cp), .val (.ref b2), .val (.int (4 : Int32)), .val (.int (4 : Int32)), .val (.int ((240 : Int32) ||| (cp >>> ((18 : Int32) &&& 31)))), .val (.int ((128 : Int32) ||| ((cp >>> ((12 : Int32) &&& 31)) &&& (63 : Int32)))), .val (.int ((128 : Int32) ||| ((cp >>> ((6 : Int32) &&& 31)) &&& (63 : Int32)))), .val (.int ((128 : Int32) ||| (cp &&& (63 : Int32))))] [(.int (0 : Int32)), (.ref b2)])) rfl rfl (hb hby at_220)) ?_
        show Go _ _ _ _ _ _ _ (T45.setTop (mkF m 221 #[.val (.int qx), .val (.int qf), .val (.int cp), .val (.ref b2), .val (.int (4 : Int32)), .val (.int (4 : Int32)), .val (.int ((240 : Int32) ||| (cp >>> ((18 : Int32) &&& 31)))), .val (.int ((128 : Int32) ||| ((cp >>> ((12 : Int32) &&& 31)) &&& (63 : Int32)))), .val (.int ((128 : Int32) ||| ((cp >>> ((6 : Int32) &&& 31)) &&& (63 : Int32)))), .val (.int ((128 : Int32) ||| (cp &&& (63 : Int32))))] [(.int (F2_45 (0 : Int32)))]))
        refine Go.step (fun _ k => XS.sipush X45.here hx rfl (hb hby at_221) k) ?_
        show Go _ _ _ _ _ _ _ (T45.setTop (mkF m 224 #[.val (.int qx), .val (.int qf), .val (.int cp), .val (.ref b2), .val (.int (4 : Int32)), .val (.int (4 : Int32)), .val (.int ((240 : Int32) ||| (cp >>> ((18 : Int32) &&& 31)))), .val (.int ((128 : Int32) ||| ((cp >>> ((12 : Int32) &&& 31)) &&& (63 : Int32)))), .val (.int ((128 : Int32) ||| ((cp >>> ((6 : Int32) &&& 31)) &&& (63 : Int32)))), .val (.int ((128 : Int32) ||| (cp &&& (63 : Int32))))] [(.int (255 : Int32)), (.int (F2_45 (0 : Int32)))]))
        refine Go.step (fun _ k => XS.iand X45.here hx rfl (hb hby at_224) rfl k) ?_
        show Go _ _ _ _ _ _ _ (T45.setTop (mkF m 225 #[.val (.int qx), .val (.int qf), .val (.int cp), .val (.ref b2), .val (.int (4 : Int32)), .val (.int (4 : Int32)), .val (.int ((240 : Int32) ||| (cp >>> ((18 : Int32) &&& 31)))), .val (.int ((128 : Int32) ||| ((cp >>> ((12 : Int32) &&& 31)) &&& (63 : Int32)))), .val (.int ((128 : Int32) ||| ((cp >>> ((6 : Int32) &&& 31)) &&& (63 : Int32)))), .val (.int ((128 : Int32) ||| (cp &&& (63 : Int32))))] [(.int ((F2_45 (0 : Int32)) &&& (255 : Int32)))]))
        refine Go.step (fun _ k => XS.iload X45.here hx rfl (hb hby at_225) rfl  k) ?_
        show Go _ _ _ _ _ _ _ (T45.setTop (mkF m 227 #[.val (.int qx), .val (.int qf), .val (.int cp), .val (.ref b2), .val (.int (4 : Int32)), .val (.int (4 : Int32)), .val (.int ((240 : Int32) ||| (cp >>> ((18 : Int32) &&& 31)))), .val (.int ((128 : Int32) ||| ((cp >>> ((12 : Int32) &&& 31)) &&& (63 : Int32)))), .val (.int ((128 : Int32) ||| ((cp >>> ((6 : Int32) &&& 31)) &&& (63 : Int32)))), .val (.int ((128 : Int32) ||| (cp &&& (63 : Int32))))] [(.int ((240 : Int32) ||| (cp >>> ((18 : Int32) &&& 31)))), (.int ((F2_45 (0 : Int32)) &&& (255 : Int32)))]))
        have hc227 : ((F2_45 (0 : Int32)) &&& (255 : Int32)) = ((240 : Int32) ||| (cp >>> ((18 : Int32) &&& 31))) := by rw [u45_0]; exact own_h4 hcp0 (own_lt4 hcp)
        refine Go.step (fun _ k => XS.icmpNo X45.here hx rfl (hb hby at_227) rfl (teq hc227).2 k) ?_
        show Go _ _ _ _ _ _ _ (T45.setTop (mkF m 230 #[.val (.int qx), .val (.int qf), .val (.int cp), .val (.ref b2), .val (.int (4 : Int32)), .val (.int (4 : Int32)), .val (.int ((240 : Int32) ||| (cp >>> ((18 : Int32) &&& 31)))), .val (.int ((128 : Int32) ||| ((cp >>> ((12 : Int32) &&& 31)) &&& (63 : Int32)))), .val (.int ((128 : Int32) ||| ((cp >>> ((6 : Int32) &&& 31)) &&& (63 : Int32)))), .val (.int ((128 : Int32) ||| (cp &&& (63 : Int32))))] []))
        refine Go.step (fun _ k => XS.aloadN X45.here hx rfl (hb hby at_230) rfl rfl  k) ?_
        show Go _ _ _ _ _ _ _ (T45.setTop (mkF m 231 #[.val (.int qx), .val (.int qf), .val (.int cp), .val (.ref b2), .val (.int (4 : Int32)), .val (.int (4 : Int32)), .val (.int ((240 : Int32) ||| (cp >>> ((18 : Int32) &&& 31)))), .val (.int ((128 : Int32) ||| ((cp >>> ((12 : Int32) &&& 31)) &&& (63 : Int32)))), .val (.int ((128 : Int32) ||| ((cp >>> ((6 : Int32) &&& 31)) &&& (63 : Int32)))), .val (.int ((128 : Int32) ||| (cp &&& (63 : Int32))))] [(.ref b2)]))
        refine Go.step (fun _ k => XS.iconst X45.here hx rfl (hb hby at_231) k) ?_
        show Go _ _ _ _ _ _ _ (T45.setTop (mkF m 232 #[.val (.int qx), .val (.int qf), .val (.int cp), .val (.ref b2), .val (.int (4 : Int32)), .val (.int (4 : Int32)), .val (.int ((240 : Int32) ||| (cp >>> ((18 : Int32) &&& 31)))), .val (.int ((128 : Int32) ||| ((cp >>> ((12 : Int32) &&& 31)) &&& (63 : Int32)))), .val (.int ((128 : Int32) ||| ((cp >>> ((6 : Int32) &&& 31)) &&& (63 : Int32)))), .val (.int ((128 : Int32) ||| (cp &&& (63 : Int32))))] [(.int (1 : Int32)), (.ref b2)]))
        have lo49 : ¬ (1 : Int32) < 0 := (by decide)
        have hi49 : (1 : Int32) < (4 : Int32) := (by decide)
        refine Go.step (Ai.baload X45 hx hZ rfl c45_0 (j := (1 : Int32)) lo49 hi49 (g := (mkF m 232 #[.val (.int qx), .val (.int qf), .val (.int cp), .val (.ref b2), .val (.int (4 : Int32)), .val (.int (4 : Int32)), .val (.int ((240 : Int32) ||| (cp >>> ((18 : Int32) &&& 31)))), .val (.int ((128 : Int32) ||| ((cp >>> ((12 : Int32) &&& 31)) &&& (63 : Int32)))), .val (.int ((128 : Int32) ||| ((cp >>> ((6 : Int32) &&& 31)) &&& (63 : Int32)))), .val (.int ((128 : Int32) ||| (cp &&& (63 : Int32))))] [(.int (1 : Int32)), (.ref b2)])) rfl rfl (hb hby at_232)) ?_
        show Go _ _ _ _ _ _ _ (T45.setTop (mkF m 233 #[.val (.int qx), .val (.int qf), .val (.int cp), .val (.ref b2), .val (.int (4 : Int32)), .val (.int (4 : Int32)), .val (.int ((240 : Int32) ||| (cp >>> ((18 : Int32) &&& 31)))), .val (.int ((128 : Int32) ||| ((cp >>> ((12 : Int32) &&& 31)) &&& (63 : Int32)))), .val (.int ((128 : Int32) ||| ((cp >>> ((6 : Int32) &&& 31)) &&& (63 : Int32)))), .val (.int ((128 : Int32) ||| (cp &&& (63 : Int32))))] [(.int (F2_45 (1 : Int32)))]))
        refine Go.step (fun _ k => XS.sipush X45.here hx rfl (hb hby at_233) k) ?_
        show Go _ _ _ _ _ _ _ (T45.setTop (mkF m 236 #[.val (.int qx), .val (.int qf), .val (.int cp), .val (.ref b2), .val (.int (4 : Int32)), .val (.int (4 : Int32)), .val (.int ((240 : Int32) ||| (cp >>> ((18 : Int32) &&& 31)))), .val (.int ((128 : Int32) ||| ((cp >>> ((12 : Int32) &&& 31)) &&& (63 : Int32)))), .val (.int ((128 : Int32) ||| ((cp >>> ((6 : Int32) &&& 31)) &&& (63 : Int32)))), .val (.int ((128 : Int32) ||| (cp &&& (63 : Int32))))] [(.int (255 : Int32)), (.int (F2_45 (1 : Int32)))]))
        refine Go.step (fun _ k => XS.iand X45.here hx rfl (hb hby at_236) rfl k) ?_
        show Go _ _ _ _ _ _ _ (T45.setTop (mkF m 237 #[.val (.int qx), .val (.int qf), .val (.int cp), .val (.ref b2), .val (.int (4 : Int32)), .val (.int (4 : Int32)), .val (.int ((240 : Int32) ||| (cp >>> ((18 : Int32) &&& 31)))), .val (.int ((128 : Int32) ||| ((cp >>> ((12 : Int32) &&& 31)) &&& (63 : Int32)))), .val (.int ((128 : Int32) ||| ((cp >>> ((6 : Int32) &&& 31)) &&& (63 : Int32)))), .val (.int ((128 : Int32) ||| (cp &&& (63 : Int32))))] [(.int ((F2_45 (1 : Int32)) &&& (255 : Int32)))]))
        refine Go.step (fun _ k => XS.iload X45.here hx rfl (hb hby at_237) rfl  k) ?_
        show Go _ _ _ _ _ _ _ (T45.setTop (mkF m 239 #[.val (.int qx), .val (.int qf), .val (.int cp), .val (.ref b2), .val (.int (4 : Int32)), .val (.int (4 : Int32)), .val (.int ((240 : Int32) ||| (cp >>> ((18 : Int32) &&& 31)))), .val (.int ((128 : Int32) ||| ((cp >>> ((12 : Int32) &&& 31)) &&& (63 : Int32)))), .val (.int ((128 : Int32) ||| ((cp >>> ((6 : Int32) &&& 31)) &&& (63 : Int32)))), .val (.int ((128 : Int32) ||| (cp &&& (63 : Int32))))] [(.int ((128 : Int32) ||| ((cp >>> ((12 : Int32) &&& 31)) &&& (63 : Int32)))), (.int ((F2_45 (1 : Int32)) &&& (255 : Int32)))]))
        have hc239 : ((F2_45 (1 : Int32)) &&& (255 : Int32)) = ((128 : Int32) ||| ((cp >>> ((12 : Int32) &&& 31)) &&& (63 : Int32))) := by rw [u45_1]; exact own_t2 hcp0
        refine Go.step (fun _ k => XS.icmpNo X45.here hx rfl (hb hby at_239) rfl (teq hc239).2 k) ?_
        show Go _ _ _ _ _ _ _ (T45.setTop (mkF m 242 #[.val (.int qx), .val (.int qf), .val (.int cp), .val (.ref b2), .val (.int (4 : Int32)), .val (.int (4 : Int32)), .val (.int ((240 : Int32) ||| (cp >>> ((18 : Int32) &&& 31)))), .val (.int ((128 : Int32) ||| ((cp >>> ((12 : Int32) &&& 31)) &&& (63 : Int32)))), .val (.int ((128 : Int32) ||| ((cp >>> ((6 : Int32) &&& 31)) &&& (63 : Int32)))), .val (.int ((128 : Int32) ||| (cp &&& (63 : Int32))))] []))
        refine Go.step (fun _ k => XS.aloadN X45.here hx rfl (hb hby at_242) rfl rfl  k) ?_
        show Go _ _ _ _ _ _ _ (T45.setTop (mkF m 243 #[.val (.int qx), .val (.int qf), .val (.int cp), .val (.ref b2), .val (.int (4 : Int32)), .val (.int (4 : Int32)), .val (.int ((240 : Int32) ||| (cp >>> ((18 : Int32) &&& 31)))), .val (.int ((128 : Int32) ||| ((cp >>> ((12 : Int32) &&& 31)) &&& (63 : Int32)))), .val (.int ((128 : Int32) ||| ((cp >>> ((6 : Int32) &&& 31)) &&& (63 : Int32)))), .val (.int ((128 : Int32) ||| (cp &&& (63 : Int32))))] [(.ref b2)]))
        refine Go.step (fun _ k => XS.iconst X45.here hx rfl (hb hby at_243) k) ?_
        show Go _ _ _ _ _ _ _ (T45.setTop (mkF m 244 #[.val (.int qx), .val (.int qf), .val (.int cp), .val (.ref b2), .val (.int (4 : Int32)), .val (.int (4 : Int32)), .val (.int ((240 : Int32) ||| (cp >>> ((18 : Int32) &&& 31)))), .val (.int ((128 : Int32) ||| ((cp >>> ((12 : Int32) &&& 31)) &&& (63 : Int32)))), .val (.int ((128 : Int32) ||| ((cp >>> ((6 : Int32) &&& 31)) &&& (63 : Int32)))), .val (.int ((128 : Int32) ||| (cp &&& (63 : Int32))))] [(.int (2 : Int32)), (.ref b2)]))
        have lo50 : ¬ (2 : Int32) < 0 := (by decide)
        have hi50 : (2 : Int32) < (4 : Int32) := (by decide)
        refine Go.step (Ai.baload X45 hx hZ rfl c45_0 (j := (2 : Int32)) lo50 hi50 (g := (mkF m 244 #[.val (.int qx), .val (.int qf), .val (.int cp), .val (.ref b2), .val (.int (4 : Int32)), .val (.int (4 : Int32)), .val (.int ((240 : Int32) ||| (cp >>> ((18 : Int32) &&& 31)))), .val (.int ((128 : Int32) ||| ((cp >>> ((12 : Int32) &&& 31)) &&& (63 : Int32)))), .val (.int ((128 : Int32) ||| ((cp >>> ((6 : Int32) &&& 31)) &&& (63 : Int32)))), .val (.int ((128 : Int32) ||| (cp &&& (63 : Int32))))] [(.int (2 : Int32)), (.ref b2)])) rfl rfl (hb hby at_244)) ?_
        show Go _ _ _ _ _ _ _ (T45.setTop (mkF m 245 #[.val (.int qx), .val (.int qf), .val (.int cp), .val (.ref b2), .val (.int (4 : Int32)), .val (.int (4 : Int32)), .val (.int ((240 : Int32) ||| (cp >>> ((18 : Int32) &&& 31)))), .val (.int ((128 : Int32) ||| ((cp >>> ((12 : Int32) &&& 31)) &&& (63 : Int32)))), .val (.int ((128 : Int32) ||| ((cp >>> ((6 : Int32) &&& 31)) &&& (63 : Int32)))), .val (.int ((128 : Int32) ||| (cp &&& (63 : Int32))))] [(.int (F2_45 (2 : Int32)))]))
        refine Go.step (fun _ k => XS.sipush X45.here hx rfl (hb hby at_245) k) ?_
        show Go _ _ _ _ _ _ _ (T45.setTop (mkF m 248 #[.val (.int qx), .val (.int qf), .val (.int cp), .val (.ref b2), .val (.int (4 : Int32)), .val (.int (4 : Int32)), .val (.int ((240 : Int32) ||| (cp >>> ((18 : Int32) &&& 31)))), .val (.int ((128 : Int32) ||| ((cp >>> ((12 : Int32) &&& 31)) &&& (63 : Int32)))), .val (.int ((128 : Int32) ||| ((cp >>> ((6 : Int32) &&& 31)) &&& (63 : Int32)))), .val (.int ((128 : Int32) ||| (cp &&& (63 : Int32))))] [(.int (255 : Int32)), (.int (F2_45 (2 : Int32)))]))
        refine Go.step (fun _ k => XS.iand X45.here hx rfl (hb hby at_248) rfl k) ?_
        show Go _ _ _ _ _ _ _ (T45.setTop (mkF m 249 #[.val (.int qx), .val (.int qf), .val (.int cp), .val (.ref b2), .val (.int (4 : Int32)), .val (.int (4 : Int32)), .val (.int ((240 : Int32) ||| (cp >>> ((18 : Int32) &&& 31)))), .val (.int ((128 : Int32) ||| ((cp >>> ((12 : Int32) &&& 31)) &&& (63 : Int32)))), .val (.int ((128 : Int32) ||| ((cp >>> ((6 : Int32) &&& 31)) &&& (63 : Int32)))), .val (.int ((128 : Int32) ||| (cp &&& (63 : Int32))))] [(.int ((F2_45 (2 : Int32)) &&& (255 : Int32)))]))
        refine Go.step (fun _ k => XS.iload X45.here hx rfl (hb hby at_249) rfl  k) ?_
        show Go _ _ _ _ _ _ _ (T45.setTop (mkF m 251 #[.val (.int qx), .val (.int qf), .val (.int cp), .val (.ref b2), .val (.int (4 : Int32)), .val (.int (4 : Int32)), .val (.int ((240 : Int32) ||| (cp >>> ((18 : Int32) &&& 31)))), .val (.int ((128 : Int32) ||| ((cp >>> ((12 : Int32) &&& 31)) &&& (63 : Int32)))), .val (.int ((128 : Int32) ||| ((cp >>> ((6 : Int32) &&& 31)) &&& (63 : Int32)))), .val (.int ((128 : Int32) ||| (cp &&& (63 : Int32))))] [(.int ((128 : Int32) ||| ((cp >>> ((6 : Int32) &&& 31)) &&& (63 : Int32)))), (.int ((F2_45 (2 : Int32)) &&& (255 : Int32)))]))
        have hc251 : ((F2_45 (2 : Int32)) &&& (255 : Int32)) = ((128 : Int32) ||| ((cp >>> ((6 : Int32) &&& 31)) &&& (63 : Int32))) := by rw [u45_2]; exact own_t1 hcp0
        refine Go.step (fun _ k => XS.icmpNo X45.here hx rfl (hb hby at_251) rfl (teq hc251).2 k) ?_
        show Go _ _ _ _ _ _ _ (T45.setTop (mkF m 254 #[.val (.int qx), .val (.int qf), .val (.int cp), .val (.ref b2), .val (.int (4 : Int32)), .val (.int (4 : Int32)), .val (.int ((240 : Int32) ||| (cp >>> ((18 : Int32) &&& 31)))), .val (.int ((128 : Int32) ||| ((cp >>> ((12 : Int32) &&& 31)) &&& (63 : Int32)))), .val (.int ((128 : Int32) ||| ((cp >>> ((6 : Int32) &&& 31)) &&& (63 : Int32)))), .val (.int ((128 : Int32) ||| (cp &&& (63 : Int32))))] []))
        refine Go.step (fun _ k => XS.aloadN X45.here hx rfl (hb hby at_254) rfl rfl  k) ?_
        show Go _ _ _ _ _ _ _ (T45.setTop (mkF m 255 #[.val (.int qx), .val (.int qf), .val (.int cp), .val (.ref b2), .val (.int (4 : Int32)), .val (.int (4 : Int32)), .val (.int ((240 : Int32) ||| (cp >>> ((18 : Int32) &&& 31)))), .val (.int ((128 : Int32) ||| ((cp >>> ((12 : Int32) &&& 31)) &&& (63 : Int32)))), .val (.int ((128 : Int32) ||| ((cp >>> ((6 : Int32) &&& 31)) &&& (63 : Int32)))), .val (.int ((128 : Int32) ||| (cp &&& (63 : Int32))))] [(.ref b2)]))
        refine Go.step (fun _ k => XS.iconst X45.here hx rfl (hb hby at_255) k) ?_
        show Go _ _ _ _ _ _ _ (T45.setTop (mkF m 256 #[.val (.int qx), .val (.int qf), .val (.int cp), .val (.ref b2), .val (.int (4 : Int32)), .val (.int (4 : Int32)), .val (.int ((240 : Int32) ||| (cp >>> ((18 : Int32) &&& 31)))), .val (.int ((128 : Int32) ||| ((cp >>> ((12 : Int32) &&& 31)) &&& (63 : Int32)))), .val (.int ((128 : Int32) ||| ((cp >>> ((6 : Int32) &&& 31)) &&& (63 : Int32)))), .val (.int ((128 : Int32) ||| (cp &&& (63 : Int32))))] [(.int (3 : Int32)), (.ref b2)]))
        have lo51 : ¬ (3 : Int32) < 0 := (by decide)
        have hi51 : (3 : Int32) < (4 : Int32) := (by decide)
        refine Go.step (Ai.baload X45 hx hZ rfl c45_0 (j := (3 : Int32)) lo51 hi51 (g := (mkF m 256 #[.val (.int qx), .val (.int qf), .val (.int cp), .val (.ref b2), .val (.int (4 : Int32)), .val (.int (4 : Int32)), .val (.int ((240 : Int32) ||| (cp >>> ((18 : Int32) &&& 31)))), .val (.int ((128 : Int32) ||| ((cp >>> ((12 : Int32) &&& 31)) &&& (63 : Int32)))), .val (.int ((128 : Int32) ||| ((cp >>> ((6 : Int32) &&& 31)) &&& (63 : Int32)))), .val (.int ((128 : Int32) ||| (cp &&& (63 : Int32))))] [(.int (3 : Int32)), (.ref b2)])) rfl rfl (hb hby at_256)) ?_
        show Go _ _ _ _ _ _ _ (T45.setTop (mkF m 257 #[.val (.int qx), .val (.int qf), .val (.int cp), .val (.ref b2), .val (.int (4 : Int32)), .val (.int (4 : Int32)), .val (.int ((240 : Int32) ||| (cp >>> ((18 : Int32) &&& 31)))), .val (.int ((128 : Int32) ||| ((cp >>> ((12 : Int32) &&& 31)) &&& (63 : Int32)))), .val (.int ((128 : Int32) ||| ((cp >>> ((6 : Int32) &&& 31)) &&& (63 : Int32)))), .val (.int ((128 : Int32) ||| (cp &&& (63 : Int32))))] [(.int (F2_45 (3 : Int32)))]))
        refine Go.step (fun _ k => XS.sipush X45.here hx rfl (hb hby at_257) k) ?_
        show Go _ _ _ _ _ _ _ (T45.setTop (mkF m 260 #[.val (.int qx), .val (.int qf), .val (.int cp), .val (.ref b2), .val (.int (4 : Int32)), .val (.int (4 : Int32)), .val (.int ((240 : Int32) ||| (cp >>> ((18 : Int32) &&& 31)))), .val (.int ((128 : Int32) ||| ((cp >>> ((12 : Int32) &&& 31)) &&& (63 : Int32)))), .val (.int ((128 : Int32) ||| ((cp >>> ((6 : Int32) &&& 31)) &&& (63 : Int32)))), .val (.int ((128 : Int32) ||| (cp &&& (63 : Int32))))] [(.int (255 : Int32)), (.int (F2_45 (3 : Int32)))]))
        refine Go.step (fun _ k => XS.iand X45.here hx rfl (hb hby at_260) rfl k) ?_
        show Go _ _ _ _ _ _ _ (T45.setTop (mkF m 261 #[.val (.int qx), .val (.int qf), .val (.int cp), .val (.ref b2), .val (.int (4 : Int32)), .val (.int (4 : Int32)), .val (.int ((240 : Int32) ||| (cp >>> ((18 : Int32) &&& 31)))), .val (.int ((128 : Int32) ||| ((cp >>> ((12 : Int32) &&& 31)) &&& (63 : Int32)))), .val (.int ((128 : Int32) ||| ((cp >>> ((6 : Int32) &&& 31)) &&& (63 : Int32)))), .val (.int ((128 : Int32) ||| (cp &&& (63 : Int32))))] [(.int ((F2_45 (3 : Int32)) &&& (255 : Int32)))]))
        refine Go.step (fun _ k => XS.iload X45.here hx rfl (hb hby at_261) rfl  k) ?_
        show Go _ _ _ _ _ _ _ (T45.setTop (mkF m 263 #[.val (.int qx), .val (.int qf), .val (.int cp), .val (.ref b2), .val (.int (4 : Int32)), .val (.int (4 : Int32)), .val (.int ((240 : Int32) ||| (cp >>> ((18 : Int32) &&& 31)))), .val (.int ((128 : Int32) ||| ((cp >>> ((12 : Int32) &&& 31)) &&& (63 : Int32)))), .val (.int ((128 : Int32) ||| ((cp >>> ((6 : Int32) &&& 31)) &&& (63 : Int32)))), .val (.int ((128 : Int32) ||| (cp &&& (63 : Int32))))] [(.int ((128 : Int32) ||| (cp &&& (63 : Int32)))), (.int ((F2_45 (3 : Int32)) &&& (255 : Int32)))]))
        have hc263 : ((F2_45 (3 : Int32)) &&& (255 : Int32)) = ((128 : Int32) ||| (cp &&& (63 : Int32))) := by rw [u45_3]; exact own_t0 cp
        refine Go.step (fun _ k => XS.icmpNo X45.here hx rfl (hb hby at_263) rfl (teq hc263).2 k) ?_
        show Go _ _ _ _ _ _ _ (T45.setTop (mkF m 266 #[.val (.int qx), .val (.int qf), .val (.int cp), .val (.ref b2), .val (.int (4 : Int32)), .val (.int (4 : Int32)), .val (.int ((240 : Int32) ||| (cp >>> ((18 : Int32) &&& 31)))), .val (.int ((128 : Int32) ||| ((cp >>> ((12 : Int32) &&& 31)) &&& (63 : Int32)))), .val (.int ((128 : Int32) ||| ((cp >>> ((6 : Int32) &&& 31)) &&& (63 : Int32)))), .val (.int ((128 : Int32) ||| (cp &&& (63 : Int32))))] []))
        refine Go.step (fun _ k => XS.iconst X45.here hx rfl (hb hby at_266) k) ?_
        show Go _ _ _ _ _ _ _ (T45.setTop (mkF m 267 #[.val (.int qx), .val (.int qf), .val (.int cp), .val (.ref b2), .val (.int (4 : Int32)), .val (.int (4 : Int32)), .val (.int ((240 : Int32) ||| (cp >>> ((18 : Int32) &&& 31)))), .val (.int ((128 : Int32) ||| ((cp >>> ((12 : Int32) &&& 31)) &&& (63 : Int32)))), .val (.int ((128 : Int32) ||| ((cp >>> ((6 : Int32) &&& 31)) &&& (63 : Int32)))), .val (.int ((128 : Int32) ||| (cp &&& (63 : Int32))))] [(.int (1 : Int32))]))
        refine Go.step (fun _ k => XS.goto X45.here hx rfl (pc0 := 267) (pc' := 271) rfl (hb hby at_267) (by decide) (by decide) k) ?_
        show Go _ _ _ _ _ _ _ (T45.setTop (mkF m 271 #[.val (.int qx), .val (.int qf), .val (.int cp), .val (.ref b2), .val (.int (4 : Int32)), .val (.int (4 : Int32)), .val (.int ((240 : Int32) ||| (cp >>> ((18 : Int32) &&& 31)))), .val (.int ((128 : Int32) ||| ((cp >>> ((12 : Int32) &&& 31)) &&& (63 : Int32)))), .val (.int ((128 : Int32) ||| ((cp >>> ((6 : Int32) &&& 31)) &&& (63 : Int32)))), .val (.int ((128 : Int32) ||| (cp &&& (63 : Int32))))] [(.int (1 : Int32))]))
        refine Go.retN X45 hx (t := .boolean) Bd.returns (by simp) hlk (hb hby at_271) ?_ (by decide) (by decide)
        exact ⟨(by first | rfl | (simp_all [own_nb1, own_nb0]; done)), N45⟩
  show Go _ _ _ _ _ _ _ (s₁.setTop (mkF m 12 #[.val (.int qx), .val (.int qf), .val (.int cp0), .unset, .unset, .unset, .unset, .unset, .unset, .unset] []))
  refine Go.step (fun _ k => XS.iloadN X0.here hx rfl (hb hby at_12) rfl  k) ?_
  show Go _ _ _ _ _ _ _ (s₁.setTop (mkF m 13 #[.val (.int qx), .val (.int qf), .val (.int cp0), .unset, .unset, .unset, .unset, .unset, .unset, .unset] [(.int cp0)]))
  refine Go.step (X0.ldcInt hx hown (mvT hZ (hw _ (List.mem_of_getElem? (i := 2) rfl))) (g := (mkF m 13 #[.val (.int qx), .val (.int qf), .val (.int cp0), .unset, .unset, .unset, .unset, .unset, .unset, .unset] [(.int cp0)])) rfl (hb hby at_13)) ?_
  show Go _ _ _ _ _ _ _ (s₁.setTop (mkF m 15 #[.val (.int qx), .val (.int qf), .val (.int cp0), .unset, .unset, .unset, .unset, .unset, .unset, .unset] [(.int (55296 : Int32)), (.int cp0)]))
  by_cases hc15 : cp0 < (55296 : Int32)
  · skip
    refine Go.step (fun _ k => XS.icmpYes X0.here hx rfl (pc0 := 15) (pc' := 24) rfl (hb hby at_15) rfl (tlt hc15).1 (by decide) (by decide) k) ?_
    exact J24_1 cp0 _ _ X0 e0 N0 (by omega)
  · skip
    refine Go.step (fun _ k => XS.icmpNo X0.here hx rfl (hb hby at_15) rfl (flt hc15).1 k) ?_
    show Go _ _ _ _ _ _ _ (s₁.setTop (mkF m 18 #[.val (.int qx), .val (.int qf), .val (.int cp0), .unset, .unset, .unset, .unset, .unset, .unset, .unset] []))
    refine Go.step (fun _ k => own_iincW X0.here hx rfl (hb hby at_18) rfl (l' := #[.val (.int qx), .val (.int qf), .val (.int (cp0 + (2048 : Int32))), .unset, .unset, .unset, .unset, .unset, .unset, .unset]) rfl k) ?_
    exact J24_1 (cp0 + (2048 : Int32)) _ _ X0 e0 N0 (own_cp2 hcp00)
set_option maxRecDepth 65536 in
set_option maxHeartbeats 40000000 in
theorem comes_1 {Post : Tables → Env → Array Value → State → Outcome → State → Prop} (hpost : ∀ tb e args s v u, (limb_1_1.after args s (.returned v) u = true ∧ limb_1_2.after args s (.returned v) u = true ∧ True) → FrameEnd s (.returned v) u (Jvm.fieldLocs frame_1_writes args s ++ Jvm.arrayLocs frame_1_arrays args s ++ Jvm.staticLocs frame_1_statics s) 16 128 → Post tb e args s (.returned v) u) :
    ArmFor flags0 classFile x code maxLocals ret World_1 tables_1 room_1 Calls_1 rest_1 Pre_1 Post := by
  intro l hfl _ _ p e ha hc hk s m args below hf hA hF happ hP
  obtain ⟨hcalls, hrest, hpre⟩ := hP
  obtain ⟨-, -, -, hnamed, -, -, -, hat⟩ := (Spec.applies_iff hf).mp happ
  obtain ⟨hg, hn⟩ := and_e (Cond.before_iff.mp (show (Jvm.Cond.and given_1 narrow_1).before args s = true from hpre))
  obtain ⟨g0, r0⟩ := and_e hg
  obtain ⟨a0, r1⟩ := and_e r0
  have a1 := r1
  obtain ⟨w0, w1, rfl⟩ : ∃ w0 w1 : Value, args = #[w0, w1] := by
    have hs : args.size = 2 := by simpa [Cond.value, given_1] using g0
    obtain ⟨L⟩ := args
    match L, hs with
    | [w0, w1], _ => exact ⟨w0, w1, rfl⟩
  have hw := fun d (hd : d ∈ tables_1) => atoms_spec (ws := Jvm.Cond.code x code maxLocals ret :: tables_1) hat d (List.mem_cons_of_mem _ hd)
  have hfit : Fit s := fun {y c} hc i hi => by
    obtain ⟨ha, rfl⟩ := Array.getElem?_eq_some_iff.mp hc
    have q := List.all_eq_true.mp ((Array.all_eq_true_iff_forall_mem.mp hF) _ (Array.getElem_mem ha)) i (List.mem_range.mpr hi)
    simpa [Array.getElem?_eq_getElem hi] using q
  obtain ⟨i0, ei0⟩ := is_v a0
  obtain rfl : w0 = (.int i0) := Option.some.inj ei0
  obtain ⟨i1, ei1⟩ := is_v a1
  obtain rfl : w1 = (.int i1) := Option.some.inj ei1
  obtain ⟨n, o, h1, h2, h3, _, L, rfl, ⟨rfl, N⟩, hq⟩ := rm0 l s _ hw tables_1 i0 i1  s.heap s.heap.size (Nat.le_refl _)  p e ha hc hk s m _ below hf ((Spec.applies_iff_loose hf).mp happ).1 ⟨rfl, State.Warmed39.refl s, rfl⟩ trivial
  refine ⟨n, _, h1, h2, h3, hpost _ _ _ _ _ _ ⟨Cond.after_iff.mpr rfl, Cond.after_iff.mpr (eq_i res_at (Term.int_eval (1)) rfl), trivial⟩ ⟨hq.1, hq.2.1, (hq.2.2.sift fun y hy => Or.inr (N y hy)).mono (by decide) (by decide)⟩⟩
theorem main_1_1 : Claimed_1_1 := comes_1 fun _ _ _ _ _ _ h hF => ⟨h.1, hF⟩
theorem main_1_2 : Claimed_1_2 := comes_1 fun _ _ _ _ _ _ h hF => ⟨h.2.1, hF⟩
end Jvm.Pilot.@@N@@
namespace Jvm.Pilot.@@N@@
open Jvm Jvm.ClassFile Sem Op Lib Jvm.Free Jvm.Stand Jvm.Pilot.@@N@@.Jvm.D
/-! MADE BY PROGRAM (witnessworld.py) out of the Statement's table words and the real class files: 9 classes; the members and pool entries that the words name. The judged class is class 1, her method 1. -/
namespace start1
open Jvm.ClassFile
def u (s : String) : CpInfo := .utf8 (stringToUtf16 s)
/-- a pool by its gaps: so many unusable entries, then the entry; so many at the end -/
def gap : Nat → List CpInfo → List CpInfo
  | 0, r => r
  | n + 1, r => .unusable :: gap n r
def poolList (es : List (Nat × CpInfo)) (last : Nat) : List CpInfo := es.foldr (fun e r => gap e.1 (e.2 :: r)) (gap last [])
def pool (es : List (Nat × CpInfo)) (last : Nat) : Array CpInfo := ⟨poolList es last⟩
def fileOf (pool : Array CpInfo) (this : Nat) (attrs : Array Attribute := #[]) (ms : Array MethodInfo := #[]) (fl : Nat := 33) (sup : Nat := 0) (ifs : Array Nat := #[]) (fds : Array FieldInfo := #[]) : ClassFile where
  minorVersion := 0
  majorVersion := 65
  constantPool := pool
  accessFlags := fl
  thisClass := this
  superClass := sup
  interfaces := ifs
  fields := fds
  methods := ms
  attributes := attrs
def plain (name : String) (sup : Option ClassId) : Class where
  name := name
  kind := .ordinary
  loader := none
  accessFlags := 33
  super := sup
  interfaces := #[]
  cf := none
  fields := #[]
  methods := #[]
  instanceTypes := #[]
  staticTypes := #[]
  resolved := #[]
  callSites := []
  init := .initialized
  statics := none
  mirror := none

def pool0 : Array CpInfo := pool [(5, u "<init>"), (0, u "()V"), (1, .class_ 10), (1, u "java/lang/Object")] 113

def k0m0 : Method := { name := "<init>", desc := "()V", sig := { parameters := [], returnType := none }, accessFlags := 1, code := none }
/-- java/lang/Object -/
def k0 : Class := { plain "java/lang/Object" none with
  accessFlags := 33
  interfaces := #[]
  cf := some (fileOf pool0 8 #[] #[{ accessFlags := 1, nameIndex := 5, descriptorIndex := 6, attributes := #[] }] 33 0 #[] #[])
  fields := #[]
  methods := #[k0m0]
  instanceTypes := #[]
  staticTypes := #[]
  resolved := Array.replicate 124 none
  statics := none }

def pool1 : Array CpInfo := pool [(2, .class_ 4), (1, u "java/lang/Object"), (0, u "<init>"), (0, u "()V"), (0, .integer 2147483647), (0, .integer 1111936), (0, .integer 55296), (0, .methodref 11 12), (0, .class_ 13), (0, .nameAndType 14 15), (0, u "com/example/omniform/omniform/Utf8"), (0, u "encode"), (0, u "(I[B)I"), (0, .integer 65536), (0, .class_ 18), (0, u "com/example/omniform/omniform/Utf8EncodePinLaw"), (2, u "law"), (0, u "(II)Z")] 5

def k1m0 : Method := { name := "<init>", desc := "()V", sig := { parameters := [], returnType := none }, accessFlags := 2, code := none }
def k1c1 : Code := { maxStack := 4, maxLocals := 10, code := code, exceptionTable := #[], attributes := #[] }
def k1m1 : Method := { name := "law", desc := "(II)Z", sig := { parameters := [.int, .int], returnType := some .boolean }, accessFlags := 9, code := some k1c1 }
/-- com/example/omniform/omniform/Utf8EncodePinLaw -/
def k1 : Class := { plain "com/example/omniform/omniform/Utf8EncodePinLaw" (some 0) with
  accessFlags := 49
  interfaces := #[]
  cf := some (fileOf pool1 17 #[] #[{ accessFlags := 2, nameIndex := 5, descriptorIndex := 6, attributes := #[] }, { accessFlags := 9, nameIndex := 21, descriptorIndex := 22, attributes := #[] }] 49 2 #[] #[])
  fields := #[]
  methods := #[k1m0, k1m1]
  instanceTypes := #[]
  staticTypes := #[]
  resolved := Array.replicate 28 none
  statics := none }

def pool2 : Array CpInfo := pool [(2, .class_ 4), (1, u "java/lang/Object"), (0, u "<init>"), (0, u "()V"), (0, .integer 65536), (0, .class_ 9), (0, u "com/example/omniform/omniform/Utf8"), (8, u "encode"), (0, u "(I[B)I")] 2

def k2m0 : Method := { name := "<init>", desc := "()V", sig := { parameters := [], returnType := none }, accessFlags := 2, code := none }
def k2c1 : Code := { maxStack := 5, maxLocals := 5, code := prog_34_method_4_code, exceptionTable := #[], attributes := #[] }
def k2m1 : Method := { name := "encode", desc := "(I[B)I", sig := { parameters := [.int, (.array .byte)], returnType := some .int }, accessFlags := 8, code := some k2c1 }
/-- com/example/omniform/omniform/Utf8 -/
def k2 : Class := { plain "com/example/omniform/omniform/Utf8" (some 0) with
  accessFlags := 48
  interfaces := #[]
  cf := some (fileOf pool2 8 #[] #[{ accessFlags := 2, nameIndex := 5, descriptorIndex := 6, attributes := #[] }, { accessFlags := 8, nameIndex := 18, descriptorIndex := 19, attributes := #[] }] 48 2 #[] #[])
  fields := #[]
  methods := #[k2m0, k2m1]
  instanceTypes := #[]
  staticTypes := #[]
  resolved := Array.replicate 22 none
  statics := none }

def pool3 : Array CpInfo := pool [(1, u "java/lang/Cloneable"), (0, .class_ 1), (0, u "java/lang/Object"), (0, .class_ 3)] 3

/-- java/lang/Cloneable -/
def k3 : Class := { plain "java/lang/Cloneable" (some 0) with
  accessFlags := 1537
  interfaces := #[]
  cf := some (fileOf pool3 2 #[] #[] 1537 4 #[] #[])
  fields := #[]
  methods := #[]
  instanceTypes := #[]
  staticTypes := #[]
  resolved := Array.replicate 8 none
  statics := none }

def pool4 : Array CpInfo := pool [(1, u "java/io/Serializable"), (0, .class_ 1), (0, u "java/lang/Object"), (0, .class_ 3)] 3

/-- java/io/Serializable -/
def k4 : Class := { plain "java/io/Serializable" (some 0) with
  accessFlags := 1537
  interfaces := #[]
  cf := some (fileOf pool4 2 #[] #[] 1537 4 #[] #[])
  fields := #[]
  methods := #[]
  instanceTypes := #[]
  staticTypes := #[]
  resolved := Array.replicate 8 none
  statics := none }

/-- the primitive byte -/
def k5 : Class := { plain "byte" none with kind := .primitive 'B', accessFlags := 0x411 }
/-- [B -/
def k6 : Class := { plain "[B" (some 0) with kind := .array 5 .byte, interfaces := #[3, 4], accessFlags := 1041 }

/-- the primitive int -/
def k7 : Class := { plain "int" none with kind := .primitive 'I', accessFlags := 0x411 }
/-- [I -/
def k8 : Class := { plain "[I" (some 0) with kind := .array 7 .int, interfaces := #[3, 4], accessFlags := 1041 }

def heap : Heap := #[]
def classes : Array Class := #[k0, k1, k2, k3, k4, k5, k6, k7, k8]
def interned : List (Array UInt16 × Addr) := []
def slotsUsed : Nat := 0
def theMethod : MethodId := ⟨1, 1⟩
def args0 : Array Value := #[.int 5, .int 3]
def aboutOver (below : List Frame) : State where
  vm := { classes := classes, interned := interned.toArray }
  heap := heap
  slotsUsed := slotsUsed
  threads := #[{ frames := .invoking theMethod args0 :: below }]
def below0 : List Frame := [.native { method := ⟨0, 0⟩, args := #[] }]
def about1 : State := aboutOver below0
def p0 : Program := .bare "" "" ""
def e0 : Env := launch0.env 0 0 0
theorem w_frames : about1.frames = Frame.invoking theMethod args0 :: below0 := rfl
set_option maxRecDepth 65536 in
theorem w_args : argsFit about1.vm theMethod args0 = true := by decide +kernel
set_option maxRecDepth 65536 in
theorem w_heap : heapFits about1 = true := by decide +kernel
set_option maxRecDepth 65536 in
theorem w_runnable : about1.curStatus? = some .runnable := by decide +kernel
set_option maxRecDepth 65536 in
theorem w_alone : about1.alone = true := by decide +kernel
set_option maxRecDepth 65536 in
theorem w_named : about1.methodNamed? x = some theMethod := by decide +kernel
set_option maxRecDepth 65536 in
theorem w_hears : about1.hears theMethod below0 = true := by decide +kernel
set_option maxRecDepth 65536 in
theorem w_ripe : about1.ripe theMethod args0 below0 = true := by decide +kernel
theorem w_running : about1.status = .running := rfl
set_option maxRecDepth 65536 in
theorem w_room : about1.hasRoom e0.platform room_1 = true :=
  launch0.hasRoom_least _ room_1 (by decide +kernel) (by decide +kernel) (by decide +kernel) (by decide +kernel) (by decide +kernel) (by decide +kernel)
theorem allAtoms_all (ts : List Jvm.Cond) (a : Array Jvm.Value) (st : Jvm.State) : (allAtoms ts).before a st = ts.all (fun c => c.before a st) := by
  induction ts with
  | nil => rfl
  | cons c t ih =>
    show (Jvm.Cond.and c (allAtoms t)).before a st = _
    rw [Jvm.Cond.before_and, ih, List.all_cons]
def words1 : List Jvm.Cond := Jvm.Cond.code x code maxLocals ret :: tables_1
/-- a 'code' word, met by the world's own term for the bytes: nothing is compared byte by byte -/
theorem code_word {y : MethodName} {bytes : ByteArray} {mx : Nat} {rt : Option FieldType} {a : Array Value} {s : State} {m : MethodId} {meth : Method} {c : Code} (h1 : s.methodNamed? y = some m) (h2 : s.vm.method? m = some meth) (h3 : meth.code = some c) (h4 : c.code = bytes)
    (h5 : (c.maxLocals == mx && c.exceptionTable.isEmpty && decide (c.maxStack ≤ mostOperands) && decide (meth.sig.returnType = rt) && !meth.locks && decide (parseMethodDescriptor y.desc = some meth.sig)) = true) : (Jvm.Cond.code y bytes mx rt).before a s = true := by
  simp only [Bool.and_eq_true, beq_iff_eq, Bool.not_eq_true', decide_eq_true_eq] at h5
  obtain ⟨⟨⟨⟨⟨g1, g2⟩, g3⟩, g4⟩, g5⟩, g6⟩ := h5
  simp [Cond.before, Cond.holds, Cond.value, h1, h2, h3, h4, g1, g2, g3, g4, g5, g6]
def isCode : Jvm.Cond → Bool
  | .code _ _ _ _ => true
  | _ => false
theorem all_split {L : List Jvm.Cond} {P : Jvm.Cond → Bool} (h1 : L.all (fun c => isCode c || P c) = true) (h2 : ∀ c ∈ L.filter isCode, P c = true) : L.all P = true := by
  refine List.all_eq_true.mpr fun c hc => ?_
  have h := List.all_eq_true.mp h1 c hc
  rcases Bool.eq_false_or_eq_true (isCode c) with hi | hi
  · exact h2 c (List.mem_filter.mpr ⟨hc, hi⟩)
  · simpa [hi] using h
set_option maxRecDepth 65536 in
theorem w_c0 : (Jvm.Cond.code x code maxLocals ret).before args0 about1 = true := code_word (m := ⟨1, 1⟩) (meth := k1m1) (c := k1c1) (by decide +kernel) rfl rfl rfl (by decide +kernel)
set_option maxRecDepth 65536 in
theorem w_c1 : (Jvm.Cond.code ({ cls := "com/example/omniform/omniform/Utf8", name := "encode", desc := "(I[B)I" } : Jvm.MethodName) prog_34_method_4_code (5 : Nat) (Option.some Jvm.ClassFile.FieldType.int)).before args0 about1 = true := code_word (m := ⟨2, 1⟩) (meth := k2m1) (c := k2c1) (by decide +kernel) rfl rfl rfl (by decide +kernel)
def codes1 : List Jvm.Cond := [Jvm.Cond.code x code maxLocals ret, Jvm.Cond.code ({ cls := "com/example/omniform/omniform/Utf8", name := "encode", desc := "(I[B)I" } : Jvm.MethodName) prog_34_method_4_code (5 : Nat) (Option.some Jvm.ClassFile.FieldType.int)]
set_option maxRecDepth 65536 in
theorem codes_eq : words1.filter isCode = codes1 := rfl
theorem w_codes : ∀ c ∈ words1.filter isCode, c.before args0 about1 = true := by
  rw [codes_eq]
  intro c hc
  simp only [codes1, List.mem_cons, List.not_mem_nil, or_false] at hc
  rcases hc with rfl | rfl
  · exact w_c0
  · exact w_c1
set_option maxRecDepth 65536 in
theorem w_t1 : words1.all (fun c => isCode c || c.before args0 about1) = true := by decide +kernel
theorem w_tables : (allAtoms (Jvm.Cond.code x code maxLocals ret :: tables_1)).before args0 about1 = true := by
  rw [allAtoms_all]
  show words1.all (fun c => c.before args0 about1) = true
  refine all_split ?_ w_codes
  rw [w_t1]
set_option maxRecDepth 65536 in
theorem w_case : (Jvm.Cond.and given_1 narrow_1).before args0 about1 = true := by decide +kernel
theorem w_applies : (headSpec (Jvm.Cond.code x code maxLocals ret :: tables_1) room_1).applies x e0.platform about1 = true :=
  (Spec.applies_iff w_frames).mpr ⟨w_running, w_runnable, w_alone, w_named, w_hears, w_ripe, w_room, w_tables⟩
theorem atStart : AtStart classFile x code maxLocals ret World_1 tables_1 room_1 Calls_1 rest_1 Pre_1 launch0 p0 e0 about1 theMethod args0 below0 :=
  ⟨lists_1, trivial, launch0.admits_env _ _ _, launch0.least_env, fairChoices_fair.cas, fairChoices_fair.clock, w_frames, w_args, w_heap, w_applies, trivial, trivial, w_case⟩
end start1
theorem witness_1 : WitnessClaimed_1 := ⟨start1.p0, start1.e0, start1.about1, start1.theMethod, start1.args0, start1.below0, start1.atStart⟩
end Jvm.Pilot.@@N@@
