import JvmDerived
import JvmDerived.Pilot.@@N@@Statement
import JvmDerived.Pilot.@@N@@Code
set_option linter.unusedVariables false
set_option linter.unusedSimpArgs false
namespace Jvm.Pilot.@@N@@
open Jvm Jvm.ClassFile Sem Op Lib Jvm.Free Jvm.Stand Jvm.LawKit Jvm.RoadKit Bundle Jvm.Pilot.@@N@@.Jvm.D
section Own
variable {p : Program} {l : Launch} {e : Env} {R : Room} {s : State} {m : MethodId} {args : Array Value} {below : List Frame} {meth : Method} {c : Code} {T : State} {locs : List Loc} {cells slots : Nat} {C N : Nat} {Q : Option Value → Heap → List Loc → Prop} {S S' : State} {Z : State} {h h' : Heap}
/-- from the state S the invocation ends in a return, and Q holds there -/
def Go (p : Program) (e : Env) (below : List Frame) (s : State) (C N : Nat) (Q : Option Value → Heap → List Loc → Prop) (S : State) : Prop :=
  ∃ s₂ o, Steps p.tables e below S s₂ ∧ s₂.status = .running ∧ Ended s₂ below o ∧ ∃ v L, o = .returned v ∧ Q v s₂.heap L ∧ FrameEnd s o s₂ L C N
theorem Go.step (st : ∀ t, Steps p.tables e below S' t → Steps p.tables e below S t) (G : Go p e below s C N Q S') : Go p e below s C N Q S := by
  obtain ⟨s₂, o, h, r⟩ := G
  exact ⟨s₂, o, st _ h, r⟩
theorem Go.tr (st : Steps p.tables e below S S') (G : Go p e below s C N Q S') : Go p e below s C N Q S := by
  obtain ⟨s₂, o, h, r⟩ := G
  exact ⟨s₂, o, st.trans h, r⟩
theorem Go.out (X : Stand p l e R s m args below meth c T locs cells slots) {v : Option Value} {g : JFrame} (hv : meth.sig.returnType = none → v = none) (hlk : meth.locks = false)
    (hst : ∀ fs, (∀ (f : JFrame) (acts : List Action), f.method = m → f.locked = none → f.entered = [] → (doReturn e (T.setTop f) acts v).1 = T.setFrames fs) → Steps p.tables e below (T.setTop g) (T.setFrames fs))
    (hQ : Q v T.heap locs) (hc : cells ≤ C) (hn : slots ≤ N) : Go p e below s C N Q (T.setTop g) := by
  obtain ⟨fs, hr, hrun, hended, hW, hsame⟩ := X.leave (v := v) hv hlk
  exact ⟨_, _, hst fs hr, hrun, hended, _, _, rfl, hQ, ⟨_, rfl⟩, hW, hsame.mono hc hn⟩
theorem Go.retV (X : Stand p l e R s m args below meth c T locs cells slots) (hx : p.tables.exec = Jvm.exec) {pc : Nat} {Ls : Array Slot} (hret : meth.sig.returnType = none) (hlk : meth.locks = false) (hd : decode c.code pc = .ok (.return_, 1))
    (hQ : Q none T.heap locs) (hc : cells ≤ C) (hn : slots ≤ N) : Go p e below s C N Q (T.setTop (mkF m pc Ls [])) :=
  Go.out X (fun _ => rfl) hlk (fun fs hr => X.returnOut hx hret hd hr) hQ hc hn
theorem Go.retI (X : Stand p l e R s m args below meth c T locs cells slots) (hx : p.tables.exec = Jvm.exec) {pc : Nat} {Ls : Array Slot} {z : Int32} {rest : List Value} (hret : meth.sig.returnType = some .int) (hlk : meth.locks = false) (hd : decode c.code pc = .ok (.ireturn, 1))
    (hQ : Q (some (.int z)) T.heap locs) (hc : cells ≤ C) (hn : slots ≤ N) : Go p e below s C N Q (T.setTop (mkF m pc Ls (.int z :: rest))) :=
  Go.out X (fun h => by rw [hret] at h; cases h) hlk (fun fs hr => retOut X hx hret rfl (Or.inl ⟨rfl, Or.inl rfl, z, rfl⟩) hd hr) hQ hc hn
theorem Go.retN (X : Stand p l e R s m args below meth c T locs cells slots) (hx : p.tables.exec = Jvm.exec) {pc : Nat} {Ls : Array Slot} {z : Int32} {t : FieldType} {rest : List Value} (hret : meth.sig.returnType = some t) (ht : t = .boolean ∨ t = .byte ∨ t = .char ∨ t = .short) (hlk : meth.locks = false) (hd : decode c.code pc = .ok (.ireturn, 1))
    (hQ : Q (some (.int (nar t z))) T.heap locs) (hc : cells ≤ C) (hn : slots ≤ N) : Go p e below s C N Q (T.setTop (mkF m pc Ls (.int z :: rest))) :=
  Go.out X (fun h => by rw [hret] at h; cases h) hlk (fun fs hr => Jvm.RoadKit.retN X hx hret ht hd hr) hQ hc hn
theorem Go.retJ (X : Stand p l e R s m args below meth c T locs cells slots) (hx : p.tables.exec = Jvm.exec) {pc : Nat} {Ls : Array Slot} {z : Int64} {rest : List Value} (hret : meth.sig.returnType = some .long) (hlk : meth.locks = false) (hd : decode c.code pc = .ok (.lreturn, 1))
    (hQ : Q (some (.long z)) T.heap locs) (hc : cells ≤ C) (hn : slots ≤ N) : Go p e below s C N Q (T.setTop (mkF m pc Ls (.long z :: rest))) :=
  Go.out X (fun h => by rw [hret] at h; cases h) hlk (fun fs hr => retOut X hx hret rfl (Or.inr (Or.inl ⟨rfl, rfl, z, rfl⟩)) hd hr) hQ hc hn
theorem Go.retA (X : Stand p l e R s m args below meth c T locs cells slots) (hx : p.tables.exec = Jvm.exec) {pc : Nat} {Ls : Array Slot} {w : Value} {t : FieldType} {rest : List Value} (hret : meth.sig.returnType = some t) (ht : t.isReference = true) (hw : w.isRef = true) (hlk : meth.locks = false) (hd : decode c.code pc = .ok (.areturn, 1))
    (hQ : Q (some w) T.heap locs) (hc : cells ≤ C) (hn : slots ≤ N) : Go p e below s C N Q (T.setTop (mkF m pc Ls (w :: rest))) :=
  Go.out X (fun h => by rw [hret] at h; cases h) hlk (fun fs hr => retOut X hx hret (by rcases ref_cases hw with rfl | ⟨a, rfl⟩ <;> cases t <;> first | rfl | cases ht) (Or.inr (Or.inr (Or.inr (Or.inr ⟨rfl, ht, hw⟩)))) hd hr) hQ hc hn
/-- an array of ints, bytes ..: z places, the j-th holds f j -/
def Ai (Z : State) (h : Heap) (a : Addr) (ty : FieldType) (z : Int32) (f : Int32 → Int32) : Prop :=
  ∃ c : Cell, Arr Z h a c ty ∧ c.slots.size = z.toNatClampNeg ∧ ¬ z < 0 ∧ ∀ j : Int32, ¬ j < 0 → j < z → c.slots[j.toNatClampNeg]? = some (.int (f j))
theorem own_inb {cl : Cell} {z j : Int32} (S : cl.slots.size = z.toNatClampNeg) (h0 : ¬ j < 0) (h1 : j < z) : ¬ (j < 0 ∨ cl.slots.size ≤ j.toNatClampNeg) := inb_of S ⟨h0, h1⟩
theorem Ai.lt {a : Addr} {ty : FieldType} {z : Int32} {f : Int32 → Int32} (F : Ai Z h a ty z f) : a < h.size := by obtain ⟨c, A, -⟩ := F; exact A.lt
theorem Ai.nn {a : Addr} {ty : FieldType} {z : Int32} {f : Int32 → Int32} (F : Ai Z h a ty z f) : ¬ z < 0 := by obtain ⟨c, -, -, q, -⟩ := F; exact q
theorem Ai.ext {a : Addr} {ty : FieldType} {z : Int32} {f : Int32 → Int32} (F : Ai Z h a ty z f) (E : Ext h h') : Ai Z h' a ty z f := by obtain ⟨c, A, r⟩ := F; exact ⟨c, A.ext E, r⟩
theorem Ai.other {a b : Addr} {sl : Nat} {v : Value} {ty : FieldType} {z : Int32} {f : Int32 → Int32} (F : Ai Z h b ty z f) (W : Wr h h' a sl v) (q : b ≠ a) : Ai Z h' b ty z f := by obtain ⟨c, A, r⟩ := F; exact ⟨c, A.other W q, r⟩
theorem Ai.keep {a : Addr} {ws : List Addr} {ty : FieldType} {z : Int32} {f : Int32 → Int32} (F : Ai Z h a ty z f) (K : Keep h h' ws) (q : a ∉ ws) : Ai Z h' a ty z f := by obtain ⟨c, A, r⟩ := F; exact ⟨c, ⟨K.2.1 a c A.1 q, A.2⟩, r⟩
theorem Ai.new {a : Addr} {k : ClassId} {ty : FieldType} {z : Int32} (A : Arr Z h a (newA k ty z) ty) (q : ¬ z < 0) (hd : defaultValue ty = .int 0) : Ai Z h a ty z (fun _ => 0) :=
  ⟨_, A, sz_new _ _ _, q, fun j h0 h1 => by rw [get_new (sz_new k ty z ▸ own_inb (sz_new k ty z) h0 h1), hd]⟩
theorem Ai.eqf {a : Addr} {ty : FieldType} {z : Int32} {f g : Int32 → Int32} (F : Ai Z h a ty z f) (q : ∀ j : Int32, ¬ j < 0 → j < z → f j = g j) : Ai Z h a ty z g := by
  obtain ⟨c, A, S, n, H⟩ := F; exact ⟨c, A, S, n, fun j h0 h1 => by rw [← q j h0 h1]; exact H j h0 h1⟩
theorem Ai.set {a : Addr} {ty : FieldType} {z j x : Int32} {f : Int32 → Int32} (F : Ai Z h a ty z f) (h0 : ¬ j < 0) (h1 : j < z) (W : Wr h h' a j.toNatClampNeg (.int x)) : Ai Z h' a ty z (fun i => if i = j then x else f i) := by
  obtain ⟨c, A, S, n, H⟩ := F
  refine ⟨_, A.same W, by rw [sz_set]; exact S, n, fun i g0 g1 => ?_⟩
  by_cases e : i = j
  · rw [get_hit (own_inb S h0 h1) e]; simp [e]
  · rw [get_miss h0 g0 e, H i g0 g1]; simp [e]
theorem Ai.len (X : Stand p l e R s m args below meth c T locs cells slots) (hx : p.tables.exec = Jvm.exec) (hZ : Z.Warmed39 s.vm) (eT : T.heap = h) {a : Addr} {ty : FieldType} {z : Int32} {f : Int32 → Int32} (F : Ai Z h a ty z f)
    {g : JFrame} (hg : g.method = m) {rest : List Value} (hs : g.stack = .ref a :: rest) (hd : decode c.code g.pc = .ok (.arraylength, 1)) : ∀ target, Steps p.tables e below (T.setTop { g with pc := g.pc + 1, stack := .int z :: rest }) target → Steps p.tables e below (T.setTop g) target := by
  obtain ⟨cl, A, S, n, H⟩ := F
  intro t k
  refine X.arraylength hx (by rw [eT]; exact A.1) (State.isArrayOf_alike hZ.alike A.2.1) hg hs hd _ ?_
  rw [len_of S n]; exact k
theorem Ai.iaload (X : Stand p l e R s m args below meth c T locs cells slots) (hx : p.tables.exec = Jvm.exec) (hZ : Z.Warmed39 s.vm) (eT : T.heap = h) {a : Addr} {z j : Int32} {f : Int32 → Int32} (F : Ai Z h a .int z f) (h0 : ¬ j < 0) (h1 : j < z)
    {g : JFrame} (hg : g.method = m) {rest : List Value} (hs : g.stack = .int j :: .ref a :: rest) (hd : decode c.code g.pc = .ok (.iaload, 1)) : ∀ target, Steps p.tables e below (T.setTop { g with pc := g.pc + 1, stack := .int (f j) :: rest }) target → Steps p.tables e below (T.setTop g) target := by
  obtain ⟨cl, A, S, n, H⟩ := F
  exact X.iaload hx (by rw [eT]; exact A.1) (State.isArrayOf_alike hZ.alike A.2.1) A.2.2 (own_inb S h0 h1) (H j h0 h1) hg hs hd
theorem Ai.baload (X : Stand p l e R s m args below meth c T locs cells slots) (hx : p.tables.exec = Jvm.exec) (hZ : Z.Warmed39 s.vm) (eT : T.heap = h) {a : Addr} {z j : Int32} {f : Int32 → Int32} (F : Ai Z h a .byte z f) (h0 : ¬ j < 0) (h1 : j < z)
    {g : JFrame} (hg : g.method = m) {rest : List Value} (hs : g.stack = .int j :: .ref a :: rest) (hd : decode c.code g.pc = .ok (.baload, 1)) : ∀ target, Steps p.tables e below (T.setTop { g with pc := g.pc + 1, stack := .int (f j) :: rest }) target → Steps p.tables e below (T.setTop g) target := by
  obtain ⟨cl, A, S, n, H⟩ := F
  exact X.baloadBytes hx (by rw [eT]; exact A.1) (State.isArrayOf_alike hZ.alike A.2.1) A.2.2 (own_inb S h0 h1) (H j h0 h1) hg hs hd
theorem Ai.stI (X : Stand p l e R s m args below meth c T locs cells slots) (hx : p.tables.exec = Jvm.exec) (hZ : Z.Warmed39 s.vm) (eT : T.heap = h) {a : Addr} {z j x : Int32} {f : Int32 → Int32} (F : Ai Z h a .int z f) (h0 : ¬ j < 0) (h1 : j < z)
    {g : JFrame} (hg : g.method = m) {rest : List Value} (hs : g.stack = .int x :: .int j :: .ref a :: rest) (hd : decode c.code g.pc = .ok (.iastore, 1)) :
    ∃ T' h', Stand p l e R s m args below meth c T' (locs ++ [⟨a, j.toNatClampNeg⟩]) cells slots ∧ T'.heap = h' ∧ Wr h h' a j.toNatClampNeg (.int x) ∧ Ai Z h' a .int z (fun i => if i = j then x else f i) ∧ ∀ target, Steps p.tables e below (T'.setTop { g with pc := g.pc + 1, stack := rest }) target → Steps p.tables e below (T.setTop g) target := by
  obtain ⟨cl, A, S, n, H⟩ := F
  obtain ⟨T', h', X', e', W, st⟩ := Jvm.RoadKit.stI X hx hZ eT A (own_inb S h0 h1) hg hs hd
  exact ⟨T', h', X', e', W, Ai.set ⟨cl, A, S, n, H⟩ h0 h1 W, st⟩
theorem Ai.stB (X : Stand p l e R s m args below meth c T locs cells slots) (hx : p.tables.exec = Jvm.exec) (hZ : Z.Warmed39 s.vm) (eT : T.heap = h) {a : Addr} {z j x : Int32} {f : Int32 → Int32} (F : Ai Z h a .byte z f) (h0 : ¬ j < 0) (h1 : j < z)
    {g : JFrame} (hg : g.method = m) {rest : List Value} (hs : g.stack = .int x :: .int j :: .ref a :: rest) (hd : decode c.code g.pc = .ok (.bastore, 1)) :
    ∃ T' h', Stand p l e R s m args below meth c T' (locs ++ [⟨a, j.toNatClampNeg⟩]) cells slots ∧ T'.heap = h' ∧ Wr h h' a j.toNatClampNeg (.int (nar .byte x)) ∧ Ai Z h' a .byte z (fun i => if i = j then nar .byte x else f i) ∧ ∀ target, Steps p.tables e below (T'.setTop { g with pc := g.pc + 1, stack := rest }) target → Steps p.tables e below (T.setTop g) target := by
  obtain ⟨cl, A, S, n, H⟩ := F
  obtain ⟨T', h', X', e', W, st⟩ := Jvm.RoadKit.stB X hx hZ eT A (own_inb S h0 h1) hg hs hd
  exact ⟨T', h', X', e', W, Ai.set ⟨cl, A, S, n, H⟩ h0 h1 W, st⟩
end Own
theorem narrow_ref {t : FieldType} {v : Value} (hv : v.isRef = true) (ht : t.isReference = true) : narrow t v = v := by rcases ref_cases hv with rfl | ⟨a, rfl⟩ <;> cases t <;> first | rfl | cases ht
theorem fits_refV {t : FieldType} {v : Value} (hv : v.isRef = true) (ht : t.isReference = true) : fits t v = true := by rcases ref_cases hv with rfl | ⟨a, rfl⟩ <;> cases t <;> first | rfl | cases ht
theorem own_iincW {tb : Tables} [Ours tb] {e : Env} {below : List Frame} {T target : State} {m : MethodId} {c : Code} {g : JFrame} (h : At T m c below) (hx : tb.exec = Jvm.exec) (hg : g.method = m) {k : Nat} {cst : Int} {x : Int32} {l' : Array Slot} (hd : decode c.code g.pc = .ok (.iinc k cst, 6)) (hl : g.locals[k]? = some (.val (.int x))) (hl' : storeLocals g.locals k (.int (x + Int32.ofInt cst)) = some l')
    (hr : Steps tb e below (T.setTop { g with pc := g.pc + 6, locals := l' }) target) : Steps tb e below (T.setTop g) target := by
  subst hg
  jvm_step h [h.top, hx, hd, hl, hl']
  exact hr

theorem own_nb1 : nar .boolean 1 = 1 := by decide
theorem own_nb0 : nar .boolean 0 = 0 := by decide
theorem own_lirr {a : Int32} : ¬ a < a := by rw [Int32.lt_iff_toInt_lt]; omega
theorem own_lasym {a b : Int32} (h : a < b) : ¬ b < a := by rw [Int32.lt_iff_toInt_lt] at *; omega
theorem own_lneg {a b : Int32} (h0 : ¬ a < 0) (h : a < b) : ¬ b < 0 := by rw [Int32.lt_iff_toInt_lt] at *; omega
theorem own_clamp {z : Int32} {n : Nat} (h : z.toInt ≤ n) : z.toNatClampNeg ≤ n := by
  show z.toInt.toNat ≤ n
  omega
theorem own_i_0 : (0 : Int32).toInt = 0 := by decide
theorem own_i_1 : (1 : Int32).toInt = 1 := by decide
theorem own_i_7 : (7 : Int32).toInt = 7 := by decide
theorem own_i_8 : (8 : Int32).toInt = 8 := by decide
def own_raw (id : Int64) (k i : Int32) : Int32 := Int8.toInt32 (Int32.toInt8 (Int64.toInt32 ((Int64.toUInt64 id >>> (((8 : Int32) * ((k - (1 : Int32)) - i)) &&& 0x3f).toInt64.toUInt64).toInt64)))
def own_b (id : Int64) (k i : Int32) : Int32 := nar .byte (own_raw id k i)
theorem own_up {i k : Int32} (h0 : ¬ i < 0) (h : i < k) : ¬ (i + 1) < 0 ∧ ¬ k < (i + 1) ∧ (k.toInt - (i + 1).toInt).toNat < (k.toInt - i.toInt).toNat ∧ (i + 1).toInt = i.toInt + 1 := by
  have a1 := c_iadd i 1
  have a2 := rng32 (i + 1)
  have a3 := rng32 k
  simp only [Int32.lt_iff_toInt_lt, own_i_0, own_i_1] at *
  omega
theorem own_next {id : Int64} {k i : Int32} {F G : Int32 → Int32} (h0 : ¬ i < 0) (h : i < k) (hF : ∀ j : Int32, ¬ j < 0 → j < i → F j = own_b id k j) (hG : G = fun j => if j = i then nar .byte (own_raw id k i) else F j) : ∀ j : Int32, ¬ j < 0 → j < i + 1 → G j = own_b id k j := fun j hj h1 => by
  rw [hG]
  by_cases e : j = i
  · simp only [e, if_pos]; rfl
  · simp only [e, if_false]
    refine hF j hj ?_
    have a1 := (own_up h0 h).2.2.2
    have a2 : ¬ j.toInt = i.toInt := fun q => e (Int32.toInt_inj.mp q)
    rw [Int32.lt_iff_toInt_lt] at *
    omega
theorem own_le {j p i : Int32} (q : j < p) (h : ¬ i < p) : j < i := by rw [Int32.lt_iff_toInt_lt] at *; omega
theorem own_kk (s : Int32) : 1 ≤ ((s &&& (7 : Int32)) + (1 : Int32)).toInt ∧ ((s &&& (7 : Int32)) + (1 : Int32)).toInt ≤ 8 ∧ ¬ ((s &&& (7 : Int32)) + (1 : Int32)) < 0 ∧ ((s &&& (7 : Int32)) + (1 : Int32)).toNatClampNeg ≤ 8 := by
  have h := c_mask s 7 3 (by decide) (by decide)
  have a1 := c_iadd (s &&& 7) 1
  have a2 := rng32 ((s &&& 7) + 1)
  rw [own_i_1] at a1
  refine ⟨by omega, by omega, ?_, own_clamp (by omega)⟩
  simp only [Int32.lt_iff_toInt_lt, own_i_0]; omega
theorem own_sh (id : Int64) (q : Int32) (n : Nat) (hq : q.toBitVec.toNat % 64 = n) : (((Int64.toUInt64 id >>> (q &&& 0x3f).toInt64.toUInt64).toInt64).toInt - (id.toInt % 18446744073709551616) / (2 ^ n : Nat)) % 256 = 0 := by
  by_cases h0 : 0 < n
  · rw [c_lushr id q n hq h0]; omega
  · obtain rfl : n = 0 := by omega
    have e1 : (q &&& 0x3f).toInt64 = 0 := by
      have := (sm64 q 0 hq).1
      exact Int64.toBitVec_inj.mp this
    have e2 : (Int64.toUInt64 id >>> ((q &&& 0x3f).toInt64.toUInt64)).toInt64 = id := by
      rw [e1]
      apply Int64.toBitVec_inj.mp
      simp
    rw [e2]; omega
theorem own_byn (id : Int64) (q : Int32) (n : Nat) (hq : q.toBitVec.toNat % 64 = n) : ((Int32.toInt64 (nar .byte (Int8.toInt32 (Int32.toInt8 (Int64.toInt32 ((Int64.toUInt64 id >>> (q &&& 0x3f).toInt64.toUInt64).toInt64)))))) &&& (255 : Int64)).toInt = (id.toInt % 18446744073709551616) / (2 ^ n : Nat) % 256 := by
  have h1 := own_sh id q n hq
  generalize ((Int64.toUInt64 id >>> (q &&& 0x3f).toInt64.toUInt64).toInt64) = v at *
  have h2 := c_l2i v
  have h3 := (c_i2b (Int64.toInt32 v)).1
  have h4 := (c_i2b (Int8.toInt32 (Int32.toInt8 (Int64.toInt32 v)))).1
  have h5 := c_i2l (nar .byte (Int8.toInt32 (Int32.toInt8 (Int64.toInt32 v))))
  have h6 := c_maskL (Int32.toInt64 (nar .byte (Int8.toInt32 (Int32.toInt8 (Int64.toInt32 v))))) 255 8 (by decide) (by decide)
  have h7 : (nar .byte (Int8.toInt32 (Int32.toInt8 (Int64.toInt32 v)))) = (Int32.toInt8 (Int8.toInt32 (Int32.toInt8 (Int64.toInt32 v)))).toInt32 := rfl
  rw [h6, h5, h7]
  have e : ((2 ^ 8 : Nat) : Int) = 256 := by decide
  rw [e]
  generalize (id.toInt % 18446744073709551616) / ((2 ^ n : Nat) : Int) = Y at *
  omega
theorem own_ch0 {r B : Int64} {X : Int} (hr : r.toInt = X / 256 % 1) (hB : B.toInt = X % 256) : (((r <<< ((8 : Int32) &&& 0x3f).toInt64) ||| B).toInt - X % 256) % 18446744073709551616 = 0 := by
  have a1 := c_lshl r 8 8 (by decide)
  have e : ((2 ^ 8 : Nat) : Int) = 256 := by decide
  rw [e] at a1
  have a2 := c_orL (r <<< ((8 : Int32) &&& 0x3f).toInt64) B 8 (by decide) 256 (by decide) (by omega) (by omega) (by omega)
  omega
theorem own_ch1 {r B : Int64} {X : Int} (hr : r.toInt = X / 256 % 256) (hB : B.toInt = X % 256) : (((r <<< ((8 : Int32) &&& 0x3f).toInt64) ||| B).toInt - X % 65536) % 18446744073709551616 = 0 := by
  have a1 := c_lshl r 8 8 (by decide)
  have e : ((2 ^ 8 : Nat) : Int) = 256 := by decide
  rw [e] at a1
  have a2 := c_orL (r <<< ((8 : Int32) &&& 0x3f).toInt64) B 8 (by decide) 256 (by decide) (by omega) (by omega) (by omega)
  omega
theorem own_ch2 {r B : Int64} {X : Int} (hr : r.toInt = X / 256 % 65536) (hB : B.toInt = X % 256) : (((r <<< ((8 : Int32) &&& 0x3f).toInt64) ||| B).toInt - X % 16777216) % 18446744073709551616 = 0 := by
  have a1 := c_lshl r 8 8 (by decide)
  have e : ((2 ^ 8 : Nat) : Int) = 256 := by decide
  rw [e] at a1
  have a2 := c_orL (r <<< ((8 : Int32) &&& 0x3f).toInt64) B 8 (by decide) 256 (by decide) (by omega) (by omega) (by omega)
  omega
theorem own_ch3 {r B : Int64} {X : Int} (hr : r.toInt = X / 256 % 16777216) (hB : B.toInt = X % 256) : (((r <<< ((8 : Int32) &&& 0x3f).toInt64) ||| B).toInt - X % 4294967296) % 18446744073709551616 = 0 := by
  have a1 := c_lshl r 8 8 (by decide)
  have e : ((2 ^ 8 : Nat) : Int) = 256 := by decide
  rw [e] at a1
  have a2 := c_orL (r <<< ((8 : Int32) &&& 0x3f).toInt64) B 8 (by decide) 256 (by decide) (by omega) (by omega) (by omega)
  omega
theorem own_ch4 {r B : Int64} {X : Int} (hr : r.toInt = X / 256 % 4294967296) (hB : B.toInt = X % 256) : (((r <<< ((8 : Int32) &&& 0x3f).toInt64) ||| B).toInt - X % 1099511627776) % 18446744073709551616 = 0 := by
  have a1 := c_lshl r 8 8 (by decide)
  have e : ((2 ^ 8 : Nat) : Int) = 256 := by decide
  rw [e] at a1
  have a2 := c_orL (r <<< ((8 : Int32) &&& 0x3f).toInt64) B 8 (by decide) 256 (by decide) (by omega) (by omega) (by omega)
  omega
theorem own_ch5 {r B : Int64} {X : Int} (hr : r.toInt = X / 256 % 1099511627776) (hB : B.toInt = X % 256) : (((r <<< ((8 : Int32) &&& 0x3f).toInt64) ||| B).toInt - X % 281474976710656) % 18446744073709551616 = 0 := by
  have a1 := c_lshl r 8 8 (by decide)
  have e : ((2 ^ 8 : Nat) : Int) = 256 := by decide
  rw [e] at a1
  have a2 := c_orL (r <<< ((8 : Int32) &&& 0x3f).toInt64) B 8 (by decide) 256 (by decide) (by omega) (by omega) (by omega)
  omega
theorem own_ch6 {r B : Int64} {X : Int} (hr : r.toInt = X / 256 % 281474976710656) (hB : B.toInt = X % 256) : (((r <<< ((8 : Int32) &&& 0x3f).toInt64) ||| B).toInt - X % 72057594037927936) % 18446744073709551616 = 0 := by
  have a1 := c_lshl r 8 8 (by decide)
  have e : ((2 ^ 8 : Nat) : Int) = 256 := by decide
  rw [e] at a1
  have a2 := c_orL (r <<< ((8 : Int32) &&& 0x3f).toInt64) B 8 (by decide) 256 (by decide) (by omega) (by omega) (by omega)
  omega
theorem own_ch7 {r B : Int64} {X : Int} (hr : r.toInt = X / 256 % 72057594037927936) (hB : B.toInt = X % 256) : (((r <<< ((8 : Int32) &&& 0x3f).toInt64) ||| B).toInt - X % 18446744073709551616) % 18446744073709551616 = 0 := by
  have a1 := c_lshl r 8 8 (by decide)
  have e : ((2 ^ 8 : Nat) : Int) = 256 := by decide
  rw [e] at a1
  have a2 := c_orL (r <<< ((8 : Int32) &&& 0x3f).toInt64) B 8 (by decide) 256 (by decide) (by omega) (by omega) (by omega)
  omega
theorem own_k1 {id : Int64} {f : Int32 → Int32} {r1 r2 r3 r4 r5 r6 r7 r8 : Int64} (hf : ∀ j : Int32, ¬ j < 0 → j < (1 : Int32) → f j = own_b id 1 j)
    (q1 : r1 = (if (0 : Int32) < (1 : Int32) then (((0 : Int64) <<< ((8 : Int32) &&& 0x3f).toInt64) ||| ((Int32.toInt64 (f (0 : Int32))) &&& (255 : Int64))) else (0 : Int64)))
    (q2 : r2 = (if (1 : Int32) < (1 : Int32) then ((r1 <<< ((8 : Int32) &&& 0x3f).toInt64) ||| ((Int32.toInt64 (f (1 : Int32))) &&& (255 : Int64))) else r1))
    (q3 : r3 = (if (2 : Int32) < (1 : Int32) then ((r2 <<< ((8 : Int32) &&& 0x3f).toInt64) ||| ((Int32.toInt64 (f (2 : Int32))) &&& (255 : Int64))) else r2))
    (q4 : r4 = (if (3 : Int32) < (1 : Int32) then ((r3 <<< ((8 : Int32) &&& 0x3f).toInt64) ||| ((Int32.toInt64 (f (3 : Int32))) &&& (255 : Int64))) else r3))
    (q5 : r5 = (if (4 : Int32) < (1 : Int32) then ((r4 <<< ((8 : Int32) &&& 0x3f).toInt64) ||| ((Int32.toInt64 (f (4 : Int32))) &&& (255 : Int64))) else r4))
    (q6 : r6 = (if (5 : Int32) < (1 : Int32) then ((r5 <<< ((8 : Int32) &&& 0x3f).toInt64) ||| ((Int32.toInt64 (f (5 : Int32))) &&& (255 : Int64))) else r5))
    (q7 : r7 = (if (6 : Int32) < (1 : Int32) then ((r6 <<< ((8 : Int32) &&& 0x3f).toInt64) ||| ((Int32.toInt64 (f (6 : Int32))) &&& (255 : Int64))) else r6))
    (q8 : r8 = (if (7 : Int32) < (1 : Int32) then ((r7 <<< ((8 : Int32) &&& 0x3f).toInt64) ||| ((Int32.toInt64 (f (7 : Int32))) &&& (255 : Int64))) else r7))
    : (r8.toInt - (id.toInt % 18446744073709551616) % 256) % 18446744073709551616 = 0 := by
  generalize hU : id.toInt % 18446744073709551616 = U at *
  have hU0 : 0 ≤ U ∧ U < 18446744073709551616 := by omega
  have b0 : ((Int32.toInt64 (f (0 : Int32))) &&& (255 : Int64)).toInt = U / 1 % 256 := by
    have q := own_byn id ((8 : Int32) * (((1 : Int32) - (1 : Int32)) - (0 : Int32))) 0 (by decide)
    rw [hf 0 (by decide) (by decide), own_b, own_raw, q, hU]; rfl
  rw [if_pos (by decide)] at q1
  have s1 := own_ch0 (r := (0 : Int64)) (X := U / 1) (by rw [show (0 : Int64).toInt = 0 from by decide]; omega) b0
  rw [← q1] at s1
  have t1 : r1.toInt = U / 1 % 256 := by
    have := rng64 r1; omega
  rw [if_neg (by decide)] at q2
  rw [if_neg (by decide)] at q3
  rw [if_neg (by decide)] at q4
  rw [if_neg (by decide)] at q5
  rw [if_neg (by decide)] at q6
  rw [if_neg (by decide)] at q7
  rw [if_neg (by decide)] at q8
  subst q8; subst q7; subst q6; subst q5; subst q4; subst q3; subst q2;
  omega
theorem own_k2 {id : Int64} {f : Int32 → Int32} {r1 r2 r3 r4 r5 r6 r7 r8 : Int64} (hf : ∀ j : Int32, ¬ j < 0 → j < (2 : Int32) → f j = own_b id 2 j)
    (q1 : r1 = (if (0 : Int32) < (2 : Int32) then (((0 : Int64) <<< ((8 : Int32) &&& 0x3f).toInt64) ||| ((Int32.toInt64 (f (0 : Int32))) &&& (255 : Int64))) else (0 : Int64)))
    (q2 : r2 = (if (1 : Int32) < (2 : Int32) then ((r1 <<< ((8 : Int32) &&& 0x3f).toInt64) ||| ((Int32.toInt64 (f (1 : Int32))) &&& (255 : Int64))) else r1))
    (q3 : r3 = (if (2 : Int32) < (2 : Int32) then ((r2 <<< ((8 : Int32) &&& 0x3f).toInt64) ||| ((Int32.toInt64 (f (2 : Int32))) &&& (255 : Int64))) else r2))
    (q4 : r4 = (if (3 : Int32) < (2 : Int32) then ((r3 <<< ((8 : Int32) &&& 0x3f).toInt64) ||| ((Int32.toInt64 (f (3 : Int32))) &&& (255 : Int64))) else r3))
    (q5 : r5 = (if (4 : Int32) < (2 : Int32) then ((r4 <<< ((8 : Int32) &&& 0x3f).toInt64) ||| ((Int32.toInt64 (f (4 : Int32))) &&& (255 : Int64))) else r4))
    (q6 : r6 = (if (5 : Int32) < (2 : Int32) then ((r5 <<< ((8 : Int32) &&& 0x3f).toInt64) ||| ((Int32.toInt64 (f (5 : Int32))) &&& (255 : Int64))) else r5))
    (q7 : r7 = (if (6 : Int32) < (2 : Int32) then ((r6 <<< ((8 : Int32) &&& 0x3f).toInt64) ||| ((Int32.toInt64 (f (6 : Int32))) &&& (255 : Int64))) else r6))
    (q8 : r8 = (if (7 : Int32) < (2 : Int32) then ((r7 <<< ((8 : Int32) &&& 0x3f).toInt64) ||| ((Int32.toInt64 (f (7 : Int32))) &&& (255 : Int64))) else r7))
    : (r8.toInt - (id.toInt % 18446744073709551616) % 65536) % 18446744073709551616 = 0 := by
  generalize hU : id.toInt % 18446744073709551616 = U at *
  have hU0 : 0 ≤ U ∧ U < 18446744073709551616 := by omega
  have b0 : ((Int32.toInt64 (f (0 : Int32))) &&& (255 : Int64)).toInt = U / 256 % 256 := by
    have q := own_byn id ((8 : Int32) * (((2 : Int32) - (1 : Int32)) - (0 : Int32))) 8 (by decide)
    rw [hf 0 (by decide) (by decide), own_b, own_raw, q, hU]; rfl
  rw [if_pos (by decide)] at q1
  have s1 := own_ch0 (r := (0 : Int64)) (X := U / 256) (by rw [show (0 : Int64).toInt = 0 from by decide]; omega) b0
  rw [← q1] at s1
  have t1 : r1.toInt = U / 256 % 256 := by
    have := rng64 r1; omega
  have b1 : ((Int32.toInt64 (f (1 : Int32))) &&& (255 : Int64)).toInt = U / 1 % 256 := by
    have q := own_byn id ((8 : Int32) * (((2 : Int32) - (1 : Int32)) - (1 : Int32))) 0 (by decide)
    rw [hf 1 (by decide) (by decide), own_b, own_raw, q, hU]; rfl
  rw [if_pos (by decide)] at q2
  have s2 := own_ch1 (r := r1) (X := U / 1) (by rw [t1]; omega) b1
  rw [← q2] at s2
  have t2 : r2.toInt = U / 1 % 65536 := by
    have := rng64 r2; omega
  rw [if_neg (by decide)] at q3
  rw [if_neg (by decide)] at q4
  rw [if_neg (by decide)] at q5
  rw [if_neg (by decide)] at q6
  rw [if_neg (by decide)] at q7
  rw [if_neg (by decide)] at q8
  subst q8; subst q7; subst q6; subst q5; subst q4; subst q3;
  omega
theorem own_k3 {id : Int64} {f : Int32 → Int32} {r1 r2 r3 r4 r5 r6 r7 r8 : Int64} (hf : ∀ j : Int32, ¬ j < 0 → j < (3 : Int32) → f j = own_b id 3 j)
    (q1 : r1 = (if (0 : Int32) < (3 : Int32) then (((0 : Int64) <<< ((8 : Int32) &&& 0x3f).toInt64) ||| ((Int32.toInt64 (f (0 : Int32))) &&& (255 : Int64))) else (0 : Int64)))
    (q2 : r2 = (if (1 : Int32) < (3 : Int32) then ((r1 <<< ((8 : Int32) &&& 0x3f).toInt64) ||| ((Int32.toInt64 (f (1 : Int32))) &&& (255 : Int64))) else r1))
    (q3 : r3 = (if (2 : Int32) < (3 : Int32) then ((r2 <<< ((8 : Int32) &&& 0x3f).toInt64) ||| ((Int32.toInt64 (f (2 : Int32))) &&& (255 : Int64))) else r2))
    (q4 : r4 = (if (3 : Int32) < (3 : Int32) then ((r3 <<< ((8 : Int32) &&& 0x3f).toInt64) ||| ((Int32.toInt64 (f (3 : Int32))) &&& (255 : Int64))) else r3))
    (q5 : r5 = (if (4 : Int32) < (3 : Int32) then ((r4 <<< ((8 : Int32) &&& 0x3f).toInt64) ||| ((Int32.toInt64 (f (4 : Int32))) &&& (255 : Int64))) else r4))
    (q6 : r6 = (if (5 : Int32) < (3 : Int32) then ((r5 <<< ((8 : Int32) &&& 0x3f).toInt64) ||| ((Int32.toInt64 (f (5 : Int32))) &&& (255 : Int64))) else r5))
    (q7 : r7 = (if (6 : Int32) < (3 : Int32) then ((r6 <<< ((8 : Int32) &&& 0x3f).toInt64) ||| ((Int32.toInt64 (f (6 : Int32))) &&& (255 : Int64))) else r6))
    (q8 : r8 = (if (7 : Int32) < (3 : Int32) then ((r7 <<< ((8 : Int32) &&& 0x3f).toInt64) ||| ((Int32.toInt64 (f (7 : Int32))) &&& (255 : Int64))) else r7))
    : (r8.toInt - (id.toInt % 18446744073709551616) % 16777216) % 18446744073709551616 = 0 := by
  generalize hU : id.toInt % 18446744073709551616 = U at *
  have hU0 : 0 ≤ U ∧ U < 18446744073709551616 := by omega
  have b0 : ((Int32.toInt64 (f (0 : Int32))) &&& (255 : Int64)).toInt = U / 65536 % 256 := by
    have q := own_byn id ((8 : Int32) * (((3 : Int32) - (1 : Int32)) - (0 : Int32))) 16 (by decide)
    rw [hf 0 (by decide) (by decide), own_b, own_raw, q, hU]; rfl
  rw [if_pos (by decide)] at q1
  have s1 := own_ch0 (r := (0 : Int64)) (X := U / 65536) (by rw [show (0 : Int64).toInt = 0 from by decide]; omega) b0
  rw [← q1] at s1
  have t1 : r1.toInt = U / 65536 % 256 := by
    have := rng64 r1; omega
  have b1 : ((Int32.toInt64 (f (1 : Int32))) &&& (255 : Int64)).toInt = U / 256 % 256 := by
    have q := own_byn id ((8 : Int32) * (((3 : Int32) - (1 : Int32)) - (1 : Int32))) 8 (by decide)
    rw [hf 1 (by decide) (by decide), own_b, own_raw, q, hU]; rfl
  rw [if_pos (by decide)] at q2
  have s2 := own_ch1 (r := r1) (X := U / 256) (by rw [t1]; omega) b1
  rw [← q2] at s2
  have t2 : r2.toInt = U / 256 % 65536 := by
    have := rng64 r2; omega
  have b2 : ((Int32.toInt64 (f (2 : Int32))) &&& (255 : Int64)).toInt = U / 1 % 256 := by
    have q := own_byn id ((8 : Int32) * (((3 : Int32) - (1 : Int32)) - (2 : Int32))) 0 (by decide)
    rw [hf 2 (by decide) (by decide), own_b, own_raw, q, hU]; rfl
  rw [if_pos (by decide)] at q3
  have s3 := own_ch2 (r := r2) (X := U / 1) (by rw [t2]; omega) b2
  rw [← q3] at s3
  have t3 : r3.toInt = U / 1 % 16777216 := by
    have := rng64 r3; omega
  rw [if_neg (by decide)] at q4
  rw [if_neg (by decide)] at q5
  rw [if_neg (by decide)] at q6
  rw [if_neg (by decide)] at q7
  rw [if_neg (by decide)] at q8
  subst q8; subst q7; subst q6; subst q5; subst q4;
  omega
theorem own_k4 {id : Int64} {f : Int32 → Int32} {r1 r2 r3 r4 r5 r6 r7 r8 : Int64} (hf : ∀ j : Int32, ¬ j < 0 → j < (4 : Int32) → f j = own_b id 4 j)
    (q1 : r1 = (if (0 : Int32) < (4 : Int32) then (((0 : Int64) <<< ((8 : Int32) &&& 0x3f).toInt64) ||| ((Int32.toInt64 (f (0 : Int32))) &&& (255 : Int64))) else (0 : Int64)))
    (q2 : r2 = (if (1 : Int32) < (4 : Int32) then ((r1 <<< ((8 : Int32) &&& 0x3f).toInt64) ||| ((Int32.toInt64 (f (1 : Int32))) &&& (255 : Int64))) else r1))
    (q3 : r3 = (if (2 : Int32) < (4 : Int32) then ((r2 <<< ((8 : Int32) &&& 0x3f).toInt64) ||| ((Int32.toInt64 (f (2 : Int32))) &&& (255 : Int64))) else r2))
    (q4 : r4 = (if (3 : Int32) < (4 : Int32) then ((r3 <<< ((8 : Int32) &&& 0x3f).toInt64) ||| ((Int32.toInt64 (f (3 : Int32))) &&& (255 : Int64))) else r3))
    (q5 : r5 = (if (4 : Int32) < (4 : Int32) then ((r4 <<< ((8 : Int32) &&& 0x3f).toInt64) ||| ((Int32.toInt64 (f (4 : Int32))) &&& (255 : Int64))) else r4))
    (q6 : r6 = (if (5 : Int32) < (4 : Int32) then ((r5 <<< ((8 : Int32) &&& 0x3f).toInt64) ||| ((Int32.toInt64 (f (5 : Int32))) &&& (255 : Int64))) else r5))
    (q7 : r7 = (if (6 : Int32) < (4 : Int32) then ((r6 <<< ((8 : Int32) &&& 0x3f).toInt64) ||| ((Int32.toInt64 (f (6 : Int32))) &&& (255 : Int64))) else r6))
    (q8 : r8 = (if (7 : Int32) < (4 : Int32) then ((r7 <<< ((8 : Int32) &&& 0x3f).toInt64) ||| ((Int32.toInt64 (f (7 : Int32))) &&& (255 : Int64))) else r7))
    : (r8.toInt - (id.toInt % 18446744073709551616) % 4294967296) % 18446744073709551616 = 0 := by
  generalize hU : id.toInt % 18446744073709551616 = U at *
  have hU0 : 0 ≤ U ∧ U < 18446744073709551616 := by omega
  have b0 : ((Int32.toInt64 (f (0 : Int32))) &&& (255 : Int64)).toInt = U / 16777216 % 256 := by
    have q := own_byn id ((8 : Int32) * (((4 : Int32) - (1 : Int32)) - (0 : Int32))) 24 (by decide)
    rw [hf 0 (by decide) (by decide), own_b, own_raw, q, hU]; rfl
  rw [if_pos (by decide)] at q1
  have s1 := own_ch0 (r := (0 : Int64)) (X := U / 16777216) (by rw [show (0 : Int64).toInt = 0 from by decide]; omega) b0
  rw [← q1] at s1
  have t1 : r1.toInt = U / 16777216 % 256 := by
    have := rng64 r1; omega
  have b1 : ((Int32.toInt64 (f (1 : Int32))) &&& (255 : Int64)).toInt = U / 65536 % 256 := by
    have q := own_byn id ((8 : Int32) * (((4 : Int32) - (1 : Int32)) - (1 : Int32))) 16 (by decide)
    rw [hf 1 (by decide) (by decide), own_b, own_raw, q, hU]; rfl
  rw [if_pos (by decide)] at q2
  have s2 := own_ch1 (r := r1) (X := U / 65536) (by rw [t1]; omega) b1
  rw [← q2] at s2
  have t2 : r2.toInt = U / 65536 % 65536 := by
    have := rng64 r2; omega
  have b2 : ((Int32.toInt64 (f (2 : Int32))) &&& (255 : Int64)).toInt = U / 256 % 256 := by
    have q := own_byn id ((8 : Int32) * (((4 : Int32) - (1 : Int32)) - (2 : Int32))) 8 (by decide)
    rw [hf 2 (by decide) (by decide), own_b, own_raw, q, hU]; rfl
  rw [if_pos (by decide)] at q3
  have s3 := own_ch2 (r := r2) (X := U / 256) (by rw [t2]; omega) b2
  rw [← q3] at s3
  have t3 : r3.toInt = U / 256 % 16777216 := by
    have := rng64 r3; omega
  have b3 : ((Int32.toInt64 (f (3 : Int32))) &&& (255 : Int64)).toInt = U / 1 % 256 := by
    have q := own_byn id ((8 : Int32) * (((4 : Int32) - (1 : Int32)) - (3 : Int32))) 0 (by decide)
    rw [hf 3 (by decide) (by decide), own_b, own_raw, q, hU]; rfl
  rw [if_pos (by decide)] at q4
  have s4 := own_ch3 (r := r3) (X := U / 1) (by rw [t3]; omega) b3
  rw [← q4] at s4
  have t4 : r4.toInt = U / 1 % 4294967296 := by
    have := rng64 r4; omega
  rw [if_neg (by decide)] at q5
  rw [if_neg (by decide)] at q6
  rw [if_neg (by decide)] at q7
  rw [if_neg (by decide)] at q8
  subst q8; subst q7; subst q6; subst q5;
  omega
theorem own_k5 {id : Int64} {f : Int32 → Int32} {r1 r2 r3 r4 r5 r6 r7 r8 : Int64} (hf : ∀ j : Int32, ¬ j < 0 → j < (5 : Int32) → f j = own_b id 5 j)
    (q1 : r1 = (if (0 : Int32) < (5 : Int32) then (((0 : Int64) <<< ((8 : Int32) &&& 0x3f).toInt64) ||| ((Int32.toInt64 (f (0 : Int32))) &&& (255 : Int64))) else (0 : Int64)))
    (q2 : r2 = (if (1 : Int32) < (5 : Int32) then ((r1 <<< ((8 : Int32) &&& 0x3f).toInt64) ||| ((Int32.toInt64 (f (1 : Int32))) &&& (255 : Int64))) else r1))
    (q3 : r3 = (if (2 : Int32) < (5 : Int32) then ((r2 <<< ((8 : Int32) &&& 0x3f).toInt64) ||| ((Int32.toInt64 (f (2 : Int32))) &&& (255 : Int64))) else r2))
    (q4 : r4 = (if (3 : Int32) < (5 : Int32) then ((r3 <<< ((8 : Int32) &&& 0x3f).toInt64) ||| ((Int32.toInt64 (f (3 : Int32))) &&& (255 : Int64))) else r3))
    (q5 : r5 = (if (4 : Int32) < (5 : Int32) then ((r4 <<< ((8 : Int32) &&& 0x3f).toInt64) ||| ((Int32.toInt64 (f (4 : Int32))) &&& (255 : Int64))) else r4))
    (q6 : r6 = (if (5 : Int32) < (5 : Int32) then ((r5 <<< ((8 : Int32) &&& 0x3f).toInt64) ||| ((Int32.toInt64 (f (5 : Int32))) &&& (255 : Int64))) else r5))
    (q7 : r7 = (if (6 : Int32) < (5 : Int32) then ((r6 <<< ((8 : Int32) &&& 0x3f).toInt64) ||| ((Int32.toInt64 (f (6 : Int32))) &&& (255 : Int64))) else r6))
    (q8 : r8 = (if (7 : Int32) < (5 : Int32) then ((r7 <<< ((8 : Int32) &&& 0x3f).toInt64) ||| ((Int32.toInt64 (f (7 : Int32))) &&& (255 : Int64))) else r7))
    : (r8.toInt - (id.toInt % 18446744073709551616) % 1099511627776) % 18446744073709551616 = 0 := by
  generalize hU : id.toInt % 18446744073709551616 = U at *
  have hU0 : 0 ≤ U ∧ U < 18446744073709551616 := by omega
  have b0 : ((Int32.toInt64 (f (0 : Int32))) &&& (255 : Int64)).toInt = U / 4294967296 % 256 := by
    have q := own_byn id ((8 : Int32) * (((5 : Int32) - (1 : Int32)) - (0 : Int32))) 32 (by decide)
    rw [hf 0 (by decide) (by decide), own_b, own_raw, q, hU]; rfl
  rw [if_pos (by decide)] at q1
  have s1 := own_ch0 (r := (0 : Int64)) (X := U / 4294967296) (by rw [show (0 : Int64).toInt = 0 from by decide]; omega) b0
  rw [← q1] at s1
  have t1 : r1.toInt = U / 4294967296 % 256 := by
    have := rng64 r1; omega
  have b1 : ((Int32.toInt64 (f (1 : Int32))) &&& (255 : Int64)).toInt = U / 16777216 % 256 := by
    have q := own_byn id ((8 : Int32) * (((5 : Int32) - (1 : Int32)) - (1 : Int32))) 24 (by decide)
    rw [hf 1 (by decide) (by decide), own_b, own_raw, q, hU]; rfl
  rw [if_pos (by decide)] at q2
  have s2 := own_ch1 (r := r1) (X := U / 16777216) (by rw [t1]; omega) b1
  rw [← q2] at s2
  have t2 : r2.toInt = U / 16777216 % 65536 := by
    have := rng64 r2; omega
  have b2 : ((Int32.toInt64 (f (2 : Int32))) &&& (255 : Int64)).toInt = U / 65536 % 256 := by
    have q := own_byn id ((8 : Int32) * (((5 : Int32) - (1 : Int32)) - (2 : Int32))) 16 (by decide)
    rw [hf 2 (by decide) (by decide), own_b, own_raw, q, hU]; rfl
  rw [if_pos (by decide)] at q3
  have s3 := own_ch2 (r := r2) (X := U / 65536) (by rw [t2]; omega) b2
  rw [← q3] at s3
  have t3 : r3.toInt = U / 65536 % 16777216 := by
    have := rng64 r3; omega
  have b3 : ((Int32.toInt64 (f (3 : Int32))) &&& (255 : Int64)).toInt = U / 256 % 256 := by
    have q := own_byn id ((8 : Int32) * (((5 : Int32) - (1 : Int32)) - (3 : Int32))) 8 (by decide)
    rw [hf 3 (by decide) (by decide), own_b, own_raw, q, hU]; rfl
  rw [if_pos (by decide)] at q4
  have s4 := own_ch3 (r := r3) (X := U / 256) (by rw [t3]; omega) b3
  rw [← q4] at s4
  have t4 : r4.toInt = U / 256 % 4294967296 := by
    have := rng64 r4; omega
  have b4 : ((Int32.toInt64 (f (4 : Int32))) &&& (255 : Int64)).toInt = U / 1 % 256 := by
    have q := own_byn id ((8 : Int32) * (((5 : Int32) - (1 : Int32)) - (4 : Int32))) 0 (by decide)
    rw [hf 4 (by decide) (by decide), own_b, own_raw, q, hU]; rfl
  rw [if_pos (by decide)] at q5
  have s5 := own_ch4 (r := r4) (X := U / 1) (by rw [t4]; omega) b4
  rw [← q5] at s5
  have t5 : r5.toInt = U / 1 % 1099511627776 := by
    have := rng64 r5; omega
  rw [if_neg (by decide)] at q6
  rw [if_neg (by decide)] at q7
  rw [if_neg (by decide)] at q8
  subst q8; subst q7; subst q6;
  omega
theorem own_k6 {id : Int64} {f : Int32 → Int32} {r1 r2 r3 r4 r5 r6 r7 r8 : Int64} (hf : ∀ j : Int32, ¬ j < 0 → j < (6 : Int32) → f j = own_b id 6 j)
    (q1 : r1 = (if (0 : Int32) < (6 : Int32) then (((0 : Int64) <<< ((8 : Int32) &&& 0x3f).toInt64) ||| ((Int32.toInt64 (f (0 : Int32))) &&& (255 : Int64))) else (0 : Int64)))
    (q2 : r2 = (if (1 : Int32) < (6 : Int32) then ((r1 <<< ((8 : Int32) &&& 0x3f).toInt64) ||| ((Int32.toInt64 (f (1 : Int32))) &&& (255 : Int64))) else r1))
    (q3 : r3 = (if (2 : Int32) < (6 : Int32) then ((r2 <<< ((8 : Int32) &&& 0x3f).toInt64) ||| ((Int32.toInt64 (f (2 : Int32))) &&& (255 : Int64))) else r2))
    (q4 : r4 = (if (3 : Int32) < (6 : Int32) then ((r3 <<< ((8 : Int32) &&& 0x3f).toInt64) ||| ((Int32.toInt64 (f (3 : Int32))) &&& (255 : Int64))) else r3))
    (q5 : r5 = (if (4 : Int32) < (6 : Int32) then ((r4 <<< ((8 : Int32) &&& 0x3f).toInt64) ||| ((Int32.toInt64 (f (4 : Int32))) &&& (255 : Int64))) else r4))
    (q6 : r6 = (if (5 : Int32) < (6 : Int32) then ((r5 <<< ((8 : Int32) &&& 0x3f).toInt64) ||| ((Int32.toInt64 (f (5 : Int32))) &&& (255 : Int64))) else r5))
    (q7 : r7 = (if (6 : Int32) < (6 : Int32) then ((r6 <<< ((8 : Int32) &&& 0x3f).toInt64) ||| ((Int32.toInt64 (f (6 : Int32))) &&& (255 : Int64))) else r6))
    (q8 : r8 = (if (7 : Int32) < (6 : Int32) then ((r7 <<< ((8 : Int32) &&& 0x3f).toInt64) ||| ((Int32.toInt64 (f (7 : Int32))) &&& (255 : Int64))) else r7))
    : (r8.toInt - (id.toInt % 18446744073709551616) % 281474976710656) % 18446744073709551616 = 0 := by
  generalize hU : id.toInt % 18446744073709551616 = U at *
  have hU0 : 0 ≤ U ∧ U < 18446744073709551616 := by omega
  have b0 : ((Int32.toInt64 (f (0 : Int32))) &&& (255 : Int64)).toInt = U / 1099511627776 % 256 := by
    have q := own_byn id ((8 : Int32) * (((6 : Int32) - (1 : Int32)) - (0 : Int32))) 40 (by decide)
    rw [hf 0 (by decide) (by decide), own_b, own_raw, q, hU]; rfl
  rw [if_pos (by decide)] at q1
  have s1 := own_ch0 (r := (0 : Int64)) (X := U / 1099511627776) (by rw [show (0 : Int64).toInt = 0 from by decide]; omega) b0
  rw [← q1] at s1
  have t1 : r1.toInt = U / 1099511627776 % 256 := by
    have := rng64 r1; omega
  have b1 : ((Int32.toInt64 (f (1 : Int32))) &&& (255 : Int64)).toInt = U / 4294967296 % 256 := by
    have q := own_byn id ((8 : Int32) * (((6 : Int32) - (1 : Int32)) - (1 : Int32))) 32 (by decide)
    rw [hf 1 (by decide) (by decide), own_b, own_raw, q, hU]; rfl
  rw [if_pos (by decide)] at q2
  have s2 := own_ch1 (r := r1) (X := U / 4294967296) (by rw [t1]; omega) b1
  rw [← q2] at s2
  have t2 : r2.toInt = U / 4294967296 % 65536 := by
    have := rng64 r2; omega
  have b2 : ((Int32.toInt64 (f (2 : Int32))) &&& (255 : Int64)).toInt = U / 16777216 % 256 := by
    have q := own_byn id ((8 : Int32) * (((6 : Int32) - (1 : Int32)) - (2 : Int32))) 24 (by decide)
    rw [hf 2 (by decide) (by decide), own_b, own_raw, q, hU]; rfl
  rw [if_pos (by decide)] at q3
  have s3 := own_ch2 (r := r2) (X := U / 16777216) (by rw [t2]; omega) b2
  rw [← q3] at s3
  have t3 : r3.toInt = U / 16777216 % 16777216 := by
    have := rng64 r3; omega
  have b3 : ((Int32.toInt64 (f (3 : Int32))) &&& (255 : Int64)).toInt = U / 65536 % 256 := by
    have q := own_byn id ((8 : Int32) * (((6 : Int32) - (1 : Int32)) - (3 : Int32))) 16 (by decide)
    rw [hf 3 (by decide) (by decide), own_b, own_raw, q, hU]; rfl
  rw [if_pos (by decide)] at q4
  have s4 := own_ch3 (r := r3) (X := U / 65536) (by rw [t3]; omega) b3
  rw [← q4] at s4
  have t4 : r4.toInt = U / 65536 % 4294967296 := by
    have := rng64 r4; omega
  have b4 : ((Int32.toInt64 (f (4 : Int32))) &&& (255 : Int64)).toInt = U / 256 % 256 := by
    have q := own_byn id ((8 : Int32) * (((6 : Int32) - (1 : Int32)) - (4 : Int32))) 8 (by decide)
    rw [hf 4 (by decide) (by decide), own_b, own_raw, q, hU]; rfl
  rw [if_pos (by decide)] at q5
  have s5 := own_ch4 (r := r4) (X := U / 256) (by rw [t4]; omega) b4
  rw [← q5] at s5
  have t5 : r5.toInt = U / 256 % 1099511627776 := by
    have := rng64 r5; omega
  have b5 : ((Int32.toInt64 (f (5 : Int32))) &&& (255 : Int64)).toInt = U / 1 % 256 := by
    have q := own_byn id ((8 : Int32) * (((6 : Int32) - (1 : Int32)) - (5 : Int32))) 0 (by decide)
    rw [hf 5 (by decide) (by decide), own_b, own_raw, q, hU]; rfl
  rw [if_pos (by decide)] at q6
  have s6 := own_ch5 (r := r5) (X := U / 1) (by rw [t5]; omega) b5
  rw [← q6] at s6
  have t6 : r6.toInt = U / 1 % 281474976710656 := by
    have := rng64 r6; omega
  rw [if_neg (by decide)] at q7
  rw [if_neg (by decide)] at q8
  subst q8; subst q7;
  omega
theorem own_k7 {id : Int64} {f : Int32 → Int32} {r1 r2 r3 r4 r5 r6 r7 r8 : Int64} (hf : ∀ j : Int32, ¬ j < 0 → j < (7 : Int32) → f j = own_b id 7 j)
    (q1 : r1 = (if (0 : Int32) < (7 : Int32) then (((0 : Int64) <<< ((8 : Int32) &&& 0x3f).toInt64) ||| ((Int32.toInt64 (f (0 : Int32))) &&& (255 : Int64))) else (0 : Int64)))
    (q2 : r2 = (if (1 : Int32) < (7 : Int32) then ((r1 <<< ((8 : Int32) &&& 0x3f).toInt64) ||| ((Int32.toInt64 (f (1 : Int32))) &&& (255 : Int64))) else r1))
    (q3 : r3 = (if (2 : Int32) < (7 : Int32) then ((r2 <<< ((8 : Int32) &&& 0x3f).toInt64) ||| ((Int32.toInt64 (f (2 : Int32))) &&& (255 : Int64))) else r2))
    (q4 : r4 = (if (3 : Int32) < (7 : Int32) then ((r3 <<< ((8 : Int32) &&& 0x3f).toInt64) ||| ((Int32.toInt64 (f (3 : Int32))) &&& (255 : Int64))) else r3))
    (q5 : r5 = (if (4 : Int32) < (7 : Int32) then ((r4 <<< ((8 : Int32) &&& 0x3f).toInt64) ||| ((Int32.toInt64 (f (4 : Int32))) &&& (255 : Int64))) else r4))
    (q6 : r6 = (if (5 : Int32) < (7 : Int32) then ((r5 <<< ((8 : Int32) &&& 0x3f).toInt64) ||| ((Int32.toInt64 (f (5 : Int32))) &&& (255 : Int64))) else r5))
    (q7 : r7 = (if (6 : Int32) < (7 : Int32) then ((r6 <<< ((8 : Int32) &&& 0x3f).toInt64) ||| ((Int32.toInt64 (f (6 : Int32))) &&& (255 : Int64))) else r6))
    (q8 : r8 = (if (7 : Int32) < (7 : Int32) then ((r7 <<< ((8 : Int32) &&& 0x3f).toInt64) ||| ((Int32.toInt64 (f (7 : Int32))) &&& (255 : Int64))) else r7))
    : (r8.toInt - (id.toInt % 18446744073709551616) % 72057594037927936) % 18446744073709551616 = 0 := by
  generalize hU : id.toInt % 18446744073709551616 = U at *
  have hU0 : 0 ≤ U ∧ U < 18446744073709551616 := by omega
  have b0 : ((Int32.toInt64 (f (0 : Int32))) &&& (255 : Int64)).toInt = U / 281474976710656 % 256 := by
    have q := own_byn id ((8 : Int32) * (((7 : Int32) - (1 : Int32)) - (0 : Int32))) 48 (by decide)
    rw [hf 0 (by decide) (by decide), own_b, own_raw, q, hU]; rfl
  rw [if_pos (by decide)] at q1
  have s1 := own_ch0 (r := (0 : Int64)) (X := U / 281474976710656) (by rw [show (0 : Int64).toInt = 0 from by decide]; omega) b0
  rw [← q1] at s1
  have t1 : r1.toInt = U / 281474976710656 % 256 := by
    have := rng64 r1; omega
  have b1 : ((Int32.toInt64 (f (1 : Int32))) &&& (255 : Int64)).toInt = U / 1099511627776 % 256 := by
    have q := own_byn id ((8 : Int32) * (((7 : Int32) - (1 : Int32)) - (1 : Int32))) 40 (by decide)
    rw [hf 1 (by decide) (by decide), own_b, own_raw, q, hU]; rfl
  rw [if_pos (by decide)] at q2
  have s2 := own_ch1 (r := r1) (X := U / 1099511627776) (by rw [t1]; omega) b1
  rw [← q2] at s2
  have t2 : r2.toInt = U / 1099511627776 % 65536 := by
    have := rng64 r2; omega
  have b2 : ((Int32.toInt64 (f (2 : Int32))) &&& (255 : Int64)).toInt = U / 4294967296 % 256 := by
    have q := own_byn id ((8 : Int32) * (((7 : Int32) - (1 : Int32)) - (2 : Int32))) 32 (by decide)
    rw [hf 2 (by decide) (by decide), own_b, own_raw, q, hU]; rfl
  rw [if_pos (by decide)] at q3
  have s3 := own_ch2 (r := r2) (X := U / 4294967296) (by rw [t2]; omega) b2
  rw [← q3] at s3
  have t3 : r3.toInt = U / 4294967296 % 16777216 := by
    have := rng64 r3; omega
  have b3 : ((Int32.toInt64 (f (3 : Int32))) &&& (255 : Int64)).toInt = U / 16777216 % 256 := by
    have q := own_byn id ((8 : Int32) * (((7 : Int32) - (1 : Int32)) - (3 : Int32))) 24 (by decide)
    rw [hf 3 (by decide) (by decide), own_b, own_raw, q, hU]; rfl
  rw [if_pos (by decide)] at q4
  have s4 := own_ch3 (r := r3) (X := U / 16777216) (by rw [t3]; omega) b3
  rw [← q4] at s4
  have t4 : r4.toInt = U / 16777216 % 4294967296 := by
    have := rng64 r4; omega
  have b4 : ((Int32.toInt64 (f (4 : Int32))) &&& (255 : Int64)).toInt = U / 65536 % 256 := by
    have q := own_byn id ((8 : Int32) * (((7 : Int32) - (1 : Int32)) - (4 : Int32))) 16 (by decide)
    rw [hf 4 (by decide) (by decide), own_b, own_raw, q, hU]; rfl
  rw [if_pos (by decide)] at q5
  have s5 := own_ch4 (r := r4) (X := U / 65536) (by rw [t4]; omega) b4
  rw [← q5] at s5
  have t5 : r5.toInt = U / 65536 % 1099511627776 := by
    have := rng64 r5; omega
  have b5 : ((Int32.toInt64 (f (5 : Int32))) &&& (255 : Int64)).toInt = U / 256 % 256 := by
    have q := own_byn id ((8 : Int32) * (((7 : Int32) - (1 : Int32)) - (5 : Int32))) 8 (by decide)
    rw [hf 5 (by decide) (by decide), own_b, own_raw, q, hU]; rfl
  rw [if_pos (by decide)] at q6
  have s6 := own_ch5 (r := r5) (X := U / 256) (by rw [t5]; omega) b5
  rw [← q6] at s6
  have t6 : r6.toInt = U / 256 % 281474976710656 := by
    have := rng64 r6; omega
  have b6 : ((Int32.toInt64 (f (6 : Int32))) &&& (255 : Int64)).toInt = U / 1 % 256 := by
    have q := own_byn id ((8 : Int32) * (((7 : Int32) - (1 : Int32)) - (6 : Int32))) 0 (by decide)
    rw [hf 6 (by decide) (by decide), own_b, own_raw, q, hU]; rfl
  rw [if_pos (by decide)] at q7
  have s7 := own_ch6 (r := r6) (X := U / 1) (by rw [t6]; omega) b6
  rw [← q7] at s7
  have t7 : r7.toInt = U / 1 % 72057594037927936 := by
    have := rng64 r7; omega
  rw [if_neg (by decide)] at q8
  subst q8;
  omega
theorem own_k8 {id : Int64} {f : Int32 → Int32} {r1 r2 r3 r4 r5 r6 r7 r8 : Int64} (hf : ∀ j : Int32, ¬ j < 0 → j < (8 : Int32) → f j = own_b id 8 j)
    (q1 : r1 = (if (0 : Int32) < (8 : Int32) then (((0 : Int64) <<< ((8 : Int32) &&& 0x3f).toInt64) ||| ((Int32.toInt64 (f (0 : Int32))) &&& (255 : Int64))) else (0 : Int64)))
    (q2 : r2 = (if (1 : Int32) < (8 : Int32) then ((r1 <<< ((8 : Int32) &&& 0x3f).toInt64) ||| ((Int32.toInt64 (f (1 : Int32))) &&& (255 : Int64))) else r1))
    (q3 : r3 = (if (2 : Int32) < (8 : Int32) then ((r2 <<< ((8 : Int32) &&& 0x3f).toInt64) ||| ((Int32.toInt64 (f (2 : Int32))) &&& (255 : Int64))) else r2))
    (q4 : r4 = (if (3 : Int32) < (8 : Int32) then ((r3 <<< ((8 : Int32) &&& 0x3f).toInt64) ||| ((Int32.toInt64 (f (3 : Int32))) &&& (255 : Int64))) else r3))
    (q5 : r5 = (if (4 : Int32) < (8 : Int32) then ((r4 <<< ((8 : Int32) &&& 0x3f).toInt64) ||| ((Int32.toInt64 (f (4 : Int32))) &&& (255 : Int64))) else r4))
    (q6 : r6 = (if (5 : Int32) < (8 : Int32) then ((r5 <<< ((8 : Int32) &&& 0x3f).toInt64) ||| ((Int32.toInt64 (f (5 : Int32))) &&& (255 : Int64))) else r5))
    (q7 : r7 = (if (6 : Int32) < (8 : Int32) then ((r6 <<< ((8 : Int32) &&& 0x3f).toInt64) ||| ((Int32.toInt64 (f (6 : Int32))) &&& (255 : Int64))) else r6))
    (q8 : r8 = (if (7 : Int32) < (8 : Int32) then ((r7 <<< ((8 : Int32) &&& 0x3f).toInt64) ||| ((Int32.toInt64 (f (7 : Int32))) &&& (255 : Int64))) else r7))
    : (r8.toInt - (id.toInt % 18446744073709551616) % 18446744073709551616) % 18446744073709551616 = 0 := by
  generalize hU : id.toInt % 18446744073709551616 = U at *
  have hU0 : 0 ≤ U ∧ U < 18446744073709551616 := by omega
  have b0 : ((Int32.toInt64 (f (0 : Int32))) &&& (255 : Int64)).toInt = U / 72057594037927936 % 256 := by
    have q := own_byn id ((8 : Int32) * (((8 : Int32) - (1 : Int32)) - (0 : Int32))) 56 (by decide)
    rw [hf 0 (by decide) (by decide), own_b, own_raw, q, hU]; rfl
  rw [if_pos (by decide)] at q1
  have s1 := own_ch0 (r := (0 : Int64)) (X := U / 72057594037927936) (by rw [show (0 : Int64).toInt = 0 from by decide]; omega) b0
  rw [← q1] at s1
  have t1 : r1.toInt = U / 72057594037927936 % 256 := by
    have := rng64 r1; omega
  have b1 : ((Int32.toInt64 (f (1 : Int32))) &&& (255 : Int64)).toInt = U / 281474976710656 % 256 := by
    have q := own_byn id ((8 : Int32) * (((8 : Int32) - (1 : Int32)) - (1 : Int32))) 48 (by decide)
    rw [hf 1 (by decide) (by decide), own_b, own_raw, q, hU]; rfl
  rw [if_pos (by decide)] at q2
  have s2 := own_ch1 (r := r1) (X := U / 281474976710656) (by rw [t1]; omega) b1
  rw [← q2] at s2
  have t2 : r2.toInt = U / 281474976710656 % 65536 := by
    have := rng64 r2; omega
  have b2 : ((Int32.toInt64 (f (2 : Int32))) &&& (255 : Int64)).toInt = U / 1099511627776 % 256 := by
    have q := own_byn id ((8 : Int32) * (((8 : Int32) - (1 : Int32)) - (2 : Int32))) 40 (by decide)
    rw [hf 2 (by decide) (by decide), own_b, own_raw, q, hU]; rfl
  rw [if_pos (by decide)] at q3
  have s3 := own_ch2 (r := r2) (X := U / 1099511627776) (by rw [t2]; omega) b2
  rw [← q3] at s3
  have t3 : r3.toInt = U / 1099511627776 % 16777216 := by
    have := rng64 r3; omega
  have b3 : ((Int32.toInt64 (f (3 : Int32))) &&& (255 : Int64)).toInt = U / 4294967296 % 256 := by
    have q := own_byn id ((8 : Int32) * (((8 : Int32) - (1 : Int32)) - (3 : Int32))) 32 (by decide)
    rw [hf 3 (by decide) (by decide), own_b, own_raw, q, hU]; rfl
  rw [if_pos (by decide)] at q4
  have s4 := own_ch3 (r := r3) (X := U / 4294967296) (by rw [t3]; omega) b3
  rw [← q4] at s4
  have t4 : r4.toInt = U / 4294967296 % 4294967296 := by
    have := rng64 r4; omega
  have b4 : ((Int32.toInt64 (f (4 : Int32))) &&& (255 : Int64)).toInt = U / 16777216 % 256 := by
    have q := own_byn id ((8 : Int32) * (((8 : Int32) - (1 : Int32)) - (4 : Int32))) 24 (by decide)
    rw [hf 4 (by decide) (by decide), own_b, own_raw, q, hU]; rfl
  rw [if_pos (by decide)] at q5
  have s5 := own_ch4 (r := r4) (X := U / 16777216) (by rw [t4]; omega) b4
  rw [← q5] at s5
  have t5 : r5.toInt = U / 16777216 % 1099511627776 := by
    have := rng64 r5; omega
  have b5 : ((Int32.toInt64 (f (5 : Int32))) &&& (255 : Int64)).toInt = U / 65536 % 256 := by
    have q := own_byn id ((8 : Int32) * (((8 : Int32) - (1 : Int32)) - (5 : Int32))) 16 (by decide)
    rw [hf 5 (by decide) (by decide), own_b, own_raw, q, hU]; rfl
  rw [if_pos (by decide)] at q6
  have s6 := own_ch5 (r := r5) (X := U / 65536) (by rw [t5]; omega) b5
  rw [← q6] at s6
  have t6 : r6.toInt = U / 65536 % 281474976710656 := by
    have := rng64 r6; omega
  have b6 : ((Int32.toInt64 (f (6 : Int32))) &&& (255 : Int64)).toInt = U / 256 % 256 := by
    have q := own_byn id ((8 : Int32) * (((8 : Int32) - (1 : Int32)) - (6 : Int32))) 8 (by decide)
    rw [hf 6 (by decide) (by decide), own_b, own_raw, q, hU]; rfl
  rw [if_pos (by decide)] at q7
  have s7 := own_ch6 (r := r6) (X := U / 256) (by rw [t6]; omega) b6
  rw [← q7] at s7
  have t7 : r7.toInt = U / 256 % 72057594037927936 := by
    have := rng64 r7; omega
  have b7 : ((Int32.toInt64 (f (7 : Int32))) &&& (255 : Int64)).toInt = U / 1 % 256 := by
    have q := own_byn id ((8 : Int32) * (((8 : Int32) - (1 : Int32)) - (7 : Int32))) 0 (by decide)
    rw [hf 7 (by decide) (by decide), own_b, own_raw, q, hU]; rfl
  rw [if_pos (by decide)] at q8
  have s8 := own_ch7 (r := r7) (X := U / 1) (by rw [t7]; omega) b7
  rw [← q8] at s8
  
  simpa using s8
theorem own_main8 {id : Int64} {k : Int32} {f : Int32 → Int32} {r1 r2 r3 r4 r5 r6 r7 r8 : Int64} (h1 : 1 ≤ k.toInt) (h8 : k.toInt ≤ 8) (hf : ∀ j : Int32, ¬ j < 0 → j < k → f j = own_b id k j)
    (q1 : r1 = (if (0 : Int32) < k then (((0 : Int64) <<< ((8 : Int32) &&& 0x3f).toInt64) ||| ((Int32.toInt64 (f (0 : Int32))) &&& (255 : Int64))) else (0 : Int64)))
    (q2 : r2 = (if (1 : Int32) < k then ((r1 <<< ((8 : Int32) &&& 0x3f).toInt64) ||| ((Int32.toInt64 (f (1 : Int32))) &&& (255 : Int64))) else r1))
    (q3 : r3 = (if (2 : Int32) < k then ((r2 <<< ((8 : Int32) &&& 0x3f).toInt64) ||| ((Int32.toInt64 (f (2 : Int32))) &&& (255 : Int64))) else r2))
    (q4 : r4 = (if (3 : Int32) < k then ((r3 <<< ((8 : Int32) &&& 0x3f).toInt64) ||| ((Int32.toInt64 (f (3 : Int32))) &&& (255 : Int64))) else r3))
    (q5 : r5 = (if (4 : Int32) < k then ((r4 <<< ((8 : Int32) &&& 0x3f).toInt64) ||| ((Int32.toInt64 (f (4 : Int32))) &&& (255 : Int64))) else r4))
    (q6 : r6 = (if (5 : Int32) < k then ((r5 <<< ((8 : Int32) &&& 0x3f).toInt64) ||| ((Int32.toInt64 (f (5 : Int32))) &&& (255 : Int64))) else r5))
    (q7 : r7 = (if (6 : Int32) < k then ((r6 <<< ((8 : Int32) &&& 0x3f).toInt64) ||| ((Int32.toInt64 (f (6 : Int32))) &&& (255 : Int64))) else r6))
    (q8 : r8 = (if (7 : Int32) < k then ((r7 <<< ((8 : Int32) &&& 0x3f).toInt64) ||| ((Int32.toInt64 (f (7 : Int32))) &&& (255 : Int64))) else r7)) (hk : k = 8) : lcmpW r8 id = 0 := by
  subst hk
  have q := own_k8 hf q1 q2 q3 q4 q5 q6 q7 q8
  refine (lw_eq _ _).mpr (Int64.toInt_inj.mp ?_)
  have := rng64 r8
  have := rng64 id
  omega
theorem own_mainN {id : Int64} {k : Int32} {f : Int32 → Int32} {r1 r2 r3 r4 r5 r6 r7 r8 : Int64} (h1 : 1 ≤ k.toInt) (h8 : k.toInt ≤ 8) (hf : ∀ j : Int32, ¬ j < 0 → j < k → f j = own_b id k j)
    (q1 : r1 = (if (0 : Int32) < k then (((0 : Int64) <<< ((8 : Int32) &&& 0x3f).toInt64) ||| ((Int32.toInt64 (f (0 : Int32))) &&& (255 : Int64))) else (0 : Int64)))
    (q2 : r2 = (if (1 : Int32) < k then ((r1 <<< ((8 : Int32) &&& 0x3f).toInt64) ||| ((Int32.toInt64 (f (1 : Int32))) &&& (255 : Int64))) else r1))
    (q3 : r3 = (if (2 : Int32) < k then ((r2 <<< ((8 : Int32) &&& 0x3f).toInt64) ||| ((Int32.toInt64 (f (2 : Int32))) &&& (255 : Int64))) else r2))
    (q4 : r4 = (if (3 : Int32) < k then ((r3 <<< ((8 : Int32) &&& 0x3f).toInt64) ||| ((Int32.toInt64 (f (3 : Int32))) &&& (255 : Int64))) else r3))
    (q5 : r5 = (if (4 : Int32) < k then ((r4 <<< ((8 : Int32) &&& 0x3f).toInt64) ||| ((Int32.toInt64 (f (4 : Int32))) &&& (255 : Int64))) else r4))
    (q6 : r6 = (if (5 : Int32) < k then ((r5 <<< ((8 : Int32) &&& 0x3f).toInt64) ||| ((Int32.toInt64 (f (5 : Int32))) &&& (255 : Int64))) else r5))
    (q7 : r7 = (if (6 : Int32) < k then ((r6 <<< ((8 : Int32) &&& 0x3f).toInt64) ||| ((Int32.toInt64 (f (6 : Int32))) &&& (255 : Int64))) else r6))
    (q8 : r8 = (if (7 : Int32) < k then ((r7 <<< ((8 : Int32) &&& 0x3f).toInt64) ||| ((Int32.toInt64 (f (7 : Int32))) &&& (255 : Int64))) else r7)) (hk : ¬ k = 8) : lcmpW r8 (id &&& (((1 : Int64) <<< (((8 : Int32) * k) &&& 0x3f).toInt64) - (1 : Int64))) = 0 := by
  refine (lw_eq _ _).mpr (Int64.toInt_inj.mp ?_)
  have hk' : ¬ k.toInt = 8 := fun q => hk (Int32.toInt_inj.mp q)
  have hc : k = 1 ∨ k = 2 ∨ k = 3 ∨ k = 4 ∨ k = 5 ∨ k = 6 ∨ k = 7 := by
    simp only [← Int32.toInt_inj]
    have e1 : (1 : Int32).toInt = 1 := by decide
    have e2 : (2 : Int32).toInt = 2 := by decide
    have e3 : (3 : Int32).toInt = 3 := by decide
    have e4 : (4 : Int32).toInt = 4 := by decide
    have e5 : (5 : Int32).toInt = 5 := by decide
    have e6 : (6 : Int32).toInt = 6 := by decide
    have e7 : (7 : Int32).toInt = 7 := by decide
    omega
  rcases hc with rfl | rfl | rfl | rfl | rfl | rfl | rfl
  · have q := own_k1 hf q1 q2 q3 q4 q5 q6 q7 q8
    have e := c_maskL id (((1 : Int64) <<< (((8 : Int32) * 1) &&& 0x3f).toInt64) - (1 : Int64)) 8 (by decide) (by decide)
    rw [e]
    have e2 : ((2 ^ 8 : Nat) : Int) = 256 := by decide
    rw [e2]
    have := rng64 r8
    have := rng64 id
    omega
  · have q := own_k2 hf q1 q2 q3 q4 q5 q6 q7 q8
    have e := c_maskL id (((1 : Int64) <<< (((8 : Int32) * 2) &&& 0x3f).toInt64) - (1 : Int64)) 16 (by decide) (by decide)
    rw [e]
    have e2 : ((2 ^ 16 : Nat) : Int) = 65536 := by decide
    rw [e2]
    have := rng64 r8
    have := rng64 id
    omega
  · have q := own_k3 hf q1 q2 q3 q4 q5 q6 q7 q8
    have e := c_maskL id (((1 : Int64) <<< (((8 : Int32) * 3) &&& 0x3f).toInt64) - (1 : Int64)) 24 (by decide) (by decide)
    rw [e]
    have e2 : ((2 ^ 24 : Nat) : Int) = 16777216 := by decide
    rw [e2]
    have := rng64 r8
    have := rng64 id
    omega
  · have q := own_k4 hf q1 q2 q3 q4 q5 q6 q7 q8
    have e := c_maskL id (((1 : Int64) <<< (((8 : Int32) * 4) &&& 0x3f).toInt64) - (1 : Int64)) 32 (by decide) (by decide)
    rw [e]
    have e2 : ((2 ^ 32 : Nat) : Int) = 4294967296 := by decide
    rw [e2]
    have := rng64 r8
    have := rng64 id
    omega
  · have q := own_k5 hf q1 q2 q3 q4 q5 q6 q7 q8
    have e := c_maskL id (((1 : Int64) <<< (((8 : Int32) * 5) &&& 0x3f).toInt64) - (1 : Int64)) 40 (by decide) (by decide)
    rw [e]
    have e2 : ((2 ^ 40 : Nat) : Int) = 1099511627776 := by decide
    rw [e2]
    have := rng64 r8
    have := rng64 id
    omega
  · have q := own_k6 hf q1 q2 q3 q4 q5 q6 q7 q8
    have e := c_maskL id (((1 : Int64) <<< (((8 : Int32) * 6) &&& 0x3f).toInt64) - (1 : Int64)) 48 (by decide) (by decide)
    rw [e]
    have e2 : ((2 ^ 48 : Nat) : Int) = 281474976710656 := by decide
    rw [e2]
    have := rng64 r8
    have := rng64 id
    omega
  · have q := own_k7 hf q1 q2 q3 q4 q5 q6 q7 q8
    have e := c_maskL id (((1 : Int64) <<< (((8 : Int32) * 7) &&& 0x3f).toInt64) - (1 : Int64)) 56 (by decide) (by decide)
    rw [e]
    have e2 : ((2 ^ 56 : Nat) : Int) = 72057594037927936 := by decide
    rw [e2]
    have := rng64 r8
    have := rng64 id
    omega
theorem pn_4 : plainName "com/example/sidewire/sidewire/protocol/ThreadCommands" = true := by first | (simp [plainName, overriddenIn]; done) | decide +kernel
theorem d1_0 : decode prog_39_method_4_code 0 = .ok (.iload_n 2, 1) := by decide +kernel
theorem d1_1 : decode prog_39_method_4_code 1 = .ok (.newarray .byte, 2) := by decide +kernel
theorem d1_3 : decode prog_39_method_4_code 3 = .ok (.astore_n 3, 1) := by decide +kernel
theorem d1_4 : decode prog_39_method_4_code 4 = .ok (.iconst 0, 1) := by decide +kernel
theorem d1_5 : decode prog_39_method_4_code 5 = .ok (.istore 4, 2) := by decide +kernel
theorem d1_7 : decode prog_39_method_4_code 7 = .ok (.iload 4, 2) := by decide +kernel
theorem d1_9 : decode prog_39_method_4_code 9 = .ok (.iload_n 2, 1) := by decide +kernel
theorem d1_10 : decode prog_39_method_4_code 10 = .ok (.if_icmp .ge 26, 3) := by decide +kernel
theorem d1_13 : decode prog_39_method_4_code 13 = .ok (.aload_n 3, 1) := by decide +kernel
theorem d1_14 : decode prog_39_method_4_code 14 = .ok (.iload 4, 2) := by decide +kernel
theorem d1_16 : decode prog_39_method_4_code 16 = .ok (.lload_n 0, 1) := by decide +kernel
theorem d1_17 : decode prog_39_method_4_code 17 = .ok (.bipush 8, 2) := by decide +kernel
theorem d1_19 : decode prog_39_method_4_code 19 = .ok (.iload_n 2, 1) := by decide +kernel
theorem d1_20 : decode prog_39_method_4_code 20 = .ok (.iconst 1, 1) := by decide +kernel
theorem d1_21 : decode prog_39_method_4_code 21 = .ok (.isub, 1) := by decide +kernel
theorem d1_22 : decode prog_39_method_4_code 22 = .ok (.iload 4, 2) := by decide +kernel
theorem d1_24 : decode prog_39_method_4_code 24 = .ok (.isub, 1) := by decide +kernel
theorem d1_25 : decode prog_39_method_4_code 25 = .ok (.imul, 1) := by decide +kernel
theorem d1_26 : decode prog_39_method_4_code 26 = .ok (.lushr, 1) := by decide +kernel
theorem d1_27 : decode prog_39_method_4_code 27 = .ok (.l2i, 1) := by decide +kernel
theorem d1_28 : decode prog_39_method_4_code 28 = .ok (.i2b, 1) := by decide +kernel
theorem d1_29 : decode prog_39_method_4_code 29 = .ok (.bastore, 1) := by decide +kernel
theorem d1_30 : decode prog_39_method_4_code 30 = .ok (.iinc 4 1, 3) := by decide +kernel
theorem d1_33 : decode prog_39_method_4_code 33 = .ok (.goto (-26), 3) := by decide +kernel
theorem d1_36 : decode prog_39_method_4_code 36 = .ok (.aload_n 3, 1) := by decide +kernel
theorem d1_37 : decode prog_39_method_4_code 37 = .ok (.areturn, 1) := by decide +kernel
theorem ef_1 (m : MethodId) (p0 : Int64) (p2 : Int32) : entryFrame m #[(.long p0), (.int p2)] 5 = mkF m 0 #[.val (.long p0), .second, .val (.int p2), .unset, .unset] [] := by first | (simp [entryFrame, mkF, argsToLocals, Value.category]; done) | rfl
def Q1 (Z : State) (p0 : Int64) (p2 : Int32) (h0 : Heap) (n0 : Nat) (v : Option Value) (h : Heap) (L : List Loc) : Prop := ∃ (b : Addr), ∃ (F1 : Int32 → Int32), (v = some (.ref b)) ∧ (Fr n0 L) ∧ (Keep h0 h []) ∧ (h0.size ≤ b) ∧ (Ai Z h b .byte p2 F1) ∧ (∀ j : Int32, ¬ j < 0 → j < p2 → F1 j = own_b p0 p2 j)
set_option maxRecDepth 65536 in
set_option maxHeartbeats 40000000 in
theorem rm1 (l : Launch) (Z : State) (aZ : Array Value) (hw : ∀ d ∈ tables_1, d.before aZ Z = true) (ws : List Jvm.Cond) (p0 : Int64) (p2 : Int32) (h0 : Heap) (n0 : Nat) (Z0 : n0 ≤ h0.size) (hk0 : ¬ p2 < 0) (hk8 : p2.toNatClampNeg ≤ 8) :
    MetFree l (⟨"com/example/sidewire/sidewire/protocol/ThreadCommands", "thread", "(JI)[B"⟩ : MethodName) (head1 (Jvm.Cond.code (⟨"com/example/sidewire/sidewire/protocol/ThreadCommands", "thread", "(JI)[B"⟩ : MethodName) prog_39_method_4_code 5 (some (.array .byte)) :: ws) ({ frames := 0, cells := 1, slots := 8, locals := 0 } : Room)) (fun a U => a = #[(.long p0), (.int p2)] ∧ Z.Warmed39 U.vm ∧ U.heap = h0) (fun _ _ _ _ _ => True) (fun _ U o U' => ∃ v L, o = .returned v ∧ Q1 Z p0 p2 h0 n0 v U'.heap L ∧ FrameEnd U o U' L ({ frames := 0, cells := 1, slots := 8, locals := 0 } : Room).cells ({ frames := 0, cells := 1, slots := 8, locals := 0 } : Room).slots) := by
  refine MetFree.of_bodySF (plainFor_of_name pn_4) hisR ?_
  intro p e s m args below meth c s₁ Bd hml0 hP hK
  obtain ⟨rfl, hZ, hh⟩ := hP
  have hx := Bd.exec
  have hby := Bd.bytes
  have hml : c.maxLocals = 5 := hml0
  have hown : s.vm.findClass "com/example/sidewire/sidewire/protocol/ThreadCommands" = some m.cls := findClass_of_methodNamed Bd.named
  have hnm := (name_of_methodNamed Bd.named Bd.method).1
  have hlk : meth.locks = false := BodyLoose.notSynchronized Bd
  have X0 : Stand p l e ({ frames := 0, cells := 1, slots := 8, locals := 0 } : Room) s m #[(.long p0), (.int p2)] below meth c s₁ [] 0 0 := Stand.of_body Bd
  have e0 : s₁.heap = h0 := by rw [← hh, Bd.state]; rfl
  have N0 := Fr.nil n0
  have sq0 : h0.size ≤ h0.size := Nat.le_refl _
  have k0 : Keep h0 h0 [] := Keep.refl _ _
  change Go p e below s ({ frames := 0, cells := 1, slots := 8, locals := 0 } : Room).cells ({ frames := 0, cells := 1, slots := 8, locals := 0 } : Room).slots (Q1 Z p0 p2 h0 n0) (s₁.setTop (entryFrame m #[(.long p0), (.int p2)] 5))
  rw [ef_1 m p0 p2]
  show Go _ _ _ _ _ _ _ (s₁.setTop (mkF m 0 #[.val (.long p0), .second, .val (.int p2), .unset, .unset] []))
  refine Go.step (fun _ k => XS.iloadN X0.here hx rfl (hb hby d1_0) rfl  k) ?_
  show Go _ _ _ _ _ _ _ (s₁.setTop (mkF m 1 #[.val (.long p0), .second, .val (.int p2), .unset, .unset] [(.int p2)]))
  have ng1 : ¬ p2 < 0 := hk0
  have lc1 : (p2).toNatClampNeg ≤ 8 := hk8
  obtain ⟨T1, h1, k1, X1, e1, E1, A1, st1⟩ := newP X0 hx hZ (hw _ (List.mem_of_getElem? (i := 4) rfl)) e0 (g := (mkF m 1 #[.val (.long p0), .second, .val (.int p2), .unset, .unset] [(.int p2)])) rfl (hb hby d1_1) rfl ng1 (cap := 8) lc1 (by decide) (by decide) (by decide)
  obtain ⟨b1, g1⟩ : ∃ z, z = h0.size := ⟨_, rfl⟩
  rw [← g1] at A1 st1
  refine Go.step st1 ?_
  have gn1 : n0 ≤ b1 := Nat.le_trans Z0 (Nat.le_of_eq g1.symm)
  have sz1 : h0.size ≤ b1 := Nat.le_trans sq0 (Nat.le_of_eq g1.symm)
  have z2 : n0 ≤ h1.size := Nat.le_trans Z0 E1.1
  have sqz2 : h0.size ≤ h1.size := Nat.le_trans sq0 E1.1
  have k3 : Keep h0 h1 [] := k0.ext E1
  have f4 : Ai Z h1 b1 .byte p2 (fun _ => 0) := Ai.new A1 ng1 rfl
  show Go _ _ _ _ _ _ _ (T1.setTop (mkF m 3 #[.val (.long p0), .second, .val (.int p2), .unset, .unset] [(.ref b1)]))
  refine Go.step (fun _ k => XS.astoreN X1.here hx rfl (hb hby d1_3) rfl rfl (l' := #[.val (.long p0), .second, .val (.int p2), .val (.ref b1), .unset]) rfl k) ?_
  show Go _ _ _ _ _ _ _ (T1.setTop (mkF m 4 #[.val (.long p0), .second, .val (.int p2), .val (.ref b1), .unset] []))
  refine Go.step (fun _ k => XS.iconst X1.here hx rfl (hb hby d1_4) k) ?_
  show Go _ _ _ _ _ _ _ (T1.setTop (mkF m 5 #[.val (.long p0), .second, .val (.int p2), .val (.ref b1), .unset] [(.int (0 : Int32))]))
  refine Go.step (fun _ k => XS.istore X1.here hx rfl (hb hby d1_5) rfl (l' := #[.val (.long p0), .second, .val (.int p2), .val (.ref b1), .val (.int (0 : Int32))]) rfl k) ?_
  have J7_5 : ∀ (fuel : Nat) (i : Int32) (F : Int32 → Int32) (hJ5 : Heap) (TJ5 : State) (locs5 : List Loc) (X5 : Stand p l e ({ frames := 0, cells := 1, slots := 8, locals := 0 } : Room) s m #[(.long p0), (.int p2)] below meth c TJ5 locs5 1 8) (e5 : TJ5.heap = hJ5) (N5 : Fr n0 locs5) (K5 : Keep h1 hJ5 [b1]) (jf5_0 : Ai Z hJ5 b1 .byte p2 F) (i0 : ¬ i < 0) (ik : ¬ p2 < i) (hF : ∀ j : Int32, ¬ j < 0 → j < i → F j = own_b p0 p2 j) (hfuel : (p2.toInt - i.toInt).toNat = fuel), Go p e below s ({ frames := 0, cells := 1, slots := 8, locals := 0 } : Room).cells ({ frames := 0, cells := 1, slots := 8, locals := 0 } : Room).slots (Q1 Z p0 p2 h0 n0) (TJ5.setTop (mkF m 7 #[.val (.long p0), .second, .val (.int p2), .val (.ref b1), .val (.int i)] [])) := by
    intro fuel
    induction fuel using Nat.strongRecOn with
    | ind fuel ih =>
      intro i F hJ5 TJ5 locs5 X5 e5 N5 K5 jf5_0 i0 ik hF hfuel
      have z6 : n0 ≤ hJ5.size := Nat.le_trans z2 K5.1
      have sqz6 : h0.size ≤ hJ5.size := Nat.le_trans sqz2 K5.1
      have k7 : Keep h0 hJ5 [] := k3.trans K5 (allS (Or.inr sz1) all0)
      show Go _ _ _ _ _ _ _ (TJ5.setTop (mkF m 7 #[.val (.long p0), .second, .val (.int p2), .val (.ref b1), .val (.int i)] []))
      refine Go.step (fun _ k => XS.iload X5.here hx rfl (hb hby d1_7) rfl  k) ?_
      show Go _ _ _ _ _ _ _ (TJ5.setTop (mkF m 9 #[.val (.long p0), .second, .val (.int p2), .val (.ref b1), .val (.int i)] [(.int i)]))
      refine Go.step (fun _ k => XS.iloadN X5.here hx rfl (hb hby d1_9) rfl  k) ?_
      show Go _ _ _ _ _ _ _ (TJ5.setTop (mkF m 10 #[.val (.long p0), .second, .val (.int p2), .val (.ref b1), .val (.int i)] [(.int p2), (.int i)]))
      by_cases hc10 : i < p2
      · skip
        refine Go.step (fun _ k => XS.icmpNo X5.here hx rfl (hb hby d1_10) rfl (tlt hc10).2.1 k) ?_
        show Go _ _ _ _ _ _ _ (TJ5.setTop (mkF m 13 #[.val (.long p0), .second, .val (.int p2), .val (.ref b1), .val (.int i)] []))
        refine Go.step (fun _ k => XS.aloadN X5.here hx rfl (hb hby d1_13) rfl rfl  k) ?_
        show Go _ _ _ _ _ _ _ (TJ5.setTop (mkF m 14 #[.val (.long p0), .second, .val (.int p2), .val (.ref b1), .val (.int i)] [(.ref b1)]))
        refine Go.step (fun _ k => XS.iload X5.here hx rfl (hb hby d1_14) rfl  k) ?_
        show Go _ _ _ _ _ _ _ (TJ5.setTop (mkF m 16 #[.val (.long p0), .second, .val (.int p2), .val (.ref b1), .val (.int i)] [(.int i), (.ref b1)]))
        refine Go.step (fun _ k => XS.lloadN X5.here hx rfl (hb hby d1_16) rfl  k) ?_
        show Go _ _ _ _ _ _ _ (TJ5.setTop (mkF m 17 #[.val (.long p0), .second, .val (.int p2), .val (.ref b1), .val (.int i)] [(.long p0), (.int i), (.ref b1)]))
        refine Go.step (fun _ k => XS.bipush X5.here hx rfl (hb hby d1_17) k) ?_
        show Go _ _ _ _ _ _ _ (TJ5.setTop (mkF m 19 #[.val (.long p0), .second, .val (.int p2), .val (.ref b1), .val (.int i)] [(.int (8 : Int32)), (.long p0), (.int i), (.ref b1)]))
        refine Go.step (fun _ k => XS.iloadN X5.here hx rfl (hb hby d1_19) rfl  k) ?_
        show Go _ _ _ _ _ _ _ (TJ5.setTop (mkF m 20 #[.val (.long p0), .second, .val (.int p2), .val (.ref b1), .val (.int i)] [(.int p2), (.int (8 : Int32)), (.long p0), (.int i), (.ref b1)]))
        refine Go.step (fun _ k => XS.iconst X5.here hx rfl (hb hby d1_20) k) ?_
        show Go _ _ _ _ _ _ _ (TJ5.setTop (mkF m 21 #[.val (.long p0), .second, .val (.int p2), .val (.ref b1), .val (.int i)] [(.int (1 : Int32)), (.int p2), (.int (8 : Int32)), (.long p0), (.int i), (.ref b1)]))
        refine Go.step (fun _ k => XS.isub X5.here hx rfl (hb hby d1_21) rfl k) ?_
        show Go _ _ _ _ _ _ _ (TJ5.setTop (mkF m 22 #[.val (.long p0), .second, .val (.int p2), .val (.ref b1), .val (.int i)] [(.int (p2 - (1 : Int32))), (.int (8 : Int32)), (.long p0), (.int i), (.ref b1)]))
        refine Go.step (fun _ k => XS.iload X5.here hx rfl (hb hby d1_22) rfl  k) ?_
        show Go _ _ _ _ _ _ _ (TJ5.setTop (mkF m 24 #[.val (.long p0), .second, .val (.int p2), .val (.ref b1), .val (.int i)] [(.int i), (.int (p2 - (1 : Int32))), (.int (8 : Int32)), (.long p0), (.int i), (.ref b1)]))
        refine Go.step (fun _ k => XS.isub X5.here hx rfl (hb hby d1_24) rfl k) ?_
        show Go _ _ _ _ _ _ _ (TJ5.setTop (mkF m 25 #[.val (.long p0), .second, .val (.int p2), .val (.ref b1), .val (.int i)] [(.int ((p2 - (1 : Int32)) - i)), (.int (8 : Int32)), (.long p0), (.int i), (.ref b1)]))
        refine Go.step (fun _ k => XS.imul X5.here hx rfl (hb hby d1_25) rfl k) ?_
        show Go _ _ _ _ _ _ _ (TJ5.setTop (mkF m 26 #[.val (.long p0), .second, .val (.int p2), .val (.ref b1), .val (.int i)] [(.int ((8 : Int32) * ((p2 - (1 : Int32)) - i))), (.long p0), (.int i), (.ref b1)]))
        refine Go.step (fun _ k => XS.lushr X5.here hx rfl (hb hby d1_26) rfl k) ?_
        show Go _ _ _ _ _ _ _ (TJ5.setTop (mkF m 27 #[.val (.long p0), .second, .val (.int p2), .val (.ref b1), .val (.int i)] [(.long ((Int64.toUInt64 p0 >>> (((8 : Int32) * ((p2 - (1 : Int32)) - i)) &&& 0x3f).toInt64.toUInt64).toInt64)), (.int i), (.ref b1)]))
        refine Go.step (fun _ k => XS.l2i X5.here hx rfl (hb hby d1_27) rfl k) ?_
        show Go _ _ _ _ _ _ _ (TJ5.setTop (mkF m 28 #[.val (.long p0), .second, .val (.int p2), .val (.ref b1), .val (.int i)] [(.int (Int64.toInt32 ((Int64.toUInt64 p0 >>> (((8 : Int32) * ((p2 - (1 : Int32)) - i)) &&& 0x3f).toInt64.toUInt64).toInt64))), (.int i), (.ref b1)]))
        refine Go.step (fun _ k => XS.i2b X5.here hx rfl (hb hby d1_28) rfl k) ?_
        show Go _ _ _ _ _ _ _ (TJ5.setTop (mkF m 29 #[.val (.long p0), .second, .val (.int p2), .val (.ref b1), .val (.int i)] [(.int (Int8.toInt32 (Int32.toInt8 (Int64.toInt32 ((Int64.toUInt64 p0 >>> (((8 : Int32) * ((p2 - (1 : Int32)) - i)) &&& 0x3f).toInt64.toUInt64).toInt64))))), (.int i), (.ref b1)]))
        have lo8 : ¬ i < 0 := (by assumption)
        have hi8 : i < p2 := (by assumption)
        obtain ⟨T9, h9, X9, e9, W9, f9, st9⟩ := Ai.stB X5 hx hZ e5 jf5_0 (j := i) (x := (Int8.toInt32 (Int32.toInt8 (Int64.toInt32 ((Int64.toUInt64 p0 >>> (((8 : Int32) * ((p2 - (1 : Int32)) - i)) &&& 0x3f).toInt64.toUInt64).toInt64))))) lo8 hi8 (g := (mkF m 29 #[.val (.long p0), .second, .val (.int p2), .val (.ref b1), .val (.int i)] [(.int (Int8.toInt32 (Int32.toInt8 (Int64.toInt32 ((Int64.toUInt64 p0 >>> (((8 : Int32) * ((p2 - (1 : Int32)) - i)) &&& 0x3f).toInt64.toUInt64).toInt64))))), (.int i), (.ref b1)])) rfl rfl (hb hby d1_29)
        refine Go.step st9 ?_
        have N9 := Fr.snoc X9 N5 gn1
        have z10 : n0 ≤ h9.size := Nat.le_trans z6 (Keep.of_wr W9).1
        have sqz10 : h0.size ≤ h9.size := Nat.le_trans sqz6 (Keep.of_wr W9).1
        have k11 : Keep h0 h9 [] := k7.wr W9 (Or.inr sz1)
        obtain ⟨f12c, qf12c⟩ : ∃ fz, fz = (fun jj => if jj = i then (nar .byte (Int8.toInt32 (Int32.toInt8 (Int64.toInt32 ((Int64.toUInt64 p0 >>> (((8 : Int32) * ((p2 - (1 : Int32)) - i)) &&& 0x3f).toInt64.toUInt64).toInt64))))) else F jj) := ⟨_, rfl⟩
        rw [← qf12c] at f9
        show Go _ _ _ _ _ _ _ (T9.setTop (mkF m 30 #[.val (.long p0), .second, .val (.int p2), .val (.ref b1), .val (.int i)] []))
        refine Go.step (fun _ k => XS.iinc X9.here hx rfl (hb hby d1_30) rfl (l' := #[.val (.long p0), .second, .val (.int p2), .val (.ref b1), .val (.int (i + (1 : Int32)))]) rfl k) ?_
        show Go _ _ _ _ _ _ _ (T9.setTop (mkF m 33 #[.val (.long p0), .second, .val (.int p2), .val (.ref b1), .val (.int (i + (1 : Int32)))] []))
        refine Go.step (fun _ k => XS.goto X9.here hx rfl (pc0 := 33) (pc' := 7) rfl (hb hby d1_33) (by decide) (by decide) k) ?_
        exact ih _ (by have q := (own_up i0 hc10).2.2.1; omega) (i + (1 : Int32)) f12c h9 _ _ X9 e9 N9 (Keep.wr (Keep.trans (Keep.refl _ _) K5 (allS (Or.inl (List.mem_of_getElem? (i := 0) rfl)) all0)) W9 (Or.inl (List.mem_of_getElem? (i := 0) rfl))) f9 (own_up i0 hc10).1 (own_up i0 hc10).2.1 (own_next i0 hc10 hF (by assumption)) rfl
      · skip
        refine Go.step (fun _ k => XS.icmpYes X5.here hx rfl (pc0 := 10) (pc' := 36) rfl (hb hby d1_10) rfl (flt hc10).2.1 (by decide) (by decide) k) ?_
        show Go _ _ _ _ _ _ _ (TJ5.setTop (mkF m 36 #[.val (.long p0), .second, .val (.int p2), .val (.ref b1), .val (.int i)] []))
        refine Go.step (fun _ k => XS.aloadN X5.here hx rfl (hb hby d1_36) rfl rfl  k) ?_
        show Go _ _ _ _ _ _ _ (TJ5.setTop (mkF m 37 #[.val (.long p0), .second, .val (.int p2), .val (.ref b1), .val (.int i)] [(.ref b1)]))
        refine Go.retA X5 hx Bd.returns rfl rfl hlk (hb hby d1_37) ?_ (by decide) (by decide)
        rw [e5]
        exact ⟨b1, F, (rfl), N5, k7, sz1, jf5_0, (fun j q1 q2 => hF j q1 (own_le q2 hc10))⟩
  exact J7_5 _ (0 : Int32) (fun _ => 0) h1 _ _ X1 e1 N0 (Keep.refl _ _) f4 (by decide) hk0 (fun j q1 q2 => absurd q2 q1) rfl
theorem pn_5 : plainName "com/example/sidewire/sidewire/protocol/ThreadCommandsThreadPinLaw" = true := by first | (simp [plainName, overriddenIn]; done) | decide +kernel
theorem d2_0 : decode method_3_code 0 = .ok (.iload_n 3, 1) := by decide +kernel
theorem d2_1 : decode method_3_code 1 = .ok (.aload_n 2, 1) := by decide +kernel
theorem d2_2 : decode method_3_code 2 = .ok (.arraylength, 1) := by decide +kernel
theorem d2_3 : decode method_3_code 3 = .ok (.if_icmp .lt 5, 3) := by decide +kernel
theorem d2_6 : decode method_3_code 6 = .ok (.lload_n 0, 1) := by decide +kernel
theorem d2_7 : decode method_3_code 7 = .ok (.lreturn, 1) := by decide +kernel
theorem d2_8 : decode method_3_code 8 = .ok (.lload_n 0, 1) := by decide +kernel
theorem d2_9 : decode method_3_code 9 = .ok (.bipush 8, 2) := by decide +kernel
theorem d2_11 : decode method_3_code 11 = .ok (.lshl, 1) := by decide +kernel
theorem d2_12 : decode method_3_code 12 = .ok (.aload_n 2, 1) := by decide +kernel
theorem d2_13 : decode method_3_code 13 = .ok (.iload_n 3, 1) := by decide +kernel
theorem d2_14 : decode method_3_code 14 = .ok (.baload, 1) := by decide +kernel
theorem d2_15 : decode method_3_code 15 = .ok (.i2l, 1) := by decide +kernel
theorem d2_16 : decode method_3_code 16 = .ok (.ldc2_w 19, 3) := by decide +kernel
theorem d2_19 : decode method_3_code 19 = .ok (.land, 1) := by decide +kernel
theorem d2_20 : decode method_3_code 20 = .ok (.lor, 1) := by decide +kernel
theorem d2_21 : decode method_3_code 21 = .ok (.lreturn, 1) := by decide +kernel
theorem ef_2 (m : MethodId) (p0 : Int64) (a1 : Addr) (p2 : Int32) : entryFrame m #[(.long p0), (.ref a1), (.int p2)] 4 = mkF m 0 #[.val (.long p0), .second, .val (.ref a1), .val (.int p2)] [] := by first | (simp [entryFrame, mkF, argsToLocals, Value.category]; done) | rfl
def Q2 (Z : State) (p0 : Int64) (a1 : Addr) (p2 : Int32) (z1 : Int32) (f1 : Int32 → Int32) (h0 : Heap) (n0 : Nat) (v : Option Value) (h : Heap) (L : List Loc) : Prop := (v = some (.long (if p2 < z1 then ((p0 <<< ((8 : Int32) &&& 0x3f).toInt64) ||| ((Int32.toInt64 (f1 p2)) &&& (255 : Int64))) else p0))) ∧ (Fr n0 L) ∧ (h = h0)
set_option maxRecDepth 65536 in
set_option maxHeartbeats 40000000 in
theorem rm2 (l : Launch) (Z : State) (aZ : Array Value) (hw : ∀ d ∈ tables_1, d.before aZ Z = true) (ws : List Jvm.Cond) (p0 : Int64) (a1 : Addr) (p2 : Int32) (z1 : Int32) (f1 : Int32 → Int32) (h0 : Heap) (n0 : Nat) (Z0 : n0 ≤ h0.size) (A_0 : Ai Z h0 a1 .byte z1 f1) (hq0 : ¬ p2 < 0) :
    MetFree l (⟨"com/example/sidewire/sidewire/protocol/ThreadCommandsThreadPinLaw", "step", "(J[BI)J"⟩ : MethodName) (head1 (Jvm.Cond.code (⟨"com/example/sidewire/sidewire/protocol/ThreadCommandsThreadPinLaw", "step", "(J[BI)J"⟩ : MethodName) method_3_code 4 (some .long) :: ws) ({ frames := 0, cells := 0, slots := 0, locals := 0 } : Room)) (fun a U => a = #[(.long p0), (.ref a1), (.int p2)] ∧ Z.Warmed39 U.vm ∧ U.heap = h0) (fun _ _ _ _ _ => True) (fun _ U o U' => ∃ v L, o = .returned v ∧ Q2 Z p0 a1 p2 z1 f1 h0 n0 v U'.heap L ∧ FrameEnd U o U' L ({ frames := 0, cells := 0, slots := 0, locals := 0 } : Room).cells ({ frames := 0, cells := 0, slots := 0, locals := 0 } : Room).slots) := by
  refine MetFree.of_bodySF (plainFor_of_name pn_5) hisR ?_
  intro p e s m args below meth c s₁ Bd hml0 hP hK
  obtain ⟨rfl, hZ, hh⟩ := hP
  have hx := Bd.exec
  have hby := Bd.bytes
  have hml : c.maxLocals = 4 := hml0
  have hown : s.vm.findClass "com/example/sidewire/sidewire/protocol/ThreadCommandsThreadPinLaw" = some m.cls := findClass_of_methodNamed Bd.named
  have hnm := (name_of_methodNamed Bd.named Bd.method).1
  have hlk : meth.locks = false := BodyLoose.notSynchronized Bd
  have X0 : Stand p l e ({ frames := 0, cells := 0, slots := 0, locals := 0 } : Room) s m #[(.long p0), (.ref a1), (.int p2)] below meth c s₁ [] 0 0 := Stand.of_body Bd
  have e0 : s₁.heap = h0 := by rw [← hh, Bd.state]; rfl
  have N0 := Fr.nil n0
  have sq0 : h0.size ≤ h0.size := Nat.le_refl _
  change Go p e below s ({ frames := 0, cells := 0, slots := 0, locals := 0 } : Room).cells ({ frames := 0, cells := 0, slots := 0, locals := 0 } : Room).slots (Q2 Z p0 a1 p2 z1 f1 h0 n0) (s₁.setTop (entryFrame m #[(.long p0), (.ref a1), (.int p2)] 4))
  rw [ef_2 m p0 a1 p2]
  show Go _ _ _ _ _ _ _ (s₁.setTop (mkF m 0 #[.val (.long p0), .second, .val (.ref a1), .val (.int p2)] []))
  refine Go.step (fun _ k => XS.iloadN X0.here hx rfl (hb hby d2_0) rfl  k) ?_
  show Go _ _ _ _ _ _ _ (s₁.setTop (mkF m 1 #[.val (.long p0), .second, .val (.ref a1), .val (.int p2)] [(.int p2)]))
  refine Go.step (fun _ k => XS.aloadN X0.here hx rfl (hb hby d2_1) rfl rfl  k) ?_
  show Go _ _ _ _ _ _ _ (s₁.setTop (mkF m 2 #[.val (.long p0), .second, .val (.ref a1), .val (.int p2)] [(.ref a1), (.int p2)]))
  refine Go.step (Ai.len X0 hx hZ e0 A_0 (g := (mkF m 2 #[.val (.long p0), .second, .val (.ref a1), .val (.int p2)] [(.ref a1), (.int p2)])) rfl rfl (hb hby d2_2)) ?_
  show Go _ _ _ _ _ _ _ (s₁.setTop (mkF m 3 #[.val (.long p0), .second, .val (.ref a1), .val (.int p2)] [(.int z1), (.int p2)]))
  by_cases hc3 : p2 < z1
  · skip
    refine Go.step (fun _ k => XS.icmpYes X0.here hx rfl (pc0 := 3) (pc' := 8) rfl (hb hby d2_3) rfl (tlt hc3).1 (by decide) (by decide) k) ?_
    show Go _ _ _ _ _ _ _ (s₁.setTop (mkF m 8 #[.val (.long p0), .second, .val (.ref a1), .val (.int p2)] []))
    refine Go.step (fun _ k => XS.lloadN X0.here hx rfl (hb hby d2_8) rfl  k) ?_
    show Go _ _ _ _ _ _ _ (s₁.setTop (mkF m 9 #[.val (.long p0), .second, .val (.ref a1), .val (.int p2)] [(.long p0)]))
    refine Go.step (fun _ k => XS.bipush X0.here hx rfl (hb hby d2_9) k) ?_
    show Go _ _ _ _ _ _ _ (s₁.setTop (mkF m 11 #[.val (.long p0), .second, .val (.ref a1), .val (.int p2)] [(.int (8 : Int32)), (.long p0)]))
    refine Go.step (fun _ k => XS.lshl X0.here hx rfl (hb hby d2_11) rfl k) ?_
    show Go _ _ _ _ _ _ _ (s₁.setTop (mkF m 12 #[.val (.long p0), .second, .val (.ref a1), .val (.int p2)] [(.long (p0 <<< ((8 : Int32) &&& 0x3f).toInt64))]))
    refine Go.step (fun _ k => XS.aloadN X0.here hx rfl (hb hby d2_12) rfl rfl  k) ?_
    show Go _ _ _ _ _ _ _ (s₁.setTop (mkF m 13 #[.val (.long p0), .second, .val (.ref a1), .val (.int p2)] [(.ref a1), (.long (p0 <<< ((8 : Int32) &&& 0x3f).toInt64))]))
    refine Go.step (fun _ k => XS.iloadN X0.here hx rfl (hb hby d2_13) rfl  k) ?_
    show Go _ _ _ _ _ _ _ (s₁.setTop (mkF m 14 #[.val (.long p0), .second, .val (.ref a1), .val (.int p2)] [(.int p2), (.ref a1), (.long (p0 <<< ((8 : Int32) &&& 0x3f).toInt64))]))
    have lo1 : ¬ p2 < 0 := (by assumption)
    have hi1 : p2 < z1 := (by assumption)
    refine Go.step (Ai.baload X0 hx hZ e0 A_0 (j := p2) lo1 hi1 (g := (mkF m 14 #[.val (.long p0), .second, .val (.ref a1), .val (.int p2)] [(.int p2), (.ref a1), (.long (p0 <<< ((8 : Int32) &&& 0x3f).toInt64))])) rfl rfl (hb hby d2_14)) ?_
    show Go _ _ _ _ _ _ _ (s₁.setTop (mkF m 15 #[.val (.long p0), .second, .val (.ref a1), .val (.int p2)] [(.int (f1 p2)), (.long (p0 <<< ((8 : Int32) &&& 0x3f).toInt64))]))
    refine Go.step (fun _ k => XS.i2l X0.here hx rfl (hb hby d2_15) rfl k) ?_
    show Go _ _ _ _ _ _ _ (s₁.setTop (mkF m 16 #[.val (.long p0), .second, .val (.ref a1), .val (.int p2)] [(.long (Int32.toInt64 (f1 p2))), (.long (p0 <<< ((8 : Int32) &&& 0x3f).toInt64))]))
    refine Go.step (X0.ldc2Long hx hown (mvT hZ (hw _ (List.mem_of_getElem? (i := 9) rfl))) (g := (mkF m 16 #[.val (.long p0), .second, .val (.ref a1), .val (.int p2)] [(.long (Int32.toInt64 (f1 p2))), (.long (p0 <<< ((8 : Int32) &&& 0x3f).toInt64))])) rfl (hb hby d2_16)) ?_
    show Go _ _ _ _ _ _ _ (s₁.setTop (mkF m 19 #[.val (.long p0), .second, .val (.ref a1), .val (.int p2)] [(.long (255 : Int64)), (.long (Int32.toInt64 (f1 p2))), (.long (p0 <<< ((8 : Int32) &&& 0x3f).toInt64))]))
    refine Go.step (fun _ k => XS.land X0.here hx rfl (hb hby d2_19) rfl k) ?_
    show Go _ _ _ _ _ _ _ (s₁.setTop (mkF m 20 #[.val (.long p0), .second, .val (.ref a1), .val (.int p2)] [(.long ((Int32.toInt64 (f1 p2)) &&& (255 : Int64))), (.long (p0 <<< ((8 : Int32) &&& 0x3f).toInt64))]))
    refine Go.step (fun _ k => XS.lor X0.here hx rfl (hb hby d2_20) rfl k) ?_
    show Go _ _ _ _ _ _ _ (s₁.setTop (mkF m 21 #[.val (.long p0), .second, .val (.ref a1), .val (.int p2)] [(.long ((p0 <<< ((8 : Int32) &&& 0x3f).toInt64) ||| ((Int32.toInt64 (f1 p2)) &&& (255 : Int64))))]))
    refine Go.retJ X0 hx Bd.returns hlk (hb hby d2_21) ?_ (by decide) (by decide)
    rw [e0]
    exact ⟨(by simp [hc3]), N0, rfl⟩
  · skip
    refine Go.step (fun _ k => XS.icmpNo X0.here hx rfl (hb hby d2_3) rfl (flt hc3).1 k) ?_
    show Go _ _ _ _ _ _ _ (s₁.setTop (mkF m 6 #[.val (.long p0), .second, .val (.ref a1), .val (.int p2)] []))
    refine Go.step (fun _ k => XS.lloadN X0.here hx rfl (hb hby d2_6) rfl  k) ?_
    show Go _ _ _ _ _ _ _ (s₁.setTop (mkF m 7 #[.val (.long p0), .second, .val (.ref a1), .val (.int p2)] [(.long p0)]))
    refine Go.retJ X0 hx Bd.returns hlk (hb hby d2_7) ?_ (by decide) (by decide)
    rw [e0]
    exact ⟨(by simp [hc3]), N0, rfl⟩
theorem pd_0 : parseMethodDescriptor "(JI)[B" = some ⟨[.long, .int], some (.array .byte)⟩ := by decide +kernel
theorem pd_1 : parseMethodDescriptor "(J[BI)J" = some ⟨[.long, (.array .byte), .int], some .long⟩ := by decide +kernel
theorem ef_0 (m : MethodId) (zid : Int64) (qs : Int32) : entryFrame m #[(.long zid), (.int qs)] maxLocals = mkF m 0 #[.val (.long zid), .second, .val (.int qs), .unset, .unset, .unset, .unset, .unset, .unset] [] := by first | (simp [entryFrame, mkF, argsToLocals, Value.category, maxLocals]; done) | rfl
def Q0 (Z : State) (zid : Int64) (qs : Int32) (h0 : Heap) (n0 : Nat) (v : Option Value) (h : Heap) (L : List Loc) : Prop := (v = some (.int 1)) ∧ (Fr n0 L)
set_option maxRecDepth 65536 in
set_option maxHeartbeats 40000000 in
theorem rm0 (l : Launch) (Z : State) (aZ : Array Value) (hw : ∀ d ∈ tables_1, d.before aZ Z = true) (ws : List Jvm.Cond) (zid : Int64) (qs : Int32) (h0 : Heap) (n0 : Nat) (Z0 : n0 ≤ h0.size)  :
    MetFree l x (head1 (Jvm.Cond.code x code maxLocals ret :: ws) room_1) (fun a U => a = #[(.long zid), (.int qs)] ∧ Z.Warmed39 U.vm ∧ U.heap = h0) (fun _ _ _ _ _ => True) (fun _ U o U' => ∃ v L, o = .returned v ∧ Q0 Z zid qs h0 n0 v U'.heap L ∧ FrameEnd U o U' L 1 8) := by
  refine MetFree.of_bodySF (plainFor_of_name pn_5) hisR ?_
  intro p e s m args below meth c s₁ Bd hml0 hP hK
  obtain ⟨rfl, hZ, hh⟩ := hP
  have hx := Bd.exec
  have hby := Bd.bytes
  have hml : c.maxLocals = 9 := hml0
  have hown : s.vm.findClass "com/example/sidewire/sidewire/protocol/ThreadCommandsThreadPinLaw" = some m.cls := findClass_of_methodNamed Bd.named
  have hnm := (name_of_methodNamed Bd.named Bd.method).1
  have hlk : meth.locks = false := BodyLoose.notSynchronized Bd
  have X0 : Stand p l e room_1 s m #[(.long zid), (.int qs)] below meth c s₁ [] 0 0 := Stand.of_body Bd
  have e0 : s₁.heap = h0 := by rw [← hh, Bd.state]; rfl
  have N0 := Fr.nil n0
  have sq0 : h0.size ≤ h0.size := Nat.le_refl _
  change Go p e below s 1 8 (Q0 Z zid qs h0 n0) (s₁.setTop (entryFrame m #[(.long zid), (.int qs)] maxLocals))
  rw [ef_0 m zid qs]
  show Go _ _ _ _ _ _ _ (s₁.setTop (mkF m 0 #[.val (.long zid), .second, .val (.int qs), .unset, .unset, .unset, .unset, .unset, .unset] []))
  refine Go.step (fun _ k => XS.iloadN X0.here hx rfl (hb hby at_0) rfl  k) ?_
  show Go _ _ _ _ _ _ _ (s₁.setTop (mkF m 1 #[.val (.long zid), .second, .val (.int qs), .unset, .unset, .unset, .unset, .unset, .unset] [(.int qs)]))
  refine Go.step (fun _ k => XS.bipush X0.here hx rfl (hb hby at_1) k) ?_
  show Go _ _ _ _ _ _ _ (s₁.setTop (mkF m 3 #[.val (.long zid), .second, .val (.int qs), .unset, .unset, .unset, .unset, .unset, .unset] [(.int (7 : Int32)), (.int qs)]))
  refine Go.step (fun _ k => XS.iand X0.here hx rfl (hb hby at_3) rfl k) ?_
  show Go _ _ _ _ _ _ _ (s₁.setTop (mkF m 4 #[.val (.long zid), .second, .val (.int qs), .unset, .unset, .unset, .unset, .unset, .unset] [(.int (qs &&& (7 : Int32)))]))
  refine Go.step (fun _ k => XS.iconst X0.here hx rfl (hb hby at_4) k) ?_
  show Go _ _ _ _ _ _ _ (s₁.setTop (mkF m 5 #[.val (.long zid), .second, .val (.int qs), .unset, .unset, .unset, .unset, .unset, .unset] [(.int (1 : Int32)), (.int (qs &&& (7 : Int32)))]))
  refine Go.step (fun _ k => XS.iadd X0.here hx rfl (hb hby at_5) rfl k) ?_
  show Go _ _ _ _ _ _ _ (s₁.setTop (mkF m 6 #[.val (.long zid), .second, .val (.int qs), .unset, .unset, .unset, .unset, .unset, .unset] [(.int ((qs &&& (7 : Int32)) + (1 : Int32)))]))
  obtain ⟨kk, q_kk⟩ : ∃ z : Int32, z = ((qs &&& (7 : Int32)) + (1 : Int32)) := ⟨_, rfl⟩
  rw [← q_kk]
  have hkk := own_kk qs
  rw [← q_kk] at hkk
  show Go _ _ _ _ _ _ _ (s₁.setTop (mkF m 6 #[.val (.long zid), .second, .val (.int qs), .unset, .unset, .unset, .unset, .unset, .unset] [(.int kk)]))
  refine Go.step (fun _ k => XS.istoreN X0.here hx rfl (hb hby at_6) rfl (l' := #[.val (.long zid), .second, .val (.int qs), .val (.int kk), .unset, .unset, .unset, .unset, .unset]) rfl k) ?_
  show Go _ _ _ _ _ _ _ (s₁.setTop (mkF m 7 #[.val (.long zid), .second, .val (.int qs), .val (.int kk), .unset, .unset, .unset, .unset, .unset] []))
  refine Go.step (fun _ k => XS.lloadN X0.here hx rfl (hb hby at_7) rfl  k) ?_
  show Go _ _ _ _ _ _ _ (s₁.setTop (mkF m 8 #[.val (.long zid), .second, .val (.int qs), .val (.int kk), .unset, .unset, .unset, .unset, .unset] [(.long zid)]))
  refine Go.step (fun _ k => XS.iloadN X0.here hx rfl (hb hby at_8) rfl  k) ?_
  show Go _ _ _ _ _ _ _ (s₁.setTop (mkF m 9 #[.val (.long zid), .second, .val (.int qs), .val (.int kk), .unset, .unset, .unset, .unset, .unset] [(.int kk), (.long zid)]))
  have pq1 : ¬ kk < 0 := hkk.2.2.1
  have pq2 : kk.toNatClampNeg ≤ 8 := hkk.2.2.2
  obtain ⟨_, _, ⟨T3, L3, k3, n3⟩, -, X3, ⟨Lc3, hQ3, l3, y3, z3⟩, st3⟩ := Jvm.LawKit.callS X0 hx (y := (⟨"com/example/sidewire/sidewire/protocol/ThreadCommands", "thread", "(JI)[B"⟩ : MethodName)) hown (mvT hZ (hw _ (List.mem_of_getElem? (i := 0) rfl))) (mvT hZ (hw _ (List.mem_of_getElem? (i := 1) rfl))) (mvT hZ (hw _ (List.mem_of_getElem? (i := 2) rfl))) (mvT hZ (hw _ (List.mem_of_getElem? (i := 3) rfl))) (by decide) (backOf (W := 0) (rm1 l Z aZ hw [] zid kk h0 n0 Z0 pq1 pq2) hZ (hw _ (List.mem_of_getElem? (i := 3) rfl)) (hw _ (List.mem_of_getElem? (i := 2) rfl)) (by decide) (by decide)) (g := (mkF m 9 #[.val (.long zid), .second, .val (.int qs), .val (.int kk), .unset, .unset, .unset, .unset, .unset] [(.int kk), (.long zid)])) rfl (by rw [hml]; rfl) (argsL := [(.long zid), (.int kk)]) (rest := []) (lenOf pd_0 rfl) rfl (by show 2 * 0 + _ ≤ _; exact Nat.le_of_eq rfl) (hb hby at_9) (fun _ _ => ⟨rfl, e0, (by decide : 0 + 1 ≤ _), (by decide : 0 + 8 ≤ _)⟩)
  dsimp only [Pt.U, Pt.locs, Pt.cells, Pt.slots] at X3 l3 y3 z3 st3 hQ3
  subst l3 y3 z3
  obtain ⟨b_3, F1_3, rfl, Nq3, K3, c3_0, c3_1, u3_0⟩ := hQ3
  have N3 := Fr.app N0 Nq3
  refine Go.step st3 ?_
  have gn3_0 : n0 ≤ b_3 := Nat.le_trans Z0 c3_0
  have sz3_0 : h0.size ≤ b_3 := Nat.le_trans sq0 c3_0
  have z4 : n0 ≤ T3.heap.size := Nat.le_trans Z0 K3.1
  have sqz4 : h0.size ≤ T3.heap.size := Nat.le_trans sq0 K3.1
  show Go _ _ _ _ _ _ _ (T3.setTop (mkF m 12 #[.val (.long zid), .second, .val (.int qs), .val (.int kk), .unset, .unset, .unset, .unset, .unset] [(.ref b_3)]))
  refine Go.step (fun _ k => XS.astore X3.here hx rfl (hb hby at_12) rfl rfl (l' := #[.val (.long zid), .second, .val (.int qs), .val (.int kk), .val (.ref b_3), .unset, .unset, .unset, .unset]) rfl k) ?_
  show Go _ _ _ _ _ _ _ (T3.setTop (mkF m 14 #[.val (.long zid), .second, .val (.int qs), .val (.int kk), .val (.ref b_3), .unset, .unset, .unset, .unset] []))
  refine Go.step (fun _ k => XS.aload X3.here hx rfl (hb hby at_14) rfl rfl  k) ?_
  show Go _ _ _ _ _ _ _ (T3.setTop (mkF m 16 #[.val (.long zid), .second, .val (.int qs), .val (.int kk), .val (.ref b_3), .unset, .unset, .unset, .unset] [(.ref b_3)]))
  refine Go.step (fun _ k => XS.ifnullNo X3.here hx rfl (hb hby at_16) rfl k) ?_
  show Go _ _ _ _ _ _ _ (T3.setTop (mkF m 19 #[.val (.long zid), .second, .val (.int qs), .val (.int kk), .val (.ref b_3), .unset, .unset, .unset, .unset] []))
  refine Go.step (fun _ k => XS.aload X3.here hx rfl (hb hby at_19) rfl rfl  k) ?_
  show Go _ _ _ _ _ _ _ (T3.setTop (mkF m 21 #[.val (.long zid), .second, .val (.int qs), .val (.int kk), .val (.ref b_3), .unset, .unset, .unset, .unset] [(.ref b_3)]))
  refine Go.step (Ai.len X3 hx hZ rfl c3_1 (g := (mkF m 21 #[.val (.long zid), .second, .val (.int qs), .val (.int kk), .val (.ref b_3), .unset, .unset, .unset, .unset] [(.ref b_3)])) rfl rfl (hb hby at_21)) ?_
  show Go _ _ _ _ _ _ _ (T3.setTop (mkF m 22 #[.val (.long zid), .second, .val (.int qs), .val (.int kk), .val (.ref b_3), .unset, .unset, .unset, .unset] [(.int kk)]))
  refine Go.step (fun _ k => XS.iloadN X3.here hx rfl (hb hby at_22) rfl  k) ?_
  show Go _ _ _ _ _ _ _ (T3.setTop (mkF m 23 #[.val (.long zid), .second, .val (.int qs), .val (.int kk), .val (.ref b_3), .unset, .unset, .unset, .unset] [(.int kk), (.int kk)]))
  have hc23 : kk = kk := rfl
  refine Go.step (fun _ k => XS.icmpYes X3.here hx rfl (pc0 := 23) (pc' := 28) rfl (hb hby at_23) rfl (teq hc23).1 (by decide) (by decide) k) ?_
  show Go _ _ _ _ _ _ _ (T3.setTop (mkF m 28 #[.val (.long zid), .second, .val (.int qs), .val (.int kk), .val (.ref b_3), .unset, .unset, .unset, .unset] []))
  refine Go.step (fun _ k => XS.lconst X3.here hx rfl (hb hby at_28) k) ?_
  show Go _ _ _ _ _ _ _ (T3.setTop (mkF m 29 #[.val (.long zid), .second, .val (.int qs), .val (.int kk), .val (.ref b_3), .unset, .unset, .unset, .unset] [(.long (0 : Int64))]))
  refine Go.step (fun _ k => XS.lstore X3.here hx rfl (hb hby at_29) rfl (l' := #[.val (.long zid), .second, .val (.int qs), .val (.int kk), .val (.ref b_3), .val (.long (0 : Int64)), .second, .unset, .unset]) rfl k) ?_
  show Go _ _ _ _ _ _ _ (T3.setTop (mkF m 31 #[.val (.long zid), .second, .val (.int qs), .val (.int kk), .val (.ref b_3), .val (.long (0 : Int64)), .second, .unset, .unset] []))
  refine Go.step (fun _ k => XS.lload X3.here hx rfl (hb hby at_31) rfl  k) ?_
  show Go _ _ _ _ _ _ _ (T3.setTop (mkF m 33 #[.val (.long zid), .second, .val (.int qs), .val (.int kk), .val (.ref b_3), .val (.long (0 : Int64)), .second, .unset, .unset] [(.long (0 : Int64))]))
  refine Go.step (fun _ k => XS.aload X3.here hx rfl (hb hby at_33) rfl rfl  k) ?_
  show Go _ _ _ _ _ _ _ (T3.setTop (mkF m 35 #[.val (.long zid), .second, .val (.int qs), .val (.int kk), .val (.ref b_3), .val (.long (0 : Int64)), .second, .unset, .unset] [(.ref b_3), (.long (0 : Int64))]))
  refine Go.step (fun _ k => XS.iconst X3.here hx rfl (hb hby at_35) k) ?_
  show Go _ _ _ _ _ _ _ (T3.setTop (mkF m 36 #[.val (.long zid), .second, .val (.int qs), .val (.int kk), .val (.ref b_3), .val (.long (0 : Int64)), .second, .unset, .unset] [(.int (0 : Int32)), (.ref b_3), (.long (0 : Int64))]))
  have pq6 : ¬ (0 : Int32) < 0 := (by first | assumption | rfl | decide)
  obtain ⟨_, _, ⟨T7, L7, k7, n7⟩, -, X7, ⟨Lc7, hQ7, l7, y7, z7⟩, st7⟩ := Jvm.LawKit.callS X3 hx (y := (⟨"com/example/sidewire/sidewire/protocol/ThreadCommandsThreadPinLaw", "step", "(J[BI)J"⟩ : MethodName)) hown (mvT hZ (hw _ (List.mem_of_getElem? (i := 5) rfl))) (mvT hZ (hw _ (List.mem_of_getElem? (i := 6) rfl))) (mvT hZ (hw _ (List.mem_of_getElem? (i := 7) rfl))) (mvT hZ (hw _ (List.mem_of_getElem? (i := 8) rfl))) (by decide) (backOf (W := 0) (rm2 l Z aZ hw [] (0 : Int64) b_3 (0 : Int32) kk F1_3 T3.heap n0 z4 c3_1 pq6) hZ (hw _ (List.mem_of_getElem? (i := 8) rfl)) (hw _ (List.mem_of_getElem? (i := 7) rfl)) (by decide) (by decide)) (g := (mkF m 36 #[.val (.long zid), .second, .val (.int qs), .val (.int kk), .val (.ref b_3), .val (.long (0 : Int64)), .second, .unset, .unset] [(.int (0 : Int32)), (.ref b_3), (.long (0 : Int64))])) rfl (by rw [hml]; rfl) (argsL := [(.long (0 : Int64)), (.ref b_3), (.int (0 : Int32))]) (rest := []) (lenOf pd_1 rfl) rfl (by show 2 * 0 + _ ≤ _; exact Nat.le_of_eq rfl) (hb hby at_36) (fun _ _ => ⟨rfl, rfl, (by decide : 1 + 0 ≤ _), (by decide : 8 + 0 ≤ _)⟩)
  dsimp only [Pt.U, Pt.locs, Pt.cells, Pt.slots] at X7 l7 y7 z7 st7 hQ7
  subst l7 y7 z7
  obtain ⟨rfl, Nq7, e7⟩ := hQ7
  have N7 := Fr.app N3 Nq7
  refine Go.step st7 ?_
  show Go _ _ _ _ _ _ _ (T7.setTop (mkF m 39 #[.val (.long zid), .second, .val (.int qs), .val (.int kk), .val (.ref b_3), .val (.long (0 : Int64)), .second, .unset, .unset] [(.long (if (0 : Int32) < kk then (((0 : Int64) <<< ((8 : Int32) &&& 0x3f).toInt64) ||| ((Int32.toInt64 (F1_3 (0 : Int32))) &&& (255 : Int64))) else (0 : Int64)))]))
  obtain ⟨r1, q_r1⟩ : ∃ z : Int64, z = (if (0 : Int32) < kk then (((0 : Int64) <<< ((8 : Int32) &&& 0x3f).toInt64) ||| ((Int32.toInt64 (F1_3 (0 : Int32))) &&& (255 : Int64))) else (0 : Int64)) := ⟨_, rfl⟩
  rw [← q_r1]
  show Go _ _ _ _ _ _ _ (T7.setTop (mkF m 39 #[.val (.long zid), .second, .val (.int qs), .val (.int kk), .val (.ref b_3), .val (.long (0 : Int64)), .second, .unset, .unset] [(.long r1)]))
  refine Go.step (fun _ k => XS.lstore X7.here hx rfl (hb hby at_39) rfl (l' := #[.val (.long zid), .second, .val (.int qs), .val (.int kk), .val (.ref b_3), .val (.long r1), .second, .unset, .unset]) rfl k) ?_
  show Go _ _ _ _ _ _ _ (T7.setTop (mkF m 41 #[.val (.long zid), .second, .val (.int qs), .val (.int kk), .val (.ref b_3), .val (.long r1), .second, .unset, .unset] []))
  refine Go.step (fun _ k => XS.lload X7.here hx rfl (hb hby at_41) rfl  k) ?_
  show Go _ _ _ _ _ _ _ (T7.setTop (mkF m 43 #[.val (.long zid), .second, .val (.int qs), .val (.int kk), .val (.ref b_3), .val (.long r1), .second, .unset, .unset] [(.long r1)]))
  refine Go.step (fun _ k => XS.aload X7.here hx rfl (hb hby at_43) rfl rfl  k) ?_
  show Go _ _ _ _ _ _ _ (T7.setTop (mkF m 45 #[.val (.long zid), .second, .val (.int qs), .val (.int kk), .val (.ref b_3), .val (.long r1), .second, .unset, .unset] [(.ref b_3), (.long r1)]))
  refine Go.step (fun _ k => XS.iconst X7.here hx rfl (hb hby at_45) k) ?_
  show Go _ _ _ _ _ _ _ (T7.setTop (mkF m 46 #[.val (.long zid), .second, .val (.int qs), .val (.int kk), .val (.ref b_3), .val (.long r1), .second, .unset, .unset] [(.int (1 : Int32)), (.ref b_3), (.long r1)]))
  have pq8 : ¬ (1 : Int32) < 0 := (by first | assumption | rfl | decide)
  obtain ⟨_, _, ⟨T9, L9, k9, n9⟩, -, X9, ⟨Lc9, hQ9, l9, y9, z9⟩, st9⟩ := Jvm.LawKit.callS X7 hx (y := (⟨"com/example/sidewire/sidewire/protocol/ThreadCommandsThreadPinLaw", "step", "(J[BI)J"⟩ : MethodName)) hown (mvT hZ (hw _ (List.mem_of_getElem? (i := 5) rfl))) (mvT hZ (hw _ (List.mem_of_getElem? (i := 6) rfl))) (mvT hZ (hw _ (List.mem_of_getElem? (i := 7) rfl))) (mvT hZ (hw _ (List.mem_of_getElem? (i := 8) rfl))) (by decide) (backOf (W := 0) (rm2 l Z aZ hw [] r1 b_3 (1 : Int32) kk F1_3 T3.heap n0 z4 c3_1 pq8) hZ (hw _ (List.mem_of_getElem? (i := 8) rfl)) (hw _ (List.mem_of_getElem? (i := 7) rfl)) (by decide) (by decide)) (g := (mkF m 46 #[.val (.long zid), .second, .val (.int qs), .val (.int kk), .val (.ref b_3), .val (.long r1), .second, .unset, .unset] [(.int (1 : Int32)), (.ref b_3), (.long r1)])) rfl (by rw [hml]; rfl) (argsL := [(.long r1), (.ref b_3), (.int (1 : Int32))]) (rest := []) (lenOf pd_1 rfl) rfl (by show 2 * 0 + _ ≤ _; exact Nat.le_of_eq rfl) (hb hby at_46) (fun _ _ => ⟨rfl, e7, (by decide : 1 + 0 ≤ _), (by decide : 8 + 0 ≤ _)⟩)
  dsimp only [Pt.U, Pt.locs, Pt.cells, Pt.slots] at X9 l9 y9 z9 st9 hQ9
  subst l9 y9 z9
  obtain ⟨rfl, Nq9, e9⟩ := hQ9
  have N9 := Fr.app N7 Nq9
  refine Go.step st9 ?_
  show Go _ _ _ _ _ _ _ (T9.setTop (mkF m 49 #[.val (.long zid), .second, .val (.int qs), .val (.int kk), .val (.ref b_3), .val (.long r1), .second, .unset, .unset] [(.long (if (1 : Int32) < kk then ((r1 <<< ((8 : Int32) &&& 0x3f).toInt64) ||| ((Int32.toInt64 (F1_3 (1 : Int32))) &&& (255 : Int64))) else r1))]))
  obtain ⟨r2, q_r2⟩ : ∃ z : Int64, z = (if (1 : Int32) < kk then ((r1 <<< ((8 : Int32) &&& 0x3f).toInt64) ||| ((Int32.toInt64 (F1_3 (1 : Int32))) &&& (255 : Int64))) else r1) := ⟨_, rfl⟩
  rw [← q_r2]
  show Go _ _ _ _ _ _ _ (T9.setTop (mkF m 49 #[.val (.long zid), .second, .val (.int qs), .val (.int kk), .val (.ref b_3), .val (.long r1), .second, .unset, .unset] [(.long r2)]))
  refine Go.step (fun _ k => XS.lstore X9.here hx rfl (hb hby at_49) rfl (l' := #[.val (.long zid), .second, .val (.int qs), .val (.int kk), .val (.ref b_3), .val (.long r2), .second, .unset, .unset]) rfl k) ?_
  show Go _ _ _ _ _ _ _ (T9.setTop (mkF m 51 #[.val (.long zid), .second, .val (.int qs), .val (.int kk), .val (.ref b_3), .val (.long r2), .second, .unset, .unset] []))
  refine Go.step (fun _ k => XS.lload X9.here hx rfl (hb hby at_51) rfl  k) ?_
  show Go _ _ _ _ _ _ _ (T9.setTop (mkF m 53 #[.val (.long zid), .second, .val (.int qs), .val (.int kk), .val (.ref b_3), .val (.long r2), .second, .unset, .unset] [(.long r2)]))
  refine Go.step (fun _ k => XS.aload X9.here hx rfl (hb hby at_53) rfl rfl  k) ?_
  show Go _ _ _ _ _ _ _ (T9.setTop (mkF m 55 #[.val (.long zid), .second, .val (.int qs), .val (.int kk), .val (.ref b_3), .val (.long r2), .second, .unset, .unset] [(.ref b_3), (.long r2)]))
  refine Go.step (fun _ k => XS.iconst X9.here hx rfl (hb hby at_55) k) ?_
  show Go _ _ _ _ _ _ _ (T9.setTop (mkF m 56 #[.val (.long zid), .second, .val (.int qs), .val (.int kk), .val (.ref b_3), .val (.long r2), .second, .unset, .unset] [(.int (2 : Int32)), (.ref b_3), (.long r2)]))
  have pq10 : ¬ (2 : Int32) < 0 := (by first | assumption | rfl | decide)
  obtain ⟨_, _, ⟨T11, L11, k11, n11⟩, -, X11, ⟨Lc11, hQ11, l11, y11, z11⟩, st11⟩ := Jvm.LawKit.callS X9 hx (y := (⟨"com/example/sidewire/sidewire/protocol/ThreadCommandsThreadPinLaw", "step", "(J[BI)J"⟩ : MethodName)) hown (mvT hZ (hw _ (List.mem_of_getElem? (i := 5) rfl))) (mvT hZ (hw _ (List.mem_of_getElem? (i := 6) rfl))) (mvT hZ (hw _ (List.mem_of_getElem? (i := 7) rfl))) (mvT hZ (hw _ (List.mem_of_getElem? (i := 8) rfl))) (by decide) (backOf (W := 0) (rm2 l Z aZ hw [] r2 b_3 (2 : Int32) kk F1_3 T3.heap n0 z4 c3_1 pq10) hZ (hw _ (List.mem_of_getElem? (i := 8) rfl)) (hw _ (List.mem_of_getElem? (i := 7) rfl)) (by decide) (by decide)) (g := (mkF m 56 #[.val (.long zid), .second, .val (.int qs), .val (.int kk), .val (.ref b_3), .val (.long r2), .second, .unset, .unset] [(.int (2 : Int32)), (.ref b_3), (.long r2)])) rfl (by rw [hml]; rfl) (argsL := [(.long r2), (.ref b_3), (.int (2 : Int32))]) (rest := []) (lenOf pd_1 rfl) rfl (by show 2 * 0 + _ ≤ _; exact Nat.le_of_eq rfl) (hb hby at_56) (fun _ _ => ⟨rfl, e9, (by decide : 1 + 0 ≤ _), (by decide : 8 + 0 ≤ _)⟩)
  dsimp only [Pt.U, Pt.locs, Pt.cells, Pt.slots] at X11 l11 y11 z11 st11 hQ11
  subst l11 y11 z11
  obtain ⟨rfl, Nq11, e11⟩ := hQ11
  have N11 := Fr.app N9 Nq11
  refine Go.step st11 ?_
  show Go _ _ _ _ _ _ _ (T11.setTop (mkF m 59 #[.val (.long zid), .second, .val (.int qs), .val (.int kk), .val (.ref b_3), .val (.long r2), .second, .unset, .unset] [(.long (if (2 : Int32) < kk then ((r2 <<< ((8 : Int32) &&& 0x3f).toInt64) ||| ((Int32.toInt64 (F1_3 (2 : Int32))) &&& (255 : Int64))) else r2))]))
  obtain ⟨r3, q_r3⟩ : ∃ z : Int64, z = (if (2 : Int32) < kk then ((r2 <<< ((8 : Int32) &&& 0x3f).toInt64) ||| ((Int32.toInt64 (F1_3 (2 : Int32))) &&& (255 : Int64))) else r2) := ⟨_, rfl⟩
  rw [← q_r3]
  show Go _ _ _ _ _ _ _ (T11.setTop (mkF m 59 #[.val (.long zid), .second, .val (.int qs), .val (.int kk), .val (.ref b_3), .val (.long r2), .second, .unset, .unset] [(.long r3)]))
  refine Go.step (fun _ k => XS.lstore X11.here hx rfl (hb hby at_59) rfl (l' := #[.val (.long zid), .second, .val (.int qs), .val (.int kk), .val (.ref b_3), .val (.long r3), .second, .unset, .unset]) rfl k) ?_
  show Go _ _ _ _ _ _ _ (T11.setTop (mkF m 61 #[.val (.long zid), .second, .val (.int qs), .val (.int kk), .val (.ref b_3), .val (.long r3), .second, .unset, .unset] []))
  refine Go.step (fun _ k => XS.lload X11.here hx rfl (hb hby at_61) rfl  k) ?_
  show Go _ _ _ _ _ _ _ (T11.setTop (mkF m 63 #[.val (.long zid), .second, .val (.int qs), .val (.int kk), .val (.ref b_3), .val (.long r3), .second, .unset, .unset] [(.long r3)]))
  refine Go.step (fun _ k => XS.aload X11.here hx rfl (hb hby at_63) rfl rfl  k) ?_
  show Go _ _ _ _ _ _ _ (T11.setTop (mkF m 65 #[.val (.long zid), .second, .val (.int qs), .val (.int kk), .val (.ref b_3), .val (.long r3), .second, .unset, .unset] [(.ref b_3), (.long r3)]))
  refine Go.step (fun _ k => XS.iconst X11.here hx rfl (hb hby at_65) k) ?_
  show Go _ _ _ _ _ _ _ (T11.setTop (mkF m 66 #[.val (.long zid), .second, .val (.int qs), .val (.int kk), .val (.ref b_3), .val (.long r3), .second, .unset, .unset] [(.int (3 : Int32)), (.ref b_3), (.long r3)]))
  have pq12 : ¬ (3 : Int32) < 0 := (by first | assumption | rfl | decide)
  obtain ⟨_, _, ⟨T13, L13, k13, n13⟩, -, X13, ⟨Lc13, hQ13, l13, y13, z13⟩, st13⟩ := Jvm.LawKit.callS X11 hx (y := (⟨"com/example/sidewire/sidewire/protocol/ThreadCommandsThreadPinLaw", "step", "(J[BI)J"⟩ : MethodName)) hown (mvT hZ (hw _ (List.mem_of_getElem? (i := 5) rfl))) (mvT hZ (hw _ (List.mem_of_getElem? (i := 6) rfl))) (mvT hZ (hw _ (List.mem_of_getElem? (i := 7) rfl))) (mvT hZ (hw _ (List.mem_of_getElem? (i := 8) rfl))) (by decide) (backOf (W := 0) (rm2 l Z aZ hw [] r3 b_3 (3 : Int32) kk F1_3 T3.heap n0 z4 c3_1 pq12) hZ (hw _ (List.mem_of_getElem? (i := 8) rfl)) (hw _ (List.mem_of_getElem? (i := 7) rfl)) (by decide) (by decide)) (g := (mkF m 66 #[.val (.long zid), .second, .val (.int qs), .val (.int kk), .val (.ref b_3), .val (.long r3), .second, .unset, .unset] [(.int (3 : Int32)), (.ref b_3), (.long r3)])) rfl (by rw [hml]; rfl) (argsL := [(.long r3), (.ref b_3), (.int (3 : Int32))]) (rest := []) (lenOf pd_1 rfl) rfl (by show 2 * 0 + _ ≤ _; exact Nat.le_of_eq rfl) (hb hby at_66) (fun _ _ => ⟨rfl, e11, (by decide : 1 + 0 ≤ _), (by decide : 8 + 0 ≤ _)⟩)
  dsimp only [Pt.U, Pt.locs, Pt.cells, Pt.slots] at X13 l13 y13 z13 st13 hQ13
  subst l13 y13 z13
  obtain ⟨rfl, Nq13, e13⟩ := hQ13
  have N13 := Fr.app N11 Nq13
  refine Go.step st13 ?_
  show Go _ _ _ _ _ _ _ (T13.setTop (mkF m 69 #[.val (.long zid), .second, .val (.int qs), .val (.int kk), .val (.ref b_3), .val (.long r3), .second, .unset, .unset] [(.long (if (3 : Int32) < kk then ((r3 <<< ((8 : Int32) &&& 0x3f).toInt64) ||| ((Int32.toInt64 (F1_3 (3 : Int32))) &&& (255 : Int64))) else r3))]))
  obtain ⟨r4, q_r4⟩ : ∃ z : Int64, z = (if (3 : Int32) < kk then ((r3 <<< ((8 : Int32) &&& 0x3f).toInt64) ||| ((Int32.toInt64 (F1_3 (3 : Int32))) &&& (255 : Int64))) else r3) := ⟨_, rfl⟩
  rw [← q_r4]
  show Go _ _ _ _ _ _ _ (T13.setTop (mkF m 69 #[.val (.long zid), .second, .val (.int qs), .val (.int kk), .val (.ref b_3), .val (.long r3), .second, .unset, .unset] [(.long r4)]))
  refine Go.step (fun _ k => XS.lstore X13.here hx rfl (hb hby at_69) rfl (l' := #[.val (.long zid), .second, .val (.int qs), .val (.int kk), .val (.ref b_3), .val (.long r4), .second, .unset, .unset]) rfl k) ?_
  show Go _ _ _ _ _ _ _ (T13.setTop (mkF m 71 #[.val (.long zid), .second, .val (.int qs), .val (.int kk), .val (.ref b_3), .val (.long r4), .second, .unset, .unset] []))
  refine Go.step (fun _ k => XS.lload X13.here hx rfl (hb hby at_71) rfl  k) ?_
  show Go _ _ _ _ _ _ _ (T13.setTop (mkF m 73 #[.val (.long zid), .second, .val (.int qs), .val (.int kk), .val (.ref b_3), .val (.long r4), .second, .unset, .unset] [(.long r4)]))
  refine Go.step (fun _ k => XS.aload X13.here hx rfl (hb hby at_73) rfl rfl  k) ?_
  show Go _ _ _ _ _ _ _ (T13.setTop (mkF m 75 #[.val (.long zid), .second, .val (.int qs), .val (.int kk), .val (.ref b_3), .val (.long r4), .second, .unset, .unset] [(.ref b_3), (.long r4)]))
  refine Go.step (fun _ k => XS.iconst X13.here hx rfl (hb hby at_75) k) ?_
  show Go _ _ _ _ _ _ _ (T13.setTop (mkF m 76 #[.val (.long zid), .second, .val (.int qs), .val (.int kk), .val (.ref b_3), .val (.long r4), .second, .unset, .unset] [(.int (4 : Int32)), (.ref b_3), (.long r4)]))
  have pq14 : ¬ (4 : Int32) < 0 := (by first | assumption | rfl | decide)
  obtain ⟨_, _, ⟨T15, L15, k15, n15⟩, -, X15, ⟨Lc15, hQ15, l15, y15, z15⟩, st15⟩ := Jvm.LawKit.callS X13 hx (y := (⟨"com/example/sidewire/sidewire/protocol/ThreadCommandsThreadPinLaw", "step", "(J[BI)J"⟩ : MethodName)) hown (mvT hZ (hw _ (List.mem_of_getElem? (i := 5) rfl))) (mvT hZ (hw _ (List.mem_of_getElem? (i := 6) rfl))) (mvT hZ (hw _ (List.mem_of_getElem? (i := 7) rfl))) (mvT hZ (hw _ (List.mem_of_getElem? (i := 8) rfl))) (by decide) (backOf (W := 0) (rm2 l Z aZ hw [] r4 b_3 (4 : Int32) kk F1_3 T3.heap n0 z4 c3_1 pq14) hZ (hw _ (List.mem_of_getElem? (i := 8) rfl)) (hw _ (List.mem_of_getElem? (i := 7) rfl)) (by decide) (by decide)) (g := (mkF m 76 #[.val (.long zid), .second, .val (.int qs), .val (.int kk), .val (.ref b_3), .val (.long r4), .second, .unset, .unset] [(.int (4 : Int32)), (.ref b_3), (.long r4)])) rfl (by rw [hml]; rfl) (argsL := [(.long r4), (.ref b_3), (.int (4 : Int32))]) (rest := []) (lenOf pd_1 rfl) rfl (by show 2 * 0 + _ ≤ _; exact Nat.le_of_eq rfl) (hb hby at_76) (fun _ _ => ⟨rfl, e13, (by decide : 1 + 0 ≤ _), (by decide : 8 + 0 ≤ _)⟩)
  dsimp only [Pt.U, Pt.locs, Pt.cells, Pt.slots] at X15 l15 y15 z15 st15 hQ15
  subst l15 y15 z15
  obtain ⟨rfl, Nq15, e15⟩ := hQ15
  have N15 := Fr.app N13 Nq15
  refine Go.step st15 ?_
  show Go _ _ _ _ _ _ _ (T15.setTop (mkF m 79 #[.val (.long zid), .second, .val (.int qs), .val (.int kk), .val (.ref b_3), .val (.long r4), .second, .unset, .unset] [(.long (if (4 : Int32) < kk then ((r4 <<< ((8 : Int32) &&& 0x3f).toInt64) ||| ((Int32.toInt64 (F1_3 (4 : Int32))) &&& (255 : Int64))) else r4))]))
  obtain ⟨r5, q_r5⟩ : ∃ z : Int64, z = (if (4 : Int32) < kk then ((r4 <<< ((8 : Int32) &&& 0x3f).toInt64) ||| ((Int32.toInt64 (F1_3 (4 : Int32))) &&& (255 : Int64))) else r4) := ⟨_, rfl⟩
  rw [← q_r5]
  show Go _ _ _ _ _ _ _ (T15.setTop (mkF m 79 #[.val (.long zid), .second, .val (.int qs), .val (.int kk), .val (.ref b_3), .val (.long r4), .second, .unset, .unset] [(.long r5)]))
  refine Go.step (fun _ k => XS.lstore X15.here hx rfl (hb hby at_79) rfl (l' := #[.val (.long zid), .second, .val (.int qs), .val (.int kk), .val (.ref b_3), .val (.long r5), .second, .unset, .unset]) rfl k) ?_
  show Go _ _ _ _ _ _ _ (T15.setTop (mkF m 81 #[.val (.long zid), .second, .val (.int qs), .val (.int kk), .val (.ref b_3), .val (.long r5), .second, .unset, .unset] []))
  refine Go.step (fun _ k => XS.lload X15.here hx rfl (hb hby at_81) rfl  k) ?_
  show Go _ _ _ _ _ _ _ (T15.setTop (mkF m 83 #[.val (.long zid), .second, .val (.int qs), .val (.int kk), .val (.ref b_3), .val (.long r5), .second, .unset, .unset] [(.long r5)]))
  refine Go.step (fun _ k => XS.aload X15.here hx rfl (hb hby at_83) rfl rfl  k) ?_
  show Go _ _ _ _ _ _ _ (T15.setTop (mkF m 85 #[.val (.long zid), .second, .val (.int qs), .val (.int kk), .val (.ref b_3), .val (.long r5), .second, .unset, .unset] [(.ref b_3), (.long r5)]))
  refine Go.step (fun _ k => XS.iconst X15.here hx rfl (hb hby at_85) k) ?_
  show Go _ _ _ _ _ _ _ (T15.setTop (mkF m 86 #[.val (.long zid), .second, .val (.int qs), .val (.int kk), .val (.ref b_3), .val (.long r5), .second, .unset, .unset] [(.int (5 : Int32)), (.ref b_3), (.long r5)]))
  have pq16 : ¬ (5 : Int32) < 0 := (by first | assumption | rfl | decide)
  obtain ⟨_, _, ⟨T17, L17, k17, n17⟩, -, X17, ⟨Lc17, hQ17, l17, y17, z17⟩, st17⟩ := Jvm.LawKit.callS X15 hx (y := (⟨"com/example/sidewire/sidewire/protocol/ThreadCommandsThreadPinLaw", "step", "(J[BI)J"⟩ : MethodName)) hown (mvT hZ (hw _ (List.mem_of_getElem? (i := 5) rfl))) (mvT hZ (hw _ (List.mem_of_getElem? (i := 6) rfl))) (mvT hZ (hw _ (List.mem_of_getElem? (i := 7) rfl))) (mvT hZ (hw _ (List.mem_of_getElem? (i := 8) rfl))) (by decide) (backOf (W := 0) (rm2 l Z aZ hw [] r5 b_3 (5 : Int32) kk F1_3 T3.heap n0 z4 c3_1 pq16) hZ (hw _ (List.mem_of_getElem? (i := 8) rfl)) (hw _ (List.mem_of_getElem? (i := 7) rfl)) (by decide) (by decide)) (g := (mkF m 86 #[.val (.long zid), .second, .val (.int qs), .val (.int kk), .val (.ref b_3), .val (.long r5), .second, .unset, .unset] [(.int (5 : Int32)), (.ref b_3), (.long r5)])) rfl (by rw [hml]; rfl) (argsL := [(.long r5), (.ref b_3), (.int (5 : Int32))]) (rest := []) (lenOf pd_1 rfl) rfl (by show 2 * 0 + _ ≤ _; exact Nat.le_of_eq rfl) (hb hby at_86) (fun _ _ => ⟨rfl, e15, (by decide : 1 + 0 ≤ _), (by decide : 8 + 0 ≤ _)⟩)
  dsimp only [Pt.U, Pt.locs, Pt.cells, Pt.slots] at X17 l17 y17 z17 st17 hQ17
  subst l17 y17 z17
  obtain ⟨rfl, Nq17, e17⟩ := hQ17
  have N17 := Fr.app N15 Nq17
  refine Go.step st17 ?_
  show Go _ _ _ _ _ _ _ (T17.setTop (mkF m 89 #[.val (.long zid), .second, .val (.int qs), .val (.int kk), .val (.ref b_3), .val (.long r5), .second, .unset, .unset] [(.long (if (5 : Int32) < kk then ((r5 <<< ((8 : Int32) &&& 0x3f).toInt64) ||| ((Int32.toInt64 (F1_3 (5 : Int32))) &&& (255 : Int64))) else r5))]))
  obtain ⟨r6, q_r6⟩ : ∃ z : Int64, z = (if (5 : Int32) < kk then ((r5 <<< ((8 : Int32) &&& 0x3f).toInt64) ||| ((Int32.toInt64 (F1_3 (5 : Int32))) &&& (255 : Int64))) else r5) := ⟨_, rfl⟩
  rw [← q_r6]
  show Go _ _ _ _ _ _ _ (T17.setTop (mkF m 89 #[.val (.long zid), .second, .val (.int qs), .val (.int kk), .val (.ref b_3), .val (.long r5), .second, .unset, .unset] [(.long r6)]))
  refine Go.step (fun _ k => XS.lstore X17.here hx rfl (hb hby at_89) rfl (l' := #[.val (.long zid), .second, .val (.int qs), .val (.int kk), .val (.ref b_3), .val (.long r6), .second, .unset, .unset]) rfl k) ?_
  show Go _ _ _ _ _ _ _ (T17.setTop (mkF m 91 #[.val (.long zid), .second, .val (.int qs), .val (.int kk), .val (.ref b_3), .val (.long r6), .second, .unset, .unset] []))
  refine Go.step (fun _ k => XS.lload X17.here hx rfl (hb hby at_91) rfl  k) ?_
  show Go _ _ _ _ _ _ _ (T17.setTop (mkF m 93 #[.val (.long zid), .second, .val (.int qs), .val (.int kk), .val (.ref b_3), .val (.long r6), .second, .unset, .unset] [(.long r6)]))
  refine Go.step (fun _ k => XS.aload X17.here hx rfl (hb hby at_93) rfl rfl  k) ?_
  show Go _ _ _ _ _ _ _ (T17.setTop (mkF m 95 #[.val (.long zid), .second, .val (.int qs), .val (.int kk), .val (.ref b_3), .val (.long r6), .second, .unset, .unset] [(.ref b_3), (.long r6)]))
  refine Go.step (fun _ k => XS.bipush X17.here hx rfl (hb hby at_95) k) ?_
  show Go _ _ _ _ _ _ _ (T17.setTop (mkF m 97 #[.val (.long zid), .second, .val (.int qs), .val (.int kk), .val (.ref b_3), .val (.long r6), .second, .unset, .unset] [(.int (6 : Int32)), (.ref b_3), (.long r6)]))
  have pq18 : ¬ (6 : Int32) < 0 := (by first | assumption | rfl | decide)
  obtain ⟨_, _, ⟨T19, L19, k19, n19⟩, -, X19, ⟨Lc19, hQ19, l19, y19, z19⟩, st19⟩ := Jvm.LawKit.callS X17 hx (y := (⟨"com/example/sidewire/sidewire/protocol/ThreadCommandsThreadPinLaw", "step", "(J[BI)J"⟩ : MethodName)) hown (mvT hZ (hw _ (List.mem_of_getElem? (i := 5) rfl))) (mvT hZ (hw _ (List.mem_of_getElem? (i := 6) rfl))) (mvT hZ (hw _ (List.mem_of_getElem? (i := 7) rfl))) (mvT hZ (hw _ (List.mem_of_getElem? (i := 8) rfl))) (by decide) (backOf (W := 0) (rm2 l Z aZ hw [] r6 b_3 (6 : Int32) kk F1_3 T3.heap n0 z4 c3_1 pq18) hZ (hw _ (List.mem_of_getElem? (i := 8) rfl)) (hw _ (List.mem_of_getElem? (i := 7) rfl)) (by decide) (by decide)) (g := (mkF m 97 #[.val (.long zid), .second, .val (.int qs), .val (.int kk), .val (.ref b_3), .val (.long r6), .second, .unset, .unset] [(.int (6 : Int32)), (.ref b_3), (.long r6)])) rfl (by rw [hml]; rfl) (argsL := [(.long r6), (.ref b_3), (.int (6 : Int32))]) (rest := []) (lenOf pd_1 rfl) rfl (by show 2 * 0 + _ ≤ _; exact Nat.le_of_eq rfl) (hb hby at_97) (fun _ _ => ⟨rfl, e17, (by decide : 1 + 0 ≤ _), (by decide : 8 + 0 ≤ _)⟩)
  dsimp only [Pt.U, Pt.locs, Pt.cells, Pt.slots] at X19 l19 y19 z19 st19 hQ19
  subst l19 y19 z19
  obtain ⟨rfl, Nq19, e19⟩ := hQ19
  have N19 := Fr.app N17 Nq19
  refine Go.step st19 ?_
  show Go _ _ _ _ _ _ _ (T19.setTop (mkF m 100 #[.val (.long zid), .second, .val (.int qs), .val (.int kk), .val (.ref b_3), .val (.long r6), .second, .unset, .unset] [(.long (if (6 : Int32) < kk then ((r6 <<< ((8 : Int32) &&& 0x3f).toInt64) ||| ((Int32.toInt64 (F1_3 (6 : Int32))) &&& (255 : Int64))) else r6))]))
  obtain ⟨r7, q_r7⟩ : ∃ z : Int64, z = (if (6 : Int32) < kk then ((r6 <<< ((8 : Int32) &&& 0x3f).toInt64) ||| ((Int32.toInt64 (F1_3 (6 : Int32))) &&& (255 : Int64))) else r6) := ⟨_, rfl⟩
  rw [← q_r7]
  show Go _ _ _ _ _ _ _ (T19.setTop (mkF m 100 #[.val (.long zid), .second, .val (.int qs), .val (.int kk), .val (.ref b_3), .val (.long r6), .second, .unset, .unset] [(.long r7)]))
  refine Go.step (fun _ k => XS.lstore X19.here hx rfl (hb hby at_100) rfl (l' := #[.val (.long zid), .second, .val (.int qs), .val (.int kk), .val (.ref b_3), .val (.long r7), .second, .unset, .unset]) rfl k) ?_
  show Go _ _ _ _ _ _ _ (T19.setTop (mkF m 102 #[.val (.long zid), .second, .val (.int qs), .val (.int kk), .val (.ref b_3), .val (.long r7), .second, .unset, .unset] []))
  refine Go.step (fun _ k => XS.lload X19.here hx rfl (hb hby at_102) rfl  k) ?_
  show Go _ _ _ _ _ _ _ (T19.setTop (mkF m 104 #[.val (.long zid), .second, .val (.int qs), .val (.int kk), .val (.ref b_3), .val (.long r7), .second, .unset, .unset] [(.long r7)]))
  refine Go.step (fun _ k => XS.aload X19.here hx rfl (hb hby at_104) rfl rfl  k) ?_
  show Go _ _ _ _ _ _ _ (T19.setTop (mkF m 106 #[.val (.long zid), .second, .val (.int qs), .val (.int kk), .val (.ref b_3), .val (.long r7), .second, .unset, .unset] [(.ref b_3), (.long r7)]))
  refine Go.step (fun _ k => XS.bipush X19.here hx rfl (hb hby at_106) k) ?_
  show Go _ _ _ _ _ _ _ (T19.setTop (mkF m 108 #[.val (.long zid), .second, .val (.int qs), .val (.int kk), .val (.ref b_3), .val (.long r7), .second, .unset, .unset] [(.int (7 : Int32)), (.ref b_3), (.long r7)]))
  have pq20 : ¬ (7 : Int32) < 0 := (by first | assumption | rfl | decide)
  obtain ⟨_, _, ⟨T21, L21, k21, n21⟩, -, X21, ⟨Lc21, hQ21, l21, y21, z21⟩, st21⟩ := Jvm.LawKit.callS X19 hx (y := (⟨"com/example/sidewire/sidewire/protocol/ThreadCommandsThreadPinLaw", "step", "(J[BI)J"⟩ : MethodName)) hown (mvT hZ (hw _ (List.mem_of_getElem? (i := 5) rfl))) (mvT hZ (hw _ (List.mem_of_getElem? (i := 6) rfl))) (mvT hZ (hw _ (List.mem_of_getElem? (i := 7) rfl))) (mvT hZ (hw _ (List.mem_of_getElem? (i := 8) rfl))) (by decide) (backOf (W := 0) (rm2 l Z aZ hw [] r7 b_3 (7 : Int32) kk F1_3 T3.heap n0 z4 c3_1 pq20) hZ (hw _ (List.mem_of_getElem? (i := 8) rfl)) (hw _ (List.mem_of_getElem? (i := 7) rfl)) (by decide) (by decide)) (g := (mkF m 108 #[.val (.long zid), .second, .val (.int qs), .val (.int kk), .val (.ref b_3), .val (.long r7), .second, .unset, .unset] [(.int (7 : Int32)), (.ref b_3), (.long r7)])) rfl (by rw [hml]; rfl) (argsL := [(.long r7), (.ref b_3), (.int (7 : Int32))]) (rest := []) (lenOf pd_1 rfl) rfl (by show 2 * 0 + _ ≤ _; exact Nat.le_of_eq rfl) (hb hby at_108) (fun _ _ => ⟨rfl, e19, (by decide : 1 + 0 ≤ _), (by decide : 8 + 0 ≤ _)⟩)
  dsimp only [Pt.U, Pt.locs, Pt.cells, Pt.slots] at X21 l21 y21 z21 st21 hQ21
  subst l21 y21 z21
  obtain ⟨rfl, Nq21, e21⟩ := hQ21
  have N21 := Fr.app N19 Nq21
  refine Go.step st21 ?_
  show Go _ _ _ _ _ _ _ (T21.setTop (mkF m 111 #[.val (.long zid), .second, .val (.int qs), .val (.int kk), .val (.ref b_3), .val (.long r7), .second, .unset, .unset] [(.long (if (7 : Int32) < kk then ((r7 <<< ((8 : Int32) &&& 0x3f).toInt64) ||| ((Int32.toInt64 (F1_3 (7 : Int32))) &&& (255 : Int64))) else r7))]))
  obtain ⟨r8, q_r8⟩ : ∃ z : Int64, z = (if (7 : Int32) < kk then ((r7 <<< ((8 : Int32) &&& 0x3f).toInt64) ||| ((Int32.toInt64 (F1_3 (7 : Int32))) &&& (255 : Int64))) else r7) := ⟨_, rfl⟩
  rw [← q_r8]
  show Go _ _ _ _ _ _ _ (T21.setTop (mkF m 111 #[.val (.long zid), .second, .val (.int qs), .val (.int kk), .val (.ref b_3), .val (.long r7), .second, .unset, .unset] [(.long r8)]))
  refine Go.step (fun _ k => XS.lstore X21.here hx rfl (hb hby at_111) rfl (l' := #[.val (.long zid), .second, .val (.int qs), .val (.int kk), .val (.ref b_3), .val (.long r8), .second, .unset, .unset]) rfl k) ?_
  show Go _ _ _ _ _ _ _ (T21.setTop (mkF m 113 #[.val (.long zid), .second, .val (.int qs), .val (.int kk), .val (.ref b_3), .val (.long r8), .second, .unset, .unset] []))
  refine Go.step (fun _ k => XS.iloadN X21.here hx rfl (hb hby at_113) rfl  k) ?_
  show Go _ _ _ _ _ _ _ (T21.setTop (mkF m 114 #[.val (.long zid), .second, .val (.int qs), .val (.int kk), .val (.ref b_3), .val (.long r8), .second, .unset, .unset] [(.int kk)]))
  refine Go.step (fun _ k => XS.bipush X21.here hx rfl (hb hby at_114) k) ?_
  show Go _ _ _ _ _ _ _ (T21.setTop (mkF m 116 #[.val (.long zid), .second, .val (.int qs), .val (.int kk), .val (.ref b_3), .val (.long r8), .second, .unset, .unset] [(.int (8 : Int32)), (.int kk)]))
  by_cases hc116 : kk = (8 : Int32)
  · skip
    refine Go.step (fun _ k => XS.icmpNo X21.here hx rfl (hb hby at_116) rfl (teq hc116).2 k) ?_
    show Go _ _ _ _ _ _ _ (T21.setTop (mkF m 119 #[.val (.long zid), .second, .val (.int qs), .val (.int kk), .val (.ref b_3), .val (.long r8), .second, .unset, .unset] []))
    refine Go.step (fun _ k => XS.lloadN X21.here hx rfl (hb hby at_119) rfl  k) ?_
    show Go _ _ _ _ _ _ _ (T21.setTop (mkF m 120 #[.val (.long zid), .second, .val (.int qs), .val (.int kk), .val (.ref b_3), .val (.long r8), .second, .unset, .unset] [(.long zid)]))
    refine Go.step (fun _ k => XS.goto X21.here hx rfl (pc0 := 120) (pc' := 133) rfl (hb hby at_120) (by decide) (by decide) k) ?_
    show Go _ _ _ _ _ _ _ (T21.setTop (mkF m 133 #[.val (.long zid), .second, .val (.int qs), .val (.int kk), .val (.ref b_3), .val (.long r8), .second, .unset, .unset] [(.long zid)]))
    refine Go.step (fun _ k => XS.lstore X21.here hx rfl (hb hby at_133) rfl (l' := #[.val (.long zid), .second, .val (.int qs), .val (.int kk), .val (.ref b_3), .val (.long r8), .second, .val (.long zid), .second]) rfl k) ?_
    show Go _ _ _ _ _ _ _ (T21.setTop (mkF m 135 #[.val (.long zid), .second, .val (.int qs), .val (.int kk), .val (.ref b_3), .val (.long r8), .second, .val (.long zid), .second] []))
    refine Go.step (fun _ k => XS.lload X21.here hx rfl (hb hby at_135) rfl  k) ?_
    show Go _ _ _ _ _ _ _ (T21.setTop (mkF m 137 #[.val (.long zid), .second, .val (.int qs), .val (.int kk), .val (.ref b_3), .val (.long r8), .second, .val (.long zid), .second] [(.long r8)]))
    refine Go.step (fun _ k => XS.lload X21.here hx rfl (hb hby at_137) rfl  k) ?_
    show Go _ _ _ _ _ _ _ (T21.setTop (mkF m 139 #[.val (.long zid), .second, .val (.int qs), .val (.int kk), .val (.ref b_3), .val (.long r8), .second, .val (.long zid), .second] [(.long zid), (.long r8)]))
    refine Go.step (fun _ k => XS.lcmp X21.here hx rfl (hb hby at_139) rfl k) ?_
    show Go _ _ _ _ _ _ _ (T21.setTop (mkF m 140 #[.val (.long zid), .second, .val (.int qs), .val (.int kk), .val (.ref b_3), .val (.long r8), .second, .val (.long zid), .second] [(.int (lcmpW r8 zid))]))
    have hc140 : (lcmpW r8 zid) = (0 : Int32) := own_main8 hkk.1 hkk.2.1 u3_0 q_r1 q_r2 q_r3 q_r4 q_r5 q_r6 q_r7 q_r8 hc116
    refine Go.step (fun _ k => XS.ifNo X21.here hx rfl (hb hby at_140) rfl ((if0 _ _).trans (teq hc140).2) k) ?_
    show Go _ _ _ _ _ _ _ (T21.setTop (mkF m 143 #[.val (.long zid), .second, .val (.int qs), .val (.int kk), .val (.ref b_3), .val (.long r8), .second, .val (.long zid), .second] []))
    refine Go.step (fun _ k => XS.iconst X21.here hx rfl (hb hby at_143) k) ?_
    show Go _ _ _ _ _ _ _ (T21.setTop (mkF m 144 #[.val (.long zid), .second, .val (.int qs), .val (.int kk), .val (.ref b_3), .val (.long r8), .second, .val (.long zid), .second] [(.int (1 : Int32))]))
    refine Go.step (fun _ k => XS.goto X21.here hx rfl (pc0 := 144) (pc' := 148) rfl (hb hby at_144) (by decide) (by decide) k) ?_
    show Go _ _ _ _ _ _ _ (T21.setTop (mkF m 148 #[.val (.long zid), .second, .val (.int qs), .val (.int kk), .val (.ref b_3), .val (.long r8), .second, .val (.long zid), .second] [(.int (1 : Int32))]))
    refine Go.retN X21 hx (t := .boolean) Bd.returns (by simp) hlk (hb hby at_148) ?_ (by decide) (by decide)
    rw [e21]
    exact ⟨(by first | rfl | (simp_all [own_nb1, own_nb0]; done)), N21⟩
  · skip
    refine Go.step (fun _ k => XS.icmpYes X21.here hx rfl (pc0 := 116) (pc' := 123) rfl (hb hby at_116) rfl (feq hc116).2 (by decide) (by decide) k) ?_
    show Go _ _ _ _ _ _ _ (T21.setTop (mkF m 123 #[.val (.long zid), .second, .val (.int qs), .val (.int kk), .val (.ref b_3), .val (.long r8), .second, .unset, .unset] []))
    refine Go.step (fun _ k => XS.lloadN X21.here hx rfl (hb hby at_123) rfl  k) ?_
    show Go _ _ _ _ _ _ _ (T21.setTop (mkF m 124 #[.val (.long zid), .second, .val (.int qs), .val (.int kk), .val (.ref b_3), .val (.long r8), .second, .unset, .unset] [(.long zid)]))
    refine Go.step (fun _ k => XS.lconst X21.here hx rfl (hb hby at_124) k) ?_
    show Go _ _ _ _ _ _ _ (T21.setTop (mkF m 125 #[.val (.long zid), .second, .val (.int qs), .val (.int kk), .val (.ref b_3), .val (.long r8), .second, .unset, .unset] [(.long (1 : Int64)), (.long zid)]))
    refine Go.step (fun _ k => XS.bipush X21.here hx rfl (hb hby at_125) k) ?_
    show Go _ _ _ _ _ _ _ (T21.setTop (mkF m 127 #[.val (.long zid), .second, .val (.int qs), .val (.int kk), .val (.ref b_3), .val (.long r8), .second, .unset, .unset] [(.int (8 : Int32)), (.long (1 : Int64)), (.long zid)]))
    refine Go.step (fun _ k => XS.iloadN X21.here hx rfl (hb hby at_127) rfl  k) ?_
    show Go _ _ _ _ _ _ _ (T21.setTop (mkF m 128 #[.val (.long zid), .second, .val (.int qs), .val (.int kk), .val (.ref b_3), .val (.long r8), .second, .unset, .unset] [(.int kk), (.int (8 : Int32)), (.long (1 : Int64)), (.long zid)]))
    refine Go.step (fun _ k => XS.imul X21.here hx rfl (hb hby at_128) rfl k) ?_
    show Go _ _ _ _ _ _ _ (T21.setTop (mkF m 129 #[.val (.long zid), .second, .val (.int qs), .val (.int kk), .val (.ref b_3), .val (.long r8), .second, .unset, .unset] [(.int ((8 : Int32) * kk)), (.long (1 : Int64)), (.long zid)]))
    refine Go.step (fun _ k => XS.lshl X21.here hx rfl (hb hby at_129) rfl k) ?_
    show Go _ _ _ _ _ _ _ (T21.setTop (mkF m 130 #[.val (.long zid), .second, .val (.int qs), .val (.int kk), .val (.ref b_3), .val (.long r8), .second, .unset, .unset] [(.long ((1 : Int64) <<< (((8 : Int32) * kk) &&& 0x3f).toInt64)), (.long zid)]))
    refine Go.step (fun _ k => XS.lconst X21.here hx rfl (hb hby at_130) k) ?_
    show Go _ _ _ _ _ _ _ (T21.setTop (mkF m 131 #[.val (.long zid), .second, .val (.int qs), .val (.int kk), .val (.ref b_3), .val (.long r8), .second, .unset, .unset] [(.long (1 : Int64)), (.long ((1 : Int64) <<< (((8 : Int32) * kk) &&& 0x3f).toInt64)), (.long zid)]))
    refine Go.step (fun _ k => XS.lsub X21.here hx rfl (hb hby at_131) rfl k) ?_
    show Go _ _ _ _ _ _ _ (T21.setTop (mkF m 132 #[.val (.long zid), .second, .val (.int qs), .val (.int kk), .val (.ref b_3), .val (.long r8), .second, .unset, .unset] [(.long (((1 : Int64) <<< (((8 : Int32) * kk) &&& 0x3f).toInt64) - (1 : Int64))), (.long zid)]))
    refine Go.step (fun _ k => XS.land X21.here hx rfl (hb hby at_132) rfl k) ?_
    show Go _ _ _ _ _ _ _ (T21.setTop (mkF m 133 #[.val (.long zid), .second, .val (.int qs), .val (.int kk), .val (.ref b_3), .val (.long r8), .second, .unset, .unset] [(.long (zid &&& (((1 : Int64) <<< (((8 : Int32) * kk) &&& 0x3f).toInt64) - (1 : Int64))))]))
    refine Go.step (fun _ k => XS.lstore X21.here hx rfl (hb hby at_133) rfl (l' := #[.val (.long zid), .second, .val (.int qs), .val (.int kk), .val (.ref b_3), .val (.long r8), .second, .val (.long (zid &&& (((1 : Int64) <<< (((8 : Int32) * kk) &&& 0x3f).toInt64) - (1 : Int64)))), .second]) rfl k) ?_
    show Go _ _ _ _ _ _ _ (T21.setTop (mkF m 135 #[.val (.long zid), .second, .val (.int qs), .val (.int kk), .val (.ref b_3), .val (.long r8), .second, .val (.long (zid &&& (((1 : Int64) <<< (((8 : Int32) * kk) &&& 0x3f).toInt64) - (1 : Int64)))), .second] []))
    refine Go.step (fun _ k => XS.lload X21.here hx rfl (hb hby at_135) rfl  k) ?_
    show Go _ _ _ _ _ _ _ (T21.setTop (mkF m 137 #[.val (.long zid), .second, .val (.int qs), .val (.int kk), .val (.ref b_3), .val (.long r8), .second, .val (.long (zid &&& (((1 : Int64) <<< (((8 : Int32) * kk) &&& 0x3f).toInt64) - (1 : Int64)))), .second] [(.long r8)]))
    refine Go.step (fun _ k => XS.lload X21.here hx rfl (hb hby at_137) rfl  k) ?_
    show Go _ _ _ _ _ _ _ (T21.setTop (mkF m 139 #[.val (.long zid), .second, .val (.int qs), .val (.int kk), .val (.ref b_3), .val (.long r8), .second, .val (.long (zid &&& (((1 : Int64) <<< (((8 : Int32) * kk) &&& 0x3f).toInt64) - (1 : Int64)))), .second] [(.long (zid &&& (((1 : Int64) <<< (((8 : Int32) * kk) &&& 0x3f).toInt64) - (1 : Int64)))), (.long r8)]))
    refine Go.step (fun _ k => XS.lcmp X21.here hx rfl (hb hby at_139) rfl k) ?_
    show Go _ _ _ _ _ _ _ (T21.setTop (mkF m 140 #[.val (.long zid), .second, .val (.int qs), .val (.int kk), .val (.ref b_3), .val (.long r8), .second, .val (.long (zid &&& (((1 : Int64) <<< (((8 : Int32) * kk) &&& 0x3f).toInt64) - (1 : Int64)))), .second] [(.int (lcmpW r8 (zid &&& (((1 : Int64) <<< (((8 : Int32) * kk) &&& 0x3f).toInt64) - (1 : Int64)))))]))
    have hc140 : (lcmpW r8 (zid &&& (((1 : Int64) <<< (((8 : Int32) * kk) &&& 0x3f).toInt64) - (1 : Int64)))) = (0 : Int32) := own_mainN hkk.1 hkk.2.1 u3_0 q_r1 q_r2 q_r3 q_r4 q_r5 q_r6 q_r7 q_r8 hc116
    refine Go.step (fun _ k => XS.ifNo X21.here hx rfl (hb hby at_140) rfl ((if0 _ _).trans (teq hc140).2) k) ?_
    show Go _ _ _ _ _ _ _ (T21.setTop (mkF m 143 #[.val (.long zid), .second, .val (.int qs), .val (.int kk), .val (.ref b_3), .val (.long r8), .second, .val (.long (zid &&& (((1 : Int64) <<< (((8 : Int32) * kk) &&& 0x3f).toInt64) - (1 : Int64)))), .second] []))
    refine Go.step (fun _ k => XS.iconst X21.here hx rfl (hb hby at_143) k) ?_
    show Go _ _ _ _ _ _ _ (T21.setTop (mkF m 144 #[.val (.long zid), .second, .val (.int qs), .val (.int kk), .val (.ref b_3), .val (.long r8), .second, .val (.long (zid &&& (((1 : Int64) <<< (((8 : Int32) * kk) &&& 0x3f).toInt64) - (1 : Int64)))), .second] [(.int (1 : Int32))]))
    refine Go.step (fun _ k => XS.goto X21.here hx rfl (pc0 := 144) (pc' := 148) rfl (hb hby at_144) (by decide) (by decide) k) ?_
    show Go _ _ _ _ _ _ _ (T21.setTop (mkF m 148 #[.val (.long zid), .second, .val (.int qs), .val (.int kk), .val (.ref b_3), .val (.long r8), .second, .val (.long (zid &&& (((1 : Int64) <<< (((8 : Int32) * kk) &&& 0x3f).toInt64) - (1 : Int64)))), .second] [(.int (1 : Int32))]))
    refine Go.retN X21 hx (t := .boolean) Bd.returns (by simp) hlk (hb hby at_148) ?_ (by decide) (by decide)
    rw [e21]
    exact ⟨(by first | rfl | (simp_all [own_nb1, own_nb0]; done)), N21⟩
set_option maxRecDepth 65536 in
set_option maxHeartbeats 40000000 in
theorem comes_1 {Post : Tables → Env → Array Value → State → Outcome → State → Prop} (hpost : ∀ tb e args s v u, (limb_1_1.after args s (.returned v) u = true ∧ limb_1_2.after args s (.returned v) u = true ∧ True) → FrameEnd s (.returned v) u (Jvm.fieldLocs frame_1_writes args s ++ Jvm.arrayLocs frame_1_arrays args s ++ Jvm.staticLocs frame_1_statics s) 16 128 → Post tb e args s (.returned v) u) :
    ArmFor flags0 classFile x code maxLocals ret World_1 tables_1 room_1 Calls_1 rest_1 Pre_1 Post := by
  intro l hfl _ _ p e ha hc hk s m args below hf hA hF happ hP
  obtain ⟨hcalls, hrest, hpre⟩ := hP
  obtain ⟨-, -, -, hnamed, -, -, -, hat⟩ := (Spec.applies_iff hf).mp happ
  obtain ⟨hg, hn⟩ := and_e (Cond.before_iff.mp (show (Jvm.Cond.and given_1 narrow_1).before args s = true from hpre))
  obtain ⟨g0, r0⟩ := and_e hg
  obtain ⟨a0, r1⟩ := and_e r0
  have a1 := r1
  obtain ⟨w0, w1, rfl⟩ : ∃ w0 w1 : Value, args = #[w0, w1] := by
    have hs : args.size = 2 := by simpa [Cond.value, given_1] using g0
    obtain ⟨L⟩ := args
    match L, hs with
    | [w0, w1], _ => exact ⟨w0, w1, rfl⟩
  have hw := fun d (hd : d ∈ tables_1) => atoms_spec (ws := Jvm.Cond.code x code maxLocals ret :: tables_1) hat d (List.mem_cons_of_mem _ hd)
  have hfit : Fit s := fun {y c} hc i hi => by
    obtain ⟨ha, rfl⟩ := Array.getElem?_eq_some_iff.mp hc
    have q := List.all_eq_true.mp ((Array.all_eq_true_iff_forall_mem.mp hF) _ (Array.getElem_mem ha)) i (List.mem_range.mpr hi)
    simpa [Array.getElem?_eq_getElem hi] using q
  obtain ⟨i0, ei0⟩ := isL_v a0
  obtain rfl : w0 = (.long i0) := Option.some.inj ei0
  obtain ⟨i1, ei1⟩ := is_v a1
  obtain rfl : w1 = (.int i1) := Option.some.inj ei1
  obtain ⟨n, o, h1, h2, h3, _, L, rfl, ⟨rfl, N⟩, hq⟩ := rm0 l s _ hw tables_1 i0 i1  s.heap s.heap.size (Nat.le_refl _)  p e ha hc hk s m _ below hf ((Spec.applies_iff_loose hf).mp happ).1 ⟨rfl, State.Warmed39.refl s, rfl⟩ trivial
  refine ⟨n, _, h1, h2, h3, hpost _ _ _ _ _ _ ⟨Cond.after_iff.mpr rfl, Cond.after_iff.mpr (eq_i res_at (Term.int_eval (1)) rfl), trivial⟩ ⟨hq.1, hq.2.1, (hq.2.2.sift fun y hy => Or.inr (N y hy)).mono (by decide) (by decide)⟩⟩
theorem main_1_1 : Claimed_1_1 := comes_1 fun _ _ _ _ _ _ h hF => ⟨h.1, hF⟩
theorem main_1_2 : Claimed_1_2 := comes_1 fun _ _ _ _ _ _ h hF => ⟨h.2.1, hF⟩
end Jvm.Pilot.@@N@@
namespace Jvm.Pilot.@@N@@
open Jvm Jvm.ClassFile Sem Op Lib Jvm.Free Jvm.Stand Jvm.Pilot.@@N@@.Jvm.D
/-! MADE BY PROGRAM (witnessworld.py) out of the Statement's table words and the real class files: 9 classes; the members and pool entries that the words name. The judged class is class 1, her method 1. -/
namespace start1
open Jvm.ClassFile
def u (s : String) : CpInfo := .utf8 (stringToUtf16 s)
/-- a pool by its gaps: so many unusable entries, then the entry; so many at the end -/
def gap : Nat → List CpInfo → List CpInfo
  | 0, r => r
  | n + 1, r => .unusable :: gap n r
def poolList (es : List (Nat × CpInfo)) (last : Nat) : List CpInfo := es.foldr (fun e r => gap e.1 (e.2 :: r)) (gap last [])
def pool (es : List (Nat × CpInfo)) (last : Nat) : Array CpInfo := ⟨poolList es last⟩
def fileOf (pool : Array CpInfo) (this : Nat) (attrs : Array Attribute := #[]) (ms : Array MethodInfo := #[]) (fl : Nat := 33) (sup : Nat := 0) (ifs : Array Nat := #[]) (fds : Array FieldInfo := #[]) : ClassFile where
  minorVersion := 0
  majorVersion := 65
  constantPool := pool
  accessFlags := fl
  thisClass := this
  superClass := sup
  interfaces := ifs
  fields := fds
  methods := ms
  attributes := attrs
def plain (name : String) (sup : Option ClassId) : Class where
  name := name
  kind := .ordinary
  loader := none
  accessFlags := 33
  super := sup
  interfaces := #[]
  cf := none
  fields := #[]
  methods := #[]
  instanceTypes := #[]
  staticTypes := #[]
  resolved := #[]
  callSites := []
  init := .initialized
  statics := none
  mirror := none

def pool0 : Array CpInfo := pool [(5, u "<init>"), (0, u "()V"), (1, .class_ 10), (1, u "java/lang/Object")] 113

def k0m0 : Method := { name := "<init>", desc := "()V", sig := { parameters := [], returnType := none }, accessFlags := 1, code := none }
/-- java/lang/Object -/
def k0 : Class := { plain "java/lang/Object" none with
  accessFlags := 33
  interfaces := #[]
  cf := some (fileOf pool0 8 #[] #[{ accessFlags := 1, nameIndex := 5, descriptorIndex := 6, attributes := #[] }] 33 0 #[] #[])
  fields := #[]
  methods := #[k0m0]
  instanceTypes := #[]
  staticTypes := #[]
  resolved := Array.replicate 124 none
  statics := none }

def pool1 : Array CpInfo := pool [(2, .class_ 4), (1, u "java/lang/Object"), (0, u "<init>"), (0, u "()V"), (0, .methodref 8 9), (0, .class_ 10), (0, .nameAndType 11 12), (0, u "com/example/sidewire/sidewire/protocol/ThreadCommands"), (0, u "thread"), (0, u "(JI)[B"), (0, .methodref 14 15), (0, .class_ 16), (0, .nameAndType 17 18), (0, u "com/example/sidewire/sidewire/protocol/ThreadCommandsThreadPinLaw"), (0, u "step"), (0, u "(J[BI)J"), (0, .long 255), (3, u "law"), (0, u "(JI)Z")] 5

def k1m0 : Method := { name := "<init>", desc := "()V", sig := { parameters := [], returnType := none }, accessFlags := 2, code := none }
def k1c1 : Code := { maxStack := 6, maxLocals := 9, code := code, exceptionTable := #[], attributes := #[] }
def k1m1 : Method := { name := "law", desc := "(JI)Z", sig := { parameters := [.long, .int], returnType := some .boolean }, accessFlags := 9, code := some k1c1 }
def k1c2 : Code := { maxStack := 6, maxLocals := 4, code := method_3_code, exceptionTable := #[], attributes := #[] }
def k1m2 : Method := { name := "step", desc := "(J[BI)J", sig := { parameters := [.long, (.array .byte), .int], returnType := some .long }, accessFlags := 10, code := some k1c2 }
/-- com/example/sidewire/sidewire/protocol/ThreadCommandsThreadPinLaw -/
def k1 : Class := { plain "com/example/sidewire/sidewire/protocol/ThreadCommandsThreadPinLaw" (some 0) with
  accessFlags := 49
  interfaces := #[]
  cf := some (fileOf pool1 14 #[] #[{ accessFlags := 2, nameIndex := 5, descriptorIndex := 6, attributes := #[] }, { accessFlags := 9, nameIndex := 23, descriptorIndex := 24, attributes := #[] }, { accessFlags := 10, nameIndex := 17, descriptorIndex := 18, attributes := #[] }] 49 2 #[] #[])
  fields := #[]
  methods := #[k1m0, k1m1, k1m2]
  instanceTypes := #[]
  staticTypes := #[]
  resolved := Array.replicate 30 none
  statics := none }

def pool2 : Array CpInfo := pool [(2, .class_ 4), (1, u "java/lang/Object"), (0, u "<init>"), (0, u "()V"), (1, .class_ 10), (1, u "com/example/sidewire/sidewire/protocol/ThreadCommands"), (0, u "ID_SIZES"), (0, u "Lcom/example/sidewire/sidewire/protocol/ThreadCommands$Command;"), (18, .class_ 33), (1, u "com/example/sidewire/sidewire/protocol/ThreadCommands$Command"), (11, u "ALL_THREADS"), (9, u "NAME"), (5, u "STATUS"), (10, .class_ 74), (1, u "com/example/sidewire/sidewire/protocol/ThreadCommands$Layout"), (25, u "STATES"), (0, u "Ljava/util/List;"), (76, u "INVALID_THREAD"), (0, u "I"), (2, u "INVALID_OBJECT"), (1, u "ID_SIZE_COUNT"), (1, u "OBJECT_ID_SIZE"), (1, u "SUSPEND_STATUS_SUSPENDED"), (11, u "thread"), (0, u "(JI)[B")] 70

def k2m0 : Method := { name := "<init>", desc := "()V", sig := { parameters := [], returnType := none }, accessFlags := 2, code := none }
def k2c1 : Code := { maxStack := 7, maxLocals := 5, code := prog_39_method_4_code, exceptionTable := #[], attributes := #[] }
def k2m1 : Method := { name := "thread", desc := "(JI)[B", sig := { parameters := [.long, .int], returnType := some (.array .byte) }, accessFlags := 9, code := some k2c1 }
/-- com/example/sidewire/sidewire/protocol/ThreadCommands -/
def k2 : Class := { plain "com/example/sidewire/sidewire/protocol/ThreadCommands" (some 0) with
  accessFlags := 33
  interfaces := #[]
  cf := some (fileOf pool2 8 #[.nestMembers #[72, 31]] #[{ accessFlags := 2, nameIndex := 5, descriptorIndex := 6, attributes := #[] }, { accessFlags := 9, nameIndex := 200, descriptorIndex := 201, attributes := #[] }] 33 2 #[] #[{ accessFlags := 25, nameIndex := 11, descriptorIndex := 12, attributes := #[] }, { accessFlags := 25, nameIndex := 45, descriptorIndex := 12, attributes := #[] }, { accessFlags := 25, nameIndex := 55, descriptorIndex := 12, attributes := #[] }, { accessFlags := 25, nameIndex := 61, descriptorIndex := 12, attributes := #[] }, { accessFlags := 25, nameIndex := 178, descriptorIndex := 179, attributes := #[] }, { accessFlags := 25, nameIndex := 182, descriptorIndex := 179, attributes := #[] }, { accessFlags := 26, nameIndex := 184, descriptorIndex := 179, attributes := #[] }, { accessFlags := 26, nameIndex := 186, descriptorIndex := 179, attributes := #[] }, { accessFlags := 26, nameIndex := 188, descriptorIndex := 179, attributes := #[] }, { accessFlags := 26, nameIndex := 100, descriptorIndex := 101, attributes := #[] }])
  fields := #[{ name := "ID_SIZES", type := (.object "com/example/sidewire/sidewire/protocol/ThreadCommands$Command"), accessFlags := 25, slot := 0, constantValue := 0 }, { name := "ALL_THREADS", type := (.object "com/example/sidewire/sidewire/protocol/ThreadCommands$Command"), accessFlags := 25, slot := 1, constantValue := 0 }, { name := "NAME", type := (.object "com/example/sidewire/sidewire/protocol/ThreadCommands$Command"), accessFlags := 25, slot := 2, constantValue := 0 }, { name := "STATUS", type := (.object "com/example/sidewire/sidewire/protocol/ThreadCommands$Command"), accessFlags := 25, slot := 3, constantValue := 0 }, { name := "INVALID_THREAD", type := .int, accessFlags := 25, slot := 4, constantValue := 0 }, { name := "INVALID_OBJECT", type := .int, accessFlags := 25, slot := 5, constantValue := 0 }, { name := "ID_SIZE_COUNT", type := .int, accessFlags := 26, slot := 6, constantValue := 0 }, { name := "OBJECT_ID_SIZE", type := .int, accessFlags := 26, slot := 7, constantValue := 0 }, { name := "SUSPEND_STATUS_SUSPENDED", type := .int, accessFlags := 26, slot := 8, constantValue := 0 }, { name := "STATES", type := (.object "java/util/List"), accessFlags := 26, slot := 9, constantValue := 0 }]
  methods := #[k2m0, k2m1]
  instanceTypes := #[]
  staticTypes := #[(.object "com/example/sidewire/sidewire/protocol/ThreadCommands$Command"), (.object "com/example/sidewire/sidewire/protocol/ThreadCommands$Command"), (.object "com/example/sidewire/sidewire/protocol/ThreadCommands$Command"), (.object "com/example/sidewire/sidewire/protocol/ThreadCommands$Command"), .int, .int, .int, .int, .int, (.object "java/util/List")]
  resolved := Array.replicate 272 none
  statics := none }

def pool3 : Array CpInfo := pool [(1, u "java/lang/Cloneable"), (0, .class_ 1), (0, u "java/lang/Object"), (0, .class_ 3)] 3

/-- java/lang/Cloneable -/
def k3 : Class := { plain "java/lang/Cloneable" (some 0) with
  accessFlags := 1537
  interfaces := #[]
  cf := some (fileOf pool3 2 #[] #[] 1537 4 #[] #[])
  fields := #[]
  methods := #[]
  instanceTypes := #[]
  staticTypes := #[]
  resolved := Array.replicate 8 none
  statics := none }

def pool4 : Array CpInfo := pool [(1, u "java/io/Serializable"), (0, .class_ 1), (0, u "java/lang/Object"), (0, .class_ 3)] 3

/-- java/io/Serializable -/
def k4 : Class := { plain "java/io/Serializable" (some 0) with
  accessFlags := 1537
  interfaces := #[]
  cf := some (fileOf pool4 2 #[] #[] 1537 4 #[] #[])
  fields := #[]
  methods := #[]
  instanceTypes := #[]
  staticTypes := #[]
  resolved := Array.replicate 8 none
  statics := none }

/-- the primitive byte -/
def k5 : Class := { plain "byte" none with kind := .primitive 'B', accessFlags := 0x411 }
/-- [B -/
def k6 : Class := { plain "[B" (some 0) with kind := .array 5 .byte, interfaces := #[3, 4], accessFlags := 1041 }

/-- the primitive int -/
def k7 : Class := { plain "int" none with kind := .primitive 'I', accessFlags := 0x411 }
/-- [I -/
def k8 : Class := { plain "[I" (some 0) with kind := .array 7 .int, interfaces := #[3, 4], accessFlags := 1041 }

def heap : Heap := #[]
def classes : Array Class := #[k0, k1, k2, k3, k4, k5, k6, k7, k8]
def interned : List (Array UInt16 × Addr) := []
def slotsUsed : Nat := 0
def theMethod : MethodId := ⟨1, 1⟩
def args0 : Array Value := #[.long 5, .int 3]
def aboutOver (below : List Frame) : State where
  vm := { classes := classes, interned := interned.toArray }
  heap := heap
  slotsUsed := slotsUsed
  threads := #[{ frames := .invoking theMethod args0 :: below }]
def below0 : List Frame := [.native { method := ⟨0, 0⟩, args := #[] }]
def about1 : State := aboutOver below0
def p0 : Program := .bare "" "" ""
def e0 : Env := launch0.env 0 0 0
theorem w_frames : about1.frames = Frame.invoking theMethod args0 :: below0 := rfl
set_option maxRecDepth 65536 in
theorem w_args : argsFit about1.vm theMethod args0 = true := by decide +kernel
set_option maxRecDepth 65536 in
theorem w_heap : heapFits about1 = true := by decide +kernel
set_option maxRecDepth 65536 in
theorem w_runnable : about1.curStatus? = some .runnable := by decide +kernel
set_option maxRecDepth 65536 in
theorem w_alone : about1.alone = true := by decide +kernel
set_option maxRecDepth 65536 in
theorem w_named : about1.methodNamed? x = some theMethod := by decide +kernel
set_option maxRecDepth 65536 in
theorem w_hears : about1.hears theMethod below0 = true := by decide +kernel
set_option maxRecDepth 65536 in
theorem w_ripe : about1.ripe theMethod args0 below0 = true := by decide +kernel
theorem w_running : about1.status = .running := rfl
set_option maxRecDepth 65536 in
theorem w_room : about1.hasRoom e0.platform room_1 = true :=
  launch0.hasRoom_least _ room_1 (by decide +kernel) (by decide +kernel) (by decide +kernel) (by decide +kernel) (by decide +kernel) (by decide +kernel)
theorem allAtoms_all (ts : List Jvm.Cond) (a : Array Jvm.Value) (st : Jvm.State) : (allAtoms ts).before a st = ts.all (fun c => c.before a st) := by
  induction ts with
  | nil => rfl
  | cons c t ih =>
    show (Jvm.Cond.and c (allAtoms t)).before a st = _
    rw [Jvm.Cond.before_and, ih, List.all_cons]
def words1 : List Jvm.Cond := Jvm.Cond.code x code maxLocals ret :: tables_1
/-- a 'code' word, met by the world's own term for the bytes: nothing is compared byte by byte -/
theorem code_word {y : MethodName} {bytes : ByteArray} {mx : Nat} {rt : Option FieldType} {a : Array Value} {s : State} {m : MethodId} {meth : Method} {c : Code} (h1 : s.methodNamed? y = some m) (h2 : s.vm.method? m = some meth) (h3 : meth.code = some c) (h4 : c.code = bytes)
    (h5 : (c.maxLocals == mx && c.exceptionTable.isEmpty && decide (c.maxStack ≤ mostOperands) && decide (meth.sig.returnType = rt) && !meth.locks && decide (parseMethodDescriptor y.desc = some meth.sig)) = true) : (Jvm.Cond.code y bytes mx rt).before a s = true := by
  simp only [Bool.and_eq_true, beq_iff_eq, Bool.not_eq_true', decide_eq_true_eq] at h5
  obtain ⟨⟨⟨⟨⟨g1, g2⟩, g3⟩, g4⟩, g5⟩, g6⟩ := h5
  simp [Cond.before, Cond.holds, Cond.value, h1, h2, h3, h4, g1, g2, g3, g4, g5, g6]
def isCode : Jvm.Cond → Bool
  | .code _ _ _ _ => true
  | _ => false
theorem all_split {L : List Jvm.Cond} {P : Jvm.Cond → Bool} (h1 : L.all (fun c => isCode c || P c) = true) (h2 : ∀ c ∈ L.filter isCode, P c = true) : L.all P = true := by
  refine List.all_eq_true.mpr fun c hc => ?_
  have h := List.all_eq_true.mp h1 c hc
  rcases Bool.eq_false_or_eq_true (isCode c) with hi | hi
  · exact h2 c (List.mem_filter.mpr ⟨hc, hi⟩)
  · simpa [hi] using h
set_option maxRecDepth 65536 in
theorem w_c0 : (Jvm.Cond.code x code maxLocals ret).before args0 about1 = true := code_word (m := ⟨1, 1⟩) (meth := k1m1) (c := k1c1) (by decide +kernel) rfl rfl rfl (by decide +kernel)
set_option maxRecDepth 65536 in
theorem w_c1 : (Jvm.Cond.code ({ cls := "com/example/sidewire/sidewire/protocol/ThreadCommands", name := "thread", desc := "(JI)[B" } : Jvm.MethodName) prog_39_method_4_code (5 : Nat) (Option.some (Jvm.ClassFile.FieldType.array Jvm.ClassFile.FieldType.byte))).before args0 about1 = true := code_word (m := ⟨2, 1⟩) (meth := k2m1) (c := k2c1) (by decide +kernel) rfl rfl rfl (by decide +kernel)
set_option maxRecDepth 65536 in
theorem w_c2 : (Jvm.Cond.code ({ cls := "com/example/sidewire/sidewire/protocol/ThreadCommandsThreadPinLaw", name := "step", desc := "(J[BI)J" } : Jvm.MethodName) method_3_code (4 : Nat) (Option.some Jvm.ClassFile.FieldType.long)).before args0 about1 = true := code_word (m := ⟨1, 2⟩) (meth := k1m2) (c := k1c2) (by decide +kernel) rfl rfl rfl (by decide +kernel)
def codes1 : List Jvm.Cond := [Jvm.Cond.code x code maxLocals ret, Jvm.Cond.code ({ cls := "com/example/sidewire/sidewire/protocol/ThreadCommands", name := "thread", desc := "(JI)[B" } : Jvm.MethodName) prog_39_method_4_code (5 : Nat) (Option.some (Jvm.ClassFile.FieldType.array Jvm.ClassFile.FieldType.byte)), Jvm.Cond.code ({ cls := "com/example/sidewire/sidewire/protocol/ThreadCommandsThreadPinLaw", name := "step", desc := "(J[BI)J" } : Jvm.MethodName) method_3_code (4 : Nat) (Option.some Jvm.ClassFile.FieldType.long)]
set_option maxRecDepth 65536 in
theorem codes_eq : words1.filter isCode = codes1 := rfl
theorem w_codes : ∀ c ∈ words1.filter isCode, c.before args0 about1 = true := by
  rw [codes_eq]
  intro c hc
  simp only [codes1, List.mem_cons, List.not_mem_nil, or_false] at hc
  rcases hc with rfl | rfl | rfl
  · exact w_c0
  · exact w_c1
  · exact w_c2
set_option maxRecDepth 65536 in
theorem w_t1 : words1.all (fun c => isCode c || c.before args0 about1) = true := by decide +kernel
theorem w_tables : (allAtoms (Jvm.Cond.code x code maxLocals ret :: tables_1)).before args0 about1 = true := by
  rw [allAtoms_all]
  show words1.all (fun c => c.before args0 about1) = true
  refine all_split ?_ w_codes
  rw [w_t1]
set_option maxRecDepth 65536 in
theorem w_case : (Jvm.Cond.and given_1 narrow_1).before args0 about1 = true := by decide +kernel
theorem w_applies : (headSpec (Jvm.Cond.code x code maxLocals ret :: tables_1) room_1).applies x e0.platform about1 = true :=
  (Spec.applies_iff w_frames).mpr ⟨w_running, w_runnable, w_alone, w_named, w_hears, w_ripe, w_room, w_tables⟩
theorem atStart : AtStart classFile x code maxLocals ret World_1 tables_1 room_1 Calls_1 rest_1 Pre_1 launch0 p0 e0 about1 theMethod args0 below0 :=
  ⟨lists_1, trivial, launch0.admits_env _ _ _, launch0.least_env, fairChoices_fair.cas, fairChoices_fair.clock, w_frames, w_args, w_heap, w_applies, trivial, trivial, w_case⟩
end start1
theorem witness_1 : WitnessClaimed_1 := ⟨start1.p0, start1.e0, start1.about1, start1.theMethod, start1.args0, start1.below0, start1.atStart⟩
end Jvm.Pilot.@@N@@
